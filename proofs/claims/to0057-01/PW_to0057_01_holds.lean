import PyProof.Rows.All
import Wide.All
import OpenK.AllK
import Wide.FinOn
import PySem.Challenge.RW_to0057_01
open PySem PySem.W PyProof.Rows PySem.Calls PySem.Spec
set_option Elab.async false
set_option compiler.extract_closed false
set_option maxRecDepth 100000
set_option maxHeartbeats 8000000
namespace Mine
def kept : Program := { Challenge.pw_to0057_01 with main := { Challenge.pw_to0057_01.main with body := [0, 1, 3, 4, 5, 7, 9, 10, 11, 13, 15, 16, 18, 19, 20, 21, 22, 23, 24, 25, 26].filterMap fun i => Challenge.pw_to0057_01.main.body[i]? } }
abbrev rW : RowW := (Challenge.rw_to0057_01).row.toRowW
theorem said0 : (Challenge.rw_to0057_01).wellSaid = true := by
  delta OpenLaw.wellSaid OpenRow.wellSaid OpenRow.partSaid looksOpen
  repeat' (with_reducible refine look_both ?_ ?_)
  all_goals decide +kernel
local macro_rules
  | `(tactic| o_law) => `(tactic| refine holds_law Mine.said0 fun said => ?_)
local macro_rules
  | `(tactic| o_head $H) => do
    let hl := Lean.mkIdent `hl
    let hw := Lean.mkIdent `hw
    let hc := Lean.mkIdent `hc
    `(tactic| (
      refine holds_open (q := Mine.kept) (loose := [Str.ofString "tspecials", Str.ofString "_name_disallowed_re", Str.ofString "_value_disallowed_re", Str.ofString "_formatparam"]) (Xt := fun s => xlAt Mine.kept [] s && recOk (RowW.records Mine.rW) s) (XP := XL Mine.kept []) (Yf := Hook.obs $H) (Ya := Hook.val $H) (YP := Hook.says $H) (N := 3634) ?$hl (Hook.of $H) (Hook.keeps $H) (fun s e => xl_of s (Bool.and_eq_true_iff.mp e).1) XL.keeps (by rfl) (by rfl) (by rfl) (fun s e => recFacts_of (Bool.and_eq_true_iff.mp e).2) (by rfl) (by first | assumption | decide +kernel) (by decide +kernel) ⟨rfl, rfl, rfl, rfl, rfl, by decide +kernel⟩ ?$hw ?$hc
      (case hl => (intro w; kernel_rfl))))
open_top hd for PySem.Challenge.rw_to0057_01
end Mine
-- part Base
namespace Mine


noncomputable abbrev MM (w : World) : Model := model Challenge.rw_to0057_01.prog w
abbrev LL : List Str := [Str.ofString "tspecials", Str.ofString "_name_disallowed_re", Str.ofString "_value_disallowed_re", Str.ofString "_formatparam"]
abbrev TR (mg mb : Str → Option Value) (h : Heap) : Prop := TopRead kept (looseW kept LL) mg mb h

structure Gd (w : World) (mg mb : Str → Option Value) (b h : Heap) : Prop where
  K : (hd.heap_1 w.params).In b
  T : TR mg mb b
  le : ∀ a o, b.get? a = some o → h.get? a = some o

def Chg (S : List Addr) (h h' : Heap) : Prop := ∀ a o, h.get? a = some o → a ∉ S → h'.get? a = some o

theorem Chg.refl (S : List Addr) (h : Heap) : Chg S h h := fun _ _ e _ => e
theorem Chg.trans {S : List Addr} {h h' h'' : Heap} (c : Chg S h h') (c' : Chg S h' h'') : Chg S h h'' := fun a o e n => c' a o (c a o e n) n
theorem Chg.mono {S S' : List Addr} {h h' : Heap} (c : Chg S h h') (hs : ∀ a ∈ S, a ∈ S') : Chg S' h h' := fun a o e n => c a o e fun m => n (hs a m)
theorem Chg.of_nil {S : List Addr} {h h' : Heap} (c : Chg [] h h') : Chg S h h' := c.mono fun _ h => nomatch h

theorem fresh_of {h : Heap} {S : List Addr} {p : Addr} (hp : (hideAll h S).get? p = none) (hn : p ∉ S) : h.get? p = none := by
  cases q : h.get? p with
  | none => rfl
  | some o => rw [hideAll_get _ q hn] at hp; cases hp

theorem Gd.keeps {w : World} {mg mb : Str → Option Value} {b h h' : Heap} {S : List Addr} (G : Gd w mg mb b h) (c : Chg S h h') (hS : ∀ a ∈ S, b.get? a = none) : Gd w mg mb b h' :=
  ⟨G.K, G.T, fun a o e => c a o (G.le a o e) fun m => by rw [hS a m] at e; cases e⟩

/-- the ledger of a contract: what stands at the addresses it may change, none of them in the base -/
def Led (b h : Heap) (led : List (Addr × Obj)) : Prop := ∀ p ∈ led, h.get? p.1 = some p.2 ∧ b.get? p.1 = none

theorem chg_less {S S' : List Addr} {h h' : Heap} (c : Chg S h h') (hs : ∀ a ∈ S, a ∈ S' ∨ ∃ o, h.get? a = some o ∧ h'.get? a = some o) : Chg S' h h' := fun a o e n => by
  by_cases m : a ∈ S
  · rcases hs a m with h1 | ⟨o', e1, e2⟩
    · exact absurd h1 n
    · rw [e] at e1; cases e1; exact e2
  · exact c a o e m
theorem Led.nil {b h : Heap} : Led b h [] := fun _ hp => nomatch hp
theorem Led.cons {b h : Heap} {a : Addr} {o : Obj} {led : List (Addr × Obj)} (h1 : h.get? a = some o) (h2 : b.get? a = none) (r : Led b h led) : Led b h ((a, o) :: led) := fun p hp => by
  rcases List.mem_cons.mp hp with rfl | hp
  · exact ⟨h1, h2⟩
  · exact r p hp
theorem Led.none {b h : Heap} {led : List (Addr × Obj)} {a : Addr} {o : Obj} (hl : Led b h led) (hm : (a, o) ∈ led) : b.get? a = none := (hl _ hm).2
theorem Led.at {b h : Heap} {led : List (Addr × Obj)} {a : Addr} {o : Obj} (hl : Led b h led) (hm : (a, o) ∈ led) : h.get? a = some o := (hl _ hm).1

/-- one object of the ledger has changed, all else stands -/
theorem upd_but {g h h' : Heap} {L S : Addr} {m : Str → Option Value} {o o' : Obj} {news news' : List (Addr × Obj)} (F : Fr g L h m) (N : News g L h news) (U : Upd S o o' news news')
    (hk : ∀ b ob, b ≠ S → h.get? b = some ob → h'.get? b = some ob) (ho : h'.get? S = some o') : Fr g L h' m ∧ News g L h' news' := by
  obtain ⟨pre, post, rfl, rfl, a, b⟩ := U.split
  have z := N (S, o) (List.mem_append.mpr (.inr (.head _)))
  have hg : ∀ x ob, g.get? x = some ob → x ≠ S := fun x ob e q => by subst q; rw [z.2.2] at e; cases e
  obtain ⟨oL, es, ep, hL, r⟩ := F.ns
  refine ⟨⟨⟨oL, es, ep, hk _ _ (Ne.symm z.2.1) hL, r⟩, fun x ob e => hk _ _ (hg x ob e) (F.keep _ _ e), F.above⟩, fun p hp => ?_⟩
  rcases List.mem_append.mp hp with hp | hp
  · have n := N p (List.mem_append.mpr (.inl hp)); exact ⟨hk _ _ (a p hp) n.1, n.2⟩
  · rcases List.mem_cons.mp hp with rfl | hp
    · exact ⟨ho, z.2⟩
    · have n := N p (List.mem_append.mpr (.inr (.tail _ hp))); exact ⟨hk _ _ (b p hp) n.1, n.2⟩

/-- nothing of the ledger has changed -/
theorem same_all {g h h' : Heap} {L : Addr} {m : Str → Option Value} {news : List (Addr × Obj)} (F : Fr g L h m) (N : News g L h news)
    (hk : ∀ b ob, h.get? b = some ob → h'.get? b = some ob) : Fr g L h' m ∧ News g L h' news := by
  obtain ⟨oL, es, ep, hL, r⟩ := F.ns
  exact ⟨⟨⟨oL, es, ep, hk _ _ hL, r⟩, fun x ob e => hk _ _ (F.keep _ _ e), F.above⟩, fun p hp => ⟨hk _ _ (N p hp).1, (N p hp).2⟩⟩

/-- a call that keeps the contract: what it may change stands in the ledger; led' is what the ledger is behind it -/
theorem chg_all {g h h' : Heap} {L : Addr} {S : List Addr} {m : Str → Option Value} {news news' : List (Addr × Obj)} (F : Fr g L h m) (N : News g L h news) (c : Chg S h h') (hS : ∀ a ∈ S, a ≠ L ∧ g.get? a = none)
    (hn : ∀ p ∈ news', (p ∈ news ∧ p.1 ∉ S) ∨ (h'.get? p.1 = some p.2 ∧ (p.1 ∈ S ∨ h.get? p.1 = none))) : Fr g L h' m ∧ News g L h' news' := by
  obtain ⟨oL, es, ep, hL, r⟩ := F.ns
  have nL : L ∉ S := fun m => (hS L m).1 rfl
  refine ⟨⟨⟨oL, es, ep, c _ _ hL nL, r⟩, fun x ob e => c _ _ (F.keep _ _ e) fun m => (by rw [(hS x m).2] at e; cases e), F.above⟩, fun p hp => ?_⟩
  rcases hn p hp with ⟨h1, h2⟩ | ⟨h1, h2 | h2⟩
  · exact ⟨c _ _ (N p h1).1 h2, (N p h1).2⟩
  · exact ⟨h1, hS _ h2⟩
  · refine ⟨h1, fun q => (by rw [q, hL] at h2; cases h2), ?_⟩
    cases q : g.get? p.1 with
    | none => rfl
    | some o => rw [F.keep _ _ q] at h2; cases h2

section
variable {prog : Program} {w : World} {mg mb : Str → Option Value} {A : Around} {s : Shared} {b : Heap} {led : List (Addr × Obj)} {K : Frag}
  {name qual : Str} {params : Arguments} {body : List Stmt} {scope : Scope} {cl : List (Str × Addr)} {dV kV doc pm cdv ct oc : Value} {an od : Option Addr} {osl : Array (Option Value)} {f : Addr} {args : Args} {binds : List (Str × Value)}
  {R : Result → Shared → Prop}

theorem st_of (G : Gd w mg mb b s.heap) (hl : Led b s.heap led) : b.StaysIn (hideAll s.heap (led.map (·.1))) := fun a o e =>
  hideAll_get _ (G.le a o e) fun q => by
    obtain ⟨p, hp, rfl⟩ := List.mem_map.mp q
    rw [(hl p hp).2] at e; cases e

theorem chg_of {S : List Addr} {h h' : Heap} {L : Addr} {m : Str → Option Value} (F : Fr (hideAll h S) L h' m) : Chg S h h' := fun _ _ e n => F.keep _ _ (hideAll_get _ e n)

/-- entering a plain def: base of the walk = the caller's heap with the ledger hidden -/
theorem enter (G : Gd w mg mb b s.heap) (hl : Led b s.heap led)
    (ho : (hd.heap_1 w.params).lookup f = some ⟨oc, od, .func (fnX name qual params body scope [] dV kV doc pm an cdv ct), osl⟩) (hcd : codeIn (hd.heap_1 w.params) cdv qual = true) (hroom : A.depth < recursionLimit)
    (hbind : BindsTo s (fnX name qual params body scope [] dV kV doc pm an cdv ct) args binds) (hloc : ∀ y ∈ binds, scope.names.lookup y.1 = some .local)
    (hcell : ∀ x ∈ scope.names, x.2 ≠ .cell)
    (h : ∀ g L h₁, g = hideAll s.heap (led.map (·.1)) → Fr g L h₁ (fun y => binds.reverse.lookup y) → News g L h₁ led → (hd.heap_1 w.params).In g → TR mg mb g → (∀ p ∈ led, p.1 < L) →
      wpAny (MM w) (A.deeper (envX qual scope L f cdv [])) (execs body (envX qual scope L f cdv []))
        (fun fl s' => R (.ok (.ret (match fl with | .ret v => v | _ => .none))) s') (fun _ _ => False)
        { s with heap := h₁, toks := s.toks + binds.length })
    (hco : scope.isCoroutine = false := by rfl) (hgen : scope.isGenerator = false := by rfl) (hk : scope.kind = .function := by rfl) : codeAny (MM w) A (.call (.ref f) args) R s := by
  have st := st_of G hl
  refine codeAny_call_def (fd := fnX name qual params body scope [] dV kV doc pm an cdv ct) (body := body) (binds := binds) hroom (G.le _ _ (G.K _ _ ho)) rfl (G.T.nolimit.keeps G.le)
    (codeRec_of (G.K.keeps G.le) hcd) rfl hbind hcell hloc (fun h₁ hns hk₁ => ?_) hco hgen hk
  refine wpAny_mono (h _ s.heap.objs.size h₁ rfl ⟨hns, fun a o e => hk₁ a o (of_hideAll _ e), Nat.le_of_eq (hideAll_size _ _)⟩
    (fun p hp => ⟨hk₁ _ _ (hl p hp).1, Nat.ne_of_lt (Heap.lt_size (hl p hp).1), hideAll_none _ (List.mem_map_of_mem hp)⟩) (G.K.keeps st) (G.T.keeps st) (fun p hp => Heap.lt_size (hl p hp).1)) (fun fl s' x => x) fun _ _ x => x.elim

/-- entering a def some of whose names are cells -/
theorem enterC (G : Gd w mg mb b s.heap) (hl : Led b s.heap led)
    (ho : (hd.heap_1 w.params).lookup f = some ⟨oc, od, .func (fnX name qual params body scope [] dV kV doc pm an cdv ct), osl⟩) (hcd : codeIn (hd.heap_1 w.params) cdv qual = true) (hroom : A.depth < recursionLimit)
    (hbind : BindsTo s (fnX name qual params body scope [] dV kV doc pm an cdv ct) args binds)
    (hkind : (binds.all fun y => scope.names.lookup y.1 == some .local || scope.names.lookup y.1 == some .cell) = true)
    (hnd : ((cellsFrom 0 scope.names []).map (·.1)).Nodup)
    (h : ∀ g L h₁ tk cells, g = hideAll s.heap (led.map (·.1)) → Fr g L h₁ (bindL (envOfC qual scope L f cdv).kindOf binds fun _ => none) → News g L h₁ (cells ++ led) →
      CellsAre (bindC (envOfC qual scope L f cdv).kindOf binds fun _ => none) (cellsFrom (L + 1) scope.names []) cells → (hd.heap_1 w.params).In g → TR mg mb g → (∀ p ∈ led, p.1 < L) →
      wpAny (MM w) (A.deeper (envOfC qual scope L f cdv)) (execs body (envOfC qual scope L f cdv))
        (fun fl s' => R (.ok (.ret (match fl with | .ret v => v | _ => .none))) s') (fun _ _ => False)
        { s with heap := h₁, toks := tk })
    (hco : scope.isCoroutine = false := by rfl) (hgen : scope.isGenerator = false := by rfl) (hk : scope.kind = .function := by rfl) : codeAny (MM w) A (.call (.ref f) args) R s := by
  have st := st_of G hl
  refine codeAny_call_function hroom (G.le _ _ (G.K _ _ ho)) rfl hco hgen rfl (codeRec_of (G.K.keeps G.le) hcd) (hbind _ _ _ _ ?_)
  refine wpAny_newFunctionEnv_cells hk (kindsX hkind _) fun env' he s' x => ?_
  subst he
  refine ⟨(G.T.nolimit.keeps G.le).keeps x.toInCall.keep, codeAny_func ?_⟩
  obtain ⟨h₁, tk, rfl, _⟩ := x.done
  have hk₁ := x.toInCall.keep
  obtain ⟨cells, NC, Y⟩ := Cl.news (h₀ := s.heap) (Nat.le_refl _) fun n c hm => ⟨x.cell n c (lookup_of_mem_nodup (cellsFrom_names scope.names 0 (s.heap.objs.size + 1) [] [] rfl ▸ hnd) hm), x.above n c hm⟩
  refine wpAny_mono (h _ s.heap.objs.size h₁ tk cells rfl ⟨x.toInCall.ns, fun a o e => hk₁ a o (of_hideAll _ e), Nat.le_of_eq (hideAll_size _ _)⟩ (fun p hp => ?_) Y (G.K.keeps st) (G.T.keeps st) (fun p hp => Heap.lt_size (hl p hp).1)) (fun fl s' x => x) fun _ _ x => x.elim
  rcases List.mem_append.mp hp with hp | hp
  · refine ⟨(NC p hp).1, (NC p hp).2.1, ?_⟩
    cases q : (hideAll s.heap (led.map (·.1))).get? p.1 with
    | none => rfl
    | some o => have := of_hideAll _ q; rw [(NC p hp).2.2] at this; cases this
  · exact ⟨hk₁ _ _ (hl p hp).1, Nat.ne_of_lt (Heap.lt_size (hl p hp).1), hideAll_none _ (List.mem_map_of_mem hp)⟩
end
/-! small tools that keep proofs short -/
inductive And4 (p1 p2 p3 p4 : Prop) : Prop
  | mk (h1 : p1) (h2 : p2) (h3 : p3) (h4 : p4) : And4 p1 p2 p3 p4
inductive And5 (p1 p2 p3 p4 p5 : Prop) : Prop
  | mk (h1 : p1) (h2 : p2) (h3 : p3) (h4 : p4) (h5 : p5) : And5 p1 p2 p3 p4 p5
inductive And6 (p1 p2 p3 p4 p5 p6 : Prop) : Prop
  | mk (h1 : p1) (h2 : p2) (h3 : p3) (h4 : p4) (h5 : p5) (h6 : p6) : And6 p1 p2 p3 p4 p5 p6
inductive And7 (p1 p2 p3 p4 p5 p6 p7 : Prop) : Prop
  | mk (h1 : p1) (h2 : p2) (h3 : p3) (h4 : p4) (h5 : p5) (h6 : p6) (h7 : p7) : And7 p1 p2 p3 p4 p5 p6 p7
inductive And8 (p1 p2 p3 p4 p5 p6 p7 p8 : Prop) : Prop
  | mk (h1 : p1) (h2 : p2) (h3 : p3) (h4 : p4) (h5 : p5) (h6 : p6) (h7 : p7) (h8 : p8) : And8 p1 p2 p3 p4 p5 p6 p7 p8
inductive And9 (p1 p2 p3 p4 p5 p6 p7 p8 p9 : Prop) : Prop
  | mk (h1 : p1) (h2 : p2) (h3 : p3) (h4 : p4) (h5 : p5) (h6 : p6) (h7 : p7) (h8 : p8) (h9 : p9) : And9 p1 p2 p3 p4 p5 p6 p7 p8 p9
inductive And10 (p1 p2 p3 p4 p5 p6 p7 p8 p9 p10 : Prop) : Prop
  | mk (h1 : p1) (h2 : p2) (h3 : p3) (h4 : p4) (h5 : p5) (h6 : p6) (h7 : p7) (h8 : p8) (h9 : p9) (h10 : p10) : And10 p1 p2 p3 p4 p5 p6 p7 p8 p9 p10
inductive Ex2 {α1 α2 : Type} (p : α1 → α2 → Prop) : Prop
  | mk (a1 : α1) (a2 : α2) (h : p a1 a2) : Ex2 p
inductive Ex4 {α1 α2 α3 α4 : Type} (p : α1 → α2 → α3 → α4 → Prop) : Prop
  | mk (a1 : α1) (a2 : α2) (a3 : α3) (a4 : α4) (h : p a1 a2 a3 a4) : Ex4 p
inductive Ex5 {α1 α2 α3 α4 α5 : Type} (p : α1 → α2 → α3 → α4 → α5 → Prop) : Prop
  | mk (a1 : α1) (a2 : α2) (a3 : α3) (a4 : α4) (a5 : α5) (h : p a1 a2 a3 a4 a5) : Ex5 p
inductive Ex6 {α1 α2 α3 α4 α5 α6 : Type} (p : α1 → α2 → α3 → α4 → α5 → α6 → Prop) : Prop
  | mk (a1 : α1) (a2 : α2) (a3 : α3) (a4 : α4) (a5 : α5) (a6 : α6) (h : p a1 a2 a3 a4 a5 a6) : Ex6 p
inductive Ex7 {α1 α2 α3 α4 α5 α6 α7 : Type} (p : α1 → α2 → α3 → α4 → α5 → α6 → α7 → Prop) : Prop
  | mk (a1 : α1) (a2 : α2) (a3 : α3) (a4 : α4) (a5 : α5) (a6 : α6) (a7 : α7) (h : p a1 a2 a3 a4 a5 a6 a7) : Ex7 p
inductive Ex8 {α1 α2 α3 α4 α5 α6 α7 α8 : Type} (p : α1 → α2 → α3 → α4 → α5 → α6 → α7 → α8 → Prop) : Prop
  | mk (a1 : α1) (a2 : α2) (a3 : α3) (a4 : α4) (a5 : α5) (a6 : α6) (a7 : α7) (a8 : α8) (h : p a1 a2 a3 a4 a5 a6 a7 a8) : Ex8 p
inductive Ex9 {α1 α2 α3 α4 α5 α6 α7 α8 α9 : Type} (p : α1 → α2 → α3 → α4 → α5 → α6 → α7 → α8 → α9 → Prop) : Prop
  | mk (a1 : α1) (a2 : α2) (a3 : α3) (a4 : α4) (a5 : α5) (a6 : α6) (a7 : α7) (a8 : α8) (a9 : α9) (h : p a1 a2 a3 a4 a5 a6 a7 a8 a9) : Ex9 p
inductive Ex10 {α1 α2 α3 α4 α5 α6 α7 α8 α9 α10 : Type} (p : α1 → α2 → α3 → α4 → α5 → α6 → α7 → α8 → α9 → α10 → Prop) : Prop
  | mk (a1 : α1) (a2 : α2) (a3 : α3) (a4 : α4) (a5 : α5) (a6 : α6) (a7 : α7) (a8 : α8) (a9 : α9) (a10 : α10) (h : p a1 a2 a3 a4 a5 a6 a7 a8 a9 a10) : Ex10 p
inductive Ex12 {α1 α2 α3 α4 α5 α6 α7 α8 α9 α10 α11 α12 : Type} (p : α1 → α2 → α3 → α4 → α5 → α6 → α7 → α8 → α9 → α10 → α11 → α12 → Prop) : Prop
  | mk (a1 : α1) (a2 : α2) (a3 : α3) (a4 : α4) (a5 : α5) (a6 : α6) (a7 : α7) (a8 : α8) (a9 : α9) (a10 : α10) (a11 : α11) (a12 : α12) (h : p a1 a2 a3 a4 a5 a6 a7 a8 a9 a10 a11 a12) : Ex12 p
theorem lt1 {a b : Addr} {o : Obj} {l : List (Addr × Obj)} (h : ∀ p ∈ (a, o) :: l, p.1 < b) : @LT.lt Nat _ a b := h _ (.head _)
theorem lt_split {a b : Addr} {o : Obj} {l : List (Addr × Obj)} (h : ∀ p ∈ (a, o) :: l, p.1 < b) : @LT.lt Nat _ a b ∧ AllLt b l := ⟨h _ (.head _), allLt_of fun p hp => h p (.tail _ hp)⟩
theorem lt_add1 {a b : Nat} (h : a < b) : a < b + 1 := Nat.lt_succ_of_lt h
theorem ne_nil1 {d : Nat} : ∀ p ∈ ([] : List (Addr × Obj)), p.1 ≠ d := fun _ h => nomatch h
theorem ne_cons1 {a d : Nat} {o : Obj} {l : List (Addr × Obj)} (h : a ≠ d) (r : ∀ p ∈ l, p.1 ≠ d) : ∀ p ∈ (a, o) :: l, p.1 ≠ d := fun p hp => by
  rcases List.mem_cons.mp hp with rfl | hp
  · exact h
  · exact r p hp
theorem ne_allLt {d : Nat} {l : List (Addr × Obj)} (h : AllLt d l) : ∀ p ∈ l, p.1 ≠ d := by
  induction l with
  | nil => exact fun _ h => nomatch h
  | cons q r ih => intro p hp; rcases List.mem_cons.mp hp with rfl | hp; exact Nat.ne_of_lt h.1; exact ih h.2 p hp
theorem allLt_up {a b : Nat} {l : List (Addr × Obj)} (h : AllLt a l) (e : @LT.lt Nat _ a b) : AllLt b l := by
  induction l with
  | nil => trivial
  | cons q r ih => exact ⟨Nat.lt_trans h.1 e, ih h.2⟩
theorem allLt_drop (n : Nat) {b : Nat} {l : List (Addr × Obj)} (h : AllLt b l) : AllLt b (l.drop n) := by
  induction n generalizing l with
  | zero => exact h
  | succ n ih => cases l with
    | nil => exact h
    | cons q r => exact ih h.2
theorem lt_le {a r : Nat} (k : Nat) (h : a + k < r) : a < r := Nat.lt_of_le_of_lt (Nat.le_add_right a k) h
theorem mdec {i n : Nat} (h : i < n) : n - (i + 1) < n - i := Nat.sub_lt_sub_left h (Nat.lt_succ_self i)
theorem cast1 (i : Nat) : ((i : Int) + 1) = ((i + 1 : Nat) : Int) := rfl
theorem one1 (i : Nat) : ((1 : Int) + i + 1) = 1 + ((i + 1 : Nat) : Int) := by omega
theorem sub1c (n i : Nat) : ((n : Int) - i - 1) = (n : Int) - ((i + 1 : Nat) : Int) := by omega
theorem rng0 (n : Nat) : (if (0 : Int) < ↑n then (↑n : Int) - 0 else 0) = n := by split <;> omega
theorem rng1 (n : Nat) : (if (1 : Int) < ↑n then (↑n : Int) - 1 else 0) = ((n - 1 : Nat) : Int) := by split <;> omega
theorem fit2 {vs : List Value} {n : Nat} (e : vs.length = n) (h : n ≤ 100) : vs.toArray.toList.length + vs.toArray.toList.length ≤ sizeLine := by
  simp only [List.toList_toArray]; rw [sizeLine_eq, e]; omega
theorem eqLast {j n t : Nat} (h : j < n + 1) (g : ¬ j < n) (e : n = t) : j = t := e ▸ Nat.le_antisymm (Nat.le_of_lt_succ h) (Nat.le_of_not_lt g)
theorem front_min {ns : List Int} {t i : Nat} (ht : t < ns.length) (hi : i < ns.length - 1) : min ((t : Int) + (1 + (i : Int))).toNat (ns ++ ns).length - (t : Int).toNat = i + 1 := by
  rw [List.length_append]
  show min (t + (1 + i)) (ns.length + ns.length) - t = i + 1
  rw [Nat.min_eq_left (by omega), Nat.add_sub_cancel_left, Nat.add_comm]
theorem eqEnd {i n : Nat} (h : i ≤ n) (g : ¬ i < n) : i = n := Nat.le_antisymm h (Nat.le_of_not_lt g)
theorem le1000 {n : Nat} (h : n ≤ 100) : (n : Int) ≤ 1000 := by omega
theorem pos1 {i n : Nat} (h : i < n) : (0 : Int) < (n : Int) - i := by omega
theorem le0 (n : Int) : n - n ≤ 0 := by omega
theorem ndrop {g h : Heap} {L : Addr} {l : List (Addr × Obj)} (n : Nat) (N : News g L h l) : News g L h (l.drop n) := fun p hp => N p (List.mem_of_mem_drop hp)
theorem news_mk {g h : Heap} {L : Addr} {a : Addr} {o : Obj} {l l' : List (Addr × Obj)} (N : News g L h l') (h1 : (a, o) ∈ l') (h2 : News g L h l) : News g L h ((a, o) :: l) := fun p hp => by
  rcases List.mem_cons.mp hp with rfl | hp
  · exact N _ h1
  · exact h2 p hp
theorem news_app {g h : Heap} {L : Addr} {l l' : List (Addr × Obj)} (N : News g L h l) (M : News g L h l') : News g L h (l ++ l') := fun p hp => by
  rcases List.mem_append.mp hp with hp | hp
  · exact N p hp
  · exact M p hp
theorem upd_k {g h h' : Heap} {L S : Addr} {m : Str → Option Value} {o o' : Obj} {news news' : List (Addr × Obj)} {P : Prop} (F : Fr g L h m) (N : News g L h news) (U : Upd S o o' news news')
    (hk : ∀ b ob, b ≠ S → h.get? b = some ob → h'.get? b = some ob) (ho : h'.get? S = some o') (k : Fr g L h' m → News g L h' news' → P) : P :=
  let r := upd_but F N U hk ho
  k r.1 r.2
theorem upd_c {g h h' : Heap} {L S : Addr} {m : Str → Option Value} {o o' : Obj} {news news' : List (Addr × Obj)} {P : Prop} (F : Fr g L h m) (N : News g L h news) (U : Upd S o o' news news')
    (c : Chg [S] h h') (ho : h'.get? S = some o') (k : Fr g L h' m → News g L h' news' → P) : P :=
  let r := upd_but F N U (fun a o hne e => c a o e fun hm => hne (List.mem_singleton.mp hm)) ho
  k r.1 r.2
theorem drop_k {g h h' : Heap} {L I : Addr} {m : Str → Option Value} {o : Obj} {news : List (Addr × Obj)} {P : Prop} (F : Fr g L h m) (N : News g L h ((I, o) :: news)) (c : Chg [I] h h') (hne : ∀ p ∈ news, p.1 ≠ I) (k : Fr g L h' m → News g L h' news → P) : P :=
  let r := chg_all F N c (fun a ha => by rw [List.mem_singleton.mp ha]; exact (N _ (.head _)).2) fun p hp => .inl ⟨.tail _ hp, fun q => hne p hp (List.mem_singleton.mp q)⟩
  k r.1 r.2
theorem drop2_k {g h h' : Heap} {L I : Addr} {m : Str → Option Value} {o : Obj} {q : Addr × Obj} {news : List (Addr × Obj)} {P : Prop} (F : Fr g L h m) (N : News g L h (q :: (I, o) :: news)) (c : Chg [I] h h') (hne : ∀ p ∈ q :: news, p.1 ≠ I) (k : Fr g L h' m → News g L h' (q :: news) → P) : P :=
  drop_k F (fun p hp => N p ((List.Perm.swap _ _ _).mem_iff.mp hp)) c hne k
theorem same_k {g h h' : Heap} {L : Addr} {m : Str → Option Value} {news : List (Addr × Obj)} {P : Prop} (F : Fr g L h m) (N : News g L h news)
    (c : Chg [] h h') (k : Fr g L h' m → News g L h' news → P) : P :=
  let r := same_all F N (fun a o e => c a o e fun m => nomatch m)
  k r.1 r.2
/-- what stands before a loop and is not touched in it gets a name -/
theorem tail1 {g h : Heap} {L : Addr} {a : Addr} {o : Obj} {l : List (Addr × Obj)} {P : Prop} (N : News g L h ((a, o) :: l)) (h1 : AllLt a l)
    (k : ∀ tl, tl = l → News g L h ((a, o) :: tl) → AllLt a tl → P) : P := k l rfl N h1
theorem tail2 {g h : Heap} {L : Addr} {a b : Addr} {o o' : Obj} {l : List (Addr × Obj)} {P : Prop} (N : News g L h ((b, o') :: (a, o) :: l)) (h1 : ∀ p ∈ l, @LT.lt Nat _ p.1 a) (h2 : ∀ p ∈ (a, o) :: l, @LT.lt Nat _ p.1 b)
    (k : ∀ tl, tl = l → News g L h ((b, o') :: (a, o) :: tl) → AllLt a tl → AllLt b tl → @LT.lt Nat _ a b → P) : P := k l rfl N (allLt_of h1) (allLt_of fun p hp => h2 p (.tail _ hp)) (h2 _ (.head _))
theorem off_cons {a : Addr} {o : Obj} {ex : List (Addr × Obj)} {l : List Addr} (h : ∀ b ∈ l, a ≠ b) (r : OwnOff ex l) : OwnOff ((a, o) :: ex) l := fun p hp => by
  rcases List.mem_cons.mp hp with rfl | hp
  · exact h
  · exact r p hp
theorem na_nil {a : Addr} : ∀ b ∈ ([] : List Addr), a ≠ b := fun _ h => nomatch h
theorem na_cons {a c : Nat} {l : List Addr} (h : a ≠ c) (r : ∀ b ∈ l, a ≠ b) : ∀ b ∈ c :: l, a ≠ b := fun p hp => by
  rcases List.mem_cons.mp hp with rfl | hp
  · exact h
  · exact r p hp
theorem off_push {a : Addr} {ex : List (Addr × Obj)} {l : List Addr} (h : AllLt a ex) (r : OwnOff ex l) : OwnOff ex (a :: l) := fun p hp b hb => by
  rcases List.mem_cons.mp hb with rfl | hb
  · exact ne_allLt h p hp
  · exact r p hp b hb
theorem hv_nil {h : Heap} : ∀ d ∈ ([] : List Addr), ∃ o, h.get? d = some o := fun _ h => nomatch h
theorem hv_cons {h : Heap} {a : Addr} {o : Obj} {l : List Addr} (e : h.get? a = some o) (r : ∀ d ∈ l, ∃ o, h.get? d = some o) : ∀ d ∈ a :: l, ∃ o, h.get? d = some o := fun d hd => by
  rcases List.mem_cons.mp hd with rfl | hd
  · exact ⟨_, e⟩
  · exact r d hd
theorem off_drop {a : Addr} {ex : List (Addr × Obj)} {l : List Addr} (r : OwnOff ex (a :: l)) : OwnOff ex l := fun p hp b hb => r p hp b (.tail _ hb)
theorem off_del2 {a b : Addr} {ex : List (Addr × Obj)} {l : List Addr} (r : OwnOff ex (a :: b :: l)) : OwnOff ex (a :: l) := fun p hp c hc => by
  rcases List.mem_cons.mp hc with rfl | hc
  · exact r p hp _ (.head _)
  · exact r p hp c (.tail _ (.tail _ hc))
theorem body_k {M : Model} {A : Around} {t : Sem Flow} {P : Flow → Shared → Prop} {E : Value → Shared → Prop} {s : Shared} (h : ∀ K : Flow → Shared → Prop, (∀ f s', P f s' → K f s') → wpAny M A t K E s) : wpAny M A t P E s := h P fun _ _ x => x
def AllGt (T : Nat) (l : List (Addr × Obj)) : Prop := ∀ p ∈ l, @LT.lt Nat _ T p.1
theorem ne_of_allGt {T d : Addr} {l : List (Addr × Obj)} (h : AllGt T l) (e : @LE.le Nat _ d T) : ∀ p ∈ l, p.1 ≠ d := fun p hp => Nat.ne_of_gt (Nat.lt_of_le_of_lt e (h p hp))
end Mine
section
open Mine
local macro_rules | `(tactic| ktn_open) => `(tactic| ((case k6 => k_is); (case k7 => k_is); (case k9 => first | exact BindsTo.of_eq rfl | exact binds_K (by k_in) rfl (by k_is) rfl rfl rfl); (case c5 => decide); (case kB => exact locs rfl); (case c2 => exact rfl); (case c3 => exact rfl); (case c4 => exact rfl); k_whole))
local macro_rules | `(tactic| ktr_rel) => `(tactic| (repeat' (refine List.forall_mem_cons.mpr ⟨?_, ?_⟩)) <;> first | exact List.forall_mem_nil _ | exact .inl (by first | exact List.Mem.head _ | exact .tail _ (.head _) | exact .tail _ (.tail _ (.head _))) | exact .inr ⟨_, Led.at (by assumption) (by k_mem), News.get (by assumption) (by k_mem)⟩)
local macro_rules | `(tactic| k_subL) => `(tactic| first | exact Led.nil | (refine Led.cons (News.get (by assumption) (by k_mem)) (Led.none (by assumption) (by k_mem)) ?_; k_subL))
-- part For
namespace Mine
section
variable {prog : Program} {w : World} {A : Around} {s : Shared} {R : Result → Shared → Prop} {target : Expr} {it : Value} {body : List Stmt} {env : Env}

/-- what a turn's end must say -/
def Post (R : Result → Shared → Prop) (next : Shared → Prop) (f : Flow) (s : Shared) : Prop := match f with
  | .next | .cont => next s
  | .brk => R (.ok .next) s
  | .ret v => R (.ok (.ret v)) s

/-- one turn of a for without else, no turn raises -/
def Turn (prog : Program) (w : World) (A : Around) (R : Result → Shared → Prop) (target : Expr) (it : Value) (body : List Stmt) (env : Env) (K : Flow → Shared → Prop) (s : Shared) : Prop :=
  wpAny (model prog w) A (pyNext it) (fun r s₁ => match r with
    | none => R (.ok .next) s₁
    | some v => wpAny (model prog w) A (letOwnedTupleGo target it v) (fun _ s₁' => wpAny (model prog w) A (assign target env v) (fun _ s₂ => wpAny (model prog w) A (execs body env) K (fun _ _ => False) s₂) (fun _ _ => False) s₁') (fun _ _ => False) s₁) (fun _ _ => False) s

/-- the turn's end: the word holds again, the measure has fallen -/
def Again {α : Type} (I : α → Shared → Prop) (m : α → Nat) (a : α) (s' : Shared) : Prop := ∃ a', m a' < m a ∧ I a' s'

theorem for_ind {α : Type} (I : α → Shared → Prop) (m : α → Nat) (turn : ∀ a s, I a s → ∀ K : Flow → Shared → Prop, (∀ f s', Post R (Again I m a) f s' → K f s') → Turn prog w A R target it body env K s) (a : α) (h : I a s) :
    codeAny (model prog w) A (.forLoop target it body [] env) R s := by
  refine codeAny_forLoop_any (fun n s' => ∃ a, m a = n ∧ I a s') ?_ (m a) ⟨a, rfl, h⟩
  rintro n s' ⟨a, rfl, hI⟩
  refine wpAny_mono (turn a s' hI _ fun f s' x => x) (fun r s₁ h₁ => ?_) fun _ _ x => x.elim
  cases r with
  | none => exact wpAny_execs_nil h₁
  | some v =>
    refine wpAny_mono h₁ (fun _ s₁' h₁' => ?_) fun _ _ x => x.elim
    refine wpAny_mono h₁' (fun _ s₂ h₂ => ?_) fun _ _ x => x.elim
    refine wpAny_mono h₂ (fun f s₃ h₃ => ?_) fun _ _ x => x.elim
    cases f with
    | next => obtain ⟨a', h4, h5⟩ := h₃; exact ⟨m a', h4, a', rfl, h5⟩
    | cont => obtain ⟨a', h4, h5⟩ := h₃; exact ⟨m a', h4, a', rfl, h5⟩
    | brk => exact h₃
    | ret v => exact h₃

theorem for_once (h : ∀ K : Flow → Shared → Prop, (∀ f s', Post R (fun _ => False) f s' → K f s') → Turn prog w A R target it body env K s) : codeAny (model prog w) A (.forLoop target it body [] env) R s := by
  refine for_ind (α := Unit) (fun _ s' => s' = s) (fun _ => 0) ?_ () rfl
  rintro _ s' rfl K hK
  refine h K fun f s₃ h₃ => hK f s₃ ?_
  cases f with
  | next => exact h₃.elim
  | cont => exact h₃.elim
  | brk => exact h₃
  | ret v => exact h₃

/-- the target is a name -/
theorem turn_name {x : Str} {px : Pos} {K : Flow → Shared → Prop} (h : wpAny (model prog w) A (pyNext it) (fun r s₁ => match r with
    | none => R (.ok .next) s₁
    | some v => wpAny (model prog w) A (storeName env x v) (fun _ s₂ => wpAny (model prog w) A (execs body env) K (fun _ _ => False) s₂) (fun _ _ => False) s₁) (fun _ _ => False) s) : Turn prog w A R (.Name x px) it body env K s := by
  unfold Turn
  refine wpAny_mono h (fun r s₁ h₁ => ?_) fun _ _ x => x
  cases r with
  | none => exact h₁
  | some v => exact wpAny_pure (wpAny_assign_Name h₁)
end
end Mine
-- part Re
namespace Mine
theorem Gd.inh {w : World} {mg mb : Str → Option Value} {b h : Heap} (G : Gd w mg mb b h) : (hd.heap_1 w.params).In h := G.K.keeps G.le
theorem plain_re : PlainAttrs "re.Pattern" :=
  ⟨⟨"object.__getattribute__", by rw [typeLookup_type, builtinLookup_eq_fast]; kernel_rfl, by decide +kernel⟩, by rw [typeLookup_type, builtinLookup_eq_fast]; kernel_rfl⟩
theorem slot_re_search : Slot "re.Pattern" "search" "re.Pattern.search" :=
  .of (owner := "re.Pattern") (n := "search") (by rw [typeLookup_type, builtinLookup_eq_fast]; kernel_rfl) (by decide +kernel) (by decide +kernel) (by decide +kernel)
    (by first | exact .inl (by decide +kernel) | exact .inr (by decide +kernel)) (by rw [isSubtype_type]; kernel_rfl)
theorem entry_re_search : entryFor table "re.Pattern.search" = some Builtin.«re.Pattern.search» := entryFor_of_tree (by kernel_rfl)
theorem args_re_search (a b : Value) : argsOk "re.Pattern.search" ⟨[a, b], []⟩ := by unfold argsOk; kernel_rfl
theorem type_re_search : typeOf (.builtin "re.Pattern.search") = pure (.type "method_descriptor") := by show builtinType _ = _; rw [builtinType_eq_fast]; kernel_rfl

open PySem.Builtin.Re
section
variable {prog : Program} {w : World} {M : Model} {A : Around} {s : Shared} {E : Value → Shared → Prop}

theorem forIn_pass (f : Nat → PUnit → Sem (ForInStep PUnit)) (hf : ∀ i (Q : ForInStep PUnit → Shared → Prop), Q (.yield ⟨⟩) s → wpAny M A (f i ⟨⟩) Q E s) {Q : PUnit → Shared → Prop} (h : Q ⟨⟩ s) :
    ∀ l : List Nat, wpAny M A (forIn l PUnit.unit f) Q E s
  | [] => by rw [List.forIn_nil]; exact wpAny_pure h
  | i :: l => by
    rw [List.forIn_cons]
    exact wpAny_bind (hf i _ (forIn_pass f hf h l))

theorem re_named (v : Value) : reNamed "re.Pattern.search" "search" ["string", "pos", "endpos"] 1 [v] [] = pure [some v, none, none] := by
  rfl

structure SaysNo (m : Sre.M) : Prop where
  f : m.frames = []
  a : m.answer = some false
  o : m.outcome = none

theorem SaysNo.run {m : Sre.M} (x : SaysNo m) : (m.runFor reTurnSteps).outcome = some .failed := by
  obtain ⟨h1, h2, h3⟩ := x
  show (m.runFor (3 + 1)).outcome = _
  simp [Sre.M.runFor, Sre.M.step, h1, h2, h3]

theorem reDrive_no {m : Sre.M} (x : SaysNo m) {Q : Sre.M → Shared → Prop} (h : ∀ m', m'.outcome = some .failed → Q m' s) (n : Nat) : wpAny M A (reDrive (n + 1) m) Q E s := by
  unfold reDrive
  dsimp only
  rw [if_pos (by rw [x.run]; rfl)]
  exact wpAny_pure (h _ x.run)

theorem reRun_no {m : Sre.M} (x : SaysNo m) {Q : Option Sre.M → Shared → Prop} (h : Q none s) : wpAny M A (reRunToEnd m) Q E s := by
  unfold reRunToEnd
  rw [show (2 : Nat) ^ 64 = (2 ^ 64 - 1) + 1 from rfl]
  refine wpAny_bind (reDrive_no x (fun m' h' => ?_) _)
  refine wpAny_bind (forIn_pass _ (fun i Q' hq => ?_) ?_ _)
  · split
    · exact wpAny_bind (wpAny_rule (wpAny_pure hq))
    · exact wpAny_pure hq
  · rw [h']; exact wpAny_pure h

theorem re_search {pa ca : Addr} {o co : Obj} {vs items : Array Value} {n : Nat} {x : Str} {t : Tok} {Q : Value → Shared → Prop} (ho : s.heap.get? pa = some o) (hc : o.cls = .type "re.Pattern") (hd : o.data = .fields vs)
    (h5 : vs.getD 5 .none = .ref ca) (h6 : reRawNat (vs.getD 6 .none) = 0) (hco : s.heap.get? ca = some co) (hcd : co.data = .seq items n) 
    (hno : SaysNo (Sre.forSearch ((items.map reRawOf).map (·.toNat)) x.cps (reRawNat (vs.getD 2 .none)) (min (0 : Int).toNat x.cps.size) (min (2 ^ 63 - 1 : Int).toNat x.cps.size) false)) (h : Q .none s) :
    wpAny (model prog w) A (call (.builtin "re.Pattern.search") [.ref pa, .str x t]) Q E s := by
  have hT : s.TypeIs (.ref pa) "re.Pattern" := ⟨o, ho, hc⟩
  refine wpAny_call (codeAny_call_builtin slot_re_search.plain entry_re_search (slot_re_search.check _ _ _ _ _ _ _ _ hT (args_re_search _ _) ?_))
  unfold Builtin.«re.Pattern.search»
  refine wpAny_bind ?_
  unfold reTarget
  dsimp only
  rw [re_named]
  refine wpAny_bind (wpAny_pure ?_)
  dsimp only
  refine wpAny_bind (wpAny_pure ?_)
  refine wpAny_bind (wpAny_pure ?_)
  refine wpAny_bind (wpAny_fieldsOf ho hd ?_)
  unfold reTextOf
  refine wpAny_bind (wpAny_bind (wpAny_pure (wpAny_pure ?_)))
  dsimp only
  rw [h6, if_neg (by decide)]
  rw [if_neg (by decide)]
  unfold reNoCollectionInside
  rw [if_neg (by decide)]
  refine wpAny_bind (wpAny_pure ?_)
  unfold reRawItems
  rw [h5]
  refine wpAny_bind (wpAny_bind (wpAny_seqItems hco hcd (wpAny_pure (wpAny_pure ?_))))
  unfold reAnswer
  refine wpAny_bind (reRun_no hno ?_)
  exact wpAny_pure h
end
open PySem.Sre
theorem admitted_no {m : M} (hlim : m.lim ≤ m.text.size) (hno : ∀ c ∈ m.text, ∀ seen, ∃ seen', inSet m.code c m.code.size 5 true seen = .ok (false, seen')) : ∀ fuel s seen, ∃ seen', M.admitted m fuel s seen = .ok (none, seen')
  | 0, _, seen => ⟨seen, rfl⟩
  | fuel + 1, s, seen => by
    unfold M.admitted
    by_cases h : s ≥ m.lim
    · exact ⟨seen, by rw [if_pos h]⟩
    · rw [if_neg h]
      have hs : s < m.text.size := by omega
      obtain ⟨seen', e⟩ := hno (m.text.getD s 0) (by rw [Array.getD_eq_getD_getElem?, Array.getElem?_eq_getElem hs]; exact Array.getElem_mem hs) seen
      rw [e]
      exact admitted_no hlim hno fuel (s + 1) seen'

theorem attempt_no {m : M} (hf : m.hasFirstSet = true) (h1 : m.frames = []) (h2 : m.outcome = none) (hlim : m.lim ≤ m.text.size) (hno : ∀ c ∈ m.text, ∀ seen, ∃ seen', inSet m.code c m.code.size 5 true seen = .ok (false, seen')) (p : Nat) (fi : Bool) :
    SaysNo (m.attemptFrom p fi) := by
  unfold M.attemptFrom
  obtain ⟨seen', e⟩ := admitted_no hlim hno (m.lim + 1 - p) p m.seen
  rw [hf, e]
  exact ⟨h1, rfl, h2⟩

theorem search_no {code text : Array Nat} {groups pos lim : Nat} (hf : ∀ m : M, m.code = code → m.hasFirstSet = true) (hlim : lim ≤ text.size)
    (hno : ∀ c ∈ text, ∀ seen, ∃ seen', inSet code c code.size 5 true seen = .ok (false, seen')) : SaysNo (forSearch code text groups pos lim false) := by
  unfold forSearch
  dsimp only
  split
  · exact ⟨rfl, rfl, rfl⟩
  · exact attempt_no (hf _ rfl) rfl rfl hlim hno _ _

abbrev codeN : Array Nat := #[14, 10, 4, 1, 1, 22, 0, 31, 16, 127, 0, 13, 7, 22, 0, 31, 16, 127, 0, 1]
abbrev codeV : Array Nat := #[14, 14, 4, 1, 1, 9, 4294966783, 0, 0, 2147483648, 0, 0, 0, 0, 0, 13, 11, 9, 4294966783, 0, 0, 2147483648, 0, 0, 0, 0, 0, 1]
theorem noN {c : Nat} (h1 : 32 ≤ c) (h2 : c < 127) (seen : Sre.Seen) : ∃ seen', inSet codeN c codeN.size 5 true seen = .ok (false, seen') := by
  have e1 : (decide (0 ≤ c) && decide (c ≤ 31)) = false := by simp; omega
  have e2 : (c == 127) = false := by simp; omega
  apply Exists.intro
  show inSet codeN c (17 + 1 + 1 + 1) 5 true seen = _
  unfold inSet
  show (if (decide (0 ≤ c) && decide (c ≤ 31)) = true then _ else _) = _
  rw [e1, if_neg (by decide)]
  unfold inSet
  show (if (c == 127) = true then _ else _) = _
  rw [e2, if_neg (by decide)]
  unfold inSet
  rfl
theorem bitV : ∀ c, c < 127 → 32 ≤ c → (decide (c < 256) && (codeV.getD (5 + (1 + c / 32)) 0).testBit (c % 32)) = false := by decide +kernel
theorem noV {c : Nat} (h1 : 32 ≤ c) (h2 : c < 127) (seen : Sre.Seen) : ∃ seen', inSet codeV c codeV.size 5 true seen = .ok (false, seen') := by
  apply Exists.intro
  show inSet codeV c (26 + 1 + 1) 5 true seen = _
  unfold inSet
  show (if (decide (c < 256) && (codeV.getD (5 + (1 + c / 32)) 0).testBit (c % 32)) = true then _ else _) = _
  rw [bitV c h2 h1, if_neg (by decide)]
  unfold inSet
  rfl

abbrev Plain (x : Str) : Prop := ∀ c ∈ x.cps, 32 ≤ c ∧ c < 127
theorem pat48 (w : World) : ∃ o vs ca co items n, (hd.heap_1 w.params).lookup 48 = some o ∧ o.cls = .type "re.Pattern" ∧ o.data = .fields vs ∧ vs.getD 5 .none = .ref ca ∧ Builtin.Re.reRawNat (vs.getD 6 .none) = 0 ∧ o.dict = none ∧
    (hd.heap_1 w.params).lookup ca = some co ∧ co.data = .seq items n ∧ (items.map Builtin.Re.reRawOf).map (·.toNat) = codeN := ⟨_, _, _, _, _, _, rfl, rfl, rfl, rfl, rfl, rfl, rfl, rfl, by decide +kernel⟩
theorem pat53 (w : World) : ∃ o vs ca co items n, (hd.heap_1 w.params).lookup 53 = some o ∧ o.cls = .type "re.Pattern" ∧ o.data = .fields vs ∧ vs.getD 5 .none = .ref ca ∧ Builtin.Re.reRawNat (vs.getD 6 .none) = 0 ∧ o.dict = none ∧
    (hd.heap_1 w.params).lookup ca = some co ∧ co.data = .seq items n ∧ (items.map Builtin.Re.reRawOf).map (·.toNat) = codeV := ⟨_, _, _, _, _, _, rfl, rfl, rfl, rfl, rfl, rfl, rfl, rfl, by decide +kernel⟩
section
variable {prog : Program} {w : World} {A : Around} {s : Shared} {E : Value → Shared → Prop} {x : Str} {t : Tok} {Q : Value → Shared → Prop}
theorem search48 (K : (hd.heap_1 w.params).In s.heap) (hx : Plain x) (h : Q .none s) : wpAny (model prog w) A (call (.builtin "re.Pattern.search") [.ref 48, .str x t]) Q E s := by
  obtain ⟨o, vs, ca, co, items, n, a1, a2, a3, a4, a5, _, a6, a7, a8⟩ := pat48 w
  refine re_search (K _ _ a1) a2 a3 a4 a5 (K _ _ a6) a7 ?_ h
  rw [a8]
  exact search_no (fun m e => by unfold M.hasFirstSet; rw [e]; rfl) (by omega) fun c hc seen => noN (hx c hc).1 (hx c hc).2 seen
theorem search53 (K : (hd.heap_1 w.params).In s.heap) (hx : Plain x) (h : Q .none s) : wpAny (model prog w) A (call (.builtin "re.Pattern.search") [.ref 53, .str x t]) Q E s := by
  obtain ⟨o, vs, ca, co, items, n, a1, a2, a3, a4, a5, _, a6, a7, a8⟩ := pat53 w
  refine re_search (K _ _ a1) a2 a3 a4 a5 (K _ _ a6) a7 ?_ h
  rw [a8]
  exact search_no (fun m e => by unfold M.hasFirstSet; rw [e]; rfl) (by omega) fun c hc seen => noV (hx c hc).1 (hx c hc).2 seen
theorem gm48 {pl : Sem Bool} {Q : Value × List Value → Shared → Prop} (K : (hd.heap_1 w.params).In s.heap) (h : Q (.builtin "re.Pattern.search", [.ref 48]) s) : wpAny (model prog w) A (getMethod (.ref 48) (Str.ofString "search") pl) Q E s := by
  obtain ⟨o, vs, ca, co, items, n, a1, a2, a3, a4, a5, a9, a6, a7, a8⟩ := pat48 w
  exact getMethod_builtin (T := "re.Pattern") ⟨o, K _ _ a1, a2⟩ plain_re slot_re_search type_re_search (fun a e => by cases e; exact ⟨o, K _ _ a1, a9⟩) h
theorem gm53 {pl : Sem Bool} {Q : Value × List Value → Shared → Prop} (K : (hd.heap_1 w.params).In s.heap) (h : Q (.builtin "re.Pattern.search", [.ref 53]) s) : wpAny (model prog w) A (getMethod (.ref 53) (Str.ofString "search") pl) Q E s := by
  obtain ⟨o, vs, ca, co, items, n, a1, a2, a3, a4, a5, a9, a6, a7, a8⟩ := pat53 w
  exact getMethod_builtin (T := "re.Pattern") ⟨o, K _ _ a1, a2⟩ plain_re slot_re_search type_re_search (fun a e => by cases e; exact ⟨o, K _ _ a1, a9⟩) h
end
end Mine
local macro_rules | `(tactic| ktn_open) => `(tactic| ((case k6 => k_is); (case k7 => k_is); (case k9 => first | exact BindsTo.of_eq rfl | exact binds_K (Mine.Gd.inh (by assumption)) rfl (by k_is) rfl rfl rfl); (case c5 => decide); (case kB => exact locs rfl); (case c2 => exact rfl); (case c3 => exact rfl); (case c4 => exact rfl); k_whole))
-- part Conv
namespace Mine
theorem freshConv : True := by w_top off; trivial
theorem fill7 (w : World) (h : Heap) (_ : (hd.heap_1 w.params).In h) : Challenge.rw_to0057_01.prog = Challenge.rw_to0057_01.prog := by
  rename_i X; revert X; k_fill; intro _; rfl

section
variable {w : World} {mg mb : Str → Option Value} {A : Around} {s : Shared} {b : Heap} {Q E : Value → Shared → Prop} {R : Result → Shared → Prop}
theorem conv {self : Value} {x : Str} {t : Tok} {nm : Bool}
    (G : Gd w mg mb b s.heap) (hd : A.depth + 1 < recursionLimit) 
    (hp : Plain x)
    (hret : ∀ h' tk, Chg [] s.heap h' → R (.ok (.ret (.str x t))) { s with heap := h', toks := tk }) :
    codeAny (MM w) A (.call (.ref 83) ⟨[self, .str x t], [(Str.ofString "name", .bool nm)]⟩) R s := by
  have X := G.K
  have hl : Led b s.heap [] := Led.nil
  k_dflt (refine' enter (binds := [(Str.ofString "self", self), (Str.ofString "value", .str x t), (Str.ofString "name", .bool nm)]) G hl ?k6 ?k7 (by omega) ?k9 ?kB ?c5 ?_ ?c2 ?c3 ?c4; ktn_open)
  clear X
  intro g L h₁ hg F N X T lt
  try dsimp only
  k_steps
  all_goals (first | refine gm48 (X.keeps (Fr.keep (by assumption))) ?_ | refine gm53 (X.keeps (Fr.keep (by assumption))) ?_)
  all_goals k_steps
  all_goals (first | refine search48 (X.keeps (Fr.keep (by assumption))) hp ?_ | refine search53 (X.keeps (Fr.keep (by assumption))) hp ?_)
  all_goals k_steps
  all_goals (subst hg; exact hret _ _ (chg_of (by assumption)))
end
end Mine
-- part Iter
namespace Mine
section
variable {w : World} {A : Around} {s : Shared} {E : Value → Shared → Prop} {g : Heap} {L : Addr} {m : Str → Option Value} {news : List (Addr × Obj)}

/-- the object is the list iterator of l at place i -/
def IsLi (o : Obj) (l : Addr) (i : Nat) : Prop := o.cls = .type "list_iterator" ∧ o.data = .fields #[.ref l, .int i 0]
/-- the object is a list of these items -/
def IsLs (o : Obj) (its : Array Value) : Prop := o.cls = .type "list" ∧ ∃ n, o.data = .seq its n
theorem isLs (its : Array Value) (n : Nat) : IsLs (listOf its n) its := ⟨rfl, n, rfl⟩

theorem iter_li {l : Addr} {o : Obj} {its : Array Value} {Q : Value → Shared → Prop} (F : Fr g L s.heap m) (N : News g L s.heap news) (hl : s.heap.get? l = some o) (ho : IsLs o its)
    (h : ∀ I h' oI, IsLi oI l 0 → Fr g L h' m → News g L h' ((I, oI) :: news) → (∀ p ∈ news, @LT.lt Nat _ p.1 I) → Q (.ref I) { s with heap := h' }) : wpAny (MM w) A (pyIter (.ref l)) Q E s :=
  wpAny_pyIter_list ⟨o, hl, ho⟩ (h _ _ _ ⟨rfl, rfl⟩ (F.push _) (N.push F _) (fun p hp => Heap.lt_size (N p hp).1))

theorem next_li {I l : Addr} {oI o : Obj} {i : Nat} {its : Array Value} {x : Value} {Q : Option Value → Shared → Prop} (hI : s.heap.get? I = some oI) (hi : IsLi oI l i) (hl : s.heap.get? l = some o) (ho : IsLs o its) (hx : its[i]? = some x)
    (h : ∀ h' oI', IsLi oI' l (i + 1) → (∀ b ob, b ≠ I → s.heap.get? b = some ob → h'.get? b = some ob) → h'.get? I = some oI' → Q (some x) { s with heap := h' }) : wpAny (MM w) A (pyNext (.ref I)) Q E s :=
  wpAny_pyNext_list_item ⟨oI, hI, hi⟩ ⟨o, hl, ho⟩ hx fun h' ⟨oI', e, hi'⟩ hs => h h' oI' hi' (fun b ob hb e => hs.extBut b ob hb e) e

theorem end_li {I l : Addr} {oI o : Obj} {i : Nat} {its : Array Value} {Q : Option Value → Shared → Prop} (hh : A.handled = none) (hI : s.heap.get? I = some oI) (hi : IsLi oI l i) (hl : s.heap.get? l = some o) (ho : IsLs o its) (hx : its[i]? = none)
    (h : ∀ h', Chg [I] s.heap h' → Q none { s with heap := h' }) : wpAny (MM w) A (pyNext (.ref I)) Q E s :=
  wpAny_pyNext_list_end hh ⟨oI, hI, hi⟩ ⟨o, hl, ho⟩ hx fun h' hs => h h' fun a o e n => hs a o (fun q => n (q ▸ .head _)) e

abbrev riObj (x left step : Int) : Obj := { cls := .type "range_iterator", dict := none, data := .fields #[rawInt x, rawInt left, rawInt step], slots := #[] }
abbrev raObj (a b c : Int) (t u v : Tok) : Obj := { cls := .type "range", dict := none, data := .fields #[.int a t, .int b u, .int c v], slots := #[] }
theorem next_ri {I : Addr} {x left : Int} {Q : Option Value → Shared → Prop} (hI : s.heap.get? I = some (riObj x left 1)) (hp : 0 < left)
    (h : ∀ h', (∀ b ob, b ≠ I → s.heap.get? b = some ob → h'.get? b = some ob) → h'.get? I = some (riObj (x + 1) (left - 1) 1) → Q (some (.int x s.toks)) { s with heap := h', toks := s.toks + 1 }) : wpAny (MM w) A (pyNext (.ref I)) Q E s :=
  wpAny_pyNext_range_item hI hp fun h' e hs => h h' (fun b ob hb e => hs.extBut b ob hb e) e
theorem end_ri {I : Addr} {x left : Int} {Q : Option Value → Shared → Prop} (hh : A.handled = none) (hI : s.heap.get? I = some (riObj x left 1)) (hp : left ≤ 0)
    (h : ∀ h', Chg [I] s.heap h' → Q none { s with heap := h' }) : wpAny (MM w) A (pyNext (.ref I)) Q E s :=
  wpAny_pyNext_range_end hh hI hp fun h' hs => h h' fun a o e n => hs a o (fun q => n (q ▸ .head _)) e

theorem small_of {a b : Int} (h1 : 0 ≤ a) (h2 : a ≤ 1000) (h3 : 0 ≤ b) (h4 : b ≤ 1000) : Builtin.Range.small a b 1 = true ∧ Builtin.Range.rangeSize a b 1 = if a < b then b - a else 0 := by
  have e : Builtin.Range.rangeSize a b 1 = if a < b then b - a else 0 := by
    unfold Builtin.Range.rangeSize; split <;> simp_all <;> omega
  refine ⟨?_, e⟩
  unfold Builtin.Range.small
  rw [e]
  unfold Builtin.Range.rangeFitsLong
  split <;> simp <;> omega
theorem iter_ra {r : Addr} {a b : Int} {t u v : Tok} {Q : Value → Shared → Prop} (F : Fr g L s.heap m) (N : News g L s.heap news) (hr : s.heap.get? r = some (raObj a b 1 t u v)) (h1 : 0 ≤ a) (h2 : a ≤ 1000) (h3 : 0 ≤ b) (h4 : b ≤ 1000)
    (h : ∀ I h', Fr g L h' m → News g L h' ((I, riObj a (if a < b then b - a else 0) 1) :: news) → (∀ p ∈ news, @LT.lt Nat _ p.1 I) → Q (.ref I) { s with heap := h' }) : wpAny (MM w) A (pyIter (.ref r)) Q E s := by
  obtain ⟨e1, e2⟩ := small_of h1 h2 h3 h4
  refine wpAny_pyIter_range hr e1 ?_
  rw [e2]
  exact h _ _ (F.push _) (N.push F _) (fun p hp => Heap.lt_size (N p hp).1)

/-- an object is let go out of the ledger -/
theorem drop_of {h' : Heap} {I : Addr} {o : Obj} (F : Fr g L s.heap m) (N : News g L s.heap ((I, o) :: news)) (c : Chg [I] s.heap h') (hne : ∀ p ∈ news, p.1 ≠ I) : Fr g L h' m ∧ News g L h' news :=
  chg_all F N c (fun a ha => by rw [List.mem_singleton.mp ha]; exact (N _ (.head _)).2) fun p hp => .inl ⟨.tail _ hp, fun q => hne p hp (List.mem_singleton.mp q)⟩
theorem ne_of_lts {I : Addr} (h : ∀ p ∈ news, @LT.lt Nat _ p.1 I) : ∀ p ∈ news, p.1 ≠ I := fun p hp => Nat.ne_of_lt (h p hp)
end
end Mine
-- part HInit
namespace Mine
theorem freshHInit : True := by w_top off; trivial

local macro_rules | `(tactic| walk_at "exec For Tuple Name cons nil") => `(tactic| (k_dflt (refine' wpAny_For ?_ ?hs; (case hs => (intro _; rfl)))))
section
variable {w : World} {mg mb : Str → Option Value} {A : Around} {s : Shared} {b : Heap} {Q E : Value → Shared → Prop} {R : Result → Shared → Prop}
abbrev hdI (dx : Addr) : Obj := ⟨.ref 182, some dx, .plain, #[]⟩
abbrev hdD (h : Int) (k : Tok) (v : Value) : Obj := dictOf [⟨h, .str (Str.ofString "_headers") k, v⟩] 1
theorem hd_init {x dx p : Addr}
    (G : Gd w mg mb b s.heap) (hd : A.depth + 1 < recursionLimit) (hh : A.handled = none) (hl : Led b s.heap [(x, hdI dx), (dx, dictOf [] 0), (p, listOf #[] 0)]) (e1 : @LT.lt Nat _ p dx) (e2 : @LT.lt Nat _ dx x)
    (hret : ∀ hh k h' tk, Chg [x, dx] s.heap h' → h'.get? x = some (hdI dx) → h'.get? dx = some (hdD hh k (.ref p)) → R (.ok (.ret .none)) { s with heap := h', toks := tk }) :
    codeAny (MM w) A (.call (.ref 76) ⟨[.ref x, .ref p], []⟩) R s := by
  have X := G.K
  k_dflt (refine' enter (binds := [(Str.ofString "self", .ref x), (Str.ofString "headers", .ref p)]) G hl ?k6 ?k7 (by omega) ?k9 ?kB ?c5 ?_ ?c2 ?c3 ?c4; ktn_open)
  clear X
  intro g L h₁ hg F N X T lt
  try dsimp only
  k_steps
  refine iter_li (by assumption) (by assumption) (News.get (by assumption) (by k_mem)) (isLs _ _) ?_
  intro I h3 oI hI F3 N3 lI
  refine for_once fun _ _ => (end_li hh (News.get N3 (.head _)) hI (News.get N3 (by k_mem)) (isLs _ _) rfl ?_)
  intro h4 c4
  obtain ⟨F4, N4⟩ := drop_of F3 N3 c4 (ne_of_lts lI)
  clear F3 N3
  k_steps
  subst hg
  exact hret _ _ _ _ (chg_less (chg_of (by assumption)) (by ktr_rel)) (News.get (by assumption) (by k_mem)) (News.get (by assumption) (by k_mem))
end
end Mine
-- part AddH
namespace Mine
local macro_rules | `(tactic| walk_at "zz zz") => `(tactic| fail "pad")
theorem freshAddH : True := by w_top off; trivial

local macro_rules | `(tactic| walk_at "exec For Tuple Call cons nil") => `(tactic| (k_dflt (refine' wpAny_For ?_ ?hs; (case hs => (intro _; rfl)))))
section
variable {w : World} {mg mb : Str → Option Value} {A : Around} {s : Shared} {b : Heap} {led : List (Addr × Obj)}
  {name qual : Str} {params : Arguments} {body : List Stmt} {scope : Scope} {dV kV doc pm cdv ct oc : Value} {an od : Option Addr} {osl : Array (Option Value)} {f : Addr} {args : Args} {binds : Addr → List (Str × Value)} {o1 : Obj}
  {R : Result → Shared → Prop}

/-- entering a plain def whose binder makes one object -/
theorem enterW (G : Gd w mg mb b s.heap) (hl : Led b s.heap led)
    (ho : (hd.heap_1 w.params).lookup f = some ⟨oc, od, .func (fnX name qual params body scope [] dV kV doc pm an cdv ct), osl⟩) (hcd : codeIn (hd.heap_1 w.params) cdv qual = true) (hroom : A.depth < recursionLimit)
    (hbind : bindArgs (fnX name qual params body scope [] dV kV doc pm an cdv ct) args = (alloc o1 >>= fun D => pure (binds D)))
    (hloc : ∀ D, ∀ y ∈ binds D, scope.names.lookup y.1 = some .local)
    (hcell : ∀ x ∈ scope.names, x.2 ≠ .cell)
    (h : ∀ D g L h₁, s.heap.get? D = none → g = hideAll (s.heap.push o1) (((D, o1) :: led).map (·.1)) → Fr g L h₁ (fun y => (binds D).reverse.lookup y) → News g L h₁ ((D, o1) :: led) → (hd.heap_1 w.params).In g → TR mg mb g → (∀ p ∈ led, @LT.lt Nat _ p.1 D) → @LT.lt Nat _ D L → (∀ a o, b.get? a = some o → g.get? a = some o) → (D == sysModules) = false →
      wpAny (MM w) (A.deeper (envX qual scope L f cdv [])) (execs body (envX qual scope L f cdv []))
        (fun fl s' => R (.ok (.ret (match fl with | .ret v => v | _ => .none))) s') (fun _ _ => False)
        { s with heap := h₁, toks := s.toks + (binds D).length })
    (hf1 : o1.isFreed = false := by rfl) (hco : scope.isCoroutine = false := by rfl) (hgen : scope.isGenerator = false := by rfl) (hk : scope.kind = .function := by rfl) : codeAny (MM w) A (.call (.ref f) args) R s := by
  have hD : s.heap.get? s.heap.objs.size = none := by
    cases e : s.heap.get? s.heap.objs.size with
    | none => rfl
    | some o => exact absurd (Heap.lt_size e) (Nat.lt_irrefl _)
  have up : ∀ a o, s.heap.get? a = some o → (s.heap.push o1).get? a = some o := fun a o e => Heap.get?_push_of_some _ e
  have G' : Gd w mg mb b (s.heap.push o1) := ⟨G.K, G.T, fun a o e => up _ _ (G.le a o e)⟩
  have hl' : Led b (s.heap.push o1) ((s.heap.objs.size, o1) :: led) := Led.cons (Heap.get?_push_size _ hf1) (by
    cases e : b.get? s.heap.objs.size with
    | none => rfl
    | some o => rw [G.le _ _ e] at hD; cases hD) fun p hp => ⟨up _ _ (hl p hp).1, (hl p hp).2⟩
  have st := st_of (s := { s with heap := s.heap.push o1 }) G' hl'
  refine codeAny_call_function hroom (G.le _ _ (G.K _ _ ho)) rfl hco hgen rfl (codeRec_of (G.K.keeps G.le) hcd) (hbind ▸ wpAny_bind (wpAny_alloc (wpAny_pure ?_)))
  refine wpAny_newFunctionEnv hcell (hloc _) (fun h₀ hns₀ hsb₀ => ⟨(G'.T.nolimit.keeps G'.le).fresh _ hsb₀, codeAny_func ?_⟩) hk
  have hk₁ : ∀ b o, (s.heap.push o1).get? b = some o → h₀.get? b = some o := fun b o e => hsb₀.extBut b o (Nat.ne_of_lt (Heap.lt_size e)) (Heap.get?_push_of_some _ e)
  refine wpAny_mono (h s.heap.objs.size _ (s.heap.push o1).objs.size h₀ hD rfl ⟨hns₀, fun a o e => hk₁ a o (of_hideAll _ e), Nat.le_of_eq (hideAll_size _ _)⟩
    (fun p hp => ⟨hk₁ _ _ (hl' p hp).1, Nat.ne_of_lt (Heap.lt_size (hl' p hp).1), hideAll_none _ (List.mem_map_of_mem hp)⟩) (G.K.keeps st) (G.T.keeps st) (fun p hp => Heap.lt_size (hl p hp).1) (by rw [Heap.size_push]; exact Nat.lt_succ_self _) st (beq_eq_false_iff_ne.mpr (Nat.ne_of_gt (modules_low (G.T.nolimit.keeps G.le))))) (fun fl s' x => x) fun _ _ x => x.elim
end

abbrev tupO (its : Array Value) : Obj := { cls := .type "tuple", data := .seq its }
section
variable {w : World} {A : Around} {s : Shared} {E : Value → Shared → Prop} {g : Heap} {L : Addr} {m : Str → Option Value} {news : List (Addr × Obj)} {D : Addr}
abbrev itemsO (D : Addr) : Obj := { cls := .type "dict_items", data := .fields #[.ref D] }
theorem gm_items {pl : Sem Bool} {Q : Value × List Value → Shared → Prop} (hD : s.heap.get? D = some (dictOf [] 0)) (h : Q (.builtin "dict.items", [.ref D]) s) : wpAny (MM w) A (getMethod (.ref D) (Str.ofString "items") pl) Q E s :=
  getMethod_builtin (T := "dict") ⟨_, hD, rfl⟩ PySem.F.plainAttrs_dict PySem.F.slot_dict_items PySem.F.type_dict_items (fun a e => by cases e; exact ⟨_, hD, rfl⟩) h
theorem dictAt_nil {h : Heap} (hD : h.get? D = some (dictOf [] 0)) : h.DictAt (strKind Challenge.rw_to0057_01.prog w) D [] 0 := ⟨_, #[], hD, ⟨rfl, rfl, rfl⟩, rfl, (fun e he => by simp at he), .nil, List.nodup_nil⟩
theorem call_items (F : Fr g L s.heap m) (N : News g L s.heap news) {Q : Value → Shared → Prop} (hD : s.heap.get? D = some (dictOf [] 0)) (hm : (D == sysModules) = false)
    (h : ∀ V h', Fr g L h' m → News g L h' ((V, itemsO D) :: news) → (∀ p ∈ news, @LT.lt Nat _ p.1 V) → Q (.ref V) { s with heap := h' }) : wpAny (MM w) A (call (.builtin "dict.items") [.ref D]) Q E s :=
  call_meetsIn PySem.F.slot_dict_items ⟨_, hD, rfl⟩ PySem.F.entry_dict_items (PySem.F.args_dict_items_1 _) (meets_dict_items (strKind Challenge.rw_to0057_01.prog w) D hm) ⟨⟨[], (dictAt_nil hD).dictOf⟩, h _ _ (F.push _) (N.push F _) (fun p hp => Heap.lt_size (N p hp).1)⟩
abbrev itO (D : Addr) : Obj := { cls := .type "dict_itemiterator", dict := none, data := .fields #[.none, .bool false, .ref D, .int 0 0, .int 0 0, .int 0 0, .none, .none], slots := #[] }
theorem iter_items {V : Addr} (F : Fr g L s.heap m) (N : News g L s.heap news) {Q : Value → Shared → Prop} (hV : s.heap.get? V = some (itemsO D)) (hD : s.heap.get? D = some (dictOf [] 0))
    (h : ∀ I h', Fr g L h' m → News g L h' ((I, itO D) :: news) → (∀ p ∈ news, @LT.lt Nat _ p.1 I) → Q (.ref I) { s with heap := h' }) : wpAny (MM w) A (pyIter (.ref V)) Q E s :=
  wpAny_pyIter_items ⟨_, hV, rfl, rfl⟩ (dictAt_nil hD) (h _ _ (F.push _) (N.push F _) (fun p hp => Heap.lt_size (N p hp).1))
theorem end_items {I : Addr} {Q : Option Value → Shared → Prop} (hh : A.handled = none) (hI : s.heap.get? I = some (itO D)) (hD : s.heap.get? D = some (dictOf [] 0))
    (h : ∀ h', Chg [I] s.heap h' → Q none { s with heap := h' }) : wpAny (MM w) A (pyNext (.ref I)) Q E s :=
  wpAny_pyNext_items_end (kvs := ([] : List (Str × Value))) hh hI (dictAt_nil hD) rfl fun h' hs => h h' fun a o e n => hs a o (fun q => n (q ▸ .head _)) e
end
theorem chg_w {S : List Addr} {h h' : Heap} {o1 : Obj} {D : Addr} (c : Chg (D :: S) (h.push o1) h') (hD : h.get? D = none) : Chg S h h' := fun a o e n =>
  c a o (Heap.get?_push_of_some _ e) fun q => by
    rcases List.mem_cons.mp q with rfl | q
    · rw [hD] at e; cases e
    · exact n q

theorem fresh_w {h : Heap} {S : List Addr} {o1 : Obj} {D T : Addr} (_ : h.get? D = none) (hT : (hideAll (h.push o1) S).get? T = none) (hS : T ∉ S) : h.get? T = none := by
  cases q : h.get? T with
  | none => rfl
  | some o => rw [hideAll_get _ (Heap.get?_push_of_some _ q) hS] at hT; cases hT
section
variable {w : World} {mg mb : Str → Option Value} {A : Around} {s : Shared} {b : Heap} {Q E : Value → Shared → Prop} {R : Result → Shared → Prop}
theorem add_header {x dx p : Addr} {hh : Int} {k : Tok} {its : Array Value} {n : Nat} {nm v : Str} {tn tv : Tok}
    (G : Gd w mg mb b s.heap) (hd : A.depth + 2 < recursionLimit) (hA : A.handled = none) (hl : Led b s.heap [(x, hdI dx), (dx, hdD hh k (.ref p)), (p, listOf its n)]) (e1 : @LT.lt Nat _ p dx) (e2 : @LT.lt Nat _ dx x)
    (hsz : its.size ≤ 1000) (hn : Plain nm) (hv : Plain v) (hvl : v.length ≤ 1000)
    (hret : ∀ T t1 t2 h' tk, Chg [p] s.heap h' → h'.get? p = some (listOf (its.push (.ref T)) (n + 1)) → h'.get? T = some (tupO #[.str nm t1, .str v t2]) → s.heap.get? T = none → Q .none { s with heap := h', toks := tk }) :
    wpAny (MM w) A (call (.ref 179) [.ref x, .str nm tn, .str v tv]) Q E s := by
  have X := G.K
  refine wpAny_call ?_
  k_dflt (refine' enterW (o1 := dictOf [] 0) (binds := fun D => [(Str.ofString "self", .ref x), (Str.ofString "_name", .str nm tn), (Str.ofString "_value", .str v tv), (Str.ofString "_params", .ref D)]) G hl ?k6 ?k7 (by omega) ?k9 ?kB ?c5 ?_ ?c1 ?c2 ?c3 ?c4; (case k6 => k_is); (case k7 => k_is); (case k9 => exact rfl); (case c5 => decide); (case kB => exact fun D => locs rfl); (case c1 => exact rfl); (case c2 => exact rfl); (case c3 => exact rfl); (case c4 => exact rfl); k_whole)
  clear X
  intro D g L h₁ hD hg F N X T lt lD hbg hDm
  k_lt lt
  try dsimp only
  k_steps
  rename Fr g L _ _ => F1
  rename News g L _ _ => N1
  refine wpAny_call (conv (nm := false) ⟨G.K, G.T, fun a o e => F1.keep _ _ (hbg a o e)⟩ (by show A.depth + 1 + 1 < _; omega) hv ?_)
  intro h2 tk2 c2
  obtain ⟨F2, N2⟩ := same_all F1 N1 fun a o e => c2 a o e fun m => nomatch m
  clear F1 N1 c2
  k_steps
  refine gm_items (News.get (by assumption) (by k_mem)) ?_
  k_steps
  refine call_items (D := D) (by assumption) (by assumption) (News.get (by assumption) (by k_mem)) hDm ?_
  intro V h3 F3 N3 lV
  k_lt lV
  k_steps
  refine iter_items (D := D) (by assumption) (by assumption) (News.get N3 (by k_mem)) (News.get N3 (by k_mem)) ?_
  intro I h4 F4 N4 lI
  refine for_once fun _ _ => (end_items (D := D) hA (News.get N4 (.head _)) (News.get N4 (by k_mem)) ?_)
  intro h5 c5
  obtain ⟨F5, N5⟩ := drop_of F4 N4 c5 (ne_of_lts lI)
  clear F3 N3 F4 N4
  k_steps
  rename Fr g L _ _ => F6
  rename News g L _ _ => N6
  refine wpAny_call (conv (nm := true) ⟨G.K, G.T, fun a o e => F6.keep _ _ (hbg a o e)⟩ (by show A.depth + 1 + 1 < _; omega) hn ?_)
  intro h6 tk6 c6
  obtain ⟨F7, N7⟩ := same_all F6 N6 fun a o e => c6 a o e fun m => nomatch m
  clear F6 N6 c6
  k_steps
  trace_state
  subst hg
  exact hret _ _ _ _ _ (chg_less (chg_w (chg_of (by assumption)) hD) (by ktr_rel)) (News.get (by assumption) (by k_mem)) (News.get (by assumption) (by k_mem)) (fresh_w hD (News.fresh (by assumption) (by k_mem)) (by simp only [List.map_cons, List.map_nil, List.mem_cons, List.not_mem_nil, or_false, not_or]; exact ⟨neN (by omega), neN (by omega), neN (by omega), neN (by omega)⟩))
end
end Mine
-- part Comp
namespace Mine

/-- the inner block of a comprehension -/
abbrev cEnv (scope : Scope) (cl : List (Str × Addr)) (C : Addr) (env : Env) : Env :=
  { scope := relabel scope env, locals := C, globals := env.globals, cells := cl, qual := env.qual, func := none, code := env.code, frame := env.frame, builtins := env.builtins }

section
variable {w : World} {mg mb : Str → Option Value} {A : Around} {s : Shared} {E : Value → Shared → Prop} {g : Heap} {L : Addr} {m : Str → Option Value} {news : List (Addr × Obj)} {env : Env}
  {elt iter : Expr} {x : Str} {px : Pos} {ifs : List Expr} {scope : Scope} {cl : List (Str × Addr)} {pos : Pos}

structure CompEnd (g : Heap) (L : Addr) (m : Str → Option Value) (g2 : Heap) (C D : Addr) (s : Shared) (Q : Value → Shared → Prop) (r : Result) (s' : Shared) : Prop where
  ok : r = .ok .next
  h : ∃ h' tk m' news' o, s' = { s with heap := h', toks := tk } ∧ Fr g2 C h' m' ∧ News g2 C h' ((D, o) :: news') ∧ ∀ h'', Fr g L h'' m → News g L h'' ((D, o) :: news') → Q (.ref D) { s with heap := h'', toks := tk }

theorem CompEnd.intro {g2 : Heap} {C D : Addr} {Q : Value → Shared → Prop} {h' : Heap} {tk : Nat} {m' : Str → Option Value} {news' : List (Addr × Obj)} {o : Obj} (F : Fr g2 C h' m') (N : News g2 C h' ((D, o) :: news'))
    (h : ∀ h'', Fr g L h'' m → News g L h'' ((D, o) :: news') → Q (.ref D) { s with heap := h'', toks := tk }) : CompEnd g L m g2 C D s Q (.ok .next) { s with heap := h', toks := tk } :=
  ⟨rfl, _, _, _, _, _, rfl, F, N, h⟩

theorem comp_go {I : Addr} {oI : Obj} {use : Option (Value → Sem Unit)} {Q : Value → Shared → Prop} (hu : use = none) (F : Fr g L s.heap m) (N : News g L s.heap news) (X : (hd.heap_1 w.params).In g) (T : TR mg mb g)
    (hcell : ∀ y ∈ scope.names, y.2 ≠ .cell) (hkind : scope.kind = .function) 
    (hI : (I, oI) ∈ news) (hself : ∀ (s' : Shared) (Q' : Value → Shared → Prop) (E' : Value → Shared → Prop), s'.heap.get? I = some oI → Q' (.ref I) s' → wpAny (MM w) A (pyIter (.ref I)) Q' E' s')
    (h : ∀ C D g2 h₁ tk, g2 = hideAll s.heap (news.map (·.1)) → Fr g2 C h₁ (fun _ => none) → News g2 C h₁ ((D, listOf #[] 0) :: news) → (hd.heap_1 w.params).In g2 → TR mg mb g2 → (∀ p ∈ news, @LT.lt Nat _ p.1 D) → @LT.lt Nat _ D C →
      (∀ a o, g.get? a = some o → g2.get? a = some o) → g2.get? L = s.heap.get? L →
      codeAny (MM w) A (.compLoop (.ListComp elt [⟨.Name x px, iter, ifs, 0⟩] scope pos) 0 (.ref I) (.ref D) (cEnv scope cl C env)) (CompEnd g L m g2 C D s Q) { s with heap := h₁, toks := tk }) :
    wpAny (MM w) A (newList []) (fun acc s₃ => wpAny (MM w) A (newFunctionEnv scope env.globals cl [] env.qual none .none (some env)) (fun cenv s₄ =>
      codeAny (MM w) A (.compStart (.ListComp elt [⟨.Name x px, iter, ifs, 0⟩] scope pos) 0 (.ref I) acc { cenv with scope := relabel scope env }) (compPost (MM w) A E use Q acc cenv.locals) s₄) E s₃) E s := by
  subst hu
  have hg2 : ∀ a o, g.get? a = some o → (hideAll s.heap (news.map (·.1))).get? a = some o := fun a o e => hideAll_get _ (F.keep _ _ e) fun hm => by
    obtain ⟨p, hp, rfl⟩ := List.mem_map.mp hm
    rw [(N p hp).2.2] at e; cases e
  have hLn : L ∉ news.map (·.1) := fun hm => by
    obtain ⟨p, hp, e⟩ := List.mem_map.mp hm
    exact (N p hp).2.1 e
  have hL2 : (hideAll s.heap (news.map (·.1))).get? L = s.heap.get? L := by
    obtain ⟨oL, es, ep, e, r⟩ := F.ns
    rw [e]; exact hideAll_get _ e hLn
  refine wpAny_newObj_type (wpAny_newFunctionEnv hcell (by intro y hy; simp at hy) (fun h₁ hns₁ hsb₁ => ?_) hkind)
  dsimp only at hns₁ hsb₁ ⊢
  generalize hH2 : s.heap.push { cls := .type "list", dict := none, data := .seq ([] : List Value).toArray } = H2 at hns₁ hsb₁ ⊢
  have hC : H2.objs.size = s.heap.objs.size + 1 := by rw [← hH2, Heap.size_push]
  have old : ∀ b o, s.heap.get? b = some o → h₁.get? b = some o := fun b o e => hsb₁.extBut b o (by rw [hC]; exact Nat.ne_of_lt (Nat.lt_succ_of_lt (Heap.lt_size e))) (Heap.get?_push_of_some _ (hH2 ▸ Heap.get?_push_of_some _ e))
  have hDC : s.heap.objs.size ≠ H2.objs.size := by rw [hC]; exact Nat.ne_of_lt (Nat.lt_succ_self _)
  have hD : h₁.get? s.heap.objs.size = some (listOf #[] 0) := hsb₁.extBut _ _ hDC (Heap.get?_push_of_some _ (hH2 ▸ Heap.get?_push_size _ rfl))
  have fr : ∀ a, s.heap.objs.size ≤ a → (hideAll s.heap (news.map (·.1))).get? a = none := fun a ha => by
    cases e : (hideAll s.heap (news.map (·.1))).get? a with
    | none => rfl
    | some o' => exact absurd (Heap.lt_size (of_hideAll _ e)) (Nat.not_lt.mpr ha)
  have F2 : Fr (hideAll s.heap (news.map (·.1))) H2.objs.size h₁ (fun _ => none) := ⟨hns₁, fun a o e => old a o (of_hideAll _ e), by rw [hC]; exact Nat.le_trans (Nat.le_of_eq (hideAll_size _ _)) (Nat.le_succ _)⟩
  have N2 : News (hideAll s.heap (news.map (·.1))) H2.objs.size h₁ ((s.heap.objs.size, listOf #[] 0) :: news) := fun p hp => by
    rcases List.mem_cons.mp hp with rfl | hp
    · exact ⟨hD, hDC, fr _ (Nat.le_refl _)⟩
    · exact ⟨old _ _ (N p hp).1, by rw [hC]; exact Nat.ne_of_lt (Nat.lt_succ_of_lt (Heap.lt_size (N p hp).1)), hideAll_none _ (List.mem_map_of_mem hp)⟩
  have loop := h H2.objs.size s.heap.objs.size _ h₁ (s.toks + ([] : List (Str × Value)).length) rfl F2 N2 (X.keeps hg2) (T.keeps hg2) (fun p hp => Heap.lt_size (N p hp).1) (by rw [hC]; exact Nat.lt_succ_self _) hg2 hL2
  have loop' : codeAny (MM w) A (.compLoop (.ListComp elt [⟨.Name x px, iter, ifs, 0⟩] scope pos) 0 (.ref I) (.ref s.heap.objs.size) (cEnv scope cl H2.objs.size env)) (compPost (MM w) A E none Q (.ref s.heap.objs.size) H2.objs.size) { s with heap := h₁, toks := s.toks + ([] : List (Str × Value)).length } := by
    refine codeAny_mono loop fun r s' hr => ?_
    obtain ⟨rfl, h', tk, m', news', o, rfl, F', N', hq⟩ := hr
    refine ⟨m', F'.ns, fun h'' hs'' => ?_⟩
    have hCn : ∀ a, a ≠ H2.objs.size → ∀ o, h'.get? a = some o → h''.get? a = some o := fun a ha o e => hs''.extBut a o ha e
    have LC : L ≠ H2.objs.size := by
      obtain ⟨oL, es, ep, e, r⟩ := F.ns
      rw [hC]; exact Nat.ne_of_lt (Nat.lt_succ_of_lt (Heap.lt_size e))
    refine hq h'' ⟨?_, fun a o e => ?_, F.above⟩ fun p hp => ?_
    · obtain ⟨oL, es, ep, e, r⟩ := F.ns
      exact ⟨oL, es, ep, hCn _ LC _ (F'.keep _ _ (by rw [hL2]; exact e)), r⟩
    · exact hCn a (by rw [hC]; exact Nat.ne_of_lt (Nat.lt_succ_of_lt (Heap.lt_size (F.keep _ _ e)))) _ (F'.keep _ _ (hg2 a o e))
    · have n := N' p hp
      refine ⟨hCn _ n.2.1 _ n.1, fun q => ?_, ?_⟩
      · have e2 := n.2.2
        rw [q, hL2] at e2
        obtain ⟨oL, es, ep, e, r⟩ := F.ns
        rw [e] at e2; cases e2
      · cases q : g.get? p.1 with
        | none => rfl
        | some o' => rw [hg2 _ _ q] at n; cases n.2.2
  refine codeAny_compStart_list loop' (hself _ _ _ ?_ loop')
  exact old _ _ (N _ hI).1

/-- the road into a comprehension with one clause -/
theorem comp_in {Q : Value → Shared → Prop} (hclos : closureFor scope env = pure cl) (hkind : scope.kind = .function)
    (hnames : ∀ y ∈ scope.names, y.2 = .local → scope.names.lookup y.1 = some .local) (hs : ∀ x, foldedSetIterable iter env x = pure x)
    (h : wpAny (MM w) A (eval iter env) (fun xv s₁ => wpAny (MM w) A (pyIter xv) (fun it s₂ => wpAny (MM w) A (newList []) (fun acc s₃ =>
      wpAny (MM w) A (newFunctionEnv scope env.globals cl [] env.qual none .none (some env)) (fun cenv s₄ =>
        codeAny (MM w) A (.compStart (.ListComp elt [⟨.Name x px, iter, ifs, 0⟩] scope pos) 0 it acc { cenv with scope := relabel scope env }) (compPost (MM w) A E none Q acc cenv.locals) s₄) E s₃) E s₂) E s₁) E s) :
    wpAny (MM w) A (eval (.ListComp elt [⟨.Name x px, iter, ifs, 0⟩] scope pos) env) Q E s := by
  rw [eval_ListComp]
  exact wpAny_comprehension_free (use := none) rfl hs hclos hkind hnames h

theorem comp_ind0 {it acc : Value} {R : Result → Shared → Prop} {α : Type} (I : α → Shared → Prop) (mu : α → Nat) (turn : ∀ a s, I a s → ∀ K : Shared → Prop, (∀ s', Again I mu a s' → K s') → wpAny (MM w) A (pyNext it) (fun r s₁ => match r with
      | none => R (.ok .next) s₁
      | some v => wpAny (MM w) A (storeName env x v) (fun _ s₂ => wpAny (MM w) A (eval elt env) (fun y s₄ =>
              wpAny (MM w) A (call (.builtin "list.append") [acc, y]) (fun _ s₅ => K s₅) (fun _ _ => False) s₄) (fun _ _ => False) s₂) (fun _ _ => False) s₁) (fun _ _ => False) s)
    (a : α) (h : I a s) : codeAny (MM w) A (.compLoop (.ListComp elt [⟨.Name x px, iter, [], 0⟩] scope pos) 0 it acc env) R s := by
  refine codeAny_compLoop_tests (fun n s' => ∃ a, mu a = n ∧ I a s') ?_ (mu a) ⟨a, rfl, h⟩
  rintro n s' ⟨a, rfl, hI⟩
  refine wpAny_mono (turn a s' hI _ fun _ x => x) (fun r s₁ h₁ => ?_) fun _ _ x => x.elim
  cases r with
  | none => exact h₁
  | some v =>
    refine wpAny_assign_Name (wpAny_mono h₁ (fun _ s₂ h₂ => wpAny_tests_nil ?_) fun _ _ x => x.elim)
    rw [if_pos rfl]
    refine wpAny_mono h₂ (fun y s₄ h₄ => wpAny_mono h₄ (fun _ s₅ h₅ => ?_) fun _ _ x => x.elim) fun _ _ x => x.elim
    obtain ⟨a', h5, h6⟩ := h₅
    exact ⟨mu a', h5, a', rfl, h6⟩

theorem comp_ind1 {c : Expr} {it acc : Value} {R : Result → Shared → Prop} {α : Type} (I : α → Shared → Prop) (mu : α → Nat) (turn : ∀ a s, I a s → ∀ K : Shared → Prop, (∀ s', Again I mu a s' → K s') → wpAny (MM w) A (pyNext it) (fun r s₁ => match r with
      | none => R (.ok .next) s₁
      | some v => wpAny (MM w) A (storeName env x v) (fun _ s₂ => wpAny (MM w) A (isTrue c env (eval c env)) (fun ok s₃ => if ok = true then wpAny (MM w) A (eval elt env) (fun y s₄ =>
              wpAny (MM w) A (call (.builtin "list.append") [acc, y]) (fun _ s₅ => K s₅) (fun _ _ => False) s₄) (fun _ _ => False) s₃ else K s₃) (fun _ _ => False) s₂) (fun _ _ => False) s₁) (fun _ _ => False) s)
    (a : α) (h : I a s) : codeAny (MM w) A (.compLoop (.ListComp elt [⟨.Name x px, iter, [c], 0⟩] scope pos) 0 it acc env) R s := by
  refine codeAny_compLoop_tests (fun n s' => ∃ a, mu a = n ∧ I a s') ?_ (mu a) ⟨a, rfl, h⟩
  rintro n s' ⟨a, rfl, hI⟩
  refine wpAny_mono (turn a s' hI _ fun _ x => x) (fun r s₁ h₁ => ?_) fun _ _ x => x.elim
  cases r with
  | none => exact h₁
  | some v =>
    refine wpAny_assign_Name (wpAny_mono h₁ (fun _ s₂ h₂ => wpAny_tests_one (wpAny_mono h₂ (fun ok s₃ h₃ => ?_) fun _ _ x => x.elim)) fun _ _ x => x.elim)
    cases ok with
    | true =>
      rw [if_pos rfl] at h₃ ⊢
      refine wpAny_mono h₃ (fun y s₄ h₄ => wpAny_mono h₄ (fun _ s₅ h₅ => ?_) fun _ _ x => x.elim) fun _ _ x => x.elim
      obtain ⟨a', h5, h6⟩ := h₅
      exact ⟨mu a', h5, a', rfl, h6⟩
    | false =>
      rw [if_neg (by decide)] at h₃ ⊢
      obtain ⟨a', h5, h6⟩ := h₃
      exact ⟨mu a', h5, a', rfl, h6⟩
end
end Mine
-- part CName
namespace Mine
section
variable {M : Model} {A : Around} {E : Value → Shared → Prop} {s : Shared} {K : Frag} {h₀ : Heap} {C : Addr} {m mg mb : Str → Option Value} {scope : Scope} {cl : List (Str × Addr)} {env : Env} {news : List (Addr × Obj)} {p : Program} {loose : List Str}
  {x : Str} {pos : Pos} {v : Value} {c : Addr} {o : Obj} {Q : Value → Shared → Prop}
theorem storeC_L {Q : Unit → Shared → Prop} (F : Fr h₀ C s.heap m) (N : News h₀ C s.heap news) (h : ∀ h', Fr h₀ C h' (fun y => if y = x then some v else m y) → News h₀ C h' news → Q () { s with heap := h', toks := s.toks + 1 })
    (hk : scope.kind = .function := by rfl) (hx : (cEnv scope cl C env).kindOf x = some .local := by rfl) : wpAny M A (storeName (cEnv scope cl C env) x v) Q E s := by
  have hp : ((cEnv scope cl C env).scope.kind == .class || ((cEnv scope cl C env).scope.kind == .module && (cEnv scope cl C env).locals != (cEnv scope cl C env).globals)) = false := by
    show (scope.kind == .class || (scope.kind == .module && _)) = false
    rw [hk]; rfl
  exact wpAny_storeName_local hx F.ns (fun h' hn hs => h h' (F.set hn hs) (N.set hs)) hp
theorem nameC_L (F : Fr h₀ C s.heap m) (hv : m x = some v) (h : Q v s)
    (hk : scope.kind = .function := by rfl) (hx : (cEnv scope cl C env).kindOf x = some .local := by rfl) (hd : (x == ("__debug__" : Str)) = false := by decide) :
    wpAny M A (eval (.Name x pos) (cEnv scope cl C env)) Q E s := wpAny_Name (wpAny_loadName_local hk hx F.ns hv h) hd
theorem nameC_C (N : News h₀ C s.heap news) (hc : cl.lookup x = some c) (hm : (c, o) ∈ news) (hd : o.data = .cell (some v)) (h : Q v s)
    (hk : scope.kind = .function := by rfl) (hx : (cEnv scope cl C env).kindOf x = some .cell := by rfl) (hb : (x == ("__debug__" : Str)) = false := by decide) :
    wpAny M A (eval (.Name x pos) (cEnv scope cl C env)) Q E s := wpAny_Name (wpAny_loadName_cell hk hx hc ⟨o, N.get hm, hd⟩ h) hb
theorem nameC_F (N : News h₀ C s.heap news) (hc : cl.lookup x = some c) (hm : (c, o) ∈ news) (hd : o.data = .cell (some v)) (h : Q v s)
    (hk : scope.kind = .function := by rfl) (hx : (cEnv scope cl C env).kindOf x = some .free := by rfl) (hb : (x == ("__debug__" : Str)) = false := by decide) (hn : (x == ("__classdict__" : Str)) = false := by decide) :
    wpAny M A (eval (.Name x pos) (cEnv scope cl C env)) Q E s := wpAny_Name (wpAny_loadName_free hk hx hc ⟨o, N.get hm, hd⟩ h hn) hb
theorem nameC_K (F : Fr h₀ C s.heap m) (X : K.In h₀) (T : TopRead p loose mg mb h₀) (e : nsIn K mainGlobals x = some (some v)) (h : Q v s)
    (hk : scope.kind = .function := by rfl) (hx : (cEnv scope cl C env).kindOf x = some .globalImplicit := by rfl) (hg : env.globals = mainGlobals := by rfl) (hd : (x == ("__debug__" : Str)) = false := by decide) :
    wpAny M A (eval (.Name x pos) (cEnv scope cl C env)) Q E s := Name_function_global hk hx (loadGlobal_global (env := cEnv scope cl C env) (by rw [show (cEnv scope cl C env).globals = mainGlobals from hg]; exact T.g.keeps F.keep) (mg_of X T.g e) h) hd
theorem nameC_B (F : Fr h₀ C s.heap m) (X : K.In h₀) (T : TopRead p loose mg mb h₀) (e : nsIn K mainGlobals x = some none) (hv : bootBuiltins x = some v) (hn : x ≠ "__name__") (h : Q v s)
    (hk : scope.kind = .function := by rfl) (hx : (cEnv scope cl C env).kindOf x = some .globalImplicit := by rfl) (hg : env.globals = mainGlobals := by rfl) (hb : env.builtins = builtinsNs := by rfl) (hd : (x == ("__debug__" : Str)) = false := by decide) :
    wpAny M A (eval (.Name x pos) (cEnv scope cl C env)) Q E s :=
  Name_function_global hk hx (loadGlobal_builtin (env := cEnv scope cl C env) (by rw [show (cEnv scope cl C env).globals = mainGlobals from hg]; exact T.g.keeps F.keep) (mg_none_of X T.g e) (by rw [show (cEnv scope cl C env).builtins = builtinsNs from hb]; exact T.b.keeps F.keep) ((T.builtins x hn).trans hv) h) hd
end
end Mine
-- part Help
namespace Mine
theorem strs_push {ys : Array Value} {l : List Str} {x : Str} {t : Tok} (h : StrsAre ys.toList l) : StrsAre (ys.push (.str x t)).toList (l ++ [x]) := by
  rw [Array.toList_push]; exact h.append' (.cons x t .nil)
theorem ints_push {ys : Array Value} {l : List Int} {x : Int} {t : Tok} (h : IntsAre ys.toList l) : IntsAre (ys.push (.int x t)).toList (l ++ [x]) := by
  rw [Array.toList_push]; exact h.append (.cons x t .nil)
theorem take_map_succ {α β : Type} {l : List α} {f : α → β} {i : Nat} (h : i < l.length) : (l.take (i + 1)).map f = (l.take i).map f ++ [f l[i]] := by
  rw [List.take_add_one, List.getElem?_eq_getElem h, List.map_append]; rfl
theorem strs_next {α : Type} {l : List α} {f : α → Str} {i : Nat} {ys : Array Value} {x : Str} {t : Tok} (h : StrsAre ys.toList ((l.take i).map f)) (hi : i < l.length) (e : f l[i] = x) : StrsAre (ys.push (.str x t)).toList ((l.take (i + 1)).map f) := by
  rw [take_map_succ hi, e]; exact strs_push h
theorem ints_next {α : Type} {l : List α} {f : α → Int} {i : Nat} {ys : Array Value} {x : Int} {t : Tok} (h : IntsAre ys.toList ((l.take i).map f)) (hi : i < l.length) (e : f l[i] = x) : IntsAre (ys.push (.int x t)).toList ((l.take (i + 1)).map f) := by
  rw [take_map_succ hi, e]; exact ints_push h
theorem take_all {α : Type} {l : List α} {i : Nat} (h : l.length ≤ i) : l.take i = l := List.take_of_length_le h
theorem ints_at {vs : List Value} {ns : List Int} (h : IntsAre vs ns) {i : Nat} (hi : i < vs.length) (hn : i < ns.length) : ∃ t, vs[i] = .int ns[i] t := by
  obtain ⟨t, ht⟩ := h.get i ns[i] (by simp)
  exact ⟨t, by simpa [hi] using ht⟩
theorem news_swap {h₀ h : Heap} {L : Addr} {a b : Addr × Obj} {l : List (Addr × Obj)} (N : News h₀ L h (a :: b :: l)) : News h₀ L h (b :: a :: l) := fun p hp => N p ((List.Perm.swap _ _ _).mem_iff.mp hp)
def dressL : List Str := ["&amp;", "&lt;", "&gt;", "&quot;", "&#13;", "&#10;", "&#09;"].map Str.ofString
def dress (first k : Int) : Str := dressL.getD ((first + k).fmod 7).toNat ⟨#[]⟩
end Mine
-- part EscP
namespace Mine

open StrLaws in
theorem fl_join (c : Nat) (z : Str) : ∀ parts : List Str, (∀ p ∈ parts, c ∉ p.cps.toList) → (Str.join ⟨#[c]⟩ parts).cps.toList.flatMap (fun k => if k = c then z.cps.toList else [k]) = (Str.join z parts).cps.toList := by
  have free : ∀ l : List Nat, c ∉ l → l.flatMap (fun k => if k = c then z.cps.toList else [k]) = l := by
    intro l hl
    induction l with
    | nil => rfl
    | cons k r ih =>
      rw [List.flatMap_cons, if_neg (show ¬ k = c from fun e => hl (by rw [e]; exact List.mem_cons_self ..)), ih fun m => hl (List.mem_cons_of_mem _ m)]; rfl
  intro parts
  induction parts with
  | nil => intro _; rfl
  | cons p r ih =>
    intro h
    cases r with
    | nil => exact free _ (h p (List.mem_singleton.mpr rfl))
    | cons q r =>
      have ih := ih fun a ha => h a (List.mem_cons_of_mem _ ha)
      show (p ++ ⟨#[c]⟩ ++ Str.join ⟨#[c]⟩ (q :: r)).cps.toList.flatMap _ = (p ++ z ++ Str.join z (q :: r)).cps.toList
      simp only [Str.cps_append, Array.toList_append, List.flatMap_append]
      rw [ih, free _ (h p (List.mem_cons_self ..))]
      simp
theorem rep_flat (x z : Str) (c : Nat) : (Txt.replace x ⟨#[c]⟩ z).cps.toList = x.cps.toList.flatMap (fun k => if k = c then z.cps.toList else [k]) := by
  rw [StrLaws.replace_one, ← fl_join c z _ (StrLaws.split_free x c), StrLaws.join_split]

def reps : List (Str × Str) := [(Str.ofString "&", Str.ofString "&amp;"), (Str.ofString "<", Str.ofString "&lt;"), (Str.ofString ">", Str.ofString "&gt;"), (Str.ofString "\"", Str.ofString "&quot;"), (Str.ofString "\r", Str.ofString "&#13;"), (Str.ofString "\n", Str.ofString "&#10;"), (Str.ofString "\t", Str.ofString "&#09;")]
def escN (n : Nat) (x : Str) : Str := (reps.take n).foldl (fun x p => Txt.replace x p.1 p.2) x
def repsN : List (Nat × List Nat) := [(38, [38,97,109,112,59]), (60, [38,108,116,59]), (62, [38,103,116,59]), (34, [38,113,117,111,116,59]), (13, [38,35,49,51,59]), (10, [38,35,49,48,59]), (9, [38,35,48,57,59])]
def escC (n : Nat) (l : List Nat) : List Nat := (repsN.take n).foldl (fun l p => l.flatMap fun k => if k = p.1 then p.2 else [k]) l
theorem reps_eq : reps = repsN.map fun p => (⟨#[p.1]⟩, ⟨p.2.toArray⟩) := by decide +kernel
theorem fold_eq : ∀ (ps : List (Nat × List Nat)) (x : Str), ((ps.map fun p => ((⟨#[p.1]⟩ : Str), (⟨p.2.toArray⟩ : Str))).foldl (fun x p => Txt.replace x p.1 p.2) x).cps.toList = ps.foldl (fun l p => l.flatMap fun k => if k = p.1 then p.2 else [k]) x.cps.toList
  | [], x => rfl
  | p :: ps, x => by
    rw [List.map_cons, List.foldl_cons, fold_eq ps, List.foldl_cons, rep_flat]
theorem escN_list (n : Nat) (x : Str) : (escN n x).cps.toList = escC n x.cps.toList := by
  unfold escN escC
  rw [reps_eq, ← List.map_take, fold_eq]
theorem fold_flat : ∀ (ps : List (Nat × List Nat)) (l : List Nat), ps.foldl (fun l p => l.flatMap fun k => if k = p.1 then p.2 else [k]) l = l.flatMap fun k => ps.foldl (fun l p => l.flatMap fun k => if k = p.1 then p.2 else [k]) [k]
  | [], l => by simp
  | p :: ps, l => by
    rw [List.foldl_cons, fold_flat ps, List.flatMap_assoc]
    congr 1
    funext k
    rw [List.foldl_cons, fold_flat ps (List.flatMap _ [k])]
    simp
theorem escC_flat (n : Nat) (l : List Nat) : escC n l = l.flatMap fun k => escC n [k] := fold_flat _ l
abbrev Signy (l : List Nat) : Prop := ∀ c ∈ l, c ∈ [38, 60, 62, 34, 13, 10, 9, 32]
theorem escC_len1 : ∀ n, n ≤ 7 → ∀ c ∈ [38, 60, 62, 34, 13, 10, 9, 32], (escC n [c]).length ≤ 6 := by decide +kernel
theorem escN_len {n : Nat} {x : Str} (hn : n ≤ 7) (hx : x.length ≤ 100) (hs : Signy x.cps.toList) : (escN n x).length ≤ 600 := by
  have e : (escN n x).length = (escN n x).cps.toList.length := by simp [Str.length]
  have e2 : x.length = x.cps.toList.length := by simp [Str.length]
  rw [e, escN_list, escC_flat]
  rw [e2] at hx
  generalize x.cps.toList = l at hs hx
  have : (l.flatMap fun k => escC n [k]).length ≤ l.length * 6 := by
    clear hx e e2
    induction l with
    | nil => simp
    | cons k r ih =>
      rw [List.flatMap_cons, List.length_append, List.length_cons]
      have h1 := escC_len1 n hn k (hs k (List.mem_cons_self ..))
      have h2 := ih fun c hc => hs c (List.mem_cons_of_mem _ hc)
      omega
  omega
end Mine
-- part Esc
namespace Mine
theorem freshEsc : True := by w_top off; trivial

def StopIf : Prop := True
def Marked (p : Prop) : Prop := p
theorem mark_if {M : Model} {A : Around} {st : Stmt} {env : Env} {Q : Flow → Shared → Prop} {E : Value → Shared → Prop} {s : Shared} (_f : StopIf) (h : Marked (wpAny M A (exec st env) Q E s)) : wpAny M A (exec st env) Q E s := h
def Hold (n : Nat) (s : Shared) (p : Prop) : Prop := n ≤ s.toks → p
theorem cut_if {M : Model} {A : Around} {test : Expr} {body orelse : List Stmt} {pos : Pos} {env : Env} {Q : Flow → Shared → Prop} {E : Value → Shared → Prop} {s : Shared} {n : Nat} (P : Shared → Prop) (hn : n ≤ s.toks)
    (h1 : wpAny M A (isTrue test env (eval test env)) (fun b s₁ => Hold n s₁ (if b = true then wpAny M A (execs body env) (fun fl s' => fl = .next ∧ P s') E s₁ else wpAny M A (execs orelse env) (fun fl s' => fl = .next ∧ P s') E s₁)) E s)
    (h2 : ∀ s', n ≤ s'.toks → P s' → Q .next s') : Marked (wpAny M A (exec (.If test body orelse pos) env) Q E s) := by
  refine wpAny_If (wpAny_with_toks hn (wpAny_mono h1 (fun b s₁ h hk => ?_) fun _ _ e _ => e))
  have h' := h hk
  cases b with
  | true =>
    rw [if_pos rfl] at h' ⊢
    exact wpAny_with_toks hk (wpAny_mono h' (fun fl s' ⟨e, hp⟩ hk' => e ▸ h2 s' hk' hp) fun _ _ e _ => e)
  | false =>
    rw [if_neg (by decide)] at h' ⊢
    exact wpAny_with_toks hk (wpAny_mono h' (fun fl s' ⟨e, hp⟩ hk' => e ▸ h2 s' hk' hp) fun _ _ e _ => e)
local macro_rules | `(tactic| walk_at "exec If") => `(tactic| (k_dflt (refine mark_if (by assumption) ?_)))
theorem fr_map {g h : Heap} {L : Addr} {m m' : Str → Option Value} (F : Fr g L h m) (e : ∀ y, m y = m' y) : Fr g L h m' := (funext e : m = m') ▸ F
abbrev TX (v : Str) (t : Tok) : Str → Option Value := fun y => if y = Str.ofString "text" then some (.str v t) else none
theorem str_ext {x y : Str} (h : x.cps.toList = y.cps.toList) : x = y := by
  obtain ⟨x⟩ := x; obtain ⟨y⟩ := y; congr 1; exact Array.toList_inj.mp h
theorem esc_no {x y z : Str} {c : Nat} (hy : y = ⟨#[c]⟩) (h : (Builtin.Str.occurrences x y 0 x.length 1).isEmpty = true) : Txt.replace x y z = x := by
  subst hy
  have h1 := StrLaws.found_one x c
  rw [h] at h1
  have h2 : c ∉ x.cps.toList := by simpa using h1
  refine str_ext ?_
  rw [rep_flat]
  generalize x.cps.toList = l at h2
  clear h h1
  induction l with
  | nil => rfl
  | cons k r ih =>
    rw [List.flatMap_cons, if_neg (show ¬ k = c from fun e => h2 (by rw [e]; exact List.mem_cons_self ..)), ih fun m => h2 (List.mem_cons_of_mem _ m)]; rfl
structure EscAt (s : Shared) (g : Heap) (L : Addr) (v : Str) (s' : Shared) : Prop where
  h : ∃ h' tk t', s' = { s with heap := h', toks := tk } ∧ Fr g L h' (TX v t')
section
variable {w : World} {mg mb : Str → Option Value} {A : Around} {s : Shared} {b : Heap} {Q E : Value → Shared → Prop} {R : Result → Shared → Prop}
theorem esc {x : Str} {t : Tok}
    (G : Gd w mg mb b s.heap) (hd : A.depth < recursionLimit) (hx : x.length ≤ 100) (hs : Signy x.cps.toList)
    (hret : ∀ h' tk t', Chg [] s.heap h' → Q (.str (escN 7 x) t') { s with heap := h', toks := tk }) :
    wpAny (MM w) A (call (.ref 256) [.str x t]) Q E s := by
  have X := G.K
  have hl : Led b s.heap [] := Led.nil
  refine wpAny_call ?_
  k_dflt (refine' enter (binds := [(Str.ofString "text", .str x t)]) G hl ?k6 ?k7 (by omega) ?k9 ?kB ?c5 ?_ ?c2 ?c3 ?c4; ktn_open)
  clear X
  intro g L h₁ hg F N X T lt
  try dsimp only
  have stop : StopIf := trivial
  k_steps
  refine wpAny_Try_except ?_
  replace F : Fr g L h₁ (TX (escN 0 x) t) := fr_map F (by
    intro y
    show List.lookup y [(Str.ofString "text", Value.str x t)] = _
    rw [List.lookup_cons]
    by_cases e : y = Str.ofString "text"
    · rw [show (y == Str.ofString "text") = true from by simp [e]]
      simp [TX, e, escN]
    · rw [show (y == Str.ofString "text") = false from by simp [e]]
      simp [TX, e])
  have htk : 1 ≤ s.toks + [(Str.ofString "text", Value.str x t)].length := by simp
  generalize (s.toks + _ : Nat) = tk0 at htk ⊢
  k_steps
  have e0 : escN 1 x = Txt.replace (escN 0 x) (Str.ofString "&") (Str.ofString "&amp;") := rfl
  refine cut_if (n := 1) (EscAt s g L (escN 1 x)) htk ?_ ?_
  · clear stop
    k_steps
    intro hk
    dsimp only at hk ⊢
    generalize (tk0 + 1 : Nat) = tk1 at hk ⊢
    k_steps
    · rename (Builtin.Str.occurrences _ _ _ _ _).isEmpty = true => ho
      exact ⟨_, _, _, rfl, by rw [e0, esc_no (c := 38) (by decide +kernel) ho]; exact F⟩
    · refine SC.replaceW (by show @Ne Nat _ _; omega) (by show @Ne Nat _ _; omega) (by show @Ne Nat _ _; omega) (by decide) (Nat.le_trans (escN_len (n := 0) (by decide) hx hs) (by decide)) (by decide) ?_
      intro t5 k5
      k_steps
      rename Fr g L _ _ => F5
      exact ⟨_, _, t5, rfl, fr_map F5 (by intro y; by_cases e : y = Str.ofString "text" <;> simp only [TX, e, if_true, if_false, e0])⟩
  clear F htk
  rintro s' htk ⟨h', tk0, t', rfl, F⟩
  dsimp only at htk ⊢
  have N : News g L h' [] := fun _ h => nomatch h
  k_steps
  have e1 : escN 2 x = Txt.replace (escN 1 x) (Str.ofString "<") (Str.ofString "&lt;") := rfl
  refine cut_if (n := 1) (EscAt s g L (escN 2 x)) htk ?_ ?_
  · clear stop
    k_steps
    intro hk
    dsimp only at hk ⊢
    generalize (tk0 + 1 : Nat) = tk1 at hk ⊢
    k_steps
    · rename (Builtin.Str.occurrences _ _ _ _ _).isEmpty = true => ho
      exact ⟨_, _, _, rfl, by rw [e1, esc_no (c := 60) (by decide +kernel) ho]; exact F⟩
    · refine SC.replaceW (by show @Ne Nat _ _; omega) (by show @Ne Nat _ _; omega) (by show @Ne Nat _ _; omega) (by decide) (Nat.le_trans (escN_len (n := 1) (by decide) hx hs) (by decide)) (by decide) ?_
      intro t5 k5
      k_steps
      rename Fr g L _ _ => F5
      exact ⟨_, _, t5, rfl, fr_map F5 (by intro y; by_cases e : y = Str.ofString "text" <;> simp only [TX, e, if_true, if_false, e1])⟩
  clear F htk
  rintro s' htk ⟨h', tk0, t', rfl, F⟩
  dsimp only at htk ⊢
  have N : News g L h' [] := fun _ h => nomatch h
  k_steps
  have e2 : escN 3 x = Txt.replace (escN 2 x) (Str.ofString ">") (Str.ofString "&gt;") := rfl
  refine cut_if (n := 1) (EscAt s g L (escN 3 x)) htk ?_ ?_
  · clear stop
    k_steps
    intro hk
    dsimp only at hk ⊢
    generalize (tk0 + 1 : Nat) = tk1 at hk ⊢
    k_steps
    · rename (Builtin.Str.occurrences _ _ _ _ _).isEmpty = true => ho
      exact ⟨_, _, _, rfl, by rw [e2, esc_no (c := 62) (by decide +kernel) ho]; exact F⟩
    · refine SC.replaceW (by show @Ne Nat _ _; omega) (by show @Ne Nat _ _; omega) (by show @Ne Nat _ _; omega) (by decide) (Nat.le_trans (escN_len (n := 2) (by decide) hx hs) (by decide)) (by decide) ?_
      intro t5 k5
      k_steps
      rename Fr g L _ _ => F5
      exact ⟨_, _, t5, rfl, fr_map F5 (by intro y; by_cases e : y = Str.ofString "text" <;> simp only [TX, e, if_true, if_false, e2])⟩
  clear F htk
  rintro s' htk ⟨h', tk0, t', rfl, F⟩
  dsimp only at htk ⊢
  have N : News g L h' [] := fun _ h => nomatch h
  k_steps
  have e3 : escN 4 x = Txt.replace (escN 3 x) (Str.ofString "\"") (Str.ofString "&quot;") := rfl
  refine cut_if (n := 1) (EscAt s g L (escN 4 x)) htk ?_ ?_
  · clear stop
    k_steps
    intro hk
    dsimp only at hk ⊢
    generalize (tk0 + 1 : Nat) = tk1 at hk ⊢
    k_steps
    · rename (Builtin.Str.occurrences _ _ _ _ _).isEmpty = true => ho
      exact ⟨_, _, _, rfl, by rw [e3, esc_no (c := 34) (by decide +kernel) ho]; exact F⟩
    · refine SC.replaceW (by show @Ne Nat _ _; omega) (by show @Ne Nat _ _; omega) (by show @Ne Nat _ _; omega) (by decide) (Nat.le_trans (escN_len (n := 3) (by decide) hx hs) (by decide)) (by decide) ?_
      intro t5 k5
      k_steps
      rename Fr g L _ _ => F5
      exact ⟨_, _, t5, rfl, fr_map F5 (by intro y; by_cases e : y = Str.ofString "text" <;> simp only [TX, e, if_true, if_false, e3])⟩
  clear F htk
  rintro s' htk ⟨h', tk0, t', rfl, F⟩
  dsimp only at htk ⊢
  have N : News g L h' [] := fun _ h => nomatch h
  k_steps
  have e4 : escN 5 x = Txt.replace (escN 4 x) (Str.ofString "\r") (Str.ofString "&#13;") := rfl
  refine cut_if (n := 1) (EscAt s g L (escN 5 x)) htk ?_ ?_
  · clear stop
    k_steps
    intro hk
    dsimp only at hk ⊢
    generalize (tk0 + 1 : Nat) = tk1 at hk ⊢
    k_steps
    · rename (Builtin.Str.occurrences _ _ _ _ _).isEmpty = true => ho
      exact ⟨_, _, _, rfl, by rw [e4, esc_no (c := 13) (by decide +kernel) ho]; exact F⟩
    · refine SC.replaceW (by show @Ne Nat _ _; omega) (by show @Ne Nat _ _; omega) (by show @Ne Nat _ _; omega) (by decide) (Nat.le_trans (escN_len (n := 4) (by decide) hx hs) (by decide)) (by decide) ?_
      intro t5 k5
      k_steps
      rename Fr g L _ _ => F5
      exact ⟨_, _, t5, rfl, fr_map F5 (by intro y; by_cases e : y = Str.ofString "text" <;> simp only [TX, e, if_true, if_false, e4])⟩
  clear F htk
  rintro s' htk ⟨h', tk0, t', rfl, F⟩
  dsimp only at htk ⊢
  have N : News g L h' [] := fun _ h => nomatch h
  k_steps
  have e5 : escN 6 x = Txt.replace (escN 5 x) (Str.ofString "\n") (Str.ofString "&#10;") := rfl
  refine cut_if (n := 1) (EscAt s g L (escN 6 x)) htk ?_ ?_
  · clear stop
    k_steps
    intro hk
    dsimp only at hk ⊢
    generalize (tk0 + 1 : Nat) = tk1 at hk ⊢
    k_steps
    · rename (Builtin.Str.occurrences _ _ _ _ _).isEmpty = true => ho
      exact ⟨_, _, _, rfl, by rw [e5, esc_no (c := 10) (by decide +kernel) ho]; exact F⟩
    · refine SC.replaceW (by show @Ne Nat _ _; omega) (by show @Ne Nat _ _; omega) (by show @Ne Nat _ _; omega) (by decide) (Nat.le_trans (escN_len (n := 5) (by decide) hx hs) (by decide)) (by decide) ?_
      intro t5 k5
      k_steps
      rename Fr g L _ _ => F5
      exact ⟨_, _, t5, rfl, fr_map F5 (by intro y; by_cases e : y = Str.ofString "text" <;> simp only [TX, e, if_true, if_false, e5])⟩
  clear F htk
  rintro s' htk ⟨h', tk0, t', rfl, F⟩
  dsimp only at htk ⊢
  have N : News g L h' [] := fun _ h => nomatch h
  k_steps
  have e6 : escN 7 x = Txt.replace (escN 6 x) (Str.ofString "\t") (Str.ofString "&#09;") := rfl
  refine cut_if (n := 1) (EscAt s g L (escN 7 x)) htk ?_ ?_
  · clear stop
    k_steps
    intro hk
    dsimp only at hk ⊢
    generalize (tk0 + 1 : Nat) = tk1 at hk ⊢
    k_steps
    · rename (Builtin.Str.occurrences _ _ _ _ _).isEmpty = true => ho
      exact ⟨_, _, _, rfl, by rw [e6, esc_no (c := 9) (by decide +kernel) ho]; exact F⟩
    · refine SC.replaceW (by show @Ne Nat _ _; omega) (by show @Ne Nat _ _; omega) (by show @Ne Nat _ _; omega) (by decide) (Nat.le_trans (escN_len (n := 6) (by decide) hx hs) (by decide)) (by decide) ?_
      intro t5 k5
      k_steps
      rename Fr g L _ _ => F5
      exact ⟨_, _, t5, rfl, fr_map F5 (by intro y; by_cases e : y = Str.ofString "text" <;> simp only [TX, e, if_true, if_false, e6])⟩
  clear F htk
  rintro s' htk ⟨h', tk0, t', rfl, F⟩
  dsimp only at htk ⊢
  have N : News g L h' [] := fun _ h => nomatch h
  k_steps
  rw [hg] at F
  exact hret _ _ _ (chg_of F)
end
end Mine
-- part Lex
namespace Mine
theorem freshLex : True := by w_top off; trivial



structure LexT where
  (h1 h2 h3 h4 : Int) (k1 k2 k3 k4 t1 t2 : Tok)
abbrev lexI (dx : Addr) : Obj := ⟨.ref 238, some dx, .plain, #[]⟩
abbrev lexD (q : LexT) (ln : Int) (inst : Value) (p : Addr) : Obj := dictOf [⟨q.h1, .str (Str.ofString "lineno") q.k1, .int ln q.t1⟩, ⟨q.h2, .str (Str.ofString "instream") q.k2, inst⟩, ⟨q.h3, .str (Str.ofString "whitespace") q.k3, .str (Str.ofString "\n\t\r ") q.t2⟩, ⟨q.h4, .str (Str.ofString "pushback") q.k4, .ref p⟩] 4

section
variable {w : World} {mg mb : Str → Option Value} {A : Around} {s : Shared} {b : Heap} {Q E : Value → Shared → Prop}

theorem push_token {x dx p : Addr} {q : LexT} {ln : Int} {inst v : Value} {its : Array Value} {n : Nat}
    (G : Gd w mg mb b s.heap) (hd : A.depth < recursionLimit) (hl : Led b s.heap [(x, lexI dx), (dx, lexD q ln inst p), (p, listOf its n)]) (hsz : its.size ≤ 1000) (e1 : x ≠ dx) (e2 : x ≠ p) (e3 : dx ≠ p)
    (hret : ∀ h' tk, Chg [p] s.heap h' → h'.get? p = some (listOf (its.push v) (n + 1)) → Q .none { s with heap := h', toks := tk }) :
    wpAny (MM w) A (call (.ref 235) [.ref x, v]) Q E s := by
  have X := G.K
  refine wpAny_call ?_
  k_dflt (refine' enter (binds := [(Str.ofString "self", .ref x), (Str.ofString "token", v)]) G hl ?k6 ?k7 hd ?k9 ?kB ?c5 ?_ ?c2 ?c3 ?c4; ktn_open)
  clear X
  intro g L h₁ hg F N X T lt
  dsimp only
  k_steps
  subst hg
  exact hret _ _ (chg_less (chg_of (by assumption)) (by ktr_rel)) (News.get (by assumption) (by k_mem))
end
end Mine
-- part Lex2
namespace Mine
local macro_rules | `(tactic| walk_at "zz zz") => `(tactic| fail "pad")
theorem freshLex2 : True := by w_top off; trivial
section
variable {w : World} {mg mb : Str → Option Value} {A : Around} {s : Shared} {b : Heap} {Q E : Value → Shared → Prop}

theorem get_token1 {x dx p : Addr} {q : LexT} {ln : Int} {inst v : Value} {its : List Value} {n : Nat}
    (G : Gd w mg mb b s.heap) (hd : A.depth < recursionLimit) (hl : Led b s.heap [(x, lexI dx), (dx, lexD q ln inst p), (p, listOf (v :: its).toArray n)]) (hsz : its.length ≤ 1000) (e1 : x ≠ dx) (e2 : x ≠ p) (e3 : dx ≠ p)
    (hret : ∀ h' tk, Chg [p] s.heap h' → h'.get? p = some (listOf its.toArray (n + 1)) → Q v { s with heap := h', toks := tk }) :
    wpAny (MM w) A (call (.ref 228) [.ref x]) Q E s := by
  have X := G.K
  refine wpAny_call ?_
  k_dflt (refine' enter (binds := [(Str.ofString "self", .ref x)]) G hl ?k6 ?k7 hd ?k9 ?kB ?c5 ?_ ?c2 ?c3 ?c4; ktn_open)
  clear X
  intro g L h₁ hg F N X T lt
  dsimp only
  k_steps
  refine wpAny_truthy_list (items := (v :: its).toArray) ⟨_, News.get (by assumption) (by k_mem), rfl, _, rfl⟩ (by simp; omega) ?_
  rw [if_pos (by simp)]
  k_steps
  refine' kl_popAt (its := (v :: its).toArray) (k := 0) (p := []) (q := its) (y := v) (by assumption) (by assumption) rfl ?hk rfl ?U ?z ?_
  case hk => simp [seqIndex?]; try omega
  case U => k_upd
  case z => (simp [sizeLine_eq]; omega)
  intro h' F' N'
  subst hg
  exact hret _ _ (chg_less (chg_of (by assumption)) (by ktr_rel)) (News.get (by assumption) (by k_mem))
end
end Mine
-- part CallIt
namespace Mine
theorem slot_ci_iter : Slot "callable_iterator" "__iter__" "callable_iterator.__iter__" :=
  .of (owner := "callable_iterator") (n := "__iter__") (by rw [typeLookup_type, builtinLookup_eq_fast]; kernel_rfl) (by decide +kernel) (by decide +kernel) (by decide +kernel)
    (by first | exact .inl (by decide +kernel) | exact .inr (by decide +kernel)) (by rw [isSubtype_type]; kernel_rfl)
theorem entry_ci_iter : entryFor table "callable_iterator.__iter__" = some Builtin.«dict_keyiterator.__iter__» := entryFor_alias (id' := "dict_keyiterator.__iter__") (by rw [fastTable_eq_tree]; kernel_rfl) (by decide +kernel) (by decide +kernel) (by rw [fastTable_eq_tree]; kernel_rfl)
theorem args_ci_iter (a : Value) : argsOk "callable_iterator.__iter__" ⟨[a], []⟩ := by unfold argsOk; kernel_rfl
theorem slot_ci_next : Slot "callable_iterator" "__next__" "callable_iterator.__next__" :=
  .of (owner := "callable_iterator") (n := "__next__") (by rw [typeLookup_type, builtinLookup_eq_fast]; kernel_rfl) (by decide +kernel) (by decide +kernel) (by decide +kernel)
    (by first | exact .inl (by decide +kernel) | exact .inr (by decide +kernel)) (by rw [isSubtype_type]; kernel_rfl)
theorem entry_ci_next : entryFor table "callable_iterator.__next__" = some Builtin.«callable_iterator.__next__» := entryFor_of_tree (by kernel_rfl)
theorem args_ci_next (a : Value) : argsOk "callable_iterator.__next__" ⟨[a], []⟩ := by unfold argsOk; kernel_rfl
theorem slot_meth_call : typeLookup (.type "method") "__call__" = pure (some (.builtin "method.__call__")) := by rw [typeLookup_type, builtinLookup_eq_fast]; kernel_rfl
theorem entry_iter : entryFor table "iter" = some Builtin.«iter» := entryFor_of_tree (by kernel_rfl)
theorem args_iter (a b : Value) : argsOk "iter" ⟨[a, b], []⟩ := by unfold argsOk; kernel_rfl
theorem kind_iter : builtinKind "iter" = none := by decide +kernel
theorem plain_iter : plainId "iter" = true := by decide +kernel

abbrev ciObj (q : Addr) (sent : Value) : Obj := { cls := .type "callable_iterator", data := .fields #[.ref q, sent, .bool false] }
section
variable {prog : Program} {w : World} {A : Around} {s : Shared} {E : Value → Shared → Prop}

theorem iter2 {q : Addr} {f self sent : Value} {Q : Value → Shared → Prop} (hq : s.heap.get? q = some (methodObj f self))
    (h : Q (.ref s.heap.objs.size) { s with heap := s.heap.push (ciObj q sent) }) : wpAny (model prog w) A (call (.builtin "iter") [.ref q, sent]) Q E s := by
  refine call_function_entry kind_iter plain_iter entry_iter (args_iter _ _) ?_
  unfold Builtin.«iter»
  show wpAny _ _ (specialOf (.ref q) "__call__" >>= _) _ _ s
  refine wpAny_bind (wpAny_specialOf (T := "method") ⟨_, hq, rfl⟩ slot_meth_call ?_)
  show wpAny _ _ (rule "iter.sentinel" >>= _) _ _ s
  refine wpAny_bind (wpAny_rule (wpAny_bind ?_))
  exact wpAny_newObj_type (wpAny_pure ⟨_, rfl, h⟩) (by size_fits)

theorem pyIter_ci {I q : Addr} {sent : Value} {Q : Value → Shared → Prop} (hI : s.heap.get? I = some (ciObj q sent)) (h : Q (.ref I) s) : wpAny (model prog w) A (pyIter (.ref I)) Q E s := by
  have hT : s.TypeIs (.ref I) "callable_iterator" := ⟨_, hI, rfl⟩
  refine wpAny_pyIter_slot hT slot_ci_iter (wpAny_call_entry slot_ci_iter hT entry_ci_iter ?_ (args_ci_iter _))
  show wpAny _ _ (ret (.ref I)) _ _ s
  exact wpAny_pure ⟨_, rfl, "callable_iterator", _, hT, slot_ci_next.lookup, h⟩

theorem callBorrowed_of {f : Value} {pos : List Value} {Q : Value → Shared → Prop}
    (hc : codeAny (model prog w) A (.call f ⟨pos, []⟩) (fun r s' => match r with | .ok (.ret v) => Q v s' | .ok _ => False | .error e => E e s') s) : wpAny (model prog w) A (callBorrowed f pos) Q E s := by
  unfold callBorrowed
  refine PySem.W.X.x_call (hd := none) ?_ (by intro h; cases h)
  refine codeAny_mono hc fun r s' h => ?_
  cases r with
  | error e => exact wpAny_throw h
  | ok fl =>
    cases fl with
    | ret v => exact wpAny_pure h
    | next => exact h.elim
    | brk => exact h.elim
    | cont => exact h.elim

theorem pyNext_ci {I q f : Addr} {self : Value} {fd : FuncData} {fo : Obj} {sn : Str} {tn : Tok} {Q : Option Value → Shared → Prop} (hI : s.heap.get? I = some (ciObj q (.str sn tn))) (hq : s.heap.get? q = some (methodObj (.ref f) self))
    (hf : s.heap.get? f = some fo) (hfd : fo.data = .func fd)
    (h : codeAny (model prog w) A.in1 (.call (.ref f) ⟨[self], []⟩) (fun r s' => ∃ x t, r = .ok (.ret (.str x t)) ∧ x ≠ sn ∧ s'.heap.get? I = some (ciObj q (.str sn tn)) ∧ Q (some (.str x t)) s') s) :
    wpAny (model prog w) A (pyNext (.ref I)) Q E s := by
  have hT : s.TypeIs (.ref I) "callable_iterator" := ⟨_, hI, rfl⟩
  unfold pyNext
  refine wpAny_bind (wpAny_attempt (wpAny_callSpecial?_slot (name := Str.ofString "__next__") hT slot_ci_next (wpAny_call_entry slot_ci_next hT entry_ci_next ?_ (args_ci_next _))))
  show wpAny _ _ (field (.ref I) 2 >>= _) _ _ s
  refine wpAny_bind (wpAny_field hI rfl (x := .bool false) rfl ?_)
  rw [if_neg (by decide)]
  show wpAny _ _ (field (.ref I) 0 >>= _) _ _ s
  refine wpAny_bind (wpAny_field hI rfl (x := .ref q) rfl ?_)
  refine wpAny_bind (wpAny_attempt ?_)
  unfold callOutOfASlot
  have hb : ∀ (Q' : Bool → Shared → Prop) (E' : Value → Shared → Prop), Q' true s → wpAny (model prog w) A.in1 (borrowsExactly (.ref q)) Q' E' s := by
    intro Q' E' hQ
    unfold borrowsExactly
    refine wpAny_bind (wpAny_load hq ?_)
    show wpAny _ _ (do
      match (← load f).data with
      | .func _ => pure true
      | _ => pure false) _ _ s
    refine wpAny_bind (wpAny_load hf ?_)
    rw [hfd]
    exact wpAny_pure hQ
  refine wpAny_bind (hb _ _ ?_)
  rw [if_pos rfl]
  refine callBorrowed_of (method_call hq (codeAny_mono h ?_))
  rintro r s' ⟨x, t, rfl, hx, hI', hQ⟩
  show wpAny _ _ (field (.ref I) 2 >>= _) _ _ s'
  refine wpAny_bind (wpAny_field hI' rfl (x := .bool false) rfl ?_)
  rw [if_neg (by decide)]
  refine wpAny_bind (wpAny_field hI' rfl (x := .str sn tn) rfl ?_)
  refine wpAny_bind (wpAny_holding (wpAny_eqBool_str ?_))
  rw [decide_eq_false (Ne.symm hx)]
  exact wpAny_pure ⟨.str x t, rfl, wpAny_pure hQ⟩
end
end Mine
-- part Lex3
namespace Mine
theorem freshLex3 : True := by w_top off; trivial
section
variable {w : World} {mg mb : Str → Option Value} {A : Around} {s : Shared} {b : Heap} {Q E : Value → Shared → Prop} {R : Result → Shared → Prop}

theorem lex_init {x dx : Addr} {fp : Value}
    (G : Gd w mg mb b s.heap) (hd : A.depth < recursionLimit) (hl : Led b s.heap [(x, lexI dx), (dx, dictOf [] 0)]) (e1 : x ≠ dx)
    (hret : ∀ q p h' tk, Chg [x, dx] s.heap h' → h'.get? x = some (lexI dx) → h'.get? dx = some (lexD q 1 fp p) → h'.get? p = some (listOf #[] 0) → s.heap.get? p = none → p ≠ x → p ≠ dx → R (.ok (.ret .none)) { s with heap := h', toks := tk }) :
    codeAny (MM w) A (.call (.ref 214) ⟨[.ref x, fp], []⟩) R s := by
  have X := G.K
  k_dflt (refine' enter (binds := [(Str.ofString "self", .ref x), (Str.ofString "fp", fp)]) G hl ?k6 ?k7 hd ?k9 ?kB ?c5 ?_ ?c2 ?c3 ?c4; ktn_open)
  clear X
  intro g L h₁ hg F N X T lt
  try dsimp only
  k_steps
  subst hg
  refine hret ⟨_, _, _, _, _, _, _, _, _, _⟩ _ _ _ (chg_of (by assumption)) (News.get (by assumption) (by k_mem)) (News.get (by assumption) (by k_mem)) (News.get (by assumption) (by k_mem)) (fresh_of (News.fresh (by assumption) (List.Mem.head _)) ?_) ?_ ?_
  · simp only [List.map_cons, List.map_nil, List.mem_cons, List.not_mem_nil, or_false, not_or]; exact ⟨neN (by omega), neN (by omega)⟩
  · exact neN (by omega)
  · exact neN (by omega)
end
end Mine
-- part Ext
namespace Mine
section
variable {prog : Program} {w : World} {A : Around} {s : Shared} {Q E : Value → Shared → Prop} {R : Result → Shared → Prop}

theorem shiftS {I : Addr} {fp wr : List Addr} {G : Array GenState → Array GenState → Prop} {n : Nat} {P : Nat → Value → Prop} {St : Nat → Shared → Prop} (W : WalksS prog w A I fp wr G n P St) (k : Nat) :
    WalksS prog w A I fp wr G (k + n) (fun _ _ => True) (fun i s => k ≤ i ∧ St (i - k) s) where
  sub := W.sub
  grefl := W.grefl
  gtrans := W.gtrans
  frame := fun i s h' tk st ht hk => ⟨st.1, W.frame _ s h' tk st.2 ht hk⟩
  item := fun i s Q E hi st hQ => W.item (i - k) s Q E (by omega) st.2 fun v s' _ st' hm => hQ v s' trivial ⟨by omega, by rw [show i + 1 - k = i - k + 1 by omega]; exact st'⟩ hm
  done := fun s Q E st hQ => W.done s Q E (by have := st.2; rwa [Nat.add_sub_cancel_left] at this) hQ
  self := fun i s Q E st hQ => W.self (i - k) s Q E st.2 hQ

theorem extend_str {S : Addr} {items : Array Value} {c : Nat} {x : Str} {t : Tok} (hh : A.handled = none) (hS : s.heap.get? S = some (listOf items c)) (hn : items.size + x.cps.size ≤ sizeLine)
    (hQ : ∀ h' tk acc' c', (∀ b o, b ≠ S → s.heap.get? b = some o → h'.get? b = some o) → h'.get? S = some (listOf acc' c') → acc'.size = items.size + x.cps.size → Q .none { s with heap := h', toks := tk }) :
    wpAny (model prog w) A (call (.builtin "list.extend") [.ref S, .str x t]) Q E s := by
  have hSf : S ∉ [s.heap.objs.size] := fun hm => absurd (Heap.lt_size hS) (by rw [List.mem_singleton.mp hm]; exact Nat.lt_irrefl _)
  have hT : s.TypeIs (.ref S) "list" := ⟨_, hS, rfl⟩
  refine wpAny_call (codeAny_call_builtin PySem.F.slot_list_extend.plain PySem.F.entry_list_extend (PySem.F.slot_list_extend.check _ _ _ _ _ _ _ _ hT (PySem.F.args_list_extend_2 _ _) ?_))
  show wpAny _ _ (Builtin.List.listExtendWith (.ref S) (.str x t) .none) _ _ s
  unfold Builtin.List.listExtendWith
  refine wpAny_bind (wpAny_typeOf (T := "str") (v := .str x t) rfl ?_)
  have h1 : Builtin.List.listSameRef (.ref S) (.str x t) = false := rfl
  have h2 : (Value.type "str" == Value.type "list") = false := by decide
  have h3 : (Value.type "str" == Value.type "tuple") = false := by decide
  simp only [h1, h2, h3, Bool.or_false, Bool.false_eq_true, if_false]
  refine wpAny_bind (wpAny_pyIter_str fun o St W hst => ?_)
  refine wpAny_bind (wpAny_holding ?_)
  unfold Builtin.List.listLengthHint
  refine wpAny_bind (wpAny_specialOf (T := "str") (v := .str x t) rfl PySem.F.str_len ?_)
  wp_delta
  refine wpAny_bind (wpAny_isInstance (T := "str") (v := .str x t) (b := true) rfl (by rw [isSubtype_type]; kernel_rfl) ?_)
  show wpAny _ _ (typeOf (Value.str x t) >>= _) _ _ _
  refine wpAny_bind (wpAny_typeOf (T := "str") (v := .str x t) rfl ?_)
  refine wpAny_pure ?_
  rw [if_neg (by decide)]
  refine wpAny_pure ⟨plainId_quiet PySem.F.plain_extend_loop _, codeAny_extend_loopS (shiftS (W A.in1 hh).toS items.size) hn _ hSf _ x.cps.size items.size _ items c (by omega) (by omega) ⟨Nat.le_refl _, by rw [Nat.sub_self]; exact hst⟩ (Heap.get?_push_of_some _ hS) ⟨rfl, fun _ _ _ => trivial⟩ fun s' acc' c' hm hS' hacc => ?_⟩
  rw [Moved.eq_with hm]
  refine hQ s'.heap s'.toks acc' c' (fun b ob hb e => hm.heap b ob (fun hmem => ?_) (Heap.get?_push_of_some _ e)) hS' hacc.1
  rcases List.mem_cons.mp hmem with e' | hmem
  · exact hb e'
  · exact absurd (Heap.lt_size e) (by rw [List.mem_singleton.mp hmem]; exact Nat.lt_irrefl _)
end
end Mine
-- part Piece
namespace Mine
theorem freshPiece : True := by w_top off; trivial

def stmtAt (i : Nat) : Stmt := Challenge.pw_to0057_01.main.body.getD i (.Pass default)
def bodyOf : Stmt → List Stmt | .FunctionDef _ _ b _ _ _ _ _ _ _ => b | _ => []
def argsOf : Stmt → Arguments | .FunctionDef _ a _ _ _ _ _ _ _ _ => a | _ => default
def scopeOf : Stmt → Scope | .FunctionDef _ _ _ _ _ _ s _ _ _ => s | _ => default
def posOf : Stmt → Pos | .FunctionDef _ _ _ _ _ _ _ _ _ p => p | _ => default
def pieceS : Stmt := (bodyOf (stmtAt 18)).getD 2 (.Pass default)
abbrev pieceQ : Str := Str.ofString "_law_lexer.<locals>._law_piece"
abbrev pieceCl (a1 a2 : Addr) : List (Str × Addr) := [(Str.ofString "text", a1), (Str.ofString "gone", a2)]
def IsPiece (nm : Str) (params : Arguments) (body : List Stmt) (scope : Scope) : Prop := ∃ pos, Stmt.FunctionDef nm params body [] none [] scope none nm pos = pieceS

section
variable {prog : Program} {w : World} {mg mb : Str → Option Value} {A : Around} {s : Shared} {b : Heap} {led : List (Addr × Obj)} {K : Frag}
  {name qual : Str} {params : Arguments} {body : List Stmt} {scope : Scope} {cl : List (Str × Addr)} {dV kV doc pm cdv ct oc : Value} {an od : Option Addr} {osl : Array (Option Value)} {f : Addr} {args : Args} {binds : List (Str × Value)}
  {R : Result → Shared → Prop}

/-- entering a def that the run has made (a closure) -/
theorem enterF (G : Gd w mg mb b s.heap) (hl : Led b s.heap led)
    (ho : s.heap.get? f = some ⟨oc, od, .func (fnX name qual params body scope cl dV kV doc pm an cdv ct), osl⟩) (hcd : s.heap.CodeRec cdv qual) (hroom : A.depth < recursionLimit)
    (hbind : BindsTo s (fnX name qual params body scope cl dV kV doc pm an cdv ct) args binds) (hloc : ∀ y ∈ binds, scope.names.lookup y.1 = some .local)
    (hcell : ∀ x ∈ scope.names, x.2 ≠ .cell)
    (h : ∀ g L h₁, g = hideAll s.heap (led.map (·.1)) → Fr g L h₁ (fun y => binds.reverse.lookup y) → News g L h₁ led → (hd.heap_1 w.params).In g → TR mg mb g → (∀ p ∈ led, p.1 < L) →
      wpAny (MM w) (A.deeper (envX qual scope L f cdv cl)) (execs body (envX qual scope L f cdv cl))
        (fun fl s' => R (.ok (.ret (match fl with | .ret v => v | _ => .none))) s') (fun _ _ => False)
        { s with heap := h₁, toks := s.toks + binds.length })
    (hco : scope.isCoroutine = false := by rfl) (hgen : scope.isGenerator = false := by rfl) (hk : scope.kind = .function := by rfl) : codeAny (MM w) A (.call (.ref f) args) R s := by
  have st := st_of G hl
  refine codeAny_call_def (fd := fnX name qual params body scope cl dV kV doc pm an cdv ct) (body := body) (binds := binds) hroom ho rfl (G.T.nolimit.keeps G.le)
    hcd rfl hbind hcell hloc (fun h₁ hns hk₁ => ?_) hco hgen hk
  refine wpAny_mono (h _ s.heap.objs.size h₁ rfl ⟨hns, fun a o e => hk₁ a o (of_hideAll _ e), Nat.le_of_eq (hideAll_size _ _)⟩
    (fun p hp => ⟨hk₁ _ _ (hl p hp).1, Nat.ne_of_lt (Heap.lt_size (hl p hp).1), hideAll_none _ (List.mem_map_of_mem hp)⟩) (G.K.keeps st) (G.T.keeps st) (fun p hp => Heap.lt_size (hl p hp).1)) (fun fl s' x => x) fun _ _ x => x.elim

local macro_rules | `(tactic| walk_at "eval Name") => `(tactic| (k_dflt (refine' nameX_F ?N ?c ?m ?d ?_ ?a ?b; (case a => rfl); (case b => rfl); (case N => k_asm); (case c => rfl); (case m => k_mem); (case d => k_asm); k_whole)))

set_option maxHeartbeats 400000 in
theorem law_piece {pf a1 a2 gl : Addr} {o1 o2 : Obj} {text : Str} {tt tc : Tok} {gone : List Value} {n : Nat} {doc pm cdv ctv : Value} (hS : IsPiece name params body scope)
    (G : Gd w mg mb b s.heap) (hd : A.depth < recursionLimit) (hh : A.handled = none) (hl : Led b s.heap [(a1, o1), (a2, o2), (gl, listOf gone.toArray n)]) (e1 : a1 ≠ a2) (e2 : a1 ≠ gl) (e3 : a2 ≠ gl)
    (h1 : o1.data = .cell (some (.str text tt))) (h2 : o2.data = .cell (some (.ref gl)))
    (hf : s.heap.get? pf = some ⟨.type "function", none, .func (fnX name pieceQ params body scope (pieceCl a1 a2) .none .none doc pm none cdv ctv), #[]⟩) (hcd : s.heap.CodeRec cdv pieceQ)
    {c : Nat} (hc : text.cps.toList[gone.length]? = some c) (ht : text.length ≤ 1000)
    (hret : ∀ (t : Tok) (n' : Nat) (gone' : List Value) (h' : Heap) (tk : Nat), Chg [gl] s.heap h' → h'.get? gl = some (listOf gone'.toArray n') → gone'.length = gone.length + 1 →
      R (.ok (.ret (.str ⟨#[c]⟩ t))) { s with heap := h', toks := tk }) :
    codeAny (MM w) A (.call (.ref pf) ⟨[.int 1 tc], []⟩) R s := by
  have hg : gone.length < text.length := by
    have := (List.getElem?_eq_some_iff.mp hc).1
    simpa [Str.length] using this
  obtain ⟨pos, hS⟩ := hS
  conv at hS => rhs; whnf
  injection hS with i1 i2 i3 i4 i5 i6 i7 i8 i9 i10
  subst i1 i2 i3 i7
  k_dflt (refine' enterF (binds := [(Str.ofString "count", .int 1 tc)]) G hl hf hcd hd ?k9 ?kB ?c5 ?_ ?c2 ?c3 ?c4; (case k9 => exact BindsTo.of_eq rfl); (case c5 => decide); (case kB => exact locs rfl); (case c2 => exact rfl); (case c3 => exact rfl); (case c4 => exact rfl); k_whole)
  intro g L h₁ hg' F N X T lt
  try dsimp only
  k_steps
  refine Calls.call_len_list (items := gone.toArray) ⟨_, News.get (by assumption) (by k_mem), rfl, _, rfl⟩ (by simp; omega) ?_
  k_steps
  refine Calls.call_len_list (items := gone.toArray) ⟨_, News.get (by assumption) (by k_mem), rfl, _, rfl⟩ (by simp; omega) ?_
  k_steps
  have hsl : (Txt.slice text (some ↑gone.toArray.size) (some (↑gone.toArray.size + 1))) = ⟨#[c]⟩ := by
    have h9 := slice_closesL (x := text) (i := (gone.toArray.size : Int)) (j := (gone.toArray.size : Int) + 1) (by omega) (by omega) (by rw [List.size_toArray]; omega)
    rw [eq_of_beq h9]
    have e9 : ((gone.toArray.size : Int) + 1 - (gone.toArray.size : Int)).toNat = 1 := by omega
    rw [e9, Int.toNat_natCast, List.size_toArray]
    obtain ⟨hl9, hc9⟩ := List.getElem?_eq_some_iff.mp hc
    rw [List.drop_eq_getElem_cons hl9, hc9]
    rfl
  rw [hsl]
  refine extend_str (hh := hh) (items := gone.toArray) (c := n) (News.get (by assumption) (by k_mem)) (by simp [sizeLine_eq]; omega) fun h' tk' acc' c' hk hS' hsz => ?_
  obtain ⟨F', N'⟩ := upd_but (o' := listOf acc' c') (by assumption) (by assumption) (by k_upd) hk hS'
  k_steps
  rw [hsl]
  subst hg'
  refine hret _ c' acc'.toList h' _ (chg_less (chg_of F') (by ktr_rel)) (News.get N' (by k_mem)) ?_
  rw [Array.length_toList, hsz, List.size_toArray]; rfl
end
end Mine
-- part RChar
namespace Mine
theorem freshRChar : True := by w_top off; trivial

abbrev strD (q : LexT) (h5 : Int) (k5 : Tok) (p2 pf : Addr) : Obj := dictOf [⟨q.h1, .str (Str.ofString "lineno") q.k1, .int 1 q.t1⟩, ⟨q.h2, .str (Str.ofString "instream") q.k2, .none⟩, ⟨q.h3, .str (Str.ofString "whitespace") q.k3, .str (Str.ofString "\n\t\r ") q.t2⟩, ⟨q.h4, .str (Str.ofString "pushback") q.k4, .ref p2⟩, ⟨h5, .str (Str.ofString "read") k5, .ref pf⟩] 5

/-- the lexer's parts: all but the list of what is gone stands still -/
structure LexA where
  (x dx p y dy p2 pf cc a1 a2 gl : Addr) (q q2 : LexT) (h5 : Int) (k5 : Tok) (o1 o2 oc : Obj) (ovs : Array Value) (ot : Tok) (text : Str) (tt : Tok) (nm : Str) (params : Arguments) (body : List Stmt) (scope : Scope) (doc pm ctv : Value)

abbrev LexA.led (z : LexA) (gone : List Value) (n : Nat) : List (Addr × Obj) :=
  [(z.x, lexI z.dx), (z.dx, lexD z.q 1 (.ref z.y) z.p), (z.y, lexI z.dy), (z.dy, strD z.q2 z.h5 z.k5 z.p2 z.pf), (z.a1, z.o1), (z.a2, z.o2), (z.gl, listOf gone.toArray n), (z.cc, z.oc),
    (z.pf, fnMade z.nm pieceQ z.params z.body z.scope (pieceCl z.a1 z.a2) z.doc z.pm z.cc z.ctv)]

structure LexOk (z : LexA) : Prop where
  nd : ([z.a1, z.a2, z.dy, z.y, z.gl, z.cc, z.pf, z.dx, z.x, z.p] : List Nat).Pairwise (· < ·)
  c1 : z.o1.data = .cell (some (.str z.text z.tt))
  c2 : z.o2.data = .cell (some (.ref z.gl))
  cd : z.oc.data = .fields z.ovs
  cv : z.ovs[1]? = some (.str pieceQ z.ot)
  isP : IsPiece z.nm z.params z.body z.scope
  len : z.text.length ≤ 1000

theorem ord10 {a b c d e f g h i j : Nat} (o : [a, b, c, d, e, f, g, h, i, j].Pairwise (· < ·)) : a < b ∧ b < c ∧ c < d ∧ d < e ∧ e < f ∧ f < g ∧ g < h ∧ h < i ∧ i < j := by
  simp only [List.pairwise_cons, List.mem_cons, List.not_mem_nil, or_false, forall_eq_or_imp, forall_eq] at o
  exact ⟨o.1.1, o.2.1.1, o.2.2.1.1, o.2.2.2.1.1, o.2.2.2.2.1.1, o.2.2.2.2.2.1.1, o.2.2.2.2.2.2.1.1, o.2.2.2.2.2.2.2.1.1, o.2.2.2.2.2.2.2.2.1⟩
theorem pw_cons {a b : Nat} {l : List Nat} (h : a < b) (r : (b :: l).Pairwise (· < ·)) : (a :: b :: l).Pairwise (· < ·) := .cons (fun x hx => (List.mem_cons.mp hx).elim (fun e => e ▸ h) fun m => Nat.lt_trans h (List.rel_of_pairwise_cons r m)) r
theorem ord10k {a b c d e f g h i j : Nat} {P : Prop} (o : [a, b, c, d, e, f, g, h, i, j].Pairwise (· < ·)) (k : a < b → b < c → c < d → d < e → e < f → f < g → g < h → h < i → i < j → P) : P :=
  have r := ord10 o
  k r.1 r.2.1 r.2.2.1 r.2.2.2.1 r.2.2.2.2.1 r.2.2.2.2.2.1 r.2.2.2.2.2.2.1 r.2.2.2.2.2.2.2.1 r.2.2.2.2.2.2.2.2

section
variable {w : World} {mg mb : Str → Option Value} {A : Around} {s : Shared} {b : Heap} {Q E : Value → Shared → Prop} {R : Result → Shared → Prop}

theorem read_char {z : LexA} {gone : List Value} {n c : Nat}
    (G : Gd w mg mb b s.heap) (hd : A.depth + 1 < recursionLimit) (hh : A.handled = none) (hl : Led b s.heap (z.led gone n)) (hz : LexOk z)
    (hc : z.text.cps.toList[gone.length]? = some c) (hc10 : c ≠ 10)
    (hret : ∀ (t : Tok) (n' : Nat) (gone' : List Value) (h' : Heap) (tk : Nat), Chg [z.gl] s.heap h' → h'.get? z.gl = some (listOf gone'.toArray n') → gone'.length = gone.length + 1 →
      R (.ok (.ret (.str ⟨#[c]⟩ t))) { s with heap := h', toks := tk }) :
    codeAny (MM w) A (.call (.ref 221) ⟨[.ref z.x], []⟩) R s := by
  obtain ⟨nd, c1, c2, cd, cv, isP, len⟩ := hz
  have hne : (({ cps := #[c] } : Str) == Str.ofString "\n") = false := by
    rw [show Str.ofString "\n" = ⟨#[10]⟩ from by decide +kernel]
    exact beq_eq_false_iff_ne.mpr fun e => hc10 (by injection e with e; simpa using e)
  refine ord10k nd fun o1 o2 o3 o4 o5 o6 o7 o8 o9 => ?_
  have X := G.K
  k_dflt (refine' enter (binds := [(Str.ofString "self", .ref z.x)]) G hl ?k6 ?k7 (by omega) ?k9 ?kB ?c5 ?_ ?c2 ?c3 ?c4; ktn_open)
  clear X
  intro g L h₁ hg F N X T lt
  try dsimp only
  dsimp only [LexA.led] at N lt hg hl
  k_steps
  refine callWith_F (first := []) (FnAt.of N (by k_mem)) ?_
  k_steps
  have b0 : ∀ a o, b.get? a = some o → h₁.get? a = some o := fun a o e => F.keep _ _ (by rw [hg]; exact st_of G hl a o e)
  refine wpAny_call (law_piece (o1 := z.o1) (o2 := z.o2) (gone := gone) (n := n) isP ⟨G.K, G.T, b0⟩ (by show A.depth + 1 < _; omega) hh (by k_subL) (neN (by omega)) (neN (by omega)) (neN (by omega)) c1 c2 (News.get N (by k_mem)) (codeRec_news N (by k_mem) cd cv) hc len ?_)
  intro t n' gone' h' tk c' hg' hlen
  obtain ⟨F', N'⟩ := upd_but (o' := listOf gone'.toArray n') F N (by k_upd) (fun a o hne e => c' a o e fun hm => hne (List.mem_singleton.mp hm)) hg'
  try dsimp only
  clear F N c' hg'
  k_steps
  subst hg
  exact hret _ _ _ _ _ (chg_less (chg_of (by assumption)) (by ktr_rel)) (News.get (by assumption) (by k_mem)) hlen
end
end Mine
-- part Comp2
namespace Mine


section
variable {w : World} {mg mb : Str → Option Value} {A : Around} {s : Shared} {E : Value → Shared → Prop} {g : Heap} {L : Addr} {m : Str → Option Value} {news : List (Addr × Obj)} {env : Env}
  {elt iter : Expr} {x : Str} {px : Pos} {ifs : List Expr} {scope : Scope} {cl : List (Str × Addr)} {pos : Pos}

structure CompEndU (g : Heap) (L : Addr) (m : Str → Option Value) (g2 : Heap) (C D : Addr) (s : Shared) (Q : Value → Shared → Prop) (r : Result) (s' : Shared) : Prop where
  ok : r = .ok .next
  h : ∃ h' tk m' news' o, s' = { s with heap := h', toks := tk } ∧ Fr g2 C h' m' ∧ News g2 C h' ((D, o) :: news') ∧ ∀ h'', Fr g L h'' m → News g L h'' ((D, o) :: news') → Q .none { s with heap := h'', toks := tk + 1 }

theorem CompEndU.intro {g2 : Heap} {C D : Addr} {Q : Value → Shared → Prop} {h' : Heap} {tk : Nat} {m' : Str → Option Value} {news' : List (Addr × Obj)} {o : Obj} (F : Fr g2 C h' m') (N : News g2 C h' ((D, o) :: news'))
    (h : ∀ h'', Fr g L h'' m → News g L h'' ((D, o) :: news') → Q .none { s with heap := h'', toks := tk + 1 }) : CompEndU g L m g2 C D s Q (.ok .next) { s with heap := h', toks := tk } :=
  ⟨rfl, _, _, _, _, _, rfl, F, N, h⟩

theorem comp_go_use {I : Addr} {oI : Obj} {y : Str} {py : Pos} {Q : Value → Shared → Prop} (hLe : env.locals = L) (hy : env.kindOf y = some .local) (hp : (env.scope.kind == .class || (env.scope.kind == .module && env.locals != env.globals)) = false) (F : Fr g L s.heap m) (N : News g L s.heap news) (X : (hd.heap_1 w.params).In g) (T : TR mg mb g)
    (hcell : ∀ y ∈ scope.names, y.2 ≠ .cell) (hkind : scope.kind = .function) 
    (hI : (I, oI) ∈ news) (hself : ∀ (s' : Shared) (Q' : Value → Shared → Prop) (E' : Value → Shared → Prop), s'.heap.get? I = some oI → Q' (.ref I) s' → wpAny (MM w) A (pyIter (.ref I)) Q' E' s')
    (h : ∀ C D g2 h₁ tk, g2 = hideAll s.heap (news.map (·.1)) → Fr g2 C h₁ (fun _ => none) → News g2 C h₁ ((D, listOf #[] 0) :: news) → (hd.heap_1 w.params).In g2 → TR mg mb g2 → (∀ p ∈ news, @LT.lt Nat _ p.1 D) → @LT.lt Nat _ D C →
      (∀ a o, g.get? a = some o → g2.get? a = some o) → g2.get? L = s.heap.get? L →
      codeAny (MM w) A (.compLoop (.ListComp elt [⟨.Name x px, iter, ifs, 0⟩] scope pos) 0 (.ref I) (.ref D) (cEnv scope cl C env)) (CompEndU g L (fun x => if x = y then some (.ref D) else m x) g2 C D s Q) { s with heap := h₁, toks := tk }) :
    wpAny (MM w) A (newList []) (fun acc s₃ => wpAny (MM w) A (newFunctionEnv scope env.globals cl [] env.qual none .none (some env)) (fun cenv s₄ =>
      codeAny (MM w) A (.compStart (.ListComp elt [⟨.Name x px, iter, ifs, 0⟩] scope pos) 0 (.ref I) acc { cenv with scope := relabel scope env }) (compPost (MM w) A E (some (assign (.Name y py) env)) Q acc cenv.locals) s₄) E s₃) E s := by
  subst hLe
  have hg2 : ∀ a o, g.get? a = some o → (hideAll s.heap (news.map (·.1))).get? a = some o := fun a o e => hideAll_get _ (F.keep _ _ e) fun hm => by
    obtain ⟨p, hp, rfl⟩ := List.mem_map.mp hm
    rw [(N p hp).2.2] at e; cases e
  have hLn : env.locals ∉ news.map (·.1) := fun hm => by
    obtain ⟨p, hp, e⟩ := List.mem_map.mp hm
    exact (N p hp).2.1 e
  have hL2 : (hideAll s.heap (news.map (·.1))).get? env.locals = s.heap.get? env.locals := by
    obtain ⟨oL, es, ep, e, r⟩ := F.ns
    rw [e]; exact hideAll_get _ e hLn
  refine wpAny_newObj_type (wpAny_newFunctionEnv hcell (by intro y hy; simp at hy) (fun h₁ hns₁ hsb₁ => ?_) hkind)
  dsimp only at hns₁ hsb₁ ⊢
  generalize hH2 : s.heap.push { cls := .type "list", dict := none, data := .seq ([] : List Value).toArray } = H2 at hns₁ hsb₁ ⊢
  have hC : H2.objs.size = s.heap.objs.size + 1 := by rw [← hH2, Heap.size_push]
  have old : ∀ b o, s.heap.get? b = some o → h₁.get? b = some o := fun b o e => hsb₁.extBut b o (by rw [hC]; exact Nat.ne_of_lt (Nat.lt_succ_of_lt (Heap.lt_size e))) (Heap.get?_push_of_some _ (hH2 ▸ Heap.get?_push_of_some _ e))
  have hDC : s.heap.objs.size ≠ H2.objs.size := by rw [hC]; exact Nat.ne_of_lt (Nat.lt_succ_self _)
  have hD : h₁.get? s.heap.objs.size = some (listOf #[] 0) := hsb₁.extBut _ _ hDC (Heap.get?_push_of_some _ (hH2 ▸ Heap.get?_push_size _ rfl))
  have fr : ∀ a, s.heap.objs.size ≤ a → (hideAll s.heap (news.map (·.1))).get? a = none := fun a ha => by
    cases e : (hideAll s.heap (news.map (·.1))).get? a with
    | none => rfl
    | some o' => exact absurd (Heap.lt_size (of_hideAll _ e)) (Nat.not_lt.mpr ha)
  have F2 : Fr (hideAll s.heap (news.map (·.1))) H2.objs.size h₁ (fun _ => none) := ⟨hns₁, fun a o e => old a o (of_hideAll _ e), by rw [hC]; exact Nat.le_trans (Nat.le_of_eq (hideAll_size _ _)) (Nat.le_succ _)⟩
  have N2 : News (hideAll s.heap (news.map (·.1))) H2.objs.size h₁ ((s.heap.objs.size, listOf #[] 0) :: news) := fun p hp => by
    rcases List.mem_cons.mp hp with rfl | hp
    · exact ⟨hD, hDC, fr _ (Nat.le_refl _)⟩
    · exact ⟨old _ _ (N p hp).1, by rw [hC]; exact Nat.ne_of_lt (Nat.lt_succ_of_lt (Heap.lt_size (N p hp).1)), hideAll_none _ (List.mem_map_of_mem hp)⟩
  have loop := h H2.objs.size s.heap.objs.size _ h₁ (s.toks + ([] : List (Str × Value)).length) rfl F2 N2 (X.keeps hg2) (T.keeps hg2) (fun p hp => Heap.lt_size (N p hp).1) (by rw [hC]; exact Nat.lt_succ_self _) hg2 hL2
  have loop' : codeAny (MM w) A (.compLoop (.ListComp elt [⟨.Name x px, iter, ifs, 0⟩] scope pos) 0 (.ref I) (.ref s.heap.objs.size) (cEnv scope cl H2.objs.size env)) (compPost (MM w) A E (some (assign (.Name y py) env)) Q (.ref s.heap.objs.size) H2.objs.size) { s with heap := h₁, toks := s.toks + ([] : List (Str × Value)).length } := by
    refine codeAny_mono loop fun r s' hr => ?_
    obtain ⟨rfl, h', tk, m', news', o, rfl, F', N', hq⟩ := hr
    have LC : env.locals ≠ H2.objs.size := by
      obtain ⟨oL, es, ep, e, r⟩ := F.ns
      rw [hC]; exact Nat.ne_of_lt (Nat.lt_succ_of_lt (Heap.lt_size e))
    have hns : h'.Ns env.locals m := by
      obtain ⟨oL, es, ep, e, r⟩ := F.ns
      exact ⟨oL, es, ep, F'.keep _ _ (by rw [hL2]; exact e), r⟩
    show wpAny (MM w) A (assign (.Name y py) env (.ref s.heap.objs.size)) _ E _
    refine wpAny_assign_Name (wpAny_storeName_local hy hns (fun h₂ hn₂ hs₂ => ?_) hp)
    refine ⟨m', F'.ns.sameBut hs₂ (Ne.symm LC), fun h'' hs'' => ?_⟩
    have hCn : ∀ a, a ≠ H2.objs.size → a ≠ env.locals → ∀ o, h'.get? a = some o → h''.get? a = some o := fun a ha hb o e => hs''.extBut a o ha (hs₂.extBut a o hb e)
    refine hq h'' ⟨hn₂.sameBut hs'' LC, fun a o e => ?_, F.above⟩ fun p hp => ?_
    · refine hCn a (by rw [hC]; exact Nat.ne_of_lt (Nat.lt_succ_of_lt (Heap.lt_size (F.keep _ _ e)))) (fun q => ?_) _ (F'.keep _ _ (hg2 a o e))
      rw [q] at e
      exact absurd (Heap.lt_size e) (Nat.not_lt.mpr F.above)
    · have n := N' p hp
      have hpL : p.1 ≠ env.locals := fun q => by
        have e2 := n.2.2
        rw [q, hL2] at e2
        obtain ⟨oL, es, ep, e, r⟩ := F.ns
        rw [e] at e2; cases e2
      refine ⟨hCn _ n.2.1 hpL _ n.1, hpL, ?_⟩
      cases q : g.get? p.1 with
      | none => rfl
      | some o' => rw [hg2 _ _ q] at n; cases n.2.2
  refine codeAny_compStart_list loop' (hself _ _ _ ?_ loop')
  exact old _ _ (N _ hI).1


theorem comp_in_use {y : Str} {py spos : Pos} {Q : Flow → Shared → Prop} (hsw : swapsWith (.ListComp elt [⟨.Name x px, iter, ifs, 0⟩] scope pos) (some (.Name y py)) spos.line env = pure true) (hclos : closureFor scope env = pure cl) (hkind : scope.kind = .function)
    (hnames : ∀ y ∈ scope.names, y.2 = .local → scope.names.lookup y.1 = some .local) (hs : ∀ x, foldedSetIterable iter env x = pure x)
    (h : wpAny (MM w) A (eval iter env) (fun xv s₁ => wpAny (MM w) A (pyIter xv) (fun it s₂ => wpAny (MM w) A (newList []) (fun acc s₃ =>
      wpAny (MM w) A (newFunctionEnv scope env.globals cl [] env.qual none .none (some env)) (fun cenv s₄ =>
        codeAny (MM w) A (.compStart (.ListComp elt [⟨.Name x px, iter, ifs, 0⟩] scope pos) 0 it acc { cenv with scope := relabel scope env }) (compPost (MM w) A E (some (assign (.Name y py) env)) (fun _ s' => Q .next s') acc cenv.locals) s₄) E s₃) E s₂) E s₁) E s) :
    wpAny (MM w) A (exec (.Assign [.Name y py] (.ListComp elt [⟨.Name x px, iter, ifs, 0⟩] scope pos) spos) env) Q E s := by
  rw [exec_Assign_Name_used _ _ _ _ hsw]
  refine wpAny_bind (wpAny_standAt (wpAny_bind ?_))
  show wpAny _ A (do let _ ← comprehension (.ListComp elt [⟨.Name x px, iter, ifs, 0⟩] scope pos) scope env _ (newList []) false (eval iter env) (some (assign (.Name y py) env))) _ _ s
  exact wpAny_bind (wpAny_mono (wpAny_comprehension_free (use := some (assign (.Name y py) env)) (Q := fun _ s' => Q .next s') rfl hs hclos hkind hnames h) (fun _ s' hq => wpAny_pure (wpAny_pure hq)) fun _ _ e => e)
end
end Mine
-- part Enum
namespace Mine
section
variable {w : World} {A : Around} {s : Shared} {E : Value → Shared → Prop} {R : Result → Shared → Prop} {g : Heap} {L : Addr} {m : Str → Option Value} {news : List (Addr × Obj)} {env : Env}
abbrev enumO (it : Addr) (i : Int) (old : Value) : Obj := { cls := .type "enumerate", dict := none, data := .fields #[.none, .bool false, .ref it, rawInt i, .none, old], slots := #[] }

theorem call_enum {l : Addr} {o : Obj} {its : Array Value} {Q : Value → Shared → Prop} (F : Fr g L s.heap m) (N : News g L s.heap news) (hl : s.heap.get? l = some o) (ho : IsLs o its)
    (h : ∀ e it h' oI, IsLi oI l 0 → Fr g L h' m → News g L h' ((e, enumO it 0 .none) :: (it, oI) :: news) → (∀ p ∈ news, @LT.lt Nat _ p.1 it) → @LT.lt Nat _ it e → Q (.ref e) { s with heap := h' }) :
    wpAny (MM w) A (call (.type "enumerate") [.ref l]) Q E s := by
  refine call_enumerate_list (items := its) ⟨o, hl, ho.1, ho.2⟩ fun h' he ⟨oI, hI, hI1, hI2⟩ hz hk => ?_
  have F' : Fr g L h' m := (same_all F N hk).1
  have fr : ∀ a, s.heap.objs.size ≤ a → a ≠ L ∧ g.get? a = none := fun a ha => by
    refine ⟨fun q => ?_, ?_⟩
    · obtain ⟨oL, es, ep, e, r⟩ := F.ns
      exact absurd (Heap.lt_size e) (Nat.not_lt.mpr (q ▸ ha))
    · cases q : g.get? a with
      | none => rfl
      | some o' => exact absurd (Heap.lt_size (F.keep _ _ q)) (Nat.not_lt.mpr ha)
  refine h _ _ h' oI ⟨hI1, hI2⟩ F' (fun p hp => ?_) (fun p hp => Heap.lt_size (N p hp).1) (Nat.lt_succ_self _)
  rcases List.mem_cons.mp hp with rfl | hp
  · exact ⟨he, fr _ (Nat.le_succ _)⟩
  rcases List.mem_cons.mp hp with rfl | hp
  · exact ⟨hI, fr _ (Nat.le_refl _)⟩
  · exact ⟨hk _ _ (N p hp).1, (N p hp).2⟩

theorem iter_enum {e it : Addr} {i : Int} {old : Value} {Q : Value → Shared → Prop} (he : s.heap.get? e = some (enumO it i old)) (h : Q (.ref e) s) : wpAny (MM w) A (pyIter (.ref e)) Q E s := wpAny_pyIter_enum he h

theorem turn_enum {e it l : Addr} {oI ol : Obj} {i : Nat} {its : Array Value} {x old : Value} {xi xc : Str} {p1 p2 pt : Pos} {kt : Nat} {body : List Stmt} {K : Flow → Shared → Prop} (hh : A.handled = none)
    (F : Fr g L s.heap m) (N : News g L s.heap ((e, enumO it i old) :: (it, oI) :: news)) (hI : IsLi oI l i) (hl : s.heap.get? l = some ol) (ho : IsLs ol its) (hx : its[i]? = some x) (hne : @LT.lt Nat _ it e)
    (hn1 : ∀ p ∈ news, p.1 ≠ e) (hn2 : ∀ p ∈ news, p.1 ≠ it)
    (h : ∀ h' oI', IsLi oI' l (i + 1) → Fr g L h' m → News g L h' ((e, enumO it ((i + 1 : Nat) : Int) x) :: (it, oI') :: news) →
      wpAny (MM w) A (storeName env xi (.int i s.toks)) (fun _ s₁ => wpAny (MM w) A (storeName env xc x) (fun _ s₂ => wpAny (MM w) A (execs body env) K (fun _ _ => False) s₂) (fun _ _ => False) s₁) (fun _ _ => False) { s with heap := h', toks := s.toks + 1 }) :
    Turn Challenge.rw_to0057_01.prog w A R (.Tuple [.Name xi p1, .Name xc p2] kt pt) (.ref e) body env K s := by
  have n1 := N _ (.head _)
  have n2 := N _ (.tail _ (.head _))
  have hen : e ≠ it := Nat.ne_of_gt hne
  refine wpAny_pyNext_enum_item (it := it) (l := l) (items := its) n1.1 ⟨oI, n2.1, hI⟩ ⟨ol, hl, ho.1, ho.2⟩ hx hen fun h1 he1 hit1 hT1 hz1 hk1 => ?_
  have hsz : ∀ a o, s.heap.get? a = some o → a ≠ s.heap.objs.size := fun a o q => Nat.ne_of_lt (Heap.lt_size q)
  refine wpAny_letOwnedTupleGo_enum he1 fun h2 he2 hs2 => ?_
  have hT2 : h2.get? s.heap.objs.size = some { cls := .type "tuple", data := .seq #[.int i s.toks, x] } := hs2.extBut _ _ (Ne.symm (hsz _ _ n1.1)) hT1
  have hk2 : ∀ b o, b ≠ e → b ≠ it → s.heap.get? b = some o → h2.get? b = some o := fun b o h3 h4 q => hs2.extBut b o h3 (hk1 b o h3 h4 q)
  obtain ⟨oI', hI', hi1, hi2⟩ := hit1
  have hI2 : h2.get? it = some oI' := hs2.extBut _ _ (Ne.symm hen) hI'
  have hz2 : h2.objs.size = s.heap.objs.size + 1 := by rw [hs2.1]; exact hz1
  refine assign_Tuple_tuple hh (items := #[.int i s.toks, x]) ⟨_, hT2, rfl, _, rfl⟩ rfl rfl fun h3 hx3 => ?_
  have hk3 : ∀ b o, b ≠ e → b ≠ it → s.heap.get? b = some o → h3.get? b = some o := fun b o q1 q2 q => hx3 b o (by rw [hz2]; exact Nat.ne_of_lt (Nat.lt_succ_of_lt (Heap.lt_size q))) (hk2 b o q1 q2 q)
  have F3 : Fr g L h3 m := by
    obtain ⟨oL, es, ep, q, r⟩ := F.ns
    refine ⟨⟨oL, es, ep, hk3 _ _ (Ne.symm n1.2.1) (Ne.symm n2.2.1) q, r⟩, fun b o q => hk3 b o (fun z => ?_) (fun z => ?_) (F.keep _ _ q), F.above⟩
    · rw [z, n1.2.2] at q; cases q
    · rw [z, n2.2.2] at q; cases q
  have lt2 : ∀ a o, s.heap.get? a = some o → a ≠ h2.objs.size := fun a o q => by rw [hz2]; exact Nat.ne_of_lt (Nat.lt_succ_of_lt (Heap.lt_size q))
  refine assignInOrder_cons (wpAny_assign_Name (wpAny_mono (h h3 oI' ⟨hi1, hi2⟩ F3 (fun p hp => ?_)) (fun _ s1 q => assignInOrder_cons (wpAny_assign_Name (wpAny_mono q (fun _ s2 q => assignInOrder_nil q) fun _ _ z => z))) fun _ _ z => z))
  rcases List.mem_cons.mp hp with rfl | hp
  · exact ⟨hx3 _ _ (lt2 _ _ n1.1) he2, n1.2⟩
  rcases List.mem_cons.mp hp with rfl | hp
  · exact ⟨hx3 _ _ (lt2 _ _ n2.1) hI2, n2.2⟩
  · have n := N p (.tail _ (.tail _ hp))
    exact ⟨hk3 _ _ (hn1 p hp) (hn2 p hp) n.1, n.2⟩

theorem end_enum {e it l : Addr} {oI ol : Obj} {i : Nat} {its : Array Value} {old : Value} {target : Expr} {body : List Stmt} {K : Flow → Shared → Prop} (hh : A.handled = none)
    (F : Fr g L s.heap m) (N : News g L s.heap ((e, enumO it i old) :: (it, oI) :: news)) (hI : IsLi oI l i) (hl : s.heap.get? l = some ol) (ho : IsLs ol its) (hx : its[i]? = none)
    (hn2 : ∀ p ∈ news, p.1 ≠ it)
    (h : ∀ h', Fr g L h' m → News g L h' news → R (.ok .next) { s with heap := h' }) :
    Turn Challenge.rw_to0057_01.prog w A R target (.ref e) body env K s := by
  have n1 := N _ (.head _)
  have n2 := N _ (.tail _ (.head _))
  refine wpAny_pyNext_enum_end (it := it) (l := l) (items := its) hh n1.1 ⟨oI, n2.1, hI⟩ ⟨ol, hl, ho.1, ho.2⟩ hx fun h' hk => ?_
  obtain ⟨F', N'⟩ := drop_of F (news := news) (I := it) (o := oI) (fun p hp => N p (.tail _ hp)) (fun a o q hne => hk a o (fun z => hne (z ▸ .head _)) q) hn2
  exact h h' F' N'
end
end Mine
-- part Rot
namespace Mine
theorem ne_of_allLt {I d : Addr} {l : List (Addr × Obj)} (h : AllLt I l) (e : @LE.le Nat _ I d) : ∀ p ∈ l, p.1 ≠ d := by
  induction l with
  | nil => exact fun _ h => nomatch h
  | cons q r ih => intro p hp; rcases List.mem_cons.mp hp with rfl | hp; exact Nat.ne_of_lt (Nat.lt_of_lt_of_le h.1 e); exact ih h.2 p hp
theorem ne_of_allLt0 {d : Addr} {l : List (Addr × Obj)} (h : AllLt d l) : ∀ p ∈ l, p.1 ≠ d := ne_of_allLt h (Nat.le_refl _)
def rot {α : Type} (i : Nat) (l : List α) : List α := l.drop i ++ l.take i
theorem rot_len {α : Type} (i : Nat) (l : List α) : (rot i l).length = l.length := by unfold rot; simp; omega
theorem rot_cons {α : Type} {i : Nat} {l : List α} (h : i < l.length) : rot i l = l[i] :: (l.drop (i + 1) ++ l.take i) := by
  unfold rot; rw [List.drop_eq_getElem_cons h]; rfl
theorem rot_next {α : Type} {i : Nat} {l : List α} (h : i < l.length) : (l.drop (i + 1) ++ l.take i) ++ [l[i]] = rot (i + 1) l := by
  unfold rot; rw [List.take_add_one, List.getElem?_eq_getElem h, List.append_assoc]; rfl
theorem rot_all {α : Type} (l : List α) : rot l.length l = l := by unfold rot; simp
theorem rot_zero {α : Type} (l : List α) : rot 0 l = l := by unfold rot; simp
theorem news_of {g h : Heap} {L : Addr} {l l' : List (Addr × Obj)} (N : News g L h l) (e : ∀ p ∈ l', p ∈ l) : News g L h l' := fun p hp => N p (e p hp)
end Mine
-- part Slice
namespace Mine
theorem strs_take {vs : List Value} {ys : List Str} (h : StrsAre vs ys) (k : Nat) : StrsAre (vs.take k) (ys.take k) := h.take' k
theorem strs_rot {vs : List Value} {ys : List Str} (h : StrsAre vs ys) (k : Nat) : StrsAre (rot k vs) (rot k ys) := (h.drop' k).append' (h.take' k)
theorem mem_rot {α : Type} {t : Nat} {l : List α} {y : α} (h : y ∈ rot t l) : y ∈ l := by
  rcases List.mem_append.mp h with h | h
  · exact List.mem_of_mem_drop h
  · exact List.mem_of_mem_take h
theorem sumlen_le {l : List Str} (h : ∀ y ∈ l, y.length ≤ 100) : (l.map (·.length)).sum ≤ l.length * 100 := by
  induction l with
  | nil => simp
  | cons a r ih =>
    have h1 := h a (.head _)
    have h2 := ih fun y hy => h y (.tail _ hy)
    simp only [List.map_cons, List.sum_cons, List.length_cons]; omega
theorem fit_of {l : List Str} (h : ∀ y ∈ l, y.length ≤ 100) (hl : l.length ≤ 1000) : (l.map (·.length)).sum + l.length * 64 ≤ 16777216 := by
  have := sumlen_le h; omega
section
variable {w : World} {A : Around} {s : Shared} {E : Value → Shared → Prop} {g : Heap} {L : Addr} {m : Str → Option Value} {news : List (Addr × Obj)}
theorem sub_upto {value slice : Expr} {l : Addr} {o : Obj} {vs : List Value} {y : Int} {u : Tok} {Q : Value → Shared → Prop} (F : Fr g L s.heap m) (N : News g L s.heap news) (hl : s.heap.get? l = some o) (ho : IsLs o vs.toArray) (h0 : 0 ≤ y) (hz : vs.length ≤ 1000)
    (h : ∀ D h', Fr g L h' m → News g L h' ((D, listOf (vs.take y.toNat).toArray 0) :: news) → (∀ p ∈ news, p.1 < D) → Q (.ref D) { s with heap := h' })
    (hs : subscripted slice false (.ref l) (.ref s.heap.objs.size) = operate [.ref s.heap.objs.size, .ref l] (getItem (.ref l) (.ref s.heap.objs.size))) (ht : ∀ r, letTemporaryGo value (.ref l) r = pure ()) :
    wpAny (MM w) A (subscriptTail value slice (.ref l) (.ref s.heap.objs.size)) Q E { s with heap := s.heap.push { cls := .type "slice", data := .fields #[.none, .int y u, .none] } } := by
  refine kms_slice_lit (zs := vs.take y.toNat) F N (l := l) (its := vs.toArray) ⟨o, hl, ho.1, ho.2⟩ .none (.int y u) ?_ h hs ht (by rw [List.size_toArray]; simp [sizeLine_eq]; omega)
  unfold kms_pick kms_lo kms_hi
  simp only [if_neg (show ¬ (y < 0) by omega), List.drop_zero, Nat.sub_zero]
  exact kmk_take_min vs y.toNat
theorem sub_run {value slice : Expr} {l : Addr} {o : Obj} {vs : List Value} {x y : Int} {t u : Tok} {Q : Value → Shared → Prop} (F : Fr g L s.heap m) (N : News g L s.heap news) (hl : s.heap.get? l = some o) (ho : IsLs o vs.toArray) (h0 : 0 ≤ x) (h1 : x ≤ y) (hz : vs.length ≤ 1000)
    (h : ∀ D h', Fr g L h' m → News g L h' ((D, listOf ((vs.drop x.toNat).take (y - x).toNat).toArray 0) :: news) → (∀ p ∈ news, p.1 < D) → Q (.ref D) { s with heap := h' })
    (hs : subscripted slice false (.ref l) (.ref s.heap.objs.size) = operate [.ref s.heap.objs.size, .ref l] (getItem (.ref l) (.ref s.heap.objs.size))) (ht : ∀ r, letTemporaryGo value (.ref l) r = pure ()) :
    wpAny (MM w) A (subscriptTail value slice (.ref l) (.ref s.heap.objs.size)) Q E { s with heap := s.heap.push { cls := .type "slice", data := .fields #[.int x t, .int y u, .none] } } := by
  refine kms_slice_lit (zs := (vs.drop x.toNat).take (y - x).toNat) F N (l := l) (its := vs.toArray) ⟨o, hl, ho.1, ho.2⟩ (.int x t) (.int y u) ?_ h hs ht (by rw [List.size_toArray]; simp [sizeLine_eq]; omega)
  unfold kms_pick kms_lo kms_hi
  simp only [if_neg (show ¬ (y < 0) by omega), if_neg (show ¬ (x < 0) by omega)]
  show List.take (min y.toNat vs.length - min x.toNat vs.length) (List.drop (min x.toNat vs.length) vs) = _
  rw [kmk_drop_min]
  by_cases hx : x.toNat ≤ vs.length
  · rw [Nat.min_eq_left hx]
    by_cases hy : y.toNat ≤ vs.length
    · rw [Nat.min_eq_left hy, show (y - x).toNat = y.toNat - x.toNat by omega]
    · rw [Nat.min_eq_right (by omega), List.take_of_length_le (by rw [List.length_drop]; omega), List.take_of_length_le (by rw [List.length_drop]; omega)]
  · rw [List.drop_of_length_le (by omega), List.take_nil, List.take_nil]
theorem item_par {value slice : Expr} {l : Addr} {a b : Str} {ta tb : Tok} {n t : Nat} {u : Tok} {Q : Value → Shared → Prop} (hl : s.heap.get? l = some (listOf #[.str a ta, .str b tb] n)) (h : Q (.str (if t % 2 = 0 then a else b) (if t % 2 = 0 then ta else tb)) s)
    (hs : subscripted slice false (.ref l) (.int (Int.fmod t 2) u) = operate [.ref l, .int (Int.fmod t 2) u] (getItem (.ref l) (.int (Int.fmod t 2) u)) := by with_unfolding_all rfl) :
    wpAny (MM w) A (subscriptTail value slice (.ref l) (.int (Int.fmod t 2) u)) Q E s := by
  have e : Int.fmod (t : Int) 2 = ((t % 2 : Nat) : Int) := by rw [Int.fmod_eq_emod_of_nonneg _ (by decide)]; omega
  refine tail_any (Heap.IsList.typeIs ⟨_, hl, rfl, _, rfl⟩) slot_list_getitem.lookup (wpAny_getItem_list (items := #[.str a ta, .str b tb]) (x := .str (if t % 2 = 0 then a else b) (if t % 2 = 0 then ta else tb)) ⟨_, hl, rfl, _, rfl⟩ (by omega) (by omega) ?_ h) hs
  rw [e]
  rcases Nat.mod_two_eq_zero_or_one t with q | q
  · rw [q]; rfl
  · rw [q]; rfl
end
end Mine
-- part CompC
namespace Mine
abbrev cellN : Obj := { cls := .type "cell", data := .cell none }
theorem wpAny_newFunctionEnv_one {M : Model} {A : Around} {E : Value → Shared → Prop} {s : Shared} {scope : Scope} {globals : Addr} {cl : List (Str × Addr)} {qual : Str} {y : Str} {out : Env} {Q : Env → Shared → Prop}
    (hcf : ∀ n, cellsFrom n scope.names cl = (y, n) :: cl) (hpc : ∀ h : Heap, pushCells h scope.names = h.push { cls := .type "cell", data := .cell none })
    (hQ : ∀ h', h'.Ns s.heap.objs.size (fun _ => none) → h'.get? (s.heap.objs.size + 1) = some cellN → (∀ b o, s.heap.get? b = some o → h'.get? b = some o) →
      Q { scope, locals := s.heap.objs.size, globals, cells := (y, s.heap.objs.size + 1) :: cl, qual, func := none, code := out.code, frame := out.frame, builtins := out.builtins } { s with heap := h' }) :
    wpAny M A (newFunctionEnv scope globals cl [] qual none .none (some out)) Q E s := by
  simp only [newFunctionEnv, Option.isSome_some, if_true]
  refine wpAny_bind (wpAny_alloc ?_)
  refine wpAny_bind (wpAny_layCells _ (fun name kind cells => by cases hkc : kind == NameKind.cell <;> simp [hkc]) _ _ _ _ ?_)
  have hz : ({ s with heap := s.heap.push { cls := .type "dict", data := .dict #[] } } : Shared).heap.objs.size = s.heap.objs.size + 1 := Heap.size_push ..
  rw [hz, hcf]
  have := hQ ((s.heap.push { cls := .type "dict", data := .dict #[] }).push cellN) ((Heap.Ns.new s.heap (.type "dict")).keeps fun _ _ e => Heap.get?_push_of_some _ e)
    (by have h := Heap.get?_push_size (s.heap.push { cls := .type "dict", data := .dict #[] }) (o := cellN) rfl; rwa [Heap.size_push] at h) (fun b o e => Heap.get?_push_of_some _ (Heap.get?_push_of_some _ e))
  simp only [hpc]
  simp only [List.forIn_nil]
  exact wpAny_bind (wpAny_pure (wpAny_pure this))
section
variable {w : World} {mg mb : Str → Option Value} {A : Around} {s : Shared} {E : Value → Shared → Prop} {g : Heap} {L : Addr} {m : Str → Option Value} {news : List (Addr × Obj)} {env : Env}
  {elt iter : Expr} {x : Str} {px : Pos} {ifs : List Expr} {scope : Scope} {cl : List (Str × Addr)} {pos : Pos}
theorem comp_goC {y : Str} {I : Addr} {oI : Obj} {use : Option (Value → Sem Unit)} {Q : Value → Shared → Prop} (hu : use = none) (F : Fr g L s.heap m) (N : News g L s.heap news) (X : (hd.heap_1 w.params).In g) (T : TR mg mb g)
    (hcf : ∀ n, cellsFrom n scope.names cl = (y, n) :: cl) (hpc : ∀ h : Heap, pushCells h scope.names = h.push { cls := .type "cell", data := .cell none }) 
    (hI : (I, oI) ∈ news) (hself : ∀ (s' : Shared) (Q' : Value → Shared → Prop) (E' : Value → Shared → Prop), s'.heap.get? I = some oI → Q' (.ref I) s' → wpAny (MM w) A (pyIter (.ref I)) Q' E' s')
    (h : ∀ C D g2 h₁ tk, g2 = hideAll s.heap (news.map (·.1)) → Fr g2 C h₁ (fun _ => none) → News g2 C h₁ ((C + 1, cellN) :: (D, listOf #[] 0) :: news) → (hd.heap_1 w.params).In g2 → TR mg mb g2 → (∀ p ∈ news, @LT.lt Nat _ p.1 D) → @LT.lt Nat _ D C →
      (∀ a o, g.get? a = some o → g2.get? a = some o) → g2.get? L = s.heap.get? L →
      codeAny (MM w) A (.compLoop (.ListComp elt [⟨.Name x px, iter, ifs, 0⟩] scope pos) 0 (.ref I) (.ref D) (cEnv scope ((y, C + 1) :: cl) C env)) (CompEnd g L m g2 C D s Q) { s with heap := h₁, toks := tk }) :
    wpAny (MM w) A (newList []) (fun acc s₃ => wpAny (MM w) A (newFunctionEnv scope env.globals cl [] env.qual none .none (some env)) (fun cenv s₄ =>
      codeAny (MM w) A (.compStart (.ListComp elt [⟨.Name x px, iter, ifs, 0⟩] scope pos) 0 (.ref I) acc { cenv with scope := relabel scope env }) (compPost (MM w) A E use Q acc cenv.locals) s₄) E s₃) E s := by
  subst hu
  have hg2 : ∀ a o, g.get? a = some o → (hideAll s.heap (news.map (·.1))).get? a = some o := fun a o e => hideAll_get _ (F.keep _ _ e) fun hm => by
    obtain ⟨p, hp, rfl⟩ := List.mem_map.mp hm
    rw [(N p hp).2.2] at e; cases e
  have hLn : L ∉ news.map (·.1) := fun hm => by
    obtain ⟨p, hp, e⟩ := List.mem_map.mp hm
    exact (N p hp).2.1 e
  have hL2 : (hideAll s.heap (news.map (·.1))).get? L = s.heap.get? L := by
    obtain ⟨oL, es, ep, e, r⟩ := F.ns
    rw [e]; exact hideAll_get _ e hLn
  refine wpAny_newObj_type (wpAny_newFunctionEnv_one hcf hpc fun h₁ hns₁ hcl₁ hkp₁ => ?_)
  dsimp only at hns₁ hcl₁ hkp₁ ⊢
  generalize hH2 : s.heap.push { cls := .type "list", dict := none, data := .seq ([] : List Value).toArray } = H2 at hns₁ hcl₁ hkp₁ ⊢
  have hC : H2.objs.size = s.heap.objs.size + 1 := by rw [← hH2, Heap.size_push]
  have old : ∀ b o, s.heap.get? b = some o → h₁.get? b = some o := fun b o e => hkp₁ b o (hH2 ▸ Heap.get?_push_of_some _ e)
  have hDC : s.heap.objs.size ≠ H2.objs.size := by rw [hC]; exact Nat.ne_of_lt (Nat.lt_succ_self _)
  have hD : h₁.get? s.heap.objs.size = some (listOf #[] 0) := hkp₁ _ _ (hH2 ▸ Heap.get?_push_size _ rfl)
  have fr : ∀ a, s.heap.objs.size ≤ a → (hideAll s.heap (news.map (·.1))).get? a = none := fun a ha => by
    cases e : (hideAll s.heap (news.map (·.1))).get? a with
    | none => rfl
    | some o' => exact absurd (Heap.lt_size (of_hideAll _ e)) (Nat.not_lt.mpr ha)
  have F2 : Fr (hideAll s.heap (news.map (·.1))) H2.objs.size h₁ (fun _ => none) := ⟨hns₁, fun a o e => old a o (of_hideAll _ e), by rw [hC]; exact Nat.le_trans (Nat.le_of_eq (hideAll_size _ _)) (Nat.le_succ _)⟩
  have N2 : News (hideAll s.heap (news.map (·.1))) H2.objs.size h₁ ((H2.objs.size + 1, cellN) :: (s.heap.objs.size, listOf #[] 0) :: news) := fun p hp => by
    rcases List.mem_cons.mp hp with rfl | hp
    · exact ⟨hcl₁, Nat.ne_of_gt (Nat.lt_succ_self _), fr _ (by rw [hC]; exact Nat.le_trans (Nat.le_succ _) (Nat.le_succ _))⟩
    rcases List.mem_cons.mp hp with rfl | hp
    · exact ⟨hD, hDC, fr _ (Nat.le_refl _)⟩
    · exact ⟨old _ _ (N p hp).1, by rw [hC]; exact Nat.ne_of_lt (Nat.lt_succ_of_lt (Heap.lt_size (N p hp).1)), hideAll_none _ (List.mem_map_of_mem hp)⟩
  have loop := h H2.objs.size s.heap.objs.size _ h₁ s.toks rfl F2 N2 (X.keeps hg2) (T.keeps hg2) (fun p hp => Heap.lt_size (N p hp).1) (by rw [hC]; exact Nat.lt_succ_self _) hg2 hL2
  have loop' : codeAny (MM w) A (.compLoop (.ListComp elt [⟨.Name x px, iter, ifs, 0⟩] scope pos) 0 (.ref I) (.ref s.heap.objs.size) (cEnv scope ((y, H2.objs.size + 1) :: cl) H2.objs.size env)) (compPost (MM w) A E none Q (.ref s.heap.objs.size) H2.objs.size) { s with heap := h₁, toks := s.toks } := by
    refine codeAny_mono loop fun r s' hr => ?_
    obtain ⟨rfl, h', tk, m', news', o, rfl, F', N', hq⟩ := hr
    refine ⟨m', F'.ns, fun h'' hs'' => ?_⟩
    have hCn : ∀ a, a ≠ H2.objs.size → ∀ o, h'.get? a = some o → h''.get? a = some o := fun a ha o e => hs''.extBut a o ha e
    have LC : L ≠ H2.objs.size := by
      obtain ⟨oL, es, ep, e, r⟩ := F.ns
      rw [hC]; exact Nat.ne_of_lt (Nat.lt_succ_of_lt (Heap.lt_size e))
    refine hq h'' ⟨?_, fun a o e => ?_, F.above⟩ fun p hp => ?_
    · obtain ⟨oL, es, ep, e, r⟩ := F.ns
      exact ⟨oL, es, ep, hCn _ LC _ (F'.keep _ _ (by rw [hL2]; exact e)), r⟩
    · exact hCn a (by rw [hC]; exact Nat.ne_of_lt (Nat.lt_succ_of_lt (Heap.lt_size (F.keep _ _ e)))) _ (F'.keep _ _ (hg2 a o e))
    · have n := N' p hp
      refine ⟨hCn _ n.2.1 _ n.1, fun q => ?_, ?_⟩
      · have e2 := n.2.2
        rw [q, hL2] at e2
        obtain ⟨oL, es, ep, e, r⟩ := F.ns
        rw [e] at e2; cases e2
      · cases q : g.get? p.1 with
        | none => rfl
        | some o' => rw [hg2 _ _ q] at n; cases n.2.2
  refine codeAny_compStart_list loop' (hself _ _ _ ?_ loop')
  exact old _ _ (N _ hI).1

end
section
variable {M : Model} {A : Around} {E : Value → Shared → Prop} {s : Shared} {h₀ : Heap} {C : Addr} {m : Str → Option Value} {scope : Scope} {cl : List (Str × Addr)} {env : Env} {news : List (Addr × Obj)}
  {x : Str} {v : Value} {c : Addr} {o : Obj} {v₀ : Option Value} {gg : Obj → List (Addr × Obj)}
theorem storeC_C {Q : Unit → Shared → Prop} (F : Fr h₀ C s.heap m) (N : News h₀ C s.heap news) (hc : cl.lookup x = some c) (U : UpdF c o news gg) (hd : o.data = .cell v₀)
    (h : ∀ h' o', Fr h₀ C h' m → News h₀ C h' (gg o') → o'.data = .cell (some v) → Q () { s with heap := h' })
    (hk : scope.kind = .function := by rfl) (hx : (cEnv scope cl C env).kindOf x = some .cell := by rfl) : wpAny M A (storeName (cEnv scope cl C env) x v) Q E s := by
  obtain ⟨own, rest, rfl, hg, h1, h2⟩ := U.split
  have hmem := N (c, o) (List.mem_append_right _ (.head _))
  refine wpAny_storeName_cell hk hx hc ⟨o, hmem.1, hd⟩ fun h' hv hs => ?_
  obtain ⟨o', ho', hd'⟩ := hv
  refine h h' o' ⟨F.ns.sameBut hs (Ne.symm hmem.2.1), fun b ob e => (hs.2 b (fun q => ?_)).trans (F.keep b ob e), F.above⟩ (hg o' ▸ N.setAt h1 h2 hs ho') hd'
  rw [q, hmem.2.2] at e; cases e
end
section
variable {w : World} {A : Around} {s : Shared} {E : Value → Shared → Prop} {g : Heap} {L : Addr} {m : Str → Option Value} {news : List (Addr × Obj)} {env : Env}
theorem unpack2 {D : Addr} {a b : Value} {o : Obj} {n : Nat} {x y : Str} {px py pos : Pos} {k : Nat} {Q : Unit → Shared → Prop} (hh : A.handled = none) (F : Fr g L s.heap m) (N : News g L s.heap news) (hm : (D, o) ∈ news) (hc : o.cls = .type "tuple") (hd : o.data = .seq #[a, b] n)
    (h : ∀ h', Fr g L h' m → News g L h' news → wpAny (MM w) A (storeName env x a) (fun _ s₁ => wpAny (MM w) A (storeName env y b) Q E s₁) E { s with heap := h' }) :
    wpAny (MM w) A (assign (.Tuple [.Name x px, .Name y py] k pos) env (.ref D)) Q E s := by
  refine assign_Tuple_tuple hh (items := #[a, b]) ⟨_, (N _ hm).1, hc, _, hd⟩ rfl rfl fun h' hx => ?_
  have hk : ∀ b o, s.heap.get? b = some o → h'.get? b = some o := fun b o q => hx b o (Nat.ne_of_lt (Heap.lt_size q)) q
  obtain ⟨F', N'⟩ := same_all F N hk
  exact assignInOrder_cons (wpAny_assign_Name (wpAny_mono (h h' F' N') (fun _ s1 q => assignInOrder_cons (wpAny_assign_Name (wpAny_mono q (fun _ s2 q => assignInOrder_nil q) fun _ _ z => z))) fun _ _ z => z))
end
section
variable {w : World} {mg mb : Str → Option Value} {A : Around} {s : Shared} {E : Value → Shared → Prop} {g : Heap} {L : Addr} {m : Str → Option Value} {news : List (Addr × Obj)} {env : Env}
  {elt iter : Expr} {x : Str} {px : Pos} {ifs : List Expr} {scope : Scope} {cl : List (Str × Addr)} {pos : Pos}
structure CompEndUC (g : Heap) (L : Addr) (m : Str → Option Value) (g2 : Heap) (C D cc : Addr) (s : Shared) (Q : Value → Shared → Prop) (r : Result) (s' : Shared) : Prop where
  ok : r = .ok .next
  h : ∃ h' tk m' news' o oc v0 gg, s' = { s with heap := h', toks := tk } ∧ Fr g2 C h' m' ∧ News g2 C h' ((D, o) :: news') ∧ UpdF cc oc ((D, o) :: news') gg ∧ oc.data = .cell v0 ∧
    ∀ h'' o', Fr g L h'' m → News g L h'' (gg o') → o'.data = .cell (some (.ref D)) → Q .none { s with heap := h'', toks := tk }
theorem CompEndUC.intro {g2 : Heap} {C D cc : Addr} {Q : Value → Shared → Prop} {h' : Heap} {tk : Nat} {m' : Str → Option Value} {news' : List (Addr × Obj)} {o oc : Obj} {v0 : Option Value} {gg : Obj → List (Addr × Obj)} (F : Fr g2 C h' m') (N : News g2 C h' ((D, o) :: news')) (U : UpdF cc oc ((D, o) :: news') gg) (hd : oc.data = .cell v0)
    (h : ∀ h'' o', Fr g L h'' m → News g L h'' (gg o') → o'.data = .cell (some (.ref D)) → Q .none { s with heap := h'', toks := tk }) : CompEndUC g L m g2 C D cc s Q (.ok .next) { s with heap := h', toks := tk } :=
  ⟨rfl, _, _, _, _, _, _, _, _, rfl, F, N, U, hd, h⟩
theorem comp_go_useC {cc : Addr} {I : Addr} {oI : Obj} {y : Str} {py : Pos} {Q : Value → Shared → Prop} (hLe : env.locals = L) (hy : env.kindOf y = some .cell) (hfk : env.scope.kind = .function) (hcc : env.cells.lookup y = some cc) (F : Fr g L s.heap m) (N : News g L s.heap news) (X : (hd.heap_1 w.params).In g) (T : TR mg mb g)
    (hcell : ∀ y ∈ scope.names, y.2 ≠ .cell) (hkind : scope.kind = .function) 
    (hI : (I, oI) ∈ news) (hself : ∀ (s' : Shared) (Q' : Value → Shared → Prop) (E' : Value → Shared → Prop), s'.heap.get? I = some oI → Q' (.ref I) s' → wpAny (MM w) A (pyIter (.ref I)) Q' E' s')
    (h : ∀ C D g2 h₁ tk, g2 = hideAll s.heap (news.map (·.1)) → Fr g2 C h₁ (fun _ => none) → News g2 C h₁ ((D, listOf #[] 0) :: news) → (hd.heap_1 w.params).In g2 → TR mg mb g2 → (∀ p ∈ news, @LT.lt Nat _ p.1 D) → @LT.lt Nat _ D C →
      (∀ a o, g.get? a = some o → g2.get? a = some o) → g2.get? L = s.heap.get? L →
      codeAny (MM w) A (.compLoop (.ListComp elt [⟨.Name x px, iter, ifs, 0⟩] scope pos) 0 (.ref I) (.ref D) (cEnv scope cl C env)) (CompEndUC g L m g2 C D cc s Q) { s with heap := h₁, toks := tk }) :
    wpAny (MM w) A (newList []) (fun acc s₃ => wpAny (MM w) A (newFunctionEnv scope env.globals cl [] env.qual none .none (some env)) (fun cenv s₄ =>
      codeAny (MM w) A (.compStart (.ListComp elt [⟨.Name x px, iter, ifs, 0⟩] scope pos) 0 (.ref I) acc { cenv with scope := relabel scope env }) (compPost (MM w) A E (some (assign (.Name y py) env)) Q acc cenv.locals) s₄) E s₃) E s := by
  subst hLe
  have hg2 : ∀ a o, g.get? a = some o → (hideAll s.heap (news.map (·.1))).get? a = some o := fun a o e => hideAll_get _ (F.keep _ _ e) fun hm => by
    obtain ⟨p, hp, rfl⟩ := List.mem_map.mp hm
    rw [(N p hp).2.2] at e; cases e
  have hLn : env.locals ∉ news.map (·.1) := fun hm => by
    obtain ⟨p, hp, e⟩ := List.mem_map.mp hm
    exact (N p hp).2.1 e
  have hL2 : (hideAll s.heap (news.map (·.1))).get? env.locals = s.heap.get? env.locals := by
    obtain ⟨oL, es, ep, e, r⟩ := F.ns
    rw [e]; exact hideAll_get _ e hLn
  refine wpAny_newObj_type (wpAny_newFunctionEnv hcell (by intro y hy; simp at hy) (fun h₁ hns₁ hsb₁ => ?_) hkind)
  dsimp only at hns₁ hsb₁ ⊢
  generalize hH2 : s.heap.push { cls := .type "list", dict := none, data := .seq ([] : List Value).toArray } = H2 at hns₁ hsb₁ ⊢
  have hC : H2.objs.size = s.heap.objs.size + 1 := by rw [← hH2, Heap.size_push]
  have old : ∀ b o, s.heap.get? b = some o → h₁.get? b = some o := fun b o e => hsb₁.extBut b o (by rw [hC]; exact Nat.ne_of_lt (Nat.lt_succ_of_lt (Heap.lt_size e))) (Heap.get?_push_of_some _ (hH2 ▸ Heap.get?_push_of_some _ e))
  have hDC : s.heap.objs.size ≠ H2.objs.size := by rw [hC]; exact Nat.ne_of_lt (Nat.lt_succ_self _)
  have hD : h₁.get? s.heap.objs.size = some (listOf #[] 0) := hsb₁.extBut _ _ hDC (Heap.get?_push_of_some _ (hH2 ▸ Heap.get?_push_size _ rfl))
  have fr : ∀ a, s.heap.objs.size ≤ a → (hideAll s.heap (news.map (·.1))).get? a = none := fun a ha => by
    cases e : (hideAll s.heap (news.map (·.1))).get? a with
    | none => rfl
    | some o' => exact absurd (Heap.lt_size (of_hideAll _ e)) (Nat.not_lt.mpr ha)
  have F2 : Fr (hideAll s.heap (news.map (·.1))) H2.objs.size h₁ (fun _ => none) := ⟨hns₁, fun a o e => old a o (of_hideAll _ e), by rw [hC]; exact Nat.le_trans (Nat.le_of_eq (hideAll_size _ _)) (Nat.le_succ _)⟩
  have N2 : News (hideAll s.heap (news.map (·.1))) H2.objs.size h₁ ((s.heap.objs.size, listOf #[] 0) :: news) := fun p hp => by
    rcases List.mem_cons.mp hp with rfl | hp
    · exact ⟨hD, hDC, fr _ (Nat.le_refl _)⟩
    · exact ⟨old _ _ (N p hp).1, by rw [hC]; exact Nat.ne_of_lt (Nat.lt_succ_of_lt (Heap.lt_size (N p hp).1)), hideAll_none _ (List.mem_map_of_mem hp)⟩
  have loop := h H2.objs.size s.heap.objs.size _ h₁ (s.toks + ([] : List (Str × Value)).length) rfl F2 N2 (X.keeps hg2) (T.keeps hg2) (fun p hp => Heap.lt_size (N p hp).1) (by rw [hC]; exact Nat.lt_succ_self _) hg2 hL2
  have loop' : codeAny (MM w) A (.compLoop (.ListComp elt [⟨.Name x px, iter, ifs, 0⟩] scope pos) 0 (.ref I) (.ref s.heap.objs.size) (cEnv scope cl H2.objs.size env)) (compPost (MM w) A E (some (assign (.Name y py) env)) Q (.ref s.heap.objs.size) H2.objs.size) { s with heap := h₁, toks := s.toks + ([] : List (Str × Value)).length } := by
    refine codeAny_mono loop fun r s' hr => ?_
    obtain ⟨rfl, h', tk, m', news', o, oc, v0, gg, rfl, F', N', U, hdc, hq⟩ := hr
    have LC : env.locals ≠ H2.objs.size := by
      obtain ⟨oL, es, ep, e, r⟩ := F.ns
      rw [hC]; exact Nat.ne_of_lt (Nat.lt_succ_of_lt (Heap.lt_size e))
    have hns : h'.Ns env.locals m := by
      obtain ⟨oL, es, ep, e, r⟩ := F.ns
      exact ⟨oL, es, ep, F'.keep _ _ (by rw [hL2]; exact e), r⟩
    obtain ⟨pre, post, e1, e2, p1, p2⟩ := U.split
    have hcm := N' (cc, oc) (by rw [e1]; exact List.mem_append_right _ (.head _))
    have offL : ∀ p, (0 : Nat) = 0 → (hideAll s.heap (news.map (·.1))).get? p = none → p ≠ env.locals := fun p _ hn q => by
      rw [q, hL2] at hn
      obtain ⟨oL, es, ep, e, r⟩ := F.ns
      rw [e] at hn; cases hn
    have offg : ∀ p o, g.get? p = some o → (hideAll s.heap (news.map (·.1))).get? p = none → False := fun p o e hn => by rw [hg2 _ _ e] at hn; cases hn
    show wpAny (MM w) A (assign (.Name y py) env (.ref s.heap.objs.size)) _ E _
    refine wpAny_assign_Name (wpAny_storeName_cell hfk hy hcc ⟨oc, hcm.1, hdc⟩ fun h₂ hv hs₂ => ?_)
    obtain ⟨o', ho', hd'⟩ := hv
    refine ⟨m', F'.ns.sameBut hs₂ (Ne.symm hcm.2.1), fun h'' hs'' => ?_⟩
    have hCn : ∀ a, a ≠ H2.objs.size → a ≠ cc → ∀ o, h'.get? a = some o → h''.get? a = some o := fun a ha hb o e => hs''.extBut a o ha (hs₂.extBut a o hb e)
    refine hq h'' o' ⟨?_, fun a o e => ?_, F.above⟩ (fun p hp => ?_) hd'
    · obtain ⟨oL, es, ep, e, r⟩ := hns
      exact ⟨oL, es, ep, hCn _ LC (Ne.symm (offL _ rfl hcm.2.2)) _ e, r⟩
    · refine hCn a (by rw [hC]; exact Nat.ne_of_lt (Nat.lt_succ_of_lt (Heap.lt_size (F.keep _ _ e)))) (fun q => ?_) _ (F'.keep _ _ (hg2 a o e))
      rw [q] at e
      exact offg _ _ e hcm.2.2
    · rw [e2] at hp
      have gn : ∀ p, (hideAll s.heap (news.map (·.1))).get? p = none → g.get? p = none := fun p hn => by
        cases q : g.get? p with
        | none => rfl
        | some o' => exact (offg _ _ q hn).elim
      rcases List.mem_append.mp hp with hp | hp
      · have n := N' p (by rw [e1]; exact List.mem_append_left _ hp)
        exact ⟨hCn _ n.2.1 (p1 p hp) _ n.1, offL _ rfl n.2.2, gn _ n.2.2⟩
      · rcases List.mem_cons.mp hp with rfl | hp
        · exact ⟨hs''.extBut _ _ hcm.2.1 ho', offL _ rfl hcm.2.2, gn _ hcm.2.2⟩
        · have n := N' p (by rw [e1]; exact List.mem_append_right _ (.tail _ hp))
          exact ⟨hCn _ n.2.1 (p2 p hp) _ n.1, offL _ rfl n.2.2, gn _ n.2.2⟩
  refine codeAny_compStart_list loop' (hself _ _ _ ?_ loop')
  exact old _ _ (N _ hI).1
end
end Mine
-- part GenSeg
namespace Mine
section
variable {prog : Program} {w : World} {A : Around} {R : GenEnd} {Y : Protocol} {n : Nat} {s₀ : Shared} {c : Code} {fs : List Frame} {s : Shared} {env : Env}
  {K : Flow → Sem Fin} {H : Value → Sem Fin} {gd : Bool → Bool} {lv : List Value → List Value}

theorem seg_stmt {st : Stmt} {rest : List Stmt} (h : wpAny (model prog w) (A.over c fs) (exec st env) (fun f s' => match f with
      | .next => Seg (model prog w) A R Y n s₀ c ((execs rest env).wrap K H gd lv) fs s'
      | f => Seg (model prog w) A R Y n s₀ c (K f) fs s') (fun _ _ => False) s) :
    Seg (model prog w) A R Y n s₀ c ((execs (st :: rest) env).wrap K H gd lv) fs s := by
  refine seg_execs_cons (seg_wrap (wpAny_mono h (fun f s' h' => ?_) fun _ _ e => e.elim))
  cases f <;> exact h'

theorem seg_If {test : Expr} {body orelse rest : List Stmt} {pos : Pos} (h : wpAny (model prog w) (A.over c fs) (isTrue test env (eval test env)) (fun b s' =>
      Seg (model prog w) A R Y n s₀ c ((execs (if b = true then body else orelse) env).wrap (fun f => match f with | .next => (execs rest env).wrap K H gd lv | f => K f) H gd lv) fs s') (fun _ _ => False) s) :
    Seg (model prog w) A R Y n s₀ c ((execs (.If test body orelse pos :: rest) env).wrap K H gd lv) fs s := by
  refine seg_execs_cons ?_
  rw [exec_If]
  refine seg_at ?_
  show Seg _ A R Y n s₀ c (Sem.wrap _ _ _ _ (isTrue test env (eval test env) >>= fun b => if b = true then execs body env else execs orelse env)) fs s
  rw [Sem.bind_eq_wrap', Sem.wrap_wrap]
  refine seg_wrap (wpAny_mono h (fun b s' h' => ?_) fun _ _ e => e.elim)
  cases b with
  | true => rw [if_pos rfl] at h' ⊢; exact h'
  | false => rw [if_neg Bool.false_ne_true] at h' ⊢; exact h'

theorem seg_For {target iter : Expr} {body orelse rest : List Stmt} {pos : Pos}
    (h : wpAny (model prog w) (A.over c fs) (eval iter env) (fun x s₁ => wpAny (model prog w) (A.over c fs) (pyIter x) (fun it s₂ => ∀ kk p,
      Seg (model prog w) A R Y n s₀ (.forLoop target it body orelse env) ((model prog w).den (.forLoop target it body orelse env)) (.ret kk none (gd false) (lv []) c p [] :: fs) s₂) (fun _ _ => False) s₁) (fun _ _ => False) s)
    (hs : ∀ x, foldedSetIterable iter env x = pure x) :
    Seg (model prog w) A R Y n s₀ c ((execs (.For target iter body orelse pos :: rest) env).wrap K H gd lv) fs s := by
  refine seg_execs_cons ?_
  rw [exec_For]
  refine seg_at ?_
  show Seg _ A R Y n s₀ c (Sem.wrap _ _ _ _ (eval iter env >>= fun y => foldedSetIterable iter env y >>= fun x => (standAt iter.pos >>= fun _ => holding [x] (pyIter x) >>= fun it => runOwn (.forLoop target it body orelse env) env))) fs s
  rw [Sem.bind_eq_wrap', Sem.wrap_wrap]
  refine seg_wrap (wpAny_mono h (fun x s₁ h₁ => ?_) fun _ _ e => e.elim)
  rw [hs x]
  refine seg_at ?_
  show Seg _ A R Y n s₀ c (Sem.wrap _ _ _ _ (holding [x] (pyIter x) >>= fun it => runOwn (.forLoop target it body orelse env) env)) fs s₁
  rw [Sem.bind_eq_wrap', Sem.wrap_wrap]
  refine seg_wrap (wpAny_holding (wpAny_mono h₁ (fun it s₂ h₂ => ?_) fun _ _ e => e.elim))
  exact seg_call (h₂ _)

theorem seg_forLoop {target : Expr} {it : Value} {body orelse : List Stmt}
    (h : wpAny (model prog w) (A.over (.forLoop target it body orelse env) fs) (pyNext it) (fun r s₁ => match r with
      | none => False
      | some v => wpAny (model prog w) (A.over (.forLoop target it body orelse env) fs) (letOwnedTupleGo target it v) (fun _ s₂ => wpAny (model prog w) (A.over (.forLoop target it body orelse env) fs) (assign target env v) (fun _ s₃ => ∀ H',
          Seg (model prog w) A R Y n s₀ (.forLoop target it body orelse env) ((execs body env).wrap (fun f => match f with
            | .next | .cont => .pure (.again (.forLoop target it body orelse env))
            | .brk => .pure (.done .next)
            | .ret v => .pure (.done (.ret v))) H' id id) fs s₃) (fun _ _ => False) s₂) (fun _ _ => False) s₁) (fun _ _ => False) s) :
    Seg (model prog w) A R Y n s₀ (.forLoop target it body orelse env) ((model prog w).den (.forLoop target it body orelse env)) fs s := by
  show Seg _ A R Y n s₀ _ ((forTurn target it body orelse env).onRaise (fun x => do noteFrame x env; theTreesLotGoes x)) fs s
  unfold forTurn
  rw [Sem.onRaise_eq_wrap]
  refine seg_at ?_
  show Seg _ A R Y n s₀ _ (Sem.wrap _ _ _ _ ((pyNext it).onRaise (fun _ => standAt { target.pos with line := 0 }) >>= _)) fs s
  rw [Sem.bind_eq_wrap', Sem.wrap_wrap, Sem.onRaise_eq_wrap, Sem.wrap_wrap]
  refine seg_wrap (wpAny_mono h (fun r s₁ h₁ => ?_) fun _ _ e => e.elim)
  cases r with
  | none => exact h₁.elim
  | some v =>
    show Seg _ A R Y n s₀ _ (Sem.wrap _ _ _ _ (letOwnedTupleGo target it v >>= fun _ => assign target env v >>= fun _ => execs body env >>= _)) fs s₁
    rw [Sem.bind_eq_wrap', Sem.wrap_wrap]
    refine seg_wrap (wpAny_mono h₁ (fun _ s₂ h₂ => ?_) fun _ _ e => e.elim)
    rw [Sem.bind_eq_wrap', Sem.wrap_wrap]
    refine seg_wrap (wpAny_mono h₂ (fun _ s₃ h₃ => ?_) fun _ _ e => e.elim)
    rw [Sem.bind_eq_wrap', Sem.wrap_wrap]
    have h₄ := h₃ (fun e => (Sem.raise e : Sem Fin).wrap .pure (fun e => (do noteFrame e env; theTreesLotGoes e : Sem Unit).bind fun _ => .raise e) id id)
    rw [Sem.wrap_congr (execs body env) _ _ (K' := fun f => match f with
            | .next | .cont => .pure (.again (.forLoop target it body orelse env))
            | .brk => .pure (.done .next)
            | .ret v => .pure (.done (.ret v))) (H' := fun e => (Sem.raise e : Sem Fin).wrap .pure (fun e => (do noteFrame e env; theTreesLotGoes e : Sem Unit).bind fun _ => .raise e) id id)
        (fun f => by cases f <;> rfl) (fun e => rfl)]
    exact h₄

/-- the next of a generator that never ends -/
theorem next_gen {E : Value → Shared → Prop} {a : Addr} {g n : Nat} {gs : GenState} {Y : Protocol} {Q : Option Value → Shared → Prop}
    (hl : s.heap.NoLimit) (hroom : A.depth < recursionLimit)
    (hg : s.heap.IsGen a g) (hgs : s.gens[g]? = some gs)
    (hgo : gs.Goes (model prog w) A.in1 (fun _ _ _ _ => False) Y n (.send .none) (s.setGen g .running))
    (hY : ∀ v s₁ gs', gs'.bare = true → Y (n - 1) (s.setGen g .running) v s₁ (fun r' s'' => match n with
        | 0 => False
        | m + 1 => gs'.Goes (model prog w) A.in1 (fun _ _ _ _ => False) Y m r' s'') → Q (some v) (s₁.setGen g gs')) :
    wpAny (model prog w) A (pyNext (.ref a)) Q E s := by
  unfold pyNext
  refine wpAny_bind (wpAny_attempt (wpAny_callSpecial?_slot (name := Str.ofString "__next__") hg.typeIs slot_gen_next
    (wpAny_call_entry slot_gen_next hg.typeIs entry_gen_next ?_ (args_gen_next _))))
  show wpAny _ A.in1 (Builtin.Generator.genWake (.ref a) (.send .none)) _ _ s
  unfold Builtin.Generator.genWake
  refine wpAny_bind (wpAny_holding (wpAny_genNumber hg (wpAny_bind (wpAny_genState hgs ?_))))
  cases gs with
  | running => exact hgo.elim
  | finished => exact hgo.elim
  | _ =>
    refine wpAny_bind (wpAny_roomToWake hl hroom ?_)
    show wpAny _ A.in1 (.resume g (.send .none) [] _) _ _ s
    refine wpAny_resumeQ hgs hgo (fun x s₁ hx => hx.elim) (fun v s₁ gs' hb hv => ?_)
    exact wpAny_pure ⟨v, rfl, wpAny_pure (hY v s₁ gs' hb hv)⟩
end
end Mine
-- part GenC
namespace Mine
local macro_rules | `(tactic| walk_at "zz zz") => `(tactic| fail "pad")
theorem freshGenC : True := by w_top off; trivial
def cutH (h : Heap) (n : Nat) : Heap := ⟨h.objs.extract 0 n, h.life⟩
theorem cutH_getE (h : Heap) (n b : Nat) : (cutH h n).objs[b]? = if b < n then h.objs[b]? else none := by
  show (h.objs.extract 0 n)[b]? = _
  rw [Array.getElem?_extract]
  by_cases hb : b < n
  · rw [if_pos hb]
    by_cases h2 : b < h.objs.size
    · rw [if_pos (by omega)]; simp
    · rw [if_neg (by omega), Array.getElem?_eq_none (by omega)]
  · rw [if_neg hb, if_neg (by omega)]
theorem cutH_get {h : Heap} {n : Nat} {b : Addr} {o : Obj} (e : h.get? b = some o) (hb : @LT.lt Nat _ b n) : (cutH h n).get? b = some o := by
  unfold Heap.get? at e ⊢
  rw [cutH_getE, if_pos hb]; exact e
theorem of_cutH {h : Heap} {n : Nat} {b : Addr} {o : Obj} (e : (cutH h n).get? b = some o) : h.get? b = some o := by
  unfold Heap.get? at e ⊢
  rw [cutH_getE] at e
  by_cases hb : @LT.lt Nat _ b n
  · rw [if_pos hb] at e; exact e
  · rw [if_neg hb] at e; cases e
theorem cutH_none {h : Heap} {n : Nat} {b : Addr} (hb : @LE.le Nat _ n b) : (cutH h n).get? b = none := by
  unfold Heap.get?
  rw [cutH_getE, if_neg (Nat.not_lt.mpr hb)]
theorem cutH_size (h : Heap) (n : Nat) : (cutH h n).objs.size ≤ n := by
  show (h.objs.extract 0 n).size ≤ n
  rw [Array.size_extract]; omega
/-- what holds each time the generator gives a value -/
def genY (g : Heap) (Lg I G a : Addr) (oG oa : Obj) (part : Int) : Protocol := fun n s₀ v s kap =>
  ∃ t, v = .int part t ∧ s = { s₀ with heap := s.heap, toks := s.toks } ∧ (∀ b o, @LT.lt Nat _ b Lg → s₀.heap.get? b = some o → s.heap.get? b = some o) ∧ s.heap.get? a = some oa ∧ (∃ o, s.heap.get? Lg = some o) ∧ (∃ o, s.heap.get? I = some o) ∧
    (n = 0 ∨ ∀ s'' : Shared, (∀ b o, g.get? b = some o → s''.heap.get? b = some o) → s''.heap.get? G = some oG → s''.heap.get? a = some oa → s''.heap.get? Lg = s.heap.get? Lg → s''.heap.get? I = s.heap.get? I → kap (.send .none) s'')
section
variable {w : World} {A : Around} {R : GenEnd} {g : Heap} {Lg I G a : Addr} {oG oa : Obj} {part : Int} {name : Str} {scope : Scope} {f : Addr} {cdv : Value} {x : Str} {px p1 p2 p3 : Pos} {k : Nat} {t : Tok}
theorem ns_of {h h' : Heap} {L : Addr} {m : Str → Option Value} (n : h.Ns L m) (e : h'.get? L = h.get? L) : h'.Ns L m := by
  obtain ⟨oL, es, ep, e2, r⟩ := n
  exact ⟨oL, es, ep, e.trans e2, r⟩
theorem segC (hk : scope.kind = .function) (hx : (envX name scope Lg f cdv []).kindOf x = some .local) (hd : (x == ("__debug__" : Str)) = false) (hco : scope.isCoroutine = false) : ∀ (n : Nat) (s₀ s : Shared) (fs : List Frame) (m : Str → Option Value), s = { s₀ with heap := s.heap, toks := s.toks } → (∀ b o, @LT.lt Nat _ b Lg → s₀.heap.get? b = some o → s.heap.get? b = some o) → s.heap.Ns Lg m → m x = some (.int part t) → s.heap.get? a = some oa → (∃ o, s.heap.get? I = some o) → splitAtGen fs = none → fs.any Frame.guarded = false →
    Seg (MM w) A R (genY g Lg I G a oG oa part) (n + 1) s₀ (.whileLoop (.Constant (.bool true) k p1) [.Expr (.Yield (some (.Name x px)) p2) p3] [] (envX name scope Lg f cdv [])) ((MM w).den (.whileLoop (.Constant (.bool true) k p1) [.Expr (.Yield (some (.Name x px)) p2) p3] [] (envX name scope Lg f cdv []))) fs s := by
  have key : ∀ (n : Nat) (s₀ s : Shared) (fs : List Frame) (m : Str → Option Value), s = { s₀ with heap := s.heap, toks := s.toks } → (∀ b o, @LT.lt Nat _ b Lg → s₀.heap.get? b = some o → s.heap.get? b = some o) → s.heap.Ns Lg m → m x = some (.int part t) → s.heap.get? a = some oa → (∃ o, s.heap.get? I = some o) → splitAtGen fs = none → fs.any Frame.guarded = false →
      (n = 0 ∨ ∀ (s : Shared), s.heap.Ns Lg m → s.heap.get? a = some oa → (∃ o, s.heap.get? I = some o) → Seg (MM w) A R (genY g Lg I G a oG oa part) n s (.whileLoop (.Constant (.bool true) k p1) [.Expr (.Yield (some (.Name x px)) p2) p3] [] (envX name scope Lg f cdv [])) ((MM w).den (.whileLoop (.Constant (.bool true) k p1) [.Expr (.Yield (some (.Name x px)) p2) p3] [] (envX name scope Lg f cdv []))) fs s) →
      Seg (MM w) A R (genY g Lg I G a oG oa part) (n + 1) s₀ (.whileLoop (.Constant (.bool true) k p1) [.Expr (.Yield (some (.Name x px)) p2) p3] [] (envX name scope Lg f cdv [])) ((MM w).den (.whileLoop (.Constant (.bool true) k p1) [.Expr (.Yield (some (.Name x px)) p2) p3] [] (envX name scope Lg f cdv []))) fs s := by
    intro n s₀ s fs m hs hkp hn hm ha hI h1 h2 ih
    refine seg_whileLoop ?_
    k_steps
    refine seg_execs_cons (seg_Expr_Yield h1 rfl h2 (wpAny_Name (wpAny_loadName_local hk hx hn hm ?_) hd) hco ?_)
    · intro kap hkap
      refine ⟨t, rfl, hs, hkp, ha, ?_, hI, ?_⟩
      · obtain ⟨o, es, ep, e, _⟩ := hn; exact ⟨o, e⟩
      · rcases ih with ih | ih
        · exact .inl ih
        · exact .inr fun s'' _ _ ha' hl hi => hkap .none s'' (seg_execs_nil (seg_again rfl (ih s'' (ns_of hn hl) ha' (by rw [hi]; exact hI))))
    · show (scope.kind == .module && _) = false
      rw [hk]; rfl
  intro n
  induction n with
  | zero => intro s₀ s fs m hs hkp hn hm ha hI h1 h2; exact key 0 s₀ s fs m hs hkp hn hm ha hI h1 h2 (.inl rfl)
  | succ n ih => intro s₀ s fs m hs hkp hn hm ha hI h1 h2; exact key (n + 1) s₀ s fs m hs hkp hn hm ha hI h1 h2 (.inr fun s' hn' ha' hI' => ih s' s' fs m rfl (fun _ _ _ e => e) hn' hm ha' hI' h1 h2)
end
end Mine
-- part Gen
namespace Mine
local macro_rules | `(tactic| walk_at "zz zz") => `(tactic| fail "pad")
theorem freshGen : True := by w_top off; trivial

section
variable {w : World} {mg mb : Str → Option Value} {A : Around} {s : Shared} {E : Value → Shared → Prop} {g : Heap} {L : Addr} {m : Str → Option Value} {news : List (Addr × Obj)}
  {name qual : Str} {params : Arguments} {body : List Stmt} {scope : Scope} {dV kV doc pm cdv ct oc : Value} {an od : Option Addr} {osl : Array (Option Value)} {f : Addr} {args : Args} {binds : List (Str × Value)}
  {R : Result → Shared → Prop}
theorem enterG (F : Fr g L s.heap m) (X : (hd.heap_1 w.params).In g) (T : TR mg mb g)
    (ho : (hd.heap_1 w.params).lookup f = some ⟨oc, od, .func (fnX name qual params body scope [] dV kV doc pm an cdv ct), osl⟩) (hcd : codeIn (hd.heap_1 w.params) cdv qual = true) (hroom : A.depth < recursionLimit)
    (hbind : BindsTo s (fnX name qual params body scope [] dV kV doc pm an cdv ct) args binds) (hloc : ∀ y ∈ binds, scope.names.lookup y.1 = some .local)
    (hcell : ∀ x ∈ scope.names, x.2 ≠ .cell)
    (h : ∀ (h₁ : Heap) (o : Obj) (nm qn : Value) (tk : Nat), h₁.Ns s.heap.objs.size (fun y => binds.reverse.lookup y) → (∀ b o, s.heap.get? b = some o → h₁.get? b = some o) → h₁.objs.size = s.heap.objs.size + 1 → o = { cls := .type "generator", data := .fields #[.int s.gens.size 0, nm, qn] } →
      R (.ok (.ret (.ref h₁.objs.size))) { s with heap := h₁.push o, toks := tk, gens := s.gens.push (.fresh (.func body (envX qual scope s.heap.objs.size f cdv []))) })
    (hco : scope.isCoroutine = false) (hgen : scope.isGenerator = true) (hk : scope.kind = .function) : codeAny (MM w) A (.call (.ref f) args) R s := by
  refine codeAny_call_generator (fd := fnX name qual params body scope [] dV kV doc pm an cdv ct) (body := body) hroom (F.keep _ _ (X _ _ ho)) rfl hco hgen rfl (codeRec_of (X.keeps F.keep) hcd) (hbind _ _ _ _ ?_)
  refine wpAny_newFunctionEnv hcell hloc (fun h₀ hns₀ hsb₀ => ?_) hk
  have hz : h₀.objs.size = s.heap.objs.size + 1 := by rw [hsb₀.1, Heap.size_push]
  exact ⟨((T.nolimit.keeps F.keep).fresh _ hsb₀), h h₀ _ _ _ _ hns₀ (fun b o e => hsb₀.extBut b o (Nat.ne_of_lt (Heap.lt_size e)) (Heap.get?_push_of_some _ e)) hz rfl⟩
theorem storeS {M : Model} {A : Around} {E : Value → Shared → Prop} {s : Shared} {h₀ : Heap} {C : Addr} {m : Str → Option Value} {news : List (Addr × Obj)} {x : Str} {v : Value} {Q : Unit → Shared → Prop} {nm : Str} {cd : Value} (F : Fr h₀ C s.heap m) (N : News h₀ C s.heap news)
    (hk : scope.kind = .function) (hx : (envX nm scope C f cd []).kindOf x = some .local)
    (h : ∀ h', Fr h₀ C h' (fun y => if y = x then some v else m y) → News h₀ C h' news → h'.objs.size = s.heap.objs.size → Q () { s with heap := h', toks := s.toks + 1 }) :
    wpAny M A (storeName (envX nm scope C f cd []) x v) Q E s := by
  have hp : ((envX nm scope C f cd []).scope.kind == .class || ((envX nm scope C f cd []).scope.kind == .module && (envX nm scope C f cd []).locals != (envX nm scope C f cd []).globals)) = false := by
    show (scope.kind == .class || (scope.kind == .module && _)) = false
    rw [hk]; rfl
  exact wpAny_storeName_local hx F.ns (fun h' hn hs => h h' (F.set hn hs) (N.set hs) hs.1) hp
theorem iter_liS {l : Addr} {o : Obj} {its : Array Value} {Q : Value → Shared → Prop} (F : Fr g L s.heap m) (N : News g L s.heap news) (hl : s.heap.get? l = some o) (ho : IsLs o its)
    (h : ∀ h' oI, IsLi oI l 0 → Fr g L h' m → News g L h' ((s.heap.objs.size, oI) :: news) → Q (.ref s.heap.objs.size) { s with heap := h' }) : wpAny (MM w) A (pyIter (.ref l)) Q E s :=
  wpAny_pyIter_list ⟨o, hl, ho⟩ (h _ _ ⟨rfl, rfl⟩ (F.push _) (N.push F _))
local macro_rules | `(tactic| walk_at "storeName") => `(tactic| (k_dflt (refine' storeS ?F ?N ?k ?x ?_; (case F => k_asm); (case N => k_asm); (case k => rfl); (case x => rfl); k_whole; intro h' F' N' hz'; (try k_sweep))))
section
variable {prog : Program} {R : GenEnd} {Y : Protocol} {n : Nat} {s₀ : Shared} {c : Code} {fs : List Frame} {env : Env} {K : Flow → Sem Fin} {H : Value → Sem Fin} {gd : Bool → Bool} {lv : List Value → List Value} {test : Expr} {body rest : List Stmt} {pos : Pos}
theorem seg_If_no (h : wpAny (model prog w) (A.over c fs) (isTrue test env (eval test env)) (fun b s' => b = false ∧ Seg (model prog w) A R Y n s₀ c ((execs rest env).wrap K H gd lv) fs s') (fun _ _ => False) s) :
    Seg (model prog w) A R Y n s₀ c ((execs (.If test body [] pos :: rest) env).wrap K H gd lv) fs s := by
  refine seg_If (wpAny_mono h ?_ fun _ _ e => e)
  rintro b s' ⟨rfl, h'⟩
  exact seg_execs_nil h'
theorem seg_If_yes (h : wpAny (model prog w) (A.over c fs) (isTrue test env (eval test env)) (fun b s' => b = true ∧ Seg (model prog w) A R Y n s₀ c ((execs body env).wrap (fun f => match f with | .next => (execs rest env).wrap K H gd lv | f => K f) H gd lv) fs s') (fun _ _ => False) s) :
    Seg (model prog w) A R Y n s₀ c ((execs (.If test body [] pos :: rest) env).wrap K H gd lv) fs s := by
  refine seg_If (wpAny_mono h ?_ fun _ _ e => e)
  rintro b s' ⟨rfl, h'⟩
  exact h'
end
theorem gi_call {part : Int} {tp tz : Tok} {G : Addr} {nG : Nat} {Q : Value → Shared → Prop} (F : Fr g L s.heap m) (X : (hd.heap_1 w.params).In g) (T : TR mg mb g) (hG : s.heap.get? G = some (listOf #[.int part tp, .int 0 tz] nG)) (hp1 : 1 ≤ part) (hp2 : part ≤ 100) (hroom : A.depth < recursionLimit) (hA : A.handled = none)
    (h : ∀ (a Lg : Addr) (h' : Heap) (tk : Nat) (gs : GenState) (oa : Obj), (∀ b o, s.heap.get? b = some o → h'.get? b = some o) → @LE.le Nat _ s.heap.objs.size Lg → @LT.lt Nat _ Lg a → h'.objs.size = a + 1 → h'.IsGen a s.gens.size → h'.get? a = some oa → (∃ o, h'.get? Lg = some o) → gs.bare = true →
      (∀ n, gs.Goes (MM w) A.in1 (fun _ _ _ _ => False) (genY g Lg (a + 1) G a (listOf #[.int part tp, .int 0 tz] nG) oa part) (n + 1) (.send .none) (({ s with heap := h', toks := tk, gens := s.gens.push gs } : Shared).setGen s.gens.size .running)) →
      Q (.ref a) { s with heap := h', toks := tk, gens := s.gens.push gs }) :
    wpAny (MM w) A (call (.ref 200) [.ref G]) Q E s := by
  refine wpAny_call ?_
  k_dflt (refine' enterG (binds := [(Str.ofString "grouping", .ref G)]) F X T ?k6 ?k7 hroom ?k9 ?kB ?c5 ?_ ?c2 ?c3 ?c4; (case k6 => k_is); (case k7 => k_is); (case k9 => exact BindsTo.of_eq rfl); (case c5 => decide); (case kB => exact locs rfl); (case c2 => exact rfl); (case c3 => exact rfl); (case c4 => exact rfl); k_whole)
  intro h₁ o nm qn tk hns hk hz ho
  generalize hLg : s.heap.objs.size = Lg at hns hz
  have hlt : ∀ b o, s.heap.get? b = some o → @LT.lt Nat _ b Lg := fun b o e => by rw [← hLg]; exact Heap.lt_size e
  have ha : (h₁.push o).get? h₁.objs.size = some o := Heap.get?_push_size _ (by rw [ho]; rfl)
  have hk2 : ∀ b ob, h₁.get? b = some ob → (h₁.push o).get? b = some ob := fun b ob e => Heap.get?_push_of_some _ e
  refine h h₁.objs.size Lg (h₁.push o) tk _ o (fun b ob e => hk2 b ob (hk b ob e)) (Nat.le_of_eq hLg) (by rw [hz]; exact Nat.lt_succ_self _) (by rw [Heap.size_push]) ⟨o, nm, qn, ha, by rw [ho], by rw [ho], by rw [ho]⟩ ha (by obtain ⟨oL, es, ep, e, _⟩ := hns; exact ⟨oL, hk2 _ _ e⟩) rfl ?_
  intro n
  have hgL : ∀ b ob, g.get? b = some ob → @LT.lt Nat _ b Lg := fun b ob e => hlt b ob (F.keep b ob e)
  have hGL := hlt _ _ hG
  have hI : @LT.lt Nat _ Lg (h₁.objs.size + 1) := by rw [hz]; exact Nat.lt_succ_of_lt (Nat.lt_succ_self _)
  refine ⟨rfl, ?_⟩
  generalize hs₀ : (({ s with heap := h₁.push o, toks := tk, gens := s.gens.push (.fresh (.func _ _)) } : Shared).setGen s.gens.size .running) = s₀
  have hh₀ : s₀.heap = h₁.push o := by rw [← hs₀]; rfl
  -- the base of the generator's own walk
  have X' : (hd.heap_1 w.params).In (cutH s₀.heap Lg) := X.keeps fun b ob e => cutH_get (by rw [hh₀]; exact hk2 _ _ (hk _ _ (F.keep _ _ e))) (hgL _ _ e)
  have T' : TR mg mb (cutH s₀.heap Lg) := T.keeps fun b ob e => cutH_get (by rw [hh₀]; exact hk2 _ _ (hk _ _ (F.keep _ _ e))) (hgL _ _ e)
  have F' : Fr (cutH s₀.heap Lg) Lg s₀.heap _ := ⟨by rw [hh₀]; exact hns.keeps hk2, fun b ob e => of_cutH e, cutH_size _ _⟩
  have hGg : (cutH s₀.heap Lg).get? G = some (listOf #[.int part tp, .int 0 tz] nG) := cutH_get (by rw [hh₀]; exact hk2 _ _ (hk _ _ hG)) hGL
  have N' : News (cutH s₀.heap Lg) Lg s₀.heap [(h₁.objs.size, o)] := fun p hp => by
    rw [List.mem_singleton.mp hp]
    exact ⟨by rw [hh₀]; exact ha, by rw [hz]; exact Nat.succ_ne_self _, cutH_none (by rw [hz]; exact Nat.le_succ _)⟩
  refine seg_func (seg_stmt ?_)
  have hAA : A.in1.handled = none := hA
  clear hs₀ h
  k_steps
  rename Fr (cutH s₀.heap Lg) Lg _ _ => F2
  rename News (cutH s₀.heap Lg) Lg _ _ => N2
  rename_i h2 hz2
  refine seg_For ?_ (fun _ => by with_unfolding_all rfl)
  k_steps
  refine iter_liS F2 N2 (F2.keep _ _ hGg) (isLs _ _) ?_
  have hI2 : h2.objs.size = h₁.objs.size + 1 := by
    have e : s₀.heap.objs.size = h₁.objs.size + 1 := by rw [hh₀, Heap.size_push]
    rw [← e]; exact hz2
  dsimp only
  rw [hI2]
  intro h3 oI hIi F3 N3
  clear F2 N2
  intro kk p
  refine seg_forLoop ?_
  refine next_li (x := .int part tp) (News.get N3 (.head _)) hIi (F3.keep _ _ hGg) (isLs _ _) rfl ?_
  intro h4 oI' hIi' c4 e4
  obtain ⟨F4, N4⟩ := upd_but F3 N3 (by k_upd) c4 e4
  clear F3 N3 c4 e4
  refine wpAny_of_eq (rfl : letOwnedTupleGo (.Name _ _) _ _ = pure ()) ?_
  refine wpAny_assign_Name ?_
  k_steps
  rename Fr (cutH s₀.heap Lg) Lg _ _ => F5
  rename News (cutH s₀.heap Lg) Lg _ _ => N5
  refine seg_If_no ?_
  k_steps
  · exact beq_eq_false_iff_ne.mpr (by omega)
  refine seg_If_no ?_
  k_steps
  · exact beq_eq_false_iff_ne.mpr (by omega)
  refine seg_execs_cons (seg_Expr_Yield rfl rfl rfl ?_)
  k_steps
  rename_i kap hkap
  clear hz2 hI2
  have ha5 := News.get N5 (show (h₁.objs.size, o) ∈ _ by k_mem)
  have hi5 := News.get N5 (show (h₁.objs.size + 1, oI') ∈ _ by k_mem)
  refine ⟨tp, rfl, rfl, fun b ob hb e => F5.keep b ob (cutH_get e hb), ha5, ?_, ⟨_, hi5⟩, ?_⟩
  · obtain ⟨oL, es, ep, e, _⟩ := F5.ns; exact ⟨oL, e⟩
  cases n with
  | zero => exact .inl rfl
  | succ n =>
    refine .inr fun s₂ kg kG ka kL kI => hkap .none s₂ ?_
    clear hkap
    have X2 : (hd.heap_1 w.params).In (cutH s₂.heap Lg) := X.keeps fun b ob e => cutH_get (kg _ _ e) (hgL _ _ e)
    have T2 : TR mg mb (cutH s₂.heap Lg) := T.keeps fun b ob e => cutH_get (kg _ _ e) (hgL _ _ e)
    have F6 : Fr (cutH s₂.heap Lg) Lg s₂.heap _ := ⟨ns_of F5.ns kL, fun b ob e => of_cutH e, cutH_size _ _⟩
    have hGg2 : (cutH s₂.heap Lg).get? G = some (listOf #[.int part tp, .int 0 tz] nG) := cutH_get kG hGL
    have N6 : News (cutH s₂.heap Lg) Lg s₂.heap [(h₁.objs.size + 1, oI'), (h₁.objs.size, o)] := fun p hp => by
      rcases List.mem_cons.mp hp with rfl | hp
      · exact ⟨kI.trans hi5, by show h₁.objs.size + 1 ≠ Lg; omega, cutH_none (by show @LE.le Nat _ Lg (h₁.objs.size + 1); omega)⟩
      · rw [List.mem_singleton.mp hp]
        exact ⟨ka, by show h₁.objs.size ≠ Lg; omega, cutH_none (by show @LE.le Nat _ Lg h₁.objs.size; omega)⟩
    clear F5 N5 X' T' ha5 hi5 kL kI kap hGg hh₀
    dsimp only
    refine seg_stmt ?_
    k_steps
    rename Fr (cutH s₂.heap Lg) Lg _ _ => F7
    rename News (cutH s₂.heap Lg) Lg _ _ => N7
    refine seg_execs_nil (seg_again rfl (seg_forLoop ?_))
    refine next_li (x := .int 0 tz) (News.get N7 (.head _)) hIi' (F7.keep _ _ hGg2) (isLs _ _) rfl ?_
    intro h8 oI2 hIi2 c8 e8
    obtain ⟨F8, N8⟩ := upd_but F7 N7 (by k_upd) c8 e8
    clear F7 N7 c8 e8
    refine wpAny_of_eq (rfl : letOwnedTupleGo (.Name _ _) _ _ = pure ()) ?_
    refine wpAny_assign_Name ?_
    k_steps
    rename Fr (cutH s₂.heap Lg) Lg _ _ => F9
    rename News (cutH s₂.heap Lg) Lg _ _ => N9
    refine seg_If_no ?_
    k_steps
    refine seg_If_yes ?_
    k_steps
    refine seg_If_no ?_
    k_steps
    refine seg_execs_cons (seg_While fun p2 => ?_)
    have ha9 := News.get N9 (show (h₁.objs.size, o) ∈ _ by k_mem)
    have hi9 := News.get N9 (show (h₁.objs.size + 1, oI2) ∈ _ by k_mem)
    refine segC (x := Str.ofString "last_interval") (t := tp) ?a1 ?a2 ?a3 ?a4 n _ _ _ ?mm ?b2 ?b3 ?a8 ?a5 ?a9 ?b1 ?a6 ?a7
    case b2 => rfl
    case b3 => exact fun b ob hb e => F9.keep b ob (cutH_get e hb)
    case a8 => exact F9.ns
    case a9 => exact ha9
    case b1 => exact ⟨_, hi9⟩
    case a1 => rfl
    case a2 => rfl
    case a3 => decide
    case a4 => rfl
    case a5 => rfl
    case a6 => rfl
    case a7 => rfl
theorem setGen_push {x y : GenState} {gens : Array GenState} {h : Heap} {tk : Nat} {g0 : Nat} (hg : g0 = gens.size) (s1 : Shared) (e : s1 = { (({ s with gens := gens.push x } : Shared).setGen g0 .running) with heap := h, toks := tk }) : s1.setGen g0 y = { s with heap := h, toks := tk, gens := gens.push y } := by
  subst e; subst hg
  unfold Shared.setGen
  dsimp only
  congr 1
  apply Array.ext'
  simp
/-- the generator that yields part for ever, with what is needed of its steps alone -/
theorem gi_use {part : Int} {tp tz : Tok} {G : Addr} {nG : Nat} {Q : Value → Shared → Prop} (F : Fr g L s.heap m) (X : (hd.heap_1 w.params).In g) (T : TR mg mb g) (hG : s.heap.get? G = some (listOf #[.int part tp, .int 0 tz] nG)) (hp1 : 1 ≤ part) (hp2 : part ≤ 100) (hroom : A.depth < recursionLimit) (hA : A.handled = none)
    (h : ∀ (a Lg : Addr) (h' : Heap) (tk : Nat) (gs : GenState) (oa : Obj) (P : GenState → Nat → Shared → Prop), (∀ b o, s.heap.get? b = some o → h'.get? b = some o) → @LE.le Nat _ s.heap.objs.size Lg → @LT.lt Nat _ Lg a → h'.IsGen a s.gens.size → h'.get? a = some oa → gs.bare = true →
      (∀ n, P gs (n + 1) { s with heap := h', toks := tk, gens := s.gens.push gs }) →
      (∀ (gs : GenState) (n : Nat) (s' : Shared) (Q : Option Value → Shared → Prop) (E : Value → Shared → Prop), (∀ b o, g.get? b = some o → s'.heap.get? b = some o) → s'.heap.get? a = some oa → s'.gens = s.gens.push gs → s'.drawn = s.drawn → s'.os = s.os → P gs (n + 1) s' →
        (∀ t h'' tk'' gs', gs'.bare = true → (∀ b o, @LT.lt Nat _ b Lg → s'.heap.get? b = some o → h''.get? b = some o) → h''.get? a = some oa → (∃ o, h''.get? Lg = some o) → (∃ o, h''.get? (a + 1) = some o) →
          (n = 0 ∨ ∀ s3 : Shared, (∀ b o, g.get? b = some o → s3.heap.get? b = some o) → s3.heap.get? G = some (listOf #[.int part tp, .int 0 tz] nG) → s3.heap.get? a = some oa → s3.heap.get? Lg = h''.get? Lg → s3.heap.get? (a + 1) = h''.get? (a + 1) → P gs' n s3) → Q (some (.int part t)) { s with heap := h'', toks := tk'', gens := s.gens.push gs' }) →
        wpAny (MM w) A (pyNext (.ref a)) Q E s') →
      Q (.ref a) { s with heap := h', toks := tk, gens := s.gens.push gs }) :
    wpAny (MM w) A (call (.ref 200) [.ref G]) Q E s := by
  refine gi_call F X T hG hp1 hp2 hroom hA fun a Lg h' tk gs oa hk hLg hLa hz hgen ha hL hb hgo => ?_
  have hgen' := hgen
  obtain ⟨o₁, nm, qn, e1, r1⟩ := hgen'
  rw [ha] at e1; cases e1
  refine h a Lg h' tk gs oa (fun gs n s' => gs.Goes (MM w) A.in1 (fun _ _ _ _ => False) (genY g Lg (a + 1) G a (listOf #[.int part tp, .int 0 tz] nG) oa part) n (.send .none) (s'.setGen s.gens.size .running)) hk hLg hLa hgen ha hb hgo ?_
  intro gs n s' Q' E' hk' ha' hg' hd' ho' hP hQ
  refine next_gen (T.nolimit.keeps hk') hroom ⟨oa, nm, qn, ha', r1⟩ (by rw [hg']; simp) hP ?_
  intro v s₁ gs' hb' hY
  obtain ⟨t, rfl, hs, hk1, ha1, hL1, hI1, hnext⟩ := hY
  have es : s₁.setGen s.gens.size gs' = { s with heap := s₁.heap, toks := s₁.toks, gens := s.gens.push gs' } := by
    refine setGen_push (x := gs) rfl s₁ ?_
    refine hs.trans ?_
    obtain ⟨hp, gn, dr, tk, os⟩ := s'
    simp only at hg' hd' ho'
    subst hg'; subst hd'; subst ho'
    rfl
  rw [es]
  refine hQ t s₁.heap s₁.toks gs' hb' hk1 ha1 hL1 hI1 ?_
  rcases hnext with e | hnext
  · exact .inl e
  · exact .inr fun s3 k1 k2 k3 k4 k5 => hnext (s3.setGen s.gens.size .running) k1 k2 k3 k4 k5
end
end Mine
-- part Coll
namespace Mine
theorem freshColl : True := by w_top off; trivial

theorem coll_eq {x y : Str} : b2i (decide (y.cps.toList < x.cps.toList)) - b2i (decide (x.cps.toList < y.cps.toList)) = 0 ↔ x = y := by
  constructor
  · intro h
    by_cases h1 : y.cps.toList < x.cps.toList
    · by_cases h2 : x.cps.toList < y.cps.toList
      · exact absurd h2 (List.lt_asymm h1)
      · rw [decide_eq_true h1, decide_eq_false h2] at h; exact absurd h (by decide)
    · by_cases h2 : x.cps.toList < y.cps.toList
      · rw [decide_eq_false h1, decide_eq_true h2] at h; exact absurd h (by decide)
      · obtain ⟨x⟩ := x
        obtain ⟨y⟩ := y
        congr 1
        exact Array.toList_inj.mp (List.le_antisymm (List.not_lt.mp h1) (List.not_lt.mp h2))
  · rintro rfl
    omega
section
variable {w : World} {mg mb : Str → Option Value} {A : Around} {s : Shared} {b : Heap} {Q E : Value → Shared → Prop} {R : Result → Shared → Prop}
theorem strcoll {x y : Str} {tx ty : Tok}
    (G : Gd w mg mb b s.heap) (hd : A.depth < recursionLimit) 
    (hret : ∀ i t h' tk, Chg [] s.heap h' → (i = 0 ↔ x = y) → Q (.int i t) { s with heap := h', toks := tk }) :
    wpAny (MM w) A (call (.ref 193) [.str x tx, .str y ty]) Q E s := by
  have X := G.K
  have hl : Led b s.heap [] := Led.nil
  refine wpAny_call ?_
  k_dflt (refine' enter (binds := [(Str.ofString "a", .str x tx), (Str.ofString "b", .str y ty)]) G hl ?k6 ?k7 (by omega) ?k9 ?kB ?c5 ?_ ?c2 ?c3 ?c4; ktn_open)
  clear X
  intro g L h₁ hg F N X T lt
  try dsimp only
  k_steps
  rw [hg] at F
  exact hret _ _ _ _ (chg_of F) coll_eq
end
end Mine
-- part SetA
namespace Mine
abbrev byTxt (w : World) : Bool := w.params.followText "set-order"
abbrev tab3 (led : Bool) (P : Array Nat) : SetTable := { mask := 7, place := P, dummies := #[], finger := 0, led := led, moves := 0, plain := true }
def rise3 : List (Array Nat) := [#[],#[0],#[1],#[2],#[0,1],#[0,2],#[1,2],#[0,1,2]]
structure Es3 (ns : List Int) (P : Array Nat) (es : Array (Int × Value)) : Prop where
  sz : es.size = P.size
  at_ : ∀ i, i < P.size → ∃ tk, es[i]? = some (((P.getD i 0 : Nat) : Int), .int ((P.getD i 0 : Nat) : Int) tk) ∧ ((P.getD i 0 : Nat) : Int) ∈ ns
abbrev setO (led : Bool) (P : Array Nat) (es : Array (Int × Value)) (ep : Nat) : Obj := { cls := .type "set", dict := none, data := .set es ep (tab3 led P), slots := #[] }
def Set3 (w : World) (ns : List Int) (o : Obj) : Prop := ∃ P es ep, P ∈ rise3 ∧ o = setO (!byTxt w) P es ep ∧ Es3 ns P es
theorem insertAt_get {α : Type} (xs : Array α) {p : Nat} (x : α) (hp : p ≤ xs.size) (i : Nat) : (SetTable.insertAt xs p x)[i]? = if i < p then xs[i]? else if i = p then some x else xs[i - 1]? := by
  unfold SetTable.insertAt
  have hm : min p xs.size = p := Nat.min_eq_left hp
  have h1 : (xs.extract 0 p).size = p := by rw [Array.size_extract, hm, Nat.sub_zero]
  have h2 : ((xs.extract 0 p).push x).size = p + 1 := by rw [Array.size_push, h1]
  by_cases a : i < p
  · rw [if_pos a, Array.getElem?_append_left (by omega), Array.getElem?_push, if_neg (by omega), Array.getElem?_extract, hm, if_pos (by omega)]
    simp
  · rw [if_neg a]
    by_cases b : i = p
    · rw [if_pos b, Array.getElem?_append_left (by omega), Array.getElem?_push, if_pos (by omega)]
    · rw [if_neg b, Array.getElem?_append_right (by omega), h2, Array.getElem?_extract, Nat.min_self]
      by_cases c : i - 1 < xs.size
      · rw [if_pos (by omega)]; congr 1; omega
      · rw [if_neg (by omega), Array.getElem?_eq_none (by omega)]
theorem insertAt_size {α : Type} (xs : Array α) {p : Nat} (x : α) (hp : p ≤ xs.size) : (SetTable.insertAt xs p x).size = xs.size + 1 := by
  unfold SetTable.insertAt
  rw [Array.size_append, Array.size_push, Array.size_extract, Array.size_extract, Nat.min_eq_left hp, Nat.min_self]; omega
theorem lay3a : ∀ led : Bool, ∀ P ∈ rise3, ∀ k, k < 3 → k ∉ P.toList → (tab3 led P).freeSlot (k : Int) = some (k, false) := by decide +kernel
theorem lay3b : ∀ led : Bool, ∀ P ∈ rise3, ∀ k, k < 3 → k ∉ P.toList → (tab3 led P).put k = (tab3 led (SetTable.insertAt P (SetTable.below P k) k), SetTable.below P k) := by decide +kernel
theorem lay3c : ∀ P ∈ rise3, ∀ k, k < 3 → k ∉ P.toList → SetTable.insertAt P (SetTable.below P k) k ∈ rise3 ∧ SetTable.below P k ≤ P.size := by decide +kernel
theorem lay3d : ∀ led : Bool, ∀ P ∈ rise3, ∀ k, k < 3 → k ∉ P.toList → (tab3 led (SetTable.insertAt P (SetTable.below P k) k)).tooFull = false ∧ (tab3 led (SetTable.insertAt P (SetTable.below P k) k)).fits (P.size + 1) = true := by decide +kernel
theorem lay3 (led : Bool) (P : Array Nat) (hP : P ∈ rise3) (k : Nat) (hk : k < 3) (hn : k ∉ P.toList) : (tab3 led P).freeSlot (k : Int) = some (k, false) ∧ (tab3 led P).put k = (tab3 led (SetTable.insertAt P (SetTable.below P k) k), SetTable.below P k) ∧
    SetTable.insertAt P (SetTable.below P k) k ∈ rise3 ∧ SetTable.below P k ≤ P.size ∧ (tab3 led (SetTable.insertAt P (SetTable.below P k) k)).tooFull = false ∧ (tab3 led (SetTable.insertAt P (SetTable.below P k) k)).fits (P.size + 1) = true :=
  ⟨lay3a led P hP k hk hn, lay3b led P hP k hk hn, (lay3c P hP k hk hn).1, (lay3c P hP k hk hn).2, (lay3d led P hP k hk hn).1, (lay3d led P hP k hk hn).2⟩
theorem fits3 : ∀ led : Bool, ∀ P ∈ rise3, (tab3 led P).fits P.size = true ∧ P.size ≤ 3 := by decide +kernel
theorem mem3 : ∀ P ∈ rise3, ∀ i, i < P.size → P.getD i 0 < 3 := by decide +kernel
def slot3 (P : Array Nat) (i : Nat) : Nat := if i = 0 then 0 else P.getD (i - 1) 0 + 1
theorem below3 : ∀ P ∈ rise3, ∀ i, i < 4 → i ≤ P.size → SetTable.below P (slot3 P i) = i := by decide +kernel
theorem pick_go {α : Type} (next : Nat → Nat) : ∀ (fuel k : Nat) (left : List α) (out : Array α), left.length = fuel →
    (pickOrder.go next fuel k left out).size = out.size + fuel ∧ ∀ x ∈ pickOrder.go next fuel k left out, x ∈ out ∨ x ∈ left
  | 0, k, left, out, h => ⟨rfl, fun x hx => .inl hx⟩
  | fuel + 1, k, left, out, h => by
    have hlt : next k % left.length < left.length := Nat.mod_lt _ (by omega)
    unfold pickOrder.go
    rw [List.getElem?_eq_getElem hlt]
    dsimp only
    obtain ⟨h1, h2⟩ := pick_go next fuel (k + 1) (left.eraseIdx (next k % left.length)) (out.push left[next k % left.length]) (by rw [List.length_eraseIdx, if_pos hlt]; omega)
    refine ⟨by rw [h1, Array.size_push]; omega, fun x hx => ?_⟩
    rcases h2 x hx with q | q
    · rcases Array.mem_push.mp q with q | rfl
      · exact .inl q
      · exact .inr (List.getElem_mem hlt)
    · exact .inr (List.mem_of_mem_eraseIdx q)
theorem pick_size {α : Type} (next : Nat → Nat) (xs : Array α) : (pickOrder next xs).size = xs.size ∧ ∀ x ∈ pickOrder next xs, x ∈ xs := by
  unfold pickOrder
  obtain ⟨h1, h2⟩ := pick_go next xs.size 0 xs.toList #[] (Array.length_toList)
  refine ⟨by rw [h1]; simp, fun x hx => ?_⟩
  rcases h2 x hx with q | q
  · simp at q
  · exact Array.mem_toList_iff.mp q
theorem Es3.mem {ns : List Int} {P : Array Nat} {es : Array (Int × Value)} (h : Es3 ns P es) {e : Int × Value} (he : e ∈ es) : ∃ i tk, i < P.size ∧ e = (((P.getD i 0 : Nat) : Int), .int ((P.getD i 0 : Nat) : Int) tk) ∧ ((P.getD i 0 : Nat) : Int) ∈ ns := by
  obtain ⟨i, hi, rfl⟩ := Array.mem_iff_getElem.mp he
  have hi' : i < P.size := by rw [← h.sz]; exact hi
  obtain ⟨tk, e1, e2⟩ := h.at_ i hi'
  rw [Array.getElem?_eq_getElem hi] at e1
  exact ⟨i, tk, hi', Option.some.inj e1, e2⟩
theorem Es3.add {ns : List Int} {P : Array Nat} {es : Array (Int × Value)} (h : Es3 ns P es) {k p : Nat} (hp : p ≤ P.size) (hk : (k : Int) ∈ ns) (tk : Tok) : Es3 ns (SetTable.insertAt P p k) (SetTable.insertAt es p ((k : Int), .int (k : Int) tk)) := by
  have hp2 : p ≤ es.size := by rw [h.sz]; exact hp
  refine ⟨by rw [insertAt_size _ _ hp, insertAt_size _ _ hp2, h.sz], fun i hi => ?_⟩
  rw [insertAt_size _ _ hp] at hi
  rw [insertAt_get _ _ hp2, Array.getD_eq_getD_getElem?, insertAt_get _ _ hp]
  by_cases a : i < p
  · obtain ⟨t, e1, e2⟩ := h.at_ i (by omega)
    rw [Array.getD_eq_getD_getElem?] at e1 e2
    rw [if_pos a, if_pos a]
    exact ⟨t, e1, e2⟩
  · rw [if_neg a, if_neg a]
    by_cases b : i = p
    · rw [if_pos b, if_pos b]; exact ⟨tk, rfl, hk⟩
    · rw [if_neg b, if_neg b]
      obtain ⟨t, e1, e2⟩ := h.at_ (i - 1) (by omega)
      rw [Array.getD_eq_getD_getElem?] at e1 e2
      exact ⟨t, e1, e2⟩
theorem layNew3 {led : Bool} {P : Array Nat} {es : Array (Int × Value)} {ns : List Int} (h : Es3 ns P es) (hP : P ∈ rise3) {k : Nat} (hk : k < 3) (hn : k ∉ P.toList) (x : Value) :
    layNew (tab3 led P) es (k : Int) x = (SetTable.insertAt es (SetTable.below P k) ((k : Int), x), tab3 led (SetTable.insertAt P (SetTable.below P k) k), false, false) := by
  obtain ⟨h1, h2, h3, h4, h5, h6⟩ := lay3 led P hP k hk hn
  unfold layNew
  rw [h1]
  dsimp only
  rw [h2]
  dsimp only
  have hz : (SetTable.insertAt es (SetTable.below P k) ((k : Int), x)).size = P.size + 1 := by rw [insertAt_size _ _ (by rw [h.sz]; exact h4), h.sz]
  unfold SetTable.orStandIn
  rw [hz, h6]
  rfl
end Mine
-- part SetB
namespace Mine
section
variable {prog : Program} {w : World} {A : Around} {E : Value → Shared → Prop} {s : Shared}
theorem code_set_new3 (a : Value) {Q₁ : Value → Shared → Prop}
    (h : Q₁ (.ref s.heap.objs.size) { s with heap := s.heap.push (setO (!byTxt w) #[] #[] 0) }) :
    codeAny (model prog w) A (.call (.builtin "set.__new__") ⟨[.type "set", a], []⟩) (wants Q₁ E) s := by
  refine codeAny_of_tree ?_
  show wpAny _ A.in1 (do checkBuiltinCall "set.__new__" ⟨[.type "set", a], []⟩; again (.builtin "set.__new__" ⟨[.type "set", a], []⟩)) _ _ s
  refine wpAny_bind (wpAny_of_eq (PySem.F.newCall_set_1 a) (wpAny_pure ⟨plainId_quiet PySem.F.plain_set_new _, codeAny_builtin PySem.F.entry_set_new ?_⟩))
  rw [Around.under_plainId PySem.F.plain_set_new _]
  unfold Builtin.«set.__new__» Builtin.Frozenset.newClass
  have hsub := PySem.sub_set_self
  obtain ⟨hp, g, d, tk, os⟩ := s
  dsimp only
  wp_walk
  refine wpAny_askSetting (wpAny_pure ?_)
  dsimp only
  simp only [newObj]
  refine wpAny_bind (wpAny_alloc (wpAny_pure ?_))
  exact wpAny_pure h

def Set3At (w : World) (ns : List Int) (h : Heap) (a : Addr) : Prop := ∃ o, h.get? a = some o ∧ Set3 w ns o
theorem elems3 {ns : List Int} {P : Array Nat} {es : Array (Int × Value)} (h : Es3 ns P es) (hP : P ∈ rise3) : ElemsOf (intKind prog w) es.toList := fun e he => by
  obtain ⟨i, tk, hi, rfl, _⟩ := h.mem (Array.mem_toList_iff.mp he)
  have := mem3 P hP i hi
  generalize P.getD i 0 = k at this
  refine ⟨⟨(k : Int), intKind_is _ _ _ _, ?_⟩, rfl⟩
  have : k = 0 ∨ k = 1 ∨ k = 2 := by omega
  rcases this with rfl | rfl | rfl <;> rfl
theorem hash3 {k : Nat} (h : k < 3) : (intKind prog w).hash (k : Int) = k := by
  have : k = 0 ∨ k = 1 ∨ k = 2 := by omega
  rcases this with rfl | rfl | rfl <;> rfl
theorem find3 {ns : List Int} {P : Array Nat} {es : Array (Int × Value)} (h : Es3 ns P es) {k : Nat} : (es.toList.findIdx? (fun e => (intKind prog w).is (k : Int) e.2) = none) → k ∉ P.toList := by
  intro hf hm
  obtain ⟨i, hi, e⟩ := Array.mem_iff_getElem.mp (Array.mem_toList_iff.mp hm)
  obtain ⟨tk, e1, _⟩ := h.at_ i hi
  have e2 : P.getD i 0 = k := by rw [Array.getD_eq_getD_getElem?, Array.getElem?_eq_getElem hi, e]; rfl
  rw [e2] at e1
  have := List.findIdx?_eq_none_iff.mp hf _ (Array.mem_toList_iff.mpr (Array.mem_of_getElem? e1))
  rw [show (intKind prog w).is (k : Int) (.int (k : Int) tk) = true from intKind_is _ _ _ _] at this
  exact Bool.noConfusion this
theorem add3 {ns : List Int} {a : Addr} {k : Nat} {tk : Tok} {Q : Bool → Shared → Prop} (hk : k < 3) (hm : (k : Int) ∈ ns) (hS : Set3At w ns s.heap a)
    (h : ∀ b h', Heap.SameBut a s.heap h' → Set3At w ns h' a → Q b { s with heap := h' }) :
    wpAny (model prog w) A (setAddHashed a (.int (k : Int) tk) ((intKind prog w).hash (k : Int))) Q E s := by
  obtain ⟨o, ho, P, es, ep, hP, rfl, hes⟩ := hS
  obtain ⟨hf, hz⟩ := fits3 (!byTxt w) P hP
  rw [← hes.sz] at hf
  have hel := elems3 (prog := prog) (w := w) hes hP
  unfold setAddHashed setAddHashedIn
  refine wpAny_holding (wpAny_bind (wpAny_setState_of ho rfl hf ?_))
  dsimp only
  rw [byScan_of rfl (by rw [hes.sz]; unfold scanBound; omega) hel]
  simp only [↓reduceIte]
  unfold setAddByScan
  refine wpAny_bind ?_
  refine wpAny_bind (wpAny_rule ?_)
  refine wpAny_bind (wpAny_setScan_of (intKind_is _ _ _ _) ho rfl hf hel ?_)
  cases hr : List.findIdx? (fun e => (intKind prog w).is (k : Int) e.2) es.toList with
  | some j =>
    dsimp only
    refine wpAny_pure (wpAny_pure ?_)
    exact h _ s.heap (Heap.SameBut.refl a s.heap) ⟨_, ho, P, es, ep, hP, rfl, hes⟩
  | none =>
    dsimp only
    have hn := find3 hes hr
    rw [hash3 hk, layNew3 hes hP hk hn]
    obtain ⟨h1, h2, h3, h4, h5, h6⟩ := lay3 (!byTxt w) P hP k hk hn
    dsimp only
    refine wpAny_bind (wpAny_pure ?_)
    rw [if_pos rfl, hashByValue_scannable 8 rfl]
    refine wpAny_bind (wpAny_pure ?_)
    show wpAny _ _ (storeSet a _ _ >>= _) _ _ _
    refine wpAny_bind (wpAny_storeSet_of ho rfl ?_ (by rw [insertAt_size _ _ (by rw [hes.sz]; exact h4), hes.sz, sizeLine_eq]; omega))
    have hg : (s.heap.update a (Obj.putSet (SetTable.insertAt es (SetTable.below P k) ((k : Int), .int (k : Int) tk)) (tab3 (!byTxt w) (SetTable.insertAt P (SetTable.below P k) k)))).get? a = some (setO (!byTxt w) (SetTable.insertAt P (SetTable.below P k) k) (SetTable.insertAt es (SetTable.below P k) ((k : Int), .int (k : Int) tk)) (ep + 1)) := by
      have := Heap.get?_update_self (Obj.putSet (SetTable.insertAt es (SetTable.below P k) ((k : Int), .int (k : Int) tk)) (tab3 (!byTxt w) (SetTable.insertAt P (SetTable.below P k) k))) ho (by rw [putSet_of _ _ (rfl : (setO (!byTxt w) P es ep).data = _)]; rfl)
      rw [putSet_of _ _ (rfl : (setO (!byTxt w) P es ep).data = _)] at this; exact this
    have ht : (!false && (tab3 (!byTxt w) (SetTable.insertAt P (SetTable.below P k) k)).tooFull) = false := by rw [h5]; rfl
    show wpAny _ _ (if (!false && (tab3 (!byTxt w) (SetTable.insertAt P (SetTable.below P k) k)).tooFull) = true then _ else _) _ _ _
    rw [ht, if_neg (by decide)]
    refine wpAny_pure (wpAny_pure ?_)
    exact h _ _ (Heap.SameBut.update s.heap a _) ⟨_, hg, _, _, _, h3, rfl, hes.add h4 hm tk⟩
end
end Mine
-- part SetD
namespace Mine
theorem slot_setiter_next : Slot "set_iterator" "__next__" "set_iterator.__next__" :=
  .of (owner := "set_iterator") (n := "__next__") (by rw [typeLookup_type, builtinLookup_eq_fast]; kernel_rfl) (by decide +kernel) (by decide +kernel) (by decide +kernel)
    (by first | exact .inl (by decide +kernel) | exact .inr (by decide +kernel)) (by rw [isSubtype_type]; kernel_rfl)
theorem slot_setiter_iter : Slot "set_iterator" "__iter__" "set_iterator.__iter__" :=
  .of (owner := "set_iterator") (n := "__iter__") (by rw [typeLookup_type, builtinLookup_eq_fast]; kernel_rfl) (by decide +kernel) (by decide +kernel) (by decide +kernel)
    (by first | exact .inl (by decide +kernel) | exact .inr (by decide +kernel)) (by rw [isSubtype_type]; kernel_rfl)
theorem entry_setiter_next : entryFor table "set_iterator.__next__" = some Builtin.«set_iterator.__next__» := entryFor_of_tree (by kernel_rfl)
theorem entry_setiter_iter : entryFor table "set_iterator.__iter__" = some Builtin.«dict_keyiterator.__iter__» :=
  entryFor_alias (id' := "dict_keyiterator.__iter__") (by kernel_rfl) rfl (by decide +kernel) (by kernel_rfl)
theorem entry_set_iter : entryFor table "set.__iter__" = some Builtin.«frozenset.__iter__» :=
  entryFor_alias (id' := "frozenset.__iter__") (by kernel_rfl) rfl (by decide +kernel) (by kernel_rfl)
theorem args_setiter_iter (a : Value) : argsOk "set_iterator.__iter__" ⟨[a], []⟩ := by unfold argsOk; kernel_rfl
theorem args_setiter_next (a : Value) : argsOk "set_iterator.__next__" ⟨[a], []⟩ := by unfold argsOk; kernel_rfl
theorem setDrawn_eq (a : Addr) : setDrawn a = (do let (es, _, t) ← setState a; let byText ← setsByText; return !byText && (!t.plain && decide (es.size > 1))) := rfl
theorem setNext_eq (a : Addr) (slot given ep : Nat) : setNext a slot given ep = (do
   let (es, epoch, t) ← setState a
   if ← setsByText then
     if epoch != ep then unsupported "set_iterator.__next__:elements-changed"
     return ((← setWalk a)[given]?).map fun e => (e.2, slot)
   if (!t.plain && decide (es.size > 1)) then unsupported "set_iterator.__next__:the-table-is-plain-no-more"
   let _ ← (if (!t.led && !es.isEmpty) = true then unsupported "set:maker-not-led" else pure () : Sem Unit)
   let i := SetTable.below t.place slot
   return match es[i]?, t.place[i]? with
    | some (_, x), some j => some (x, j + 1)
    | _, _ => none) := rfl
section
variable {prog : Program} {w : World} {A : Around} {E : Value → Shared → Prop} {s : Shared} {ns : List Int} {P : Array Nat} {es : Array (Int × Value)} {ep : Nat} {a : Addr}
theorem wp_byText {Q : Bool → Shared → Prop} (h : Q (byTxt w) s) : wpAny (model prog w) A setsByText Q E s := by
  unfold setsByText; exact wpAny_bind (wpAny_askSetting (wpAny_pure h))
abbrev sl3 (w : World) (P : Array Nat) (i : Nat) : Nat := if byTxt w = true then 0 else slot3 P i
theorem setNext3 {i : Nat} {Q : Option (Value × Nat) → Shared → Prop} (ho : s.heap.get? a = some (setO (!byTxt w) P es ep)) (hP : P ∈ rise3) (hes : Es3 ns P es) (hi : i ≤ P.size)
    (h1 : i < P.size → ∀ (k : Int) tk, k ∈ ns → Q (some (.int k tk, sl3 w P (i + 1))) s) (h2 : i = P.size → Q none s) : wpAny (model prog w) A (setNext a (sl3 w P i) i ep) Q E s := by
  obtain ⟨hf, hz⟩ := fits3 (!byTxt w) P hP
  rw [← hes.sz] at hf
  rw [setNext_eq]
  refine wpAny_bind (wpAny_setState_of ho rfl hf ?_)
  refine wpAny_bind (wp_byText ?_)
  cases hb : byTxt w with
  | true =>
    rw [if_pos rfl]
    have he : (ep != ep) = false := by simp
    show wpAny _ _ (if (ep != ep) = true then _ else _) _ _ _
    rw [if_neg (by rw [he]; decide)]
    show wpAny _ _ (setWalk a >>= _) _ _ _
    refine wpAny_bind ?_
    unfold setWalk
    refine wpAny_bind (wpAny_setState_of ho rfl hf ?_)
    refine wpAny_bind (wp_byText ?_)
    rw [hb, if_pos rfl]
    refine wpAny_bind (wpAny_askSetting (wpAny_pure ?_))
    refine wpAny_pure ?_
    obtain ⟨p1, p2⟩ := pick_size ((model prog w).w.params.setOrder a ep) es
    generalize pickOrder ((model prog w).w.params.setOrder a ep) es = out at p1 p2
    show Q ((out[i]?).map fun e => (e.2, sl3 w P i)) s
    rw [hes.sz] at p1
    have e0 : ∀ j, sl3 w P j = 0 := fun j => if_pos hb
    rw [e0]
    by_cases hlt : i < P.size
    · rw [Array.getElem?_eq_getElem (by omega)]
      obtain ⟨j, tk, _, e, hm⟩ := hes.mem (p2 _ (Array.getElem_mem (by omega : i < out.size)))
      rw [e]
      have := h1 hlt _ tk hm
      rw [e0] at this
      exact this
    · rw [Array.getElem?_eq_none (by omega)]
      exact h2 (by omega)
  | false =>
    rw [if_neg (by decide)]
    show wpAny _ _ (if (!(tab3 (!byTxt w) P).plain && decide (es.size > 1)) = true then _ else _) _ _ _
    rw [if_neg (by show ¬ ((!true) && decide (es.size > 1)) = true; simp)]
    show wpAny _ _ ((if (!(!false) && !es.isEmpty) = true then unsupported "set:maker-not-led" else pure () : Sem Unit) >>= _) _ _ _
    rw [if_neg (by simp)]
    refine wpAny_bind (wpAny_pure ?_)
    refine wpAny_pure ?_
    have e0 : ∀ j, sl3 w P j = slot3 P j := fun j => if_neg (by rw [hb]; decide)
    have hbl : SetTable.below P (sl3 w P i) = i := by rw [e0]; exact below3 P hP i (by omega) hi
    show Q (match es[SetTable.below P (sl3 w P i)]?, P[SetTable.below P (sl3 w P i)]? with
      | some (_, x), some j => some (x, j + 1)
      | _, _ => none) s
    rw [hbl]
    by_cases hlt : i < P.size
    · obtain ⟨tk, e1, e2⟩ := hes.at_ i hlt
      rw [e1, Array.getElem?_eq_getElem hlt]
      have := h1 hlt _ tk e2
      rw [e0] at this
      have e3 : slot3 P (i + 1) = P[i] + 1 := by
        unfold slot3
        rw [if_neg (by omega), Nat.add_sub_cancel, Array.getD_eq_getD_getElem?, Array.getElem?_eq_getElem hlt]; rfl
      rw [e3] at this
      exact this
    · rw [Array.getElem?_eq_none (by rw [hes.sz]; omega)]
      exact h2 (by omega)
end
end Mine
-- part SetC
namespace Mine
section
variable {prog : Program} {w : World} {A : Around} {R : Result → Shared → Prop} {I : Addr} {fp wr : List Addr} {G : Array GenState → Array GenState → Prop} {n : Nat} {P : Nat → Value → Prop} {St : Nat → Shared → Prop} {ns : List Int}
theorem Set3At.keeps {h h' : Heap} {a : Addr} (x : Set3At w ns h a) (k : ∀ o, h.get? a = some o → h'.get? a = some o) : Set3At w ns h' a := let ⟨o, e, r⟩ := x; ⟨o, k o e, r⟩
theorem update_loop3 (W : WalksS prog w A.in1 I fp wr G n P St) (S : Addr) (hSf : S ∉ fp)
    (hval : ∀ i v, P i v → ∃ (k : Nat) (t : Tok), v = .int (k : Int) t ∧ k < 3 ∧ (k : Int) ∈ ns) :
    ∀ (k i : Nat) (s : Shared), n - i = k → i ≤ n → St i s → Set3At w ns s.heap S →
      (∀ s', Moved (S :: wr) G s s' → Set3At w ns s'.heap S → R (.ok (.ret .none)) s') →
      codeAny (model prog w) A (.builtin "set.update.loop" ⟨[.ref S, .ref I], []⟩) R s := by
  have hSw : S ∉ wr := fun h => hSf (W.sub _ h)
  have hsub : ∀ b ∈ wr, b ∈ S :: wr := fun b hb => List.mem_cons_of_mem _ hb
  intro k
  induction k with
  | zero =>
    intro i s hk hi hst hS hR
    have hin : i = n := by omega
    subst hin
    refine codeAny_builtin PyProof.Rows.F.entry_set_update_loop ?_
    rw [Around.under_plainId PyProof.Rows.F.plain_set_update_loop _]
    show wpAny _ A.in1 (pyNext (.ref I) >>= _) _ _ s
    refine wpAny_bind (W.done s _ _ hst fun s' hm => ?_)
    show wpAny _ A.in1 (ret Value.none) _ _ s'
    exact wpAny_pure (hR s' (hm.mono hsub) (hS.keeps fun o e => hm.heap S _ hSw e))
  | succ k ih =>
    intro i s hk hi hst hS hR
    have hlt : i < n := by omega
    refine codeAny_builtin PyProof.Rows.F.entry_set_update_loop ?_
    rw [Around.under_plainId PyProof.Rows.F.plain_set_update_loop _]
    show wpAny _ A.in1 (pyNext (.ref I) >>= _) _ _ s
    refine wpAny_bind (W.item i s _ _ hlt hst fun v s' hP hst' hm => ?_)
    obtain ⟨kv, t, rfl, hk3, hkn⟩ := hval i v hP
    have hS' : Set3At w ns s'.heap S := hS.keeps fun o e => hm.heap S _ hSw e
    show wpAny _ A.in1 (holding [Value.int (kv : Int) t] (setAdd S (.int (kv : Int) t)) >>= _) _ _ s'
    refine wpAny_bind (wpAny_holding ?_)
    unfold setAdd
    refine wpAny_holding ?_
    refine wpAny_bind ((intKind prog w).pyHash (k := (kv : Int)) (intKind_is _ _ _ _) ?_)
    refine add3 (s := { s' with toks := s'.toks + 1 }) hk3 hkn hS' fun b h' hsb hSi => ?_
    refine wpAny_pure ⟨plainId_quiet PyProof.Rows.F.plain_set_update_loop _, ih (i + 1) _ (by omega) hlt (W.frame _ s' _ _ hst' (Nat.le_succ _) fun b hb o e => ?_) hSi fun s'' hm'' hS'' => ?_⟩
    · rw [hsb.2 b (fun h : b = S => hSf (by rw [← h]; exact hb))]; exact e
    · refine hR s'' (Moved.trans W.gtrans ((hm.mono hsub).then_heap (Nat.le_succ _) fun b o hb e => ?_) hm'') hS''
      rw [hsb.2 b (fun h : b = S => hb (by rw [h]; exact List.mem_cons_self))]; exact e
end
section
variable {prog : Program} {w : World} {A : Around} {E : Value → Shared → Prop} {s : Shared}
set_option maxHeartbeats 3200000 in
theorem call_set3 {l : Addr} {items : Array Value} {ns : List Int} {Q : Value → Shared → Prop}
    (hh : A.handled = none) (hl : s.heap.IsList l items) (hi : IntsAre items.toList ns) (hk3 : ∀ k ∈ ns, 0 ≤ k ∧ k < 3)
    (h : ∀ (h' : Heap) (tk : Nat), Set3At w ns h' s.heap.objs.size →
      (∀ b o, b < s.heap.objs.size → s.heap.get? b = some o → h'.get? b = some o) → Q (.ref s.heap.objs.size) { s with heap := h', toks := tk }) :
    wpAny (model prog w) A (call (.type "set") [.ref l]) Q E s := by
  obtain ⟨c, tl, hmro⟩ := PySem.F.called_set.mro
  have hmade := PySem.F.called_set.made
  have hsub := PySem.F.called_set.sub
  refine wpAny_call (codeAny_of_tree ?_)
  show wpAny _ _ (callAny (.type "set") _) _ _ _
  refine wpAny_pure ⟨Code.quiet_builtin _ (by decide +kernel), codeAny_builtin PySem.F.entry_type_call ?_⟩
  rw [Around.under_plain (weight_type_call_type "set" [.ref l] []) rfl]
  have h1 := PySem.F.called_set.notType
  have h2 := PySem.F.called_set.canCreate
  have hct := PySem.F.typeCall_set_1 (.ref l)
  repeat (any_goals (first | assumption | wp_step))
  refine codeAny_mono (code_set_new3 (.ref l) (E := E) (Q₁ := fun obj s₁ => obj = .ref s.heap.objs.size ∧ s₁ = { s with heap := s.heap.push (setO (!byTxt w) #[] #[] 0) }) ⟨rfl, rfl⟩) fun r s₁ hr => ?_
  cases r with
  | error e => exact hr
  | ok fl =>
    cases fl with
    | ret obj =>
      obtain ⟨rfl, rfl⟩ := hr
      have hS : (s.heap.push (setO (!byTxt w) #[] #[] 0)).get? s.heap.objs.size = some (setO (!byTxt w) #[] #[] 0) := Heap.get?_push_size _ rfl
      have hT : Shared.TypeIs { s with heap := s.heap.push (setO (!byTxt w) #[] #[] 0) } (.ref s.heap.objs.size) "set" := ⟨_, hS, rfl⟩
      have hli := PySem.F.called_set.init.lookup
      have hbi := PySem.F.called_set.init.bind (.ref s.heap.objs.size)
      repeat (any_goals (first | assumption | wp_step))
      refine codeAny_mono (codeAny_call_builtin (R := wants (fun r s₂ => r = .none ∧ ∃ h' tk, s₂ = { s with heap := h', toks := tk } ∧
          Set3At w ns h' s.heap.objs.size ∧
          (∀ b o, b < s.heap.objs.size → s.heap.get? b = some o → h'.get? b = some o)) E) PySem.F.called_set.init.plain PySem.F.entry_set_init (PySem.check_set_init_1 hT ?_)) fun r₂ s₂ hr₂ => ?_
      · obtain ⟨ol, hol, hcl, nl, hdl⟩ := hl
        obtain ⟨ocls, odict, odata, oslots⟩ := ol
        simp only at hcl hdl
        subst hcl; subst hdl
        have hol' : (s.heap.push (setO (!byTxt w) #[] #[] 0)).get? l = some { cls := .type "list", dict := odict, data := .seq items nl, slots := oslots } := Heap.get?_push_of_some _ hol
        have hsls := PySem.F.sub_list_set
        have hslf := PySem.F.sub_list_frozenset
        have hne : (Value.type "list" == Value.type "dict") = false := by decide
        have hl1 : (s.heap.push (setO (!byTxt w) #[] #[] 0)).IsList l items := ⟨_, hol', rfl, nl, rfl⟩
        unfold Builtin.«set.__init__» noKeywords Builtin.Frozenset.updateFrom
        generalize hPI : pyIter = PI
        wp_walk
        subst hPI
        refine wpAny_pyIter_list hl1 ?_
        refine wpAny_bind (wpAny_runValue ?_)
        have hlS : l < s.heap.objs.size := Heap.lt_size hol
        have hh3 : A.in1.in1.in1.handled = none := by simp [hh]
        have hneI : l ≠ (s.heap.push (setO (!byTxt w) #[] #[] 0)).objs.size := by
          rw [Heap.size_push]; exact Nat.ne_of_lt (Nat.lt_succ_of_lt hlS)
        have hSf : s.heap.objs.size ∉ [(s.heap.push (setO (!byTxt w) #[] #[] 0)).objs.size, l] := by
          rw [Heap.size_push]; simp only [List.mem_cons, List.mem_singleton, List.not_mem_nil, or_false, not_or]
          exact ⟨Nat.ne_of_lt (Nat.lt_succ_self _), Nat.ne_of_gt hlS⟩
        have hval : ∀ (i : Nat) (v : Value), items[i]? = some v → ∃ (k : Nat) (t : Tok), v = .int (k : Int) t ∧ k < 3 ∧ (k : Int) ∈ ns := fun i v hv => by
          have hv' : items.toList[i]? = some v := by rw [Array.getElem?_toList]; exact hv
          obtain ⟨t, e⟩ := IntsAre.int_at hi i v hv'
          have hln := hi.length
          have hil : i < ns.length := by
            rw [← hln]
            exact (List.getElem?_eq_some_iff.mp hv').1
          have hmem : ns.getD i 0 ∈ ns := by rw [List.getD_eq_getElem?_getD, List.getElem?_eq_getElem hil]; exact List.getElem_mem hil
          have hb := hk3 _ hmem
          refine ⟨(ns.getD i 0).toNat, t, ?_, by omega, ?_⟩
          · rw [e, show (((ns.getD i 0).toNat : Nat) : Int) = ns.getD i 0 from by omega]
          · rw [show (((ns.getD i 0).toNat : Nat) : Int) = ns.getD i 0 from by omega]; exact hmem
        refine update_loop3 (ns := ns) ((Walks.list hh3 _ l hneI items).toS) s.heap.objs.size
          hSf hval (items.size - 0) 0 _ (by omega) (Nat.zero_le _)
          ⟨⟨_, Heap.get?_push_size _ rfl, rfl, rfl⟩, (hl1.push _)⟩ ?hS0 ?hR
        case hS0 =>
          exact ⟨_, Heap.get?_push_of_some _ hS, #[], #[], 0, by decide, rfl, rfl, fun i hi => absurd hi (Nat.not_lt_zero _)⟩
        case hR =>
          intro s' hm hS'
          obtain ⟨h', g', d', tk', os'⟩ := s'
          have eg : g' = s.gens := hm.gens
          have ed : d' = s.drawn := hm.drawn
          have eo : os' = s.os := hm.os
          subst eg; subst ed; subst eo
          show wpAny _ _ _ _ _ _
          refine wpAny_pure ?_
          show wpAny _ _ (ret Value.none) _ _ _
          refine wpAny_pure ⟨rfl, h', tk', rfl, hS', fun b o hb e => ?_⟩
          have hb1 : b ≠ s.heap.objs.size := Nat.ne_of_lt hb
          have hb2 : b ≠ (s.heap.push (setO (!byTxt w) #[] #[] 0)).objs.size := by
            rw [Heap.size_push]; exact Nat.ne_of_lt (Nat.lt_succ_of_lt hb)
          exact hm.heap b o (by simp only [List.mem_cons, List.mem_singleton, List.not_mem_nil, or_false, not_or]; exact ⟨hb1, hb2⟩) (Heap.get?_push_of_some _ (Heap.get?_push_of_some _ e))
      · cases r₂ with
        | error e => exact hr₂
        | ok fl₂ =>
          cases fl₂ with
          | ret r =>
            obtain ⟨rfl, h', tk, rfl, hS', hk'⟩ := hr₂
            repeat (any_goals (first | assumption | wp_step))
            exact h _ _ hS' hk'
          | _ => exact hr₂.elim
    | _ => exact hr.elim
end
end Mine
-- part SetE
namespace Mine
def IsSi (h : Heap) (I S : Addr) (sl i n ep : Nat) : Prop := ∃ o, h.get? I = some o ∧ o.cls = .type "set_iterator" ∧ o.data = .fields #[rawInt sl, rawInt i, .ref S, rawInt n, rawInt ep]
theorem IsSi.typeIs {s : Shared} {I S : Addr} {sl i n ep : Nat} (x : IsSi s.heap I S sl i n ep) : s.TypeIs (.ref I) "set_iterator" := let ⟨o, ho, hc, _⟩ := x; ⟨o, ho, hc⟩
section
variable {prog : Program} {w : World} {A : Around} {E : Value → Shared → Prop} {s : Shared} {ns : List Int} {P : Array Nat} {es : Array (Int × Value)} {ep : Nat} {S : Addr}
theorem iter_set3 {Q : Value → Shared → Prop} (ho : s.heap.get? S = some (setO (!byTxt w) P es ep)) (hP : P ∈ rise3) (hes : Es3 ns P es)
    (h : ∀ h', h' = s.heap.push { cls := .type "set_iterator", data := .fields #[rawInt 0, rawInt 0, .ref S, rawInt es.size, rawInt ep] } → Q (.ref s.heap.objs.size) { s with heap := h' }) :
    wpAny (model prog w) A (pyIter (.ref S)) Q E s := by
  have hT : s.TypeIs (.ref S) "set" := ⟨_, ho, rfl⟩
  obtain ⟨hf, hz⟩ := fits3 (!byTxt w) P hP
  rw [← hes.sz] at hf
  refine wpAny_pyIter_slot hT PySem.F.slot_set_iter (wpAny_call_entry PySem.F.slot_set_iter hT entry_set_iter ?_ (PySem.F.args_set_iter_1 _))
  unfold Builtin.«frozenset.__iter__» Builtin.Frozenset.slot0 slotArgs
  simp only [List.isEmpty_nil, Bool.not_true, Bool.false_eq_true, ↓reduceIte, bind_assoc, List.length_nil, bne_self_eq_false]
  unfold Builtin.Frozenset.addrOf Builtin.Frozenset.sizeOf
  refine wpAny_bind (wpAny_pure ?_)
  try dsimp only
  refine wpAny_bind (wpAny_pure ?_)
  refine wpAny_bind (wpAny_bind (wpAny_setEntries_of ho rfl hf (wpAny_pure ?_)))
  rw [setDrawn_eq]
  refine wpAny_bind (wpAny_bind (wpAny_setState_of ho rfl hf ?_))
  refine wpAny_bind (wp_byText (wpAny_pure ?_))
  rw [if_neg (by simp)]
  refine wpAny_bind (wpAny_pure ?_)
  refine wpAny_bind (wpAny_setEpoch_of ho rfl hf ?_)
  simp only [newFields]
  refine wpAny_bind (wpAny_newObj_type ?_ (by size_fits))
  exact wpAny_pure ⟨_, rfl, "set_iterator", _, ⟨_, Heap.get?_push_size _ rfl, rfl⟩, slot_setiter_next.lookup, h _ rfl⟩
theorem iter_setiter {I : Addr} {sl i n : Nat} {Q : Value → Shared → Prop} (hit : IsSi s.heap I S sl i n ep) (h : Q (.ref I) s) : wpAny (model prog w) A (pyIter (.ref I)) Q E s := by
  refine wpAny_pyIter_slot hit.typeIs slot_setiter_iter (wpAny_call_entry slot_setiter_iter hit.typeIs entry_setiter_iter ?_ (args_setiter_iter _))
  show wpAny _ _ (ret (.ref I)) _ _ s
  exact wpAny_pure ⟨_, rfl, "set_iterator", _, hit.typeIs, slot_setiter_next.lookup, h⟩
theorem setiter_body (I : Addr) : Builtin.«set_iterator.__next__» ⟨[.ref I], []⟩ = (do
  let l := (← fieldsOf (.ref I)).toList
  match l with
  | [first, .int i _, s, .int size _, .int epoch _] => (do
    let .ref a := s | rule "set_iterator.__next__.exhausted-before"; raiseNew (← newExc (.type "StopIteration") [])
    if ((← setEntries a).size : Int) != size then
      rule "set_iterator.__next__.size-changed"
      setField (.ref I) 3 (rawInt (-1))
      raiseError "RuntimeError" "Set changed size during iteration"
    if let .int slot _ := first then
      match ← setNext a slot.toNat i.toNat epoch.toNat with
      | some (x, next) =>
        setField (.ref I) 0 (rawInt next)
        setField (.ref I) 1 (rawInt (i + 1))
        ret x
      | none => setField (.ref I) 2 .none; raiseNew (← newExc (.type "StopIteration") [])
    else
      let some places ← seqItems? first | unsupported "internal:set_iterator"
      match places[i.toNat]? with
      | some (.int place _) =>
        let x ← setNextDrawn a place.toNat epoch.toNat
        setField (.ref I) 1 (rawInt (i + 1))
        ret x
      | some _ => unsupported "internal:set_iterator"
      | none => setField (.ref I) 0 (rawInt 0); setField (.ref I) 2 .none; raiseNew (← newExc (.type "StopIteration") []))
  | _ => unsupported "internal:set_iterator") := rfl
theorem next_set3 {I : Addr} {i : Nat} {Q : Option Value → Shared → Prop} (hh : A.handled = none) (hit : IsSi s.heap I S (sl3 w P i) i es.size ep) (ho : s.heap.get? S = some (setO (!byTxt w) P es ep)) (hP : P ∈ rise3) (hes : Es3 ns P es) (hi : i ≤ P.size)
    (h1 : i < P.size → ∀ (k : Int) tk h', k ∈ ns → IsSi h' I S (sl3 w P (i + 1)) (i + 1) es.size ep → (∀ b o, b ≠ I → s.heap.get? b = some o → h'.get? b = some o) → Q (some (.int k tk)) { s with heap := h' })
    (h2 : i = P.size → ∀ h', (∀ b o, b ≠ I → s.heap.get? b = some o → h'.get? b = some o) → Q none { s with heap := h' }) : wpAny (model prog w) A (pyNext (.ref I)) Q E s := by
  obtain ⟨hf, hz⟩ := fits3 (!byTxt w) P hP
  rw [← hes.sz] at hf
  obtain ⟨oI, hoI, hc, hd⟩ := id hit
  unfold pyNext
  refine wpAny_bind (wpAny_attempt (wpAny_callSpecial?_slot (name := Str.ofString "__next__") hit.typeIs slot_setiter_next
    (wpAny_call_entry slot_setiter_next hit.typeIs entry_setiter_next ?_ (args_setiter_next _))))
  rw [setiter_body]
  refine wpAny_bind (wpAny_fieldsOf hoI hd ?_)
  show wpAny _ _ (setEntries S >>= _) _ _ s
  refine wpAny_bind (wpAny_setEntries_of ho rfl hf ?_)
  show wpAny _ _ (if (((es.size : Nat) : Int) != ((es.size : Nat) : Int)) = true then _ else _) _ _ s
  rw [if_neg (by simp)]
  show wpAny _ _ (setNext S ((sl3 w P i : Nat) : Int).toNat ((i : Nat) : Int).toNat ((ep : Nat) : Int).toNat >>= _) _ _ s
  simp only [Int.toNat_natCast]
  refine wpAny_bind (setNext3 ho hP hes hi (fun hlt k tk hk => ?_) fun he => ?_)
  · dsimp only
    refine wpAny_bind (wpAny_setField hoI hd (by simp) ?_)
    have ho1 := Heap.get?_update_self (Obj.mapFields (·.setIfInBounds 0 (rawInt ((sl3 w P (i + 1) : Nat) : Int)))) hoI (Obj.isFreed_of_fields (Obj.data_mapFields hd _))
    have hd1 := Obj.data_mapFields hd (·.setIfInBounds 0 (rawInt ((sl3 w P (i + 1) : Nat) : Int)))
    refine wpAny_bind (wpAny_setField ho1 hd1 (by simp) ?_)
    have ho2 := Heap.get?_update_self (Obj.mapFields (·.setIfInBounds 1 (rawInt ((i : Int) + 1)))) ho1 (Obj.isFreed_of_fields (Obj.data_mapFields hd1 _))
    have hd2 := Obj.data_mapFields hd1 (·.setIfInBounds 1 (rawInt ((i : Int) + 1)))
    refine wpAny_pure ⟨_, rfl, wpAny_pure (h1 hlt k tk _ hk ⟨_, ho2, (Obj.cls_mapFields ..).trans ((Obj.cls_mapFields ..).trans hc), ?_⟩ fun b o hb e => ?_)⟩
    · rw [hd2]; simp [rawInt]
    · exact (Heap.get?_update_other _ _ (Ne.symm hb)).trans ((Heap.get?_update_other _ _ (Ne.symm hb)).trans e)
  · dsimp only
    refine wpAny_bind (wpAny_setField hoI hd (by simp) ?_)
    show wpAny _ _ (newExc (.type "StopIteration") [] >>= _) _ _ _
    refine wpAny_bind ?_
    simp only [newExc, newTuple]
    refine wpAny_bind (wpAny_newObj_type ?_ (by size_fits))
    refine wpAny_bind (m := firstArgMember _ _) (wpAny_of_eq (a := Value.none) (by first | rfl | (simp only [firstArgMember]; rfl)) ?_)
    refine wpAny_newObj_type ?_ (by size_fits)
    simp only [raiseNew]
    refine wpAny_bind (wpAny_handled ?_)
    rw [show A.in1.handled = none from hh]
    refine wpAny_bind (wpAny_pure (wpAny_throw ?_))
    refine wpAny_bind (wpAny_isInstance (T := "StopIteration") (b := true) ⟨_, Heap.get?_push_size _ rfl, rfl⟩ isSubtype_stop ?_)
    refine wpAny_pure (h2 he _ fun b o hb e => ?_)
    exact Heap.get?_push_of_some _ (Heap.get?_push_of_some _ ((Heap.get?_update_other _ _ (Ne.symm hb)).trans e))
theorem walks_set3 (hh : A.handled = none) (hP : P ∈ rise3) (hes : Es3 ns P es) (I : Addr) (hne : S ≠ I) :
    Walks prog w A I [I, S] [I] P.size (fun _ v => ∃ (k : Int) (tk : Tok), v = .int k tk ∧ k ∈ ns) (fun i h => i ≤ P.size ∧ IsSi h I S (sl3 w P i) i es.size ep ∧ h.get? S = some (setO (!byTxt w) P es ep)) where
  sub := fun b hb => by simp at hb; simp [hb]
  frame := fun _ _ _ st hk => ⟨st.1, by obtain ⟨o, e, r⟩ := st.2.1; exact ⟨o, hk I (by simp) o e, r⟩, hk S (by simp) _ st.2.2⟩
  item := fun i s Q E hi st hQ => by
    refine next_set3 hh st.2.1 st.2.2 hP hes st.1 (fun hlt k tk h' hk hs hkp => ?_) (fun he => by omega)
    exact hQ _ h' s.toks ⟨k, tk, rfl, hk⟩ ⟨hlt, hs, hkp _ _ hne st.2.2⟩ fun b o hb e => hkp b o (fun h => hb (by simp [h])) e
  done := fun s Q E st hQ => by
    refine next_set3 hh st.2.1 st.2.2 hP hes st.1 (fun hlt => by omega) fun _ h' hkp => hQ h' s.toks fun b o hb e => hkp b o (fun h => hb (by simp [h])) e
  self := fun _ _ _ _ st hQ => iter_setiter st.2.1 hQ
end
end Mine
-- part SetF
namespace Mine
section
variable {prog : Program} {w : World} {A : Around} {E : Value → Shared → Prop} {s : Shared} {ns : List Int} {S : Addr}
theorem ints_of_items {ns : List Int} : ∀ {vs : List Value}, (∀ v ∈ vs, ∃ (k : Int) (tk : Tok), v = .int k tk ∧ k ∈ ns) → ∃ ms, IntsAre vs ms ∧ ∀ k ∈ ms, k ∈ ns
  | [], _ => ⟨[], .nil, fun _ h => nomatch h⟩
  | v :: vs, h => by
    obtain ⟨k, tk, rfl, hk⟩ := h v (.head _)
    obtain ⟨ms, h1, h2⟩ := ints_of_items fun v hv => h v (.tail _ hv)
    exact ⟨k :: ms, .cons k tk h1, fun x hx => by rcases List.mem_cons.mp hx with rfl | hx; exact hk; exact h2 x hx⟩
theorem collect_set3 {Q : List Value → Shared → Prop} (hh : A.handled = none) (hS : Set3At w ns s.heap S)
    (hQ : ∀ h' tk vs, (∀ b o, s.heap.get? b = some o → h'.get? b = some o) → (∀ v ∈ vs, ∃ (k : Int) (tk : Tok), v = .int k tk ∧ k ∈ ns) → vs.length ≤ 3 → s.heap.objs.size ≤ h'.objs.size → Q vs { s with heap := h', toks := tk }) :
    wpAny (model prog w) A (collect (.ref S)) Q E s := by
  obtain ⟨o, ho, P, es, ep, hP, rfl, hes⟩ := hS
  obtain ⟨hf, hz⟩ := fits3 (!byTxt w) P hP
  have hlt : S < s.heap.objs.size := Heap.lt_size ho
  unfold collect
  refine wpAny_bind (wpAny_runValue (codeAny_builtin PySem.F.entry_proto_collect ?_))
  rw [Around.under_plainId PySem.F.plain_proto_collect _]
  show wpAny _ A.in1 (newList [] >>= fun l => again (.builtin "list.__iadd__" ⟨[l, .ref S], []⟩)) _ _ s
  refine wpAny_bind (wpAny_newObj_type ?_)
  refine wpAny_pure ⟨plainId_quiet PySem.F.plain_list_iadd _, codeAny_builtin PySem.F.entry_list_iadd ?_⟩
  rw [Around.under_plainId PySem.F.plain_list_iadd _]
  generalize hH1 : s.heap.push { cls := .type "list", data := .seq ([] : List Value).toArray } = H1
  have hz1 : H1.objs.size = s.heap.objs.size + 1 := by rw [← hH1, Heap.size_push]
  have hk1 : ∀ b o, s.heap.get? b = some o → H1.get? b = some o := fun b o e => by rw [← hH1]; exact Heap.get?_push_of_some _ e
  have hL1 : H1.get? s.heap.objs.size = some { cls := .type "list", data := .seq ([] : List Value).toArray } := by rw [← hH1]; exact Heap.get?_push_size _ rfl
  have hT : Shared.TypeIs { s with heap := H1 } (.ref S) "set" := ⟨_, hk1 _ _ ho, rfl⟩
  show wpAny _ A.in1 (Builtin.List.listExtendWith (.ref s.heap.objs.size) (.ref S) (.ref s.heap.objs.size)) _ _ _
  unfold Builtin.List.listExtendWith
  refine wpAny_bind (wpAny_typeOf hT ?_)
  have h1 : Builtin.List.listSameRef (.ref s.heap.objs.size) (.ref S) = false := by simp [Builtin.List.listSameRef, Nat.ne_of_gt hlt]
  have h2 : (Value.type "set" == Value.type "list") = false := by decide
  have h3 : (Value.type "set" == Value.type "tuple") = false := by decide
  simp only [h1, h2, h3, Bool.or_false, Bool.false_eq_true, if_false]
  refine wpAny_bind (iter_set3 (s := { s with heap := H1 }) (hk1 _ _ ho) hP hes ?_)
  intro H2 hH2
  have hz2 : H2.objs.size = H1.objs.size + 1 := by rw [hH2, Heap.size_push]
  have hk2 : ∀ b o, H1.get? b = some o → H2.get? b = some o := fun b o e => by rw [hH2]; exact Heap.get?_push_of_some _ e
  have hI2 : H2.get? H1.objs.size = some { cls := .type "set_iterator", data := .fields #[rawInt 0, rawInt 0, .ref S, rawInt es.size, rawInt ep] } := by rw [hH2]; exact Heap.get?_push_size _ rfl
  refine wpAny_bind (wpAny_holding ?_)
  unfold Builtin.List.listLengthHint
  have hT2 : Shared.TypeIs { s with heap := H2 } (.ref S) "set" := ⟨_, hk2 _ _ (hk1 _ _ ho), rfl⟩
  refine wpAny_bind (wpAny_specialOf hT2 PySem.F.slot_set_len.lookup ?_)
  show wpAny _ A.in1 (isInstance (.ref S) (.type "set") >>= _) _ _ _
  refine wpAny_bind (wpAny_isInstance hT2 (b := true) PySem.sub_set_self ?_)
  show wpAny _ A.in1 (typeOf (.ref S) >>= _) _ _ _
  refine wpAny_bind (wpAny_typeOf hT2 ?_)
  refine wpAny_pure ?_
  show wpAny _ A.in1 (rule "list.extend.makes-room" >>= fun _ => Builtin.List.listTouch (.ref s.heap.objs.size) >>= fun _ =>
    again (.builtin "list.extend.loop" ⟨[.ref s.heap.objs.size, .ref H1.objs.size, .ref s.heap.objs.size], []⟩)) _ _ _
  refine wpAny_bind (wpAny_rule ?_)
  have hS₁ := hk2 _ _ hL1
  refine wpAny_bind ?_
  show wpAny _ A.in1 (updateSeq s.heap.objs.size (·.push .none) >>= fun _ => updateSeq s.heap.objs.size (·.pop)) _ _ _
  refine wpAny_bind (wpAny_updateSeq hS₁ rfl ?_)
  have hS₂ := Heap.get?_update_self (Obj.mapSeq (·.push Value.none)) hS₁ rfl
  refine wpAny_updateSeq hS₂ rfl ?_
  have hS₃ := Heap.get?_update_self (Obj.mapSeq (·.pop)) hS₂ rfl
  have oth : ∀ b o, b ≠ s.heap.objs.size → H2.get? b = some o → ((H2.update s.heap.objs.size (Obj.mapSeq (·.push Value.none))).update s.heap.objs.size (Obj.mapSeq (·.pop))).get? b = some o :=
    fun b o hb e => (Heap.get?_update_other _ _ (Ne.symm hb)).trans ((Heap.get?_update_other _ _ (Ne.symm hb)).trans e)
  have hne : S ≠ H1.objs.size := by rw [hz1]; exact Nat.ne_of_lt (Nat.lt_succ_of_lt hlt)
  have hI3 : H1.objs.size ≠ s.heap.objs.size := by rw [hz1]; exact Nat.succ_ne_self _
  have W := (walks_set3 (prog := prog) (w := w) (A := A.in1) (ep := ep) hh hP hes H1.objs.size hne).toS
  have hSf : s.heap.objs.size ∉ [H1.objs.size, S] := by
    simp only [List.mem_cons, List.not_mem_nil, or_false, not_or]
    exact ⟨Ne.symm hI3, Nat.ne_of_gt hlt⟩
  have e0 : sl3 w P 0 = 0 := by unfold sl3 slot3; split <;> rfl
  refine wpAny_pure ⟨plainId_quiet PySem.F.plain_extend_loop _, codeAny_extend_loopS W (by rw [sizeLine_eq]; omega) _ hSf _ P.size 0 _ _ _ (by omega) (Nat.zero_le _)
    ⟨Nat.zero_le _, ⟨_, oth _ _ hI3 hI2, rfl, by rw [e0]; rfl⟩, oth _ _ (Nat.ne_of_lt hlt) (hk2 _ _ (hk1 _ _ ho))⟩ hS₃ (ItemsOf.nil _) fun s' acc' c' hm hS' hacc => ?_⟩
  show wpAny _ A (load s.heap.objs.size >>= _) _ _ s'
  refine wpAny_bind (wpAny_load hS' ?_)
  refine wpAny_pure ?_
  obtain ⟨hp, gn, dr, tk, os⟩ := s'
  have e1 := hm.gens
  have e2 := hm.drawn
  have e3 := hm.os
  dsimp only at e1 e2 e3
  subst e1; subst e2; subst e3
  refine hQ hp tk acc'.toList (fun b o e => ?_) (fun v hv => ?_) (by rw [Array.length_toList, hacc.1]; exact hz) (Nat.le_of_lt (Heap.lt_size hS'))
  · have hb : b < s.heap.objs.size := Heap.lt_size e
    refine hm.heap b o ?_ (oth _ _ (Nat.ne_of_lt hb) (hk2 _ _ (hk1 _ _ e)))
    simp only [List.mem_cons, List.not_mem_nil, or_false, not_or]
    exact ⟨Nat.ne_of_lt hb, by rw [hz1]; exact Nat.ne_of_lt (Nat.lt_succ_of_lt hb)⟩
  · obtain ⟨j, hj, rfl⟩ := Array.mem_iff_getElem.mp (Array.mem_toList_iff.mp hv)
    exact hacc.2 j _ (Array.getElem?_eq_getElem hj)
end
section
variable {w : World} {A : Around} {s : Shared} {E : Value → Shared → Prop} {g : Heap} {L : Addr} {m : Str → Option Value} {news : List (Addr × Obj)} {ns : List Int}
theorem sorted_set3 {S : Addr} {Q : Value → Shared → Prop} (F : Fr g L s.heap m) (N : News g L s.heap news) (hA : A.handled = none) (hS : Set3At w ns s.heap S)
    (h : ∀ D vs' ns' c h' tk, Fr g L h' m → News g L h' ((D, listOf (List.toArray vs') c) :: news) → (∀ q ∈ news, @LT.lt Nat _ q.1 D) → IntsAre vs' ns' → (∀ k ∈ ns', k ∈ ns) → ns'.length ≤ 3 → Q (.ref D) { s with heap := h', toks := tk }) :
    wpAny (MM w) A (call (.builtin "sorted") [.ref S]) Q E s := by
  refine Calls.call_function_entry kind_sorted plain_sorted entry_sorted (args_sorted1 _) ?_
  unfold Builtin.«sorted»
  refine wpAny_bind (m := checkCount "sorted" 1 1 _) (wpAny_pure ?_)
  refine wpAny_bind (collect_set3 (ns := ns) hA hS fun h' tk vs hk hvs hlen hsz => ?_)
  obtain ⟨ms, hI, hms⟩ := ints_of_items hvs
  refine wpAny_bind (wpAny_newList ?_)
  have hoL : (h'.push (seqObj "list" vs.toArray 0)).get? h'.objs.size = some (seqObj "list" vs.toArray 0) := Heap.get?_push_size _ rfl
  show wpAny _ _ _ _ _ { s with heap := h'.push (seqObj "list" vs.toArray 0), toks := tk }
  refine wpAny_bind (wpAny_holding (wpAny_call_entry slot_list_sort ⟨_, hoL, rfl⟩ entry_list_sort (list_sort_tree hoL hI (by omega) fun out ns' a1 a2 a3 => ⟨_, rfl, ?_⟩) (args_list_sort _)))
  refine wpAny_pure ⟨_, rfl, ?_⟩
  have hk2 : ∀ b o, s.heap.get? b = some o → (sortedHeap (h'.push (seqObj "list" vs.toArray 0)) h'.objs.size vs out).get? b = some o := fun b o e => by
    have hb := Heap.lt_size (hk b o e)
    rw [sortedHeap_old (Nat.ne_of_lt hb) (by rw [size_push']; exact Nat.lt_succ_of_lt hb), Heap.get?_push_ne _ _ _ (Nat.ne_of_lt hb)]
    exact hk b o e
  obtain ⟨e, he⟩ := sortedHeap_at (out := out) hoL
  exact h _ out.toList ns' e _ tk (F.kept hk2) (N.kept_cons F hk2 hsz he) (fun q hq => Nat.lt_of_lt_of_le (Heap.lt_size (N q hq).1) hsz) a1 (fun k hk => hms k (a2.mem_iff.mp hk)) (by rw [a2.length_eq, ← hI.length]; exact hlen)
end
end Mine
local macro_rules | `(tactic| kct_strs) => `(tactic| first | with_reducible assumption | fail "asl")
local macro_rules | `(tactic| k_lt $h:ident) => `(tactic| replace $h := lt1 $h)
local macro_rules | `(tactic| kbo_bools) => `(tactic| first | kct_strs | (with_reducible refine Nat.lt_trans (by kct_strs) ?_; kbo_bools) | fail "ltl")
local macro_rules | `(tactic| kat_tups) => `(tactic| first | kct_strs | (with_reducible refine Nat.lt_trans ?_ (by kct_strs); kat_tups) | fail "ltr")
local macro_rules | `(tactic| kaf_pre) => `(tactic| first | (with_reducible refine Nat.ne_of_lt ?_; kbo_bools) | (with_reducible refine Nat.ne_of_gt ?_; kat_tups) | ((with_reducible show @LT.lt Nat _ _ _); first | kbo_bools | ((with_reducible show _ < recursionLimit); first | assumption | (refine lt_le 1 ?_; assumption) | (refine lt_le 2 ?_; assumption) | (refine lt_le 3 ?_; assumption) | (refine lt_le 4 ?_; assumption) | (refine lt_le 5 ?_; assumption) | (refine lt_le 6 ?_; assumption) | (refine lt_le 7 ?_; assumption) | (refine lt_le 8 ?_; assumption) | (refine lt_le 9 ?_; assumption) | (refine lt_le 10 ?_; assumption))) | fail "om")
local macro_rules | `(tactic| omega) => `(tactic| kaf_pre)
local macro_rules | `(tactic| k_ne) => `(tactic| first | (with_reducible refine Nat.ne_of_lt ?_; kbo_bools) | (with_reducible refine Nat.ne_of_gt ?_; kat_tups) | fail "ne")
local macro_rules | `(tactic| kaf_suf) => `(tactic| first | exact ne_nil1 | exact ne_allLt (by with_reducible first | assumption | exact And.right (by assumption) | exact allLt_up (by assumption) (by kbo_bools) | fail "up") | (exact ne_of_allGt (by with_reducible assumption) (by first | exact Nat.le_refl _ | exact Nat.le_of_lt (by kbo_bools))) | exact OwnOff.ne (by with_reducible assumption) (by k_memK) | (refine ne_cons1 ?ka ?kb; (case ka => (try dsimp only); k_ne); (case kb => kaf_suf)) | fail "all")
local macro_rules | `(tactic| kd_addB) => `(tactic| first | (refine (if_neg ?ha).trans ?hb; (case ha => assumption); (case hb => kd_addB)) | with_reducible rfl)
local macro_rules | `(tactic| k_all) => `(tactic| kaf_suf)
local macro_rules | `(tactic| walk_at "exec For Name Call cons nil") => `(tactic| (k_dflt (refine' wpAny_For ?_ ?hs; (case hs => (intro _; rfl)))))
local macro_rules | `(tactic| walk_at "exec For Tuple Call cons nil") => `(tactic| (k_dflt (refine' wpAny_For ?_ ?hs; (case hs => (intro _; rfl)))))
local macro_rules | `(tactic| walk_at "exec For Name Name cons nil") => `(tactic| (k_dflt (refine' wpAny_For ?_ ?hs; (case hs => (intro _; rfl)))))
-- part Tok0
namespace Mine
theorem freshTok0 : True := by w_top off; trivial


section
variable {w : World} {mg mb : Str → Option Value} {A : Around} {s : Shared} {b : Heap} {Q E : Value → Shared → Prop} {R : Result → Shared → Prop}

theorem iter2_N {g : Heap} {L : Addr} {m : Str → Option Value} {news : List (Addr × Obj)} {q : Addr} {f self sent : Value} (F : Fr g L s.heap m) (N : News g L s.heap news) (hq : (q, methodObj f self) ∈ news)
    (h : ∀ I h', Fr g L h' m → News g L h' ((I, ciObj q sent) :: news) → (∀ p ∈ news, p.1 < I) → Q (.ref I) { s with heap := h' }) : wpAny (MM w) A (call (.builtin "iter") [.ref q, sent]) Q E s :=
  iter2 (News.get N hq) (h _ _ (F.push _) (N.push F _) (fun p hp => Heap.lt_size (N p hp).1))

theorem fn221 (w : World) : ∃ fo fd, (hd.heap_1 w.params).lookup 221 = some fo ∧ fo.data = .func fd := ⟨_, _, rfl, rfl⟩
theorem one_ne (c : Nat) : ({ cps := #[c] } : Str) ≠ Str.ofString "" := fun e => by
  rw [show Str.ofString "" = ⟨#[]⟩ from by decide +kernel] at e
  injection e with e; simp at e

abbrev wsOcc (c : Nat) : Bool := (Builtin.Str.occurrences (Str.ofString "\n\t\r ") { cps := #[c] } 0 (Str.ofString "\n\t\r ").length 1).isEmpty
abbrev okc (c : Nat) : Prop := c < 128 ∧ c ∉ [9, 10, 13, 32, 34, 92]
theorem ws_ok : ∀ c, c < 128 → c ∉ [9, 10, 13, 32, 34, 92] → wsOcc c = true := by decide +kernel
theorem ws_32 : wsOcc 32 = false := by decide +kernel
theorem one_q {c : Nat} (h : okc c) : (({ cps := #[c] } : Str) == Str.ofString "\"") = false := by
  rw [show Str.ofString "\"" = ⟨#[34]⟩ from by decide +kernel]
  refine beq_eq_false_iff_ne.mpr fun e => h.2 ?_
  injection e with e; simp at e; simp [e]
theorem one_b {c : Nat} (h : okc c) : (({ cps := #[c] } : Str) == Str.ofString "\\") = false := by
  rw [show Str.ofString "\\" = ⟨#[92]⟩ from by decide +kernel]
  refine beq_eq_false_iff_ne.mpr fun e => h.2 ?_
  injection e with e; simp at e; simp [e]
theorem okc_10 {c : Nat} (h : okc c) : c ≠ 10 := fun e => h.2 (by simp [e])
theorem drop_head {l r : List Nat} {k c : Nat} (h : l.drop k = c :: r) : l[k]? = some c ∧ l.drop (k + 1) = r := by
  have h1 : (l.drop k)[0]? = some c := by rw [h]; rfl
  rw [List.getElem?_drop] at h1
  refine ⟨by simpa using h1, ?_⟩
  rw [← List.drop_drop, h]; rfl

abbrev TM (tok : Str) (tt : Tok) (ch : Str) (tc : Tok) (I x : Addr) : Str → Option Value := fun y =>
  if y = Str.ofString "ch" then some (.str ch tc) else if y = Str.ofString "token" then some (.str tok tt) else if y = Str.ofString "fiter" then some (.ref I) else List.lookup y [(Str.ofString "self", .ref x)]
theorem ch_ne_tok : Str.ofString "ch" ≠ Str.ofString "token" := by decide
theorem snoc_str (done : List Nat) (d : Nat) : (({ cps := done.toArray } : Str) ++ ({ cps := #[d] } : Str)) = { cps := (done ++ [d]).toArray } := by
  show Str.mk _ = _
  congr 1
  simp
theorem nil_str (d : Nat) : (Str.ofString "" ++ ({ cps := #[d] } : Str)) = { cps := [d].toArray } := by
  rw [show Str.ofString "" = { cps := ([] : List Nat).toArray } from by decide +kernel, snoc_str]; rfl

theorem fr_tm {g h : Heap} {L I x : Addr} {m : Str → Option Value} {ch tok : Str} {tc tt : Tok} (F : Fr g L h m) (h1 : m (Str.ofString "ch") = some (.str ch tc)) (h2 : m (Str.ofString "token") = some (.str tok tt))
    (h3 : ∀ y, ¬ y = Str.ofString "ch" → ¬ y = Str.ofString "token" → m y = if y = Str.ofString "fiter" then some (.ref I) else List.lookup y [(Str.ofString "self", .ref x)]) : Fr g L h (TM tok tt ch tc I x) := by
  have e : m = TM tok tt ch tc I x := by
    funext y
    by_cases e1 : y = Str.ofString "ch"
    · rw [e1, h1]; rfl
    · by_cases e2 : y = Str.ofString "token"
      · rw [e2, h2]; rfl
      · rw [h3 y e1 e2]
        show _ = if y = _ then _ else if y = _ then _ else _
        rw [if_neg e1, if_neg e2]
  rw [← e]; exact F

theorem get_token0 {z : LexA} {gone : List Value} {n n0 c : Nat} {cs post : List Nat} 
    (G : Gd w mg mb b s.heap) (hdep : A.depth + 3 < recursionLimit) (hh : A.handled = none) (hl : Led b s.heap ((z.p, listOf #[] n0) :: z.led gone n)) (hz : LexOk z)
    (hc : z.text.cps.toList.drop gone.length = c :: (cs ++ 32 :: post)) (hok : okc c) (hoks : ∀ d ∈ cs, okc d)
    (hret : ∀ (t : Tok) (n' : Nat) (gone' : List Value) (h' : Heap) (tk : Nat), Chg [z.gl] s.heap h' → h'.get? z.gl = some (listOf gone'.toArray n') → gone'.length = gone.length + cs.length + 2 → z.text.cps.toList.drop gone'.length = post →
      Q (.str ⟨(c :: cs).toArray⟩ t) { s with heap := h', toks := tk }) :
    wpAny (MM w) A (call (.ref 228) [.ref z.x]) Q E s := by
  refine ord10k hz.nd fun o1 o2 o3 o4 o5 o6 o7 o8 o9 => ?_
  obtain ⟨hc1, hc2⟩ := drop_head hc
  have X := G.K
  refine wpAny_call ?_
  k_dflt (refine' enter (binds := [(Str.ofString "self", .ref z.x)]) G hl ?k6 ?k7 (by omega) ?k9 ?kB ?c5 ?_ ?c2 ?c3 ?c4; ktn_open)
  clear X
  intro g L h₁ hg F N X T lt
  try dsimp only
  dsimp only [LexA.led] at N lt hg hl
  k_steps
  rename_i h3 q5 h4 F5 N5 l5
  generalize (tk + 1 + 1 + 1 : Nat) = tz
  refine iter2_N F5 N5 (by k_mem) ?_
  intro I h' F' N' l1
  k_lt l1
  k_steps
  refine pyIter_ci (News.get (by assumption) (by k_mem)) ?_
  obtain ⟨fo, fd, hfo, hfd⟩ := fn221 w
  rename Fr g L _ _ => F1
  rename News g L _ _ => N1
  have b0 : ∀ {h m}, Fr g L h m → ∀ a o, b.get? a = some o → h.get? a = some o := fun F a o e => F.keep _ _ (by rw [hg]; exact st_of G hl a o e)
  refine for_once fun K1 hK1 => (turn_name (pyNext_ci (News.get N1 (by k_mem)) (News.get N1 (by k_mem)) (F1.keep _ _ (X _ _ hfo)) hfd ?_))
  refine read_char (z := z) (gone := gone) (n := n) ⟨G.K, G.T, b0 F1⟩ (by show A.depth + 1 + 1 < _; exact lt_le 1 hdep) hh (by k_subL) hz hc1 (okc_10 hok) ?_
  intro t n' gone' h2 tk c' hg' hlen
  refine upd_c (o' := listOf gone'.toArray n') F1 N1 (by k_upd) c' hg' fun F2 N2 => ?_
  clear F1 N1 c' hg'
  refine ⟨_, _, rfl, one_ne c, News.get N2 (by k_mem), ?_⟩
  try dsimp only
  have f1 := ws_ok c hok.1 hok.2
  have f2 := one_q hok
  have f3 := one_b hok
  k_steps
  clear f1 f2 f3
  rename News g L _ _ => N3
  rename Fr g L _ _ => F3
  refine pyIter_ci (News.get N3 (by k_mem)) ?_
  refine for_ind (α := List Nat × List Nat) (fun a s' => Ex7 fun (h : Heap) (tk : Nat) (gone' : List Value) (n' : Nat) (tt : Tok) (ch : Str) (tc : Tok) => And7 (s' = { s with heap := h, toks := tk }) (Fr g L h (TM { cps := a.1.toArray } tt ch tc I z.x)) (News g L h [(I, ciObj q5 (.str (Str.ofString "") tz)), (q5, methodObj (.ref 221) (.ref z.x)), (z.p, listOf #[] n0), (z.x, lexI z.dx), (z.dx, lexD z.q 1 (.ref z.y) z.p), (z.y, lexI z.dy),
      (z.dy, strD z.q2 z.h5 z.k5 z.p2 z.pf), (z.a1, z.o1), (z.a2, z.o2), (z.gl, listOf gone'.toArray n'), (z.cc, z.oc), (z.pf, fnMade z.nm pieceQ z.params z.body z.scope (pieceCl z.a1 z.a2) z.doc z.pm z.cc z.ctv)]) (z.text.cps.toList.drop gone'.length = a.2 ++ 32 :: post) (a.1 ++ a.2 = c :: cs) (gone'.length + a.2.length = gone.length + cs.length + 1) (∀ d ∈ a.2, okc d)) (fun a => a.2.length) ?_ ([c], cs) ?_
  case refine_2 =>
    rw [nil_str] at F3
    exact ⟨_, _, gone', n', _, _, _, rfl, fr_tm F3 rfl rfl (by intro y h1 h2; simp only [h1, h2, if_false]; rfl), N3, by rw [hlen]; exact hc2, rfl, (by dsimp only; rw [hlen]; omega), hoks⟩
  clear F3 N3
  rintro ⟨done, rest⟩ s' ⟨h, tk, gone1, n1, tt, ch, tc, rfl, F3, N3, hdr, hcat, hln, hoks'⟩
  intro K2 hK2
  dsimp only at hdr hcat hln hoks' F3 ⊢
  refine turn_name (pyNext_ci (News.get N3 (by k_mem)) (News.get N3 (by k_mem)) (F3.keep _ _ (X _ _ hfo)) hfd ?_)
  cases rest with
  | nil =>
    obtain ⟨hd1, hd2⟩ := drop_head (show z.text.cps.toList.drop gone1.length = 32 :: post from hdr)
    refine read_char (z := z) (gone := gone1) (n := n1) ⟨G.K, G.T, b0 F3⟩ (by show A.depth + 1 + 1 < _; exact lt_le 1 hdep) hh (by k_subL) hz hd1 (by decide) ?_
    intro t n' gone' h2 tk c' hg' hlen
    refine upd_c (o' := listOf gone'.toArray n') F3 N3 (by k_upd) c' hg' fun F2 N2 => ?_
    clear F3 N3 c' hg'
    refine ⟨_, _, rfl, one_ne 32, News.get N2 (by k_mem), ?_⟩
    try dsimp only
    k_steps
    · exact absurd (show wsOcc 32 = true by assumption) (by rw [ws_32]; decide)
    rw [List.append_nil] at hcat
    subst hcat
    subst hg
    refine hK2 _ _ ?_
    refine hK1 _ _ ?_
    exact hret _ _ _ _ _ (chg_less (chg_of (by assumption)) (by ktr_rel)) (News.get (by assumption) (by k_mem)) (by simp only [List.length_nil] at hln; omega) (by rw [hlen]; exact hd2)
  | cons d ds =>
    obtain ⟨hd1, hd2⟩ := drop_head (show z.text.cps.toList.drop gone1.length = d :: (ds ++ 32 :: post) from hdr)
    have hokd := hoks' d (.head _)
    refine read_char (z := z) (gone := gone1) (n := n1) ⟨G.K, G.T, b0 F3⟩ (by show A.depth + 1 + 1 < _; exact lt_le 1 hdep) hh (by k_subL) hz hd1 (okc_10 hokd) ?_
    intro t n' gone' h2 tk c' hg' hlen
    refine upd_c (o' := listOf gone'.toArray n') F3 N3 (by k_upd) c' hg' fun F2 N2 => ?_
    clear F3 N3 c' hg'
    refine ⟨_, _, rfl, one_ne d, News.get N2 (by k_mem), ?_⟩
    try dsimp only
    have f1 := ws_ok d hokd.1 hokd.2
    have f3 := one_b hokd
    have f4 : ({ cps := done.toArray } : Str).length ≤ 1001 := by
      show done.toArray.size ≤ 1001
      rw [List.size_toArray]
      have g1 := congrArg List.length hcat
      have g2 := congrArg List.length hc
      have g3 := hz.len
      simp only [List.length_append, List.length_cons, List.length_drop, Array.length_toList] at g1 g2
      simp only [Str.length] at g3
      omega
    k_steps
    rename News g L _ _ => N4
    rename Fr g L _ _ => F4
    rw [snoc_str] at F4
    refine hK2 _ _ ?_
    refine ⟨(done ++ [d], ds), by simp, _, _, gone', n', _, _, _, rfl, fr_tm F4 rfl rfl (by intro y h1 h2; kd_addB), N4, by rw [hlen]; exact hd2, by simpa using hcat, (by dsimp only; simp only [List.length_cons] at hln; omega), fun e he => hoks' e (.tail _ he)⟩
end
end Mine
-- part Lexer
namespace Mine
local macro_rules | `(tactic| walk_at "zz zz") => `(tactic| fail "pad")
theorem freshLexer : True := by w_top off; trivial

section
variable {w : World} {mg mb : Str → Option Value} {A : Around} {s : Shared} {b : Heap} {Q E : Value → Shared → Prop} {R : Result → Shared → Prop} {loose : List Str} {mean : ExcName → Option Value}
theorem lex_init2 {x dx : Addr} {fp : Value}
    (G : Gd w mg mb b s.heap) (hd : A.depth < recursionLimit) (hl : Led b s.heap [(x, lexI dx), (dx, dictOf [] 0)]) (e1 : @LT.lt Nat _ dx x)
    (hret : ∀ q p h' tk, Chg [x, dx] s.heap h' → h'.get? x = some (lexI dx) → h'.get? dx = some (lexD q 1 fp p) → h'.get? p = some (listOf #[] 0) → s.heap.get? p = none → @LT.lt Nat _ x p → R (.ok (.ret .none)) { s with heap := h', toks := tk }) :
    codeAny (MM w) A (.call (.ref 214) ⟨[.ref x, fp], []⟩) R s := by
  have X := G.K
  k_dflt (refine' enter (binds := [(Str.ofString "self", .ref x), (Str.ofString "fp", fp)]) G hl ?k6 ?k7 hd ?k9 ?kB ?c5 ?_ ?c2 ?c3 ?c4; ktn_open)
  clear X
  intro g L h₁ hg F N X T lt
  try dsimp only
  k_lt lt
  k_steps
  subst hg
  refine hret ⟨_, _, _, _, _, _, _, _, _, _⟩ _ _ _ (chg_of (by assumption)) (News.get (by assumption) (by k_mem)) (News.get (by assumption) (by k_mem)) (News.get (by assumption) (by k_mem)) (fresh_of (News.fresh (by assumption) (List.Mem.head _)) ?_) (by omega)
  simp only [List.map_cons, List.map_nil, List.mem_cons, List.not_mem_nil, or_false, not_or]; exact ⟨neN (by omega), neN (by omega)⟩
theorem bn_of {b g h : Heap} {L : Addr} {l : List (Addr × Obj)} (st : b.StaysIn g) (N : News g L h l) {a : Addr} {o : Obj} (hm : (a, o) ∈ l) : b.get? a = none := by
  cases e : b.get? a with
  | none => rfl
  | some o' => have := (N _ hm).2.2; rw [st _ _ e] at this; cases this
theorem made_back {g h5 h6 : Heap} {L : Addr} {m : Str → Option Value} {x2 dx2 p2 : Addr} {oI o0 o1 o2 o3 : Obj} {nw : List (Addr × Obj)} (F5 : Fr g L h5 m) (N5 : News g L h5 ((x2, oI) :: (dx2, o0) :: nw)) (c : Chg [x2, dx2] h5 h6) (hx2 : h6.get? x2 = some o1) (hdx2 : h6.get? dx2 = some o2)
    (hp : h6.get? p2 = some o3) (hge : h5.get? p2 = none) (lts : ∀ q ∈ nw, @LT.lt Nat _ q.1 dx2) (l : @LT.lt Nat _ dx2 x2) : Fr g L h6 m ∧ News g L h6 ((p2, o3) :: (x2, o1) :: (dx2, o2) :: nw) :=
  chg_all F5 N5 c (by
      intro a ha
      rcases List.mem_cons.mp ha with rfl | ha
      · exact (N5 _ (.head _)).2
      · rw [List.mem_singleton.mp ha]; exact (N5 _ (.tail _ (.head _))).2) (by
      intro q hq
      rcases List.mem_cons.mp hq with rfl | hq
      · exact .inr ⟨hp, .inr hge⟩
      rcases List.mem_cons.mp hq with rfl | hq
      · exact .inr ⟨hx2, .inl (.head _)⟩
      rcases List.mem_cons.mp hq with rfl | hq
      · exact .inr ⟨hdx2, .inl (.tail _ (.head _))⟩
      · have l1 := lts q hq
        exact .inl ⟨.tail _ (.tail _ hq), by simp only [List.mem_cons, List.not_mem_nil, or_false, not_or]; exact ⟨neN (by omega), neN (by omega)⟩⟩)
theorem lex_done {g h6 : Heap} {L x2 dx2 p2 x1 dx1 p1 f c lp a1 a2 P : Addr} {m : Str → Option Value} {q1 q2 : LexT} {h5 : Int} {k5 t qt : Tok} {tk : Nat} {o3 oT oc : Obj} {ovs ps : Array Value} {nm : Str} {params : Arguments} {body : List Stmt} {scope : Scope} {dc pm ct : Value} {x : Str}
    (F7 : Fr g L h6 m) (N7 : News g L h6 [(p2, listOf #[] 0), (x2, lexI dx2), (dx2, lexD q2 1 (.ref x1) p2), (f, fnMade nm pieceQ params body scope (pieceCl a1 a2) dc pm c ct), (c, oc), (lp, listOf #[] 0), (p1, listOf #[] 0), (x1, lexI dx1), (dx1, strD q1 h5 k5 p1 f), (a2, o3), (a1, oT), (P, tabObj ps)])
    (hg : g = hideAll s.heap [P]) (hS : IsPiece nm params body scope) (nd : ([a1, a2, dx1, x1, lp, c, f, dx2, x2, p2] : List Nat).Pairwise (· < ·)) (c1 : oT.data = .cell (some (.str x t))) (c2 : o3.data = .cell (some (.ref lp))) (cd : oc.data = .fields ovs) (cv : ovs[1]? = some (.str pieceQ qt)) (hx : x.length ≤ 1000)
    (lP : @LT.lt Nat _ P a1) (lpp : @LT.lt Nat _ P p1) (ab : ∀ a o, s.heap.get? a = some o → @LT.lt Nat _ a a1)
    (hret : ∀ (z : LexA) ps h' tk, Chg [P] s.heap h' → LexOk z → z.text = x → h'.get? P = some (tabObj ps) → (∀ q ∈ (z.p, listOf #[] 0) :: z.led [] 0, h'.get? q.1 = some q.2 ∧ s.heap.get? q.1 = none) → (∀ a o, s.heap.get? a = some o → @LT.lt Nat _ a z.a1) → Q (.ref z.x) { s with heap := h', toks := tk }) :
    Q (.ref x2) { s with heap := h6, toks := tk } := by
  refine ord10k nd fun or1 or2 or3 or4 or5 or6 or7 or8 or9 => ?_
  refine hret ⟨x2, dx2, p2, x1, dx1, p1, f, c, a1, a2, lp, q2, q1, h5, k5, oT, o3, oc, ovs, qt, x, t, nm, params, body, scope, dc, pm, ct⟩ ps h6 tk (fun a ob e n => F7.keep _ _ (by rw [hg]; exact hideAll_get _ e n)) ⟨nd, c1, c2, cd, cv, hS, hx⟩ rfl (News.get N7 (by k_mem)) ?_ ab
  intro q hq
  have hf : ∀ {a : Addr} {ob : Obj}, @LT.lt Nat _ P a → g.get? a = none → s.heap.get? a = none := fun l e => by
    rw [hg] at e
    exact fresh_of e (by simp only [List.mem_cons, List.not_mem_nil, or_false]; exact neN (by omega))
  simp only [List.mem_cons, List.not_mem_nil, or_false] at hq
  rcases hq with rfl | rfl | rfl | rfl | rfl | rfl | rfl | rfl | rfl | rfl
  all_goals exact ⟨News.get N7 (by k_mem), hf (ob := oT) (by dsimp only; omega) (News.fresh N7 (by k_mem))⟩
theorem lexer {x : Str} {t : Tok} {P : Addr}
    (G : Gd w mg mb b s.heap) (TT : Top topProg loose mean mg mb b) (CC : CodeHd b 262 P) (hdep : A.depth + 2 < recursionLimit) (hA : A.handled = none) (hl : Led b s.heap [(P, tabObj #[])]) (hx : x.length ≤ 1000)
    (hret : ∀ (z : LexA) ps h' tk, Chg [P] s.heap h' → LexOk z → z.text = x → h'.get? P = some (tabObj ps) → (∀ q ∈ (z.p, listOf #[] 0) :: z.led [] 0, h'.get? q.1 = some q.2 ∧ s.heap.get? q.1 = none) → (∀ a o, s.heap.get? a = some o → @LT.lt Nat _ a z.a1) → Q (.ref z.x) { s with heap := h', toks := tk }) :
    wpAny (MM w) A (call (.ref 263) [.str x t]) Q E s := by
  have X := G.K
  refine wpAny_call ?_
  k_dflt (refine' enterC (binds := [(Str.ofString "text", .str x t)]) G hl ?k6 ?k7 (by omega) ?k9 ?kB ?c5 ?_ ?c2 ?c3 ?c4; (case k6 => k_is); (case k7 => k_is); (case k9 => exact BindsTo.of_eq rfl); (case c5 => decide); (case kB => exact rfl); (case c2 => exact rfl); (case c3 => exact rfl); (case c4 => exact rfl); k_whole)
  clear X
  intro g L h₁ tk cells hg F N Y X T lt
  k_cells Y
  have cL0 : @LT.lt Nat _ L (L + 1) := Nat.lt_add_one _
  have cL1 : @LT.lt Nat _ (L + 1) (L + 1 + 1) := Nat.lt_add_one _
  rename_i oG oT dG dT
  have ab : s.heap.objs.size ≤ L := by have := F.above; rw [hg, hideAll_size] at this; exact this
  have st := st_of G hl
  rw [← hg] at st
  replace TT := TT.keeps st
  replace CC := CC.keeps st
  k_lt lt
  (try simp only [List.cons_append, List.nil_append] at N)
  try dsimp only
  k_steps
  refine call_cls F X N (by k_is) (by k_is) (by k_is) ?_
  intro x1 dx1 h2 F2 N2 l1 l2
  replace l2 : @LT.lt Nat _ dx1 x1 := l2
  k_lt l1
  have b0 : ∀ {h m}, Fr g L h m → ∀ a o, b.get? a = some o → h.get? a = some o := fun F a o e => F.keep _ _ (st a o e)
  refine lex_init2 (x := x1) (dx := dx1) ⟨G.K, G.T, b0 F2⟩ (by show A.depth + 1 + 1 < _; exact lt_le 0 hdep) (Led.cons (News.get N2 (by k_mem)) (bn_of st N2 (.head _)) (Led.cons (News.get N2 (by k_mem)) (bn_of st N2 (.tail _ (.head _))) Led.nil)) l2 ?_
  intro q1 p1 h3 tk3 c3 hx1 hdx1 hp1 hge1 lp1
  refine ⟨rfl, ?_⟩
  obtain ⟨F3, N3⟩ := chg_all (news' := [(p1, listOf #[] 0), (x1, lexI dx1), (dx1, lexD q1 1 .none p1), (L + 1 + 1, _), (L + 1, _), (P, tabObj #[])]) F2 N2 c3 (by
      intro a ha
      rcases List.mem_cons.mp ha with rfl | ha
      · exact (N2 _ (.head _)).2
      · rw [List.mem_singleton.mp ha]; exact (N2 _ (.tail _ (.head _))).2) (by
      intro q hq
      simp only [List.mem_cons, List.not_mem_nil, or_false] at hq
      rcases hq with rfl | rfl | rfl | rfl | rfl | rfl
      · exact .inr ⟨hp1, .inr hge1⟩
      · exact .inr ⟨hx1, .inl (.head _)⟩
      · exact .inr ⟨hdx1, .inl (.tail _ (.head _))⟩
      all_goals exact .inl ⟨by k_mem, by simp only [List.mem_cons, List.not_mem_nil, or_false, not_or]; exact ⟨neN (by omega), neN (by omega)⟩⟩)
  clear F2 N2 c3 hx1 hdx1 hp1 F N
  dsimp only
  k_steps
  rename Fr g L _ _ => F4
  rename News g L _ _ => N4
  rename_i lp hA1 lA hB1 o3 d3 f c oc vs qt ct dc hC tC e4 e5 e6 e7 k8 k9
  replace e7 : @LT.lt Nat _ c f := e7
  refine call_cls F4 X N4 (by k_is) (by k_is) (by k_is) ?_
  intro x2 dx2 h5 F5 N5 l5 l6
  replace l6 : @LT.lt Nat _ dx2 x2 := l6
  have l5' := l5
  k_lt l5
  refine lex_init2 (x := x2) (dx := dx2) ⟨G.K, G.T, b0 F5⟩ (by show A.depth + 1 + 1 < _; exact lt_le 0 hdep) (Led.cons (News.get N5 (by k_mem)) (bn_of st N5 (.head _)) (Led.cons (News.get N5 (by k_mem)) (bn_of st N5 (.tail _ (.head _))) Led.nil)) l6 ?_
  intro q2 p2 h6 tk6 c6 hx2 hdx2 hp2 hge2 lp2
  refine ⟨rfl, ?_⟩
  obtain ⟨F7, N7⟩ := made_back F5 N5 c6 hx2 hdx2 hp2 hge2 l5' l6
  show Q (.ref x2) { s with heap := h6, toks := tk6 }
  refine lex_done (s := s) F7 N7 hg ⟨_, rfl⟩ ?nd dT d3 e4 e5 hx (by omega) (by omega) (fun a o e => Nat.lt_of_lt_of_le (Heap.lt_size e) (Nat.le_succ_of_le ab)) hret
  exact pw_cons (by omega) (pw_cons (by omega) (pw_cons (by omega) (pw_cons (by omega) (pw_cons (by omega) (pw_cons (by omega) (pw_cons (by omega) (pw_cons (by omega) (pw_cons (by omega) (.cons (fun _ h => nomatch h) .nil)))))))))
end
end Mine
local macro_rules | `(tactic| walk_at "eval ListComp") => `(tactic| (k_dflt (refine' comp_in ?hclos ?hkind ?hnames ?hs ?_; (case hclos => with_unfolding_all rfl); (case hkind => with_unfolding_all rfl); (case hnames => decide); (case hs => (intro _; with_unfolding_all rfl)))))
local macro_rules | `(tactic| walk_at "eval Name") => `(tactic| (k_dflt (first
  | (refine' nameC_L ?F ?v ?_ ?a ?b; (case F => k_asm); (case a => rfl); (case b => rfl); (case v => rfl); k_whole)
  | (refine' nameC_C ?N ?c ?m ?d ?_ ?a ?b; (case a => rfl); (case b => rfl); (case N => k_asm); (case c => rfl); (case m => k_mem); (case d => k_asm); k_whole)
  | (refine' nameC_F ?N ?c ?m ?d ?_ ?a ?b; (case a => rfl); (case b => rfl); (case N => k_asm); (case c => rfl); (case m => k_mem); (case d => k_asm); k_whole)
  | (refine' nameC_K ?F ?X ?T ?e ?_ ?a ?b; (case F => k_asm); (case X => k_asm); (case T => k_asm); (case a => rfl); (case b => rfl); (case e => k_is); k_whole)
  | (refine' nameC_B ?F ?X ?T ?e ?v ?n ?_ ?a ?b; (case F => k_asm); (case X => k_asm); (case T => k_asm); (case a => rfl); (case b => rfl); (case e => k_is); (case v => boot_fast); (case n => decide); k_whole))))
local macro_rules | `(tactic| walk_at "storeName") => `(tactic| (k_dflt (refine' storeC_L ?F ?N ?_ ?a ?b; (case F => k_asm); (case N => k_asm); (case a => rfl); (case b => rfl); k_whole; intro h' F' N'; (try k_sweep))))
local macro_rules | `(tactic| walk_at "exec Assign cons ListComp") => `(tactic| (k_dflt (refine' comp_in_use ?hsw ?hclos ?hkind ?hnames ?hs ?_; (case hsw => with_unfolding_all rfl); (case hclos => with_unfolding_all rfl); (case hkind => with_unfolding_all rfl); (case hnames => decide); (case hs => (intro _; with_unfolding_all rfl)))))
-- part GetAll
namespace Mine
theorem freshGetAll : True := by w_top off; trivial

section
variable {w : World} {mg mb : Str → Option Value} {A : Around} {s : Shared} {b : Heap} {Q E : Value → Shared → Prop} {R : Result → Shared → Prop}
structure RowsAt (h : Heap) (its : Array Value) (rows : List (Str × Str)) : Prop where
  len : its.size = rows.length
  at_ : ∀ i (hi : i < rows.length), ∃ T t1 t2, its[i]? = some (.ref T) ∧ h.get? T = some (tupO #[.str rows[i].1 t1, .str rows[i].2 t2])
theorem RowsAt.keeps {h h' : Heap} {its : Array Value} {rows : List (Str × Str)} (r : RowsAt h its rows) (k : ∀ T t1 t2 a c, h.get? T = some (tupO #[.str a t1, .str c t2]) → h'.get? T = some (tupO #[.str a t1, .str c t2])) : RowsAt h' its rows :=
  ⟨r.len, fun i hi => let ⟨T, t1, t2, e1, e2⟩ := r.at_ i hi; ⟨T, t1, t2, e1, k _ _ _ _ _ e2⟩⟩
theorem not_hidden {b h : Heap} {led : List (Addr × Obj)} (hl : Led b h led) {T : Addr} {o : Obj} (e : h.get? T = some o) (hn : ∀ p ∈ led, p.2 ≠ o) : (hideAll h (led.map (·.1))).get? T = some o :=
  hideAll_get _ e fun hm => by
    obtain ⟨p, hp, rfl⟩ := List.mem_map.mp hm
    rw [(hl p hp).1] at e
    exact hn p hp (by injection e)
theorem filt_yes {α β : Type} {l : List α} {P : α → Bool} {f : α → β} {i : Nat} (h : i < l.length) (hP : P l[i] = true) : ((l.take (i + 1)).filter P).map f = ((l.take i).filter P).map f ++ [f l[i]] := by
  rw [List.take_add_one, List.getElem?_eq_getElem h, List.filter_append, List.map_append]; simp [hP]
theorem filt_no {α β : Type} {l : List α} {P : α → Bool} {f : α → β} {i : Nat} (h : i < l.length) (hP : P l[i] = false) : ((l.take (i + 1)).filter P).map f = ((l.take i).filter P).map f := by
  rw [List.take_add_one, List.getElem?_eq_getElem h, List.filter_append, List.map_append]; simp [hP]
abbrev hit (q : Str) (r : Str × Str) : Bool := Txt.lower r.1 == Txt.lower q
theorem get_all {x dx p : Addr} {hh : Int} {k : Tok} {its : Array Value} {n : Nat} {rows : List (Str × Str)} {q : Str} {tq : Tok}
    (G : Gd w mg mb b s.heap) (hdep : A.depth + 2 < recursionLimit) (hA : A.handled = none) (hl : Led b s.heap [(x, hdI dx), (dx, hdD hh k (.ref p)), (p, listOf its n)]) (e1 : @LT.lt Nat _ p dx) (e2 : @LT.lt Nat _ dx x)
    (hr : RowsAt s.heap its rows) (hlen : rows.length ≤ 100) (hq : q.length ≤ 100) (hpl : Plain (Txt.lower q))
    (hrl : ∀ r ∈ rows, r.1.length ≤ 100)
    (hret : ∀ r ys n h' tk, Chg [] s.heap h' → StrsAre ys.toList ((rows.filter (hit q)).map (·.2)) → h'.get? r = some (listOf ys n) → s.heap.get? r = none → Q (.ref r) { s with heap := h', toks := tk }) :
    wpAny (MM w) A (call (.ref 121) [.ref x, .str q tq]) Q E s := by
  have X := G.K
  refine wpAny_call ?_
  k_dflt (refine' enterC (binds := [(Str.ofString "self", .ref x), (Str.ofString "name", .str q tq)]) G hl ?k6 ?k7 (by omega) ?k9 ?kB ?c5 ?_ ?c2 ?c3 ?c4; (case k6 => k_is); (case k7 => k_is); (case k9 => exact BindsTo.of_eq rfl); (case c5 => decide); (case kB => exact rfl); (case c2 => exact rfl); (case c3 => exact rfl); (case c4 => exact rfl); k_whole)
  clear X
  intro g L h₁ tk cells hg F N Y X T lt
  k_cells Y
  have cL0 : @LT.lt Nat _ L (L + 1) := Nat.lt_add_one _
  (try simp only [List.cons_append, List.nil_append] at N)
  try dsimp only
  k_steps
  rename Fr g L _ _ => F1
  rename News g L _ _ => N1
  have st := st_of G hl
  rw [← hg] at st
  refine wpAny_call (conv (nm := true) ⟨G.K, G.T, fun a o e => F1.keep _ _ (st a o e)⟩ (by show A.depth + 1 + 1 < _; exact lt_le 0 hdep) hpl ?_)
  intro h2 tk2 c2
  refine same_k F1 N1 c2 fun F2 N2 => ?_
  clear F1 N1 c2
  k_steps
  rename Fr g L _ _ => F3
  rename News g L _ _ => N3
  rename_i tk1 oo1 dd1 le1 hh3 o3 d3
  have hrg : RowsAt g its rows := hr.keeps fun T t1 t2 a c e => by
    rw [hg]; exact not_hidden hl e (by intro p hp; simp only [List.mem_cons, List.not_mem_nil, or_false] at hp; rcases hp with rfl | rfl | rfl <;> (intro h; injection h with h1 h2 h3 h4; first | exact absurd h1 (by intro q; cases q) | exact absurd h1 (by intro q; injection q with q; exact absurd q (by decide))))
  k_lt lt
  (try simp only [List.nil_append] at N3)
  refine iter_li F3 N3 (News.get N3 (by k_mem)) (isLs _ _) ?_
  intro I h4 oI hI F4 N4 lI
  refine comp_go rfl F4 N4 X T (by decide) rfl (.head _) (fun s' Q' E' h h' => wpAny_pyIter_listiter ⟨_, h, hI⟩ h') ?_
  intro C D g2 h5 tk5 hg2 F5 N5 X5 T5 lD lC hgg hL2
  k_lt lI
  k_lt lD
  refine comp_ind1 (α := Nat) (fun i s' => Ex6 fun (h : Heap) (tk : Nat) (m' : Str → Option Value) (ys : Array Value) (n' : Nat) (oI : Obj) => And7 (s' = { s with heap := h, toks := tk }) (Fr g2 C h m') (IsLi oI p i) (i ≤ rows.length) (ys.size ≤ i) (StrsAre ys.toList (((rows.take i).filter (hit q)).map (·.2))) (News g2 C h [(D, listOf ys n'), (I, oI), (L + 1, o3), (x, hdI dx), (dx, hdD hh k (.ref p)), (p, listOf its n)])) (fun i => rows.length - i) ?_ 0 ?_
  case refine_2 => exact ⟨_, _, _, _, _, _, rfl, F5, hI, Nat.zero_le _, Nat.le_refl _, .nil, N5⟩
  clear F5 N5 F4 N4 F3 N3
  rintro i s' ⟨h6, tk6, m6, ys, n6, oI, rfl, F6, hI, hle, hsz, hst, N6⟩
  intro K1 hK1
  by_cases hlt : i < rows.length
  · obtain ⟨U, t1, t2, hU, hUo⟩ := hrg.at_ i hlt
    refine next_li (News.get N6 (by k_mem)) hI (News.get N6 (by k_mem)) (isLs _ _) hU ?_
    intro h7 oI' hI' c7 e7
    refine upd_k F6 N6 (by k_upd) c7 e7 fun F7 N7 => ?_
    clear F6 N6 c7 e7
    have hsz' : ys.size ≤ 1000 := by omega
    have hl1 := hrl rows[i] (List.getElem_mem _)
    dsimp only
    k_steps
    rename Fr g2 C _ _ => F8
    refine item_tupleT (l := [.str rows[i].1 t1, .str rows[i].2 t2]) (j := 0) ⟨_, F8.keep _ _ (hgg _ _ hUo), rfl, _, rfl⟩ (by decide) (by decide) rfl rfl ?_
    k_steps
    · rename Fr g2 C _ _ => F9
      rename (Txt.lower _ == Txt.lower _) = true => hhit
      refine item_tupleT (l := [.str rows[i].1 t1, .str rows[i].2 t2]) (j := 1) ⟨_, F9.keep _ _ (hgg _ _ hUo), rfl, _, rfl⟩ (by decide) (by decide) rfl rfl ?_
      k_steps
      rename Fr g2 C _ _ => Fa
      rename News g2 C _ _ => Na
      refine hK1 _ ?_; exact ⟨i + 1, (by first | with_reducible exact mdec (by assumption) | (dsimp only; omega)), _, _, _, _, _, _, rfl, Fa, hI', hlt, (by rw [Array.size_push]; omega), (by rw [filt_yes hlt hhit]; exact strs_push hst), Na⟩
    · rename Fr g2 C _ _ => Fa
      rename News g2 C _ _ => Na
      rename (Txt.lower _ == Txt.lower _) = false => hhit
      refine hK1 _ ?_; exact ⟨i + 1, (by first | with_reducible exact mdec (by assumption) | (dsimp only; omega)), _, _, _, _, _, _, rfl, Fa, hI', hlt, (by omega), (by rw [filt_no hlt hhit]; exact hst), Na⟩
  · have hie : i = rows.length := by first | with_reducible exact eqEnd (by assumption) (by assumption) | omega
    subst hie
    refine end_li hA (News.get N6 (by k_mem)) hI (News.get N6 (by k_mem)) (isLs _ _) (by rw [← hr.len]; simp) ?_
    intro h7 c7
    refine drop2_k F6 N6 c7 (by k_all) fun F7 N7 => ?_
    clear F6 N6 c7
    refine CompEnd.intro F7 N7 ?_
    intro h8 F8 N8
    clear F7 N7
    rw [take_all (Nat.le_refl _)] at hst
    k_steps
    subst hg
    exact hret _ _ _ _ _ (chg_less (chg_of F8) (by ktr_rel)) hst (News.get N8 (.head _)) (fresh_of (News.fresh N8 (.head _)) (by simp only [List.map_cons, List.map_nil, List.mem_cons, List.not_mem_nil, or_false, not_or]; exact ⟨neN (by omega), neN (by omega), neN (by omega)⟩))
end
end Mine
-- part Line
namespace Mine
local macro_rules | `(tactic| walk_at "zz zz") => `(tactic| fail "pad")
theorem freshLine : True := by w_top off; trivial

def signW (first k : Int) : Str := Txt.item (Str.ofString "&<>\"\r\n\t") ((first + k).fmod 7) ++ Str.ofString " "
theorem signW_eq (first k : Int) : ∃ c ∈ [38, 60, 62, 34, 13, 10, 9], signW first k = ⟨#[c, 32]⟩ := by
  have h1 : 0 ≤ (first + k).fmod 7 := Int.fmod_nonneg_of_pos _ (by decide)
  have h2 : (first + k).fmod 7 < 7 := Int.fmod_lt_of_pos _ (by decide)
  unfold signW
  generalize (first + k).fmod 7 = r at h1 h2
  obtain ⟨n, rfl⟩ := Int.eq_ofNat_of_zero_le h1
  replace h2 : n < 7 := Int.ofNat_lt.mp h2
  rcases n with _ | _ | _ | _ | _ | _ | _ | n
  · exact ⟨38, by decide, by decide +kernel⟩
  · exact ⟨60, by decide, by decide +kernel⟩
  · exact ⟨62, by decide, by decide +kernel⟩
  · exact ⟨34, by decide, by decide +kernel⟩
  · exact ⟨13, by decide, by decide +kernel⟩
  · exact ⟨10, by decide, by decide +kernel⟩
  · exact ⟨9, by decide, by decide +kernel⟩
  · exact absurd h2 (Nat.not_lt.mpr (Nat.le_add_left 7 n))
theorem signW_len (first k : Int) : (signW first k).length ≤ 2 := by
  obtain ⟨c, _, e⟩ := signW_eq first k
  rw [e]; exact Nat.le_refl _
theorem sjoin_flat : ∀ l : List Str, (Str.join ⟨#[]⟩ l).cps.toList = l.flatMap (·.cps.toList)
  | [] => rfl
  | [x] => by simp [Str.join]
  | x :: y :: r => by
    have ih := sjoin_flat (y :: r)
    show (x ++ ⟨#[]⟩ ++ Str.join ⟨#[]⟩ (y :: r)).cps.toList = _
    simp only [Str.cps_append, Array.toList_append]
    rw [ih]
    simp
theorem join_flat (l : List Str) : (Txt.join (Str.ofString "") l).cps.toList = l.flatMap (·.cps.toList) := by
  rw [show Txt.join (Str.ofString "") l = Str.join (Str.ofString "") l from StrLaws.glued_eq_join _ _, show Str.ofString "" = ⟨#[]⟩ from by decide +kernel]
  exact sjoin_flat l
theorem join_signy (first : Int) (ns : List Int) : Signy (Txt.join (Str.ofString "") (ns.map (signW first))).cps.toList := by
  rw [join_flat]
  intro c hc
  obtain ⟨y, hy, hcy⟩ := List.mem_flatMap.mp hc
  obtain ⟨k, hk, rfl⟩ := List.mem_map.mp hy
  obtain ⟨d, hd, e⟩ := signW_eq first k
  rw [e] at hcy
  simp only [List.mem_cons, List.not_mem_nil, or_false] at hcy hd ⊢
  rcases hcy with rfl | rfl
  · rcases hd with rfl | rfl | rfl | rfl | rfl | rfl | rfl <;> decide
  · decide
theorem flat_len : ∀ l : List Str, (∀ y ∈ l, y.length ≤ 2) → (l.flatMap (·.cps.toList)).length ≤ 2 * l.length
  | [], _ => by simp
  | x :: r, h => by
    have ih := flat_len r fun y hy => h y (List.mem_cons_of_mem _ hy)
    have h1 := h x (List.mem_cons_self ..)
    simp only [Str.length] at h1
    rw [List.flatMap_cons, List.length_append, List.length_cons, Array.length_toList]
    omega
theorem words_len (first : Int) (ns : List Int) : ∀ y ∈ ns.map (signW first), y.length ≤ 2 := fun y hy => by
  obtain ⟨k, hk, rfl⟩ := List.mem_map.mp hy
  exact signW_len _ _
theorem join_len (first : Int) (ns : List Int) : (Txt.join (Str.ofString "") (ns.map (signW first))).length ≤ 2 * ns.length := by
  have := flat_len _ (words_len first ns)
  rw [← join_flat, List.length_map, Array.length_toList] at this
  exact this
theorem sum_le : ∀ l : List Str, (∀ y ∈ l, y.length ≤ 2) → (l.map (·.length)).sum ≤ 2 * l.length
  | [], _ => by simp
  | x :: r, h => by
    have ih := sum_le r fun y hy => h y (List.mem_cons_of_mem _ hy)
    have h1 := h x (List.mem_cons_self ..)
    simp only [List.map_cons, List.sum_cons, List.length_cons]
    omega
theorem join_fit (first : Int) (ns : List Int) (h : ns.length ≤ 100) : ((ns.map (signW first)).map (·.length)).sum + (ns.map (signW first)).length * 64 ≤ 16777216 := by
  have := sum_le _ (words_len first ns)
  rw [List.length_map] at this ⊢
  omega
section
variable {w : World} {mg mb : Str → Option Value} {A : Around} {s : Shared} {b : Heap} {Q E : Value → Shared → Prop} {R : Result → Shared → Prop} {loose : List Str} {mean : ExcName → Option Value}
theorem line {kp P : Addr} {vs : List Value} {ns : List Int} {first : Int} {tf : Tok}
    (G : Gd w mg mb b s.heap) (TT : Top topProg loose mean mg mb b) (CC : CodeHd b 262 P) (hdep : A.depth + 4 < recursionLimit) (hA : A.handled = none) (hk : s.heap.IsList kp vs.toArray) (hi : IntsAre vs ns) (hlen : ns.length ≤ 40)
    (hl : Led b s.heap [(P, tabObj #[])])
    (hret : ∀ (z : LexA) ps h' tk, Chg [P] s.heap h' → LexOk z → z.text = escN 7 (Txt.join (Str.ofString "") (ns.map (signW first))) → h'.get? P = some (tabObj ps) → (∀ q ∈ (z.p, listOf #[] 0) :: z.led [] 0, h'.get? q.1 = some q.2 ∧ s.heap.get? q.1 = none) → (∀ a o, s.heap.get? a = some o → @LT.lt Nat _ a z.a1) → Q (.ref z.x) { s with heap := h', toks := tk }) :
    wpAny (MM w) A (call (.ref 268) [.ref kp, .int first tf]) Q E s := by
  have X := G.K
  refine wpAny_call ?_
  k_dflt (refine' enterC (binds := [(Str.ofString "kinds", .ref kp), (Str.ofString "first", .int first tf)]) G hl ?k6 ?k7 (by omega) ?k9 ?kB ?c5 ?_ ?c2 ?c3 ?c4; (case k6 => k_is); (case k7 => k_is); (case k9 => exact BindsTo.of_eq rfl); (case c5 => decide); (case kB => exact rfl); (case c2 => exact rfl); (case c3 => exact rfl); (case c4 => exact rfl); k_whole)
  clear X
  intro g L h₁ tk cells hg F N Y X T lt
  have ab : s.heap.objs.size ≤ L := by have := F.above; rw [hg, hideAll_size] at this; exact this
  k_cells Y
  have cL0 : @LT.lt Nat _ L (L + 1) := Nat.lt_add_one _
  have cL1 : @LT.lt Nat _ (L + 1) (L + 1 + 1) := Nat.lt_add_one _
  rename_i oS oF dS dF
  k_lt lt
  (try simp only [List.cons_append, List.nil_append] at N)
  try dsimp only
  k_steps
  rename Fr g L _ _ => F3
  rename News g L _ _ => N3
  obtain ⟨ko, hko, hkl⟩ := hk
  have hgk : g.get? kp = some ko := by
    rw [hg]
    exact not_hidden hl hko (by intro p hp; rw [List.mem_singleton.mp hp]; intro e; rw [← e] at hkl; cases hkl.1)
  rename_i hS3 o3 d3
  refine iter_li F3 N3 (F3.keep _ _ hgk) hkl ?_
  intro I h4 oI hI F4 N4 lI
  refine comp_go rfl F4 N4 X T (by decide) rfl (.head _) (fun s' Q' E' h h' => wpAny_pyIter_listiter ⟨_, h, hI⟩ h') ?_
  intro C D g2 h5 tk5 hg2 F5 N5 X5 T5 lD lC hgg hL2
  k_lt lI
  k_lt lD
  refine comp_ind0 (α := Nat) (fun i s' => Ex6 fun (h : Heap) (tk : Nat) (m' : Str → Option Value) (ys : Array Value) (n : Nat) (oI : Obj) => And7 (s' = { s with heap := h, toks := tk }) (Fr g2 C h m') (IsLi oI kp i) (i ≤ vs.length) (ys.size = i) (StrsAre ys.toList ((ns.take i).map (signW first))) (News g2 C h [(D, listOf ys n), (I, oI), (L + 1 + 1, o3), (L + 1, oF), (P, tabObj #[])])) (fun i => vs.length - i) ?_ 0 ?_
  case refine_2 => exact ⟨_, _, _, _, _, _, rfl, F5, hI, Nat.zero_le _, rfl, .nil, N5⟩
  clear F5 N5 F4 N4 F3 N3
  rintro i s' ⟨h6, tk6, m6, ys, n, oI, rfl, F6, hI, hle, hsz, hst, N6⟩
  intro K1 hK1
  have hgk2 : h6.get? kp = some ko := F6.keep _ _ (hgg _ _ hgk)
  by_cases hlt : i < vs.length
  · refine next_li (News.get N6 (by k_mem)) hI hgk2 hkl (x := vs[i]) (by simp [hlt]) ?_
    intro h7 oI' hI' c7 e7
    refine upd_k F6 N6 (by k_upd) c7 e7 fun F7 N7 => ?_
    clear F6 N6 c7 e7
    have hln : i < ns.length := by rw [← hi.length]; exact hlt
    have hsz' : ys.size ≤ 1000 := by omega
    obtain ⟨t, ht⟩ := ints_at hi hlt hln
    rw [ht]
    try dsimp only
    k_steps
    rename Fr g2 C _ _ => F8
    rename News g2 C _ _ => N8
    refine hK1 _ ?_; exact ⟨i + 1, (by first | with_reducible exact mdec (by assumption) | (dsimp only; omega)), _, _, _, _, _, _, rfl, F8, hI', hlt, (by rw [Array.size_push, hsz]), strs_next hst hln rfl, N8⟩
  · have hie : i = vs.length := by first | with_reducible exact eqEnd (by assumption) (by assumption) | omega
    subst hie
    refine end_li hA (News.get N6 (by k_mem)) hI hgk2 hkl (by simp) ?_
    intro h7 c7
    refine drop2_k F6 N6 c7 (by k_all) fun F7 N7 => ?_
    clear F6 N6 c7
    refine CompEnd.intro F7 N7 ?_
    intro h8 F8 N8
    clear F7 N7
    rw [take_all (by rw [hi.length]; exact Nat.le_refl _)] at hst
    k_steps
    have hw : ∀ y ∈ ns.map (signW first), y.length ≤ 2 := by
      intro y hy
      obtain ⟨k, hk, rfl⟩ := List.mem_map.mp hy
      exact signW_len _ _
    have hjs : Signy (Txt.join (Str.ofString "") (ns.map (signW first))).cps.toList := join_signy first ns
    have hjl : (Txt.join (Str.ofString "") (ns.map (signW first))).length ≤ 100 := Nat.le_trans (join_len first ns) (by omega)
    refine join_listC ⟨_, News.get N8 (.head _), rfl, _, rfl⟩ hst (by decide) (join_fit first ns (by omega)) ?_
    intro tj kj
    k_steps
    have st := st_of G hl
    rw [← hg] at st
    refine esc ⟨G.K, G.T, fun a o e => F8.keep _ _ (st a o e)⟩ (by show A.depth + 1 < _; exact lt_le 3 hdep) hjl hjs ?_
    intro h9 tk9 t9 c9
    refine same_k F8 N8 c9 fun F9 N9 => ?_
    clear F8 N8 c9
    dsimp only
    k_steps
    refine lexer (P := P) ⟨G.K, G.T, fun a o e => F9.keep _ _ (st a o e)⟩ TT CC (by show A.depth + 1 + 2 < _; exact lt_le 1 hdep) hA (Led.cons (News.get N9 (by k_mem)) (bn_of st N9 (by k_mem)) Led.nil) (Nat.le_trans (escN_len (by decide) hjl hjs) (by decide)) ?_
    intro z ps ha tka ca hz hzt hP hq hab
    have hup : ∀ a o, s.heap.get? a = some o → a ∉ [P] → h9.get? a = some o := fun a o e n => F9.keep _ _ (by rw [hg]; exact hideAll_get _ e n)
    have hup2 : ∀ a o, s.heap.get? a = some o → ∃ o', h9.get? a = some o' := fun a o e => by
      by_cases n : a ∈ [P]
      · rw [List.mem_singleton.mp n]; exact ⟨_, News.get N9 (by k_mem)⟩
      · exact ⟨o, hup a o e n⟩
    refine hret z ps ha tka (fun a o e n => ca a o (hup a o e n) n) hz hzt hP (fun q hm => ⟨(hq q hm).1, ?_⟩) fun a o e => ?_
    · cases e : s.heap.get? q.1 with
      | none => rfl
      | some o =>
        obtain ⟨o', e'⟩ := hup2 _ _ e
        have := (hq q hm).2
        dsimp only at this
        rw [e'] at this; cases this
    · obtain ⟨o', e'⟩ := hup2 _ _ e
      exact hab a o' e'
end
end Mine
-- part Dressed
namespace Mine
theorem freshDressed : True := by w_top off; trivial

section
variable {w : World} {mg mb : Str → Option Value} {A : Around} {s : Shared} {b : Heap} {Q E : Value → Shared → Prop} {R : Result → Shared → Prop}
theorem dressed {kp : Addr} {vs : List Value} {ns : List Int} {first : Int} {tf : Tok}
    (G : Gd w mg mb b s.heap) (hd : A.depth + 1 < recursionLimit) (hA : A.handled = none) (hk : s.heap.IsList kp vs.toArray) (hi : IntsAre vs ns) (hlen : ns.length ≤ 100)
    (hret : ∀ r ys n h' tk, Chg [] s.heap h' → StrsAre ys.toList (ns.map (dress first)) → h'.get? r = some (listOf ys n) → s.heap.get? r = none → Q (.ref r) { s with heap := h', toks := tk }) :
    wpAny (MM w) A (call (.ref 273) [.ref kp, .int first tf]) Q E s := by
  have X := G.K
  have hl : Led b s.heap [] := Led.nil
  refine wpAny_call ?_
  k_dflt (refine' enterC (binds := [(Str.ofString "kinds", .ref kp), (Str.ofString "first", .int first tf)]) G hl ?k6 ?k7 (by omega) ?k9 ?kB ?c5 ?_ ?c2 ?c3 ?c4; (case k6 => k_is); (case k7 => k_is); (case k9 => exact BindsTo.of_eq rfl); (case c5 => decide); (case kB => exact rfl); (case c2 => exact rfl); (case c3 => exact rfl); (case c4 => exact rfl); k_whole)
  clear X
  intro g L h₁ tk cells hg F N Y X T lt
  k_cells Y
  have cL0 : @LT.lt Nat _ L (L + 1) := Nat.lt_add_one _
  have cL1 : @LT.lt Nat _ (L + 1) (L + 1 + 1) := Nat.lt_add_one _
  (try simp only [List.cons_append, List.nil_append] at N)
  try dsimp only
  k_steps
  rename_i tk1 o1 o2 d1 d2 l' h2 ll h3 o3 F3 N3 d3
  obtain ⟨ko, hko, hkl⟩ := hk
  have hgk : g.get? kp = some ko := by rw [hg]; exact hideAll_get _ hko (by simp)
  refine iter_li F3 N3 (F3.keep _ _ hgk) hkl ?_
  intro I h4 oI hI F4 N4 lI
  refine comp_go rfl F4 N4 X T (by decide) rfl (.head _) (fun s' Q' E' h h' => wpAny_pyIter_listiter ⟨_, h, hI⟩ h') ?_
  intro C D g2 h5 tk5 hg2 F5 N5 X5 T5 lD lC hgg hL2
  k_lt lI
  k_lt lD
  refine comp_ind0 (α := Nat) (fun i s' => Ex6 fun (h : Heap) (tk : Nat) (m' : Str → Option Value) (ys : Array Value) (n : Nat) (oI : Obj) => And7 (s' = { s with heap := h, toks := tk }) (Fr g2 C h m') (IsLi oI kp i) (i ≤ vs.length) (ys.size = i) (StrsAre ys.toList ((ns.take i).map (dress first))) (News g2 C h [(D, listOf ys n), (I, oI), (l', listOf #[Value.str (Str.ofString "&amp;") tk1, Value.str (Str.ofString "&lt;") (tk1 + 1),
            Value.str (Str.ofString "&gt;") (tk1 + 1 + 1), Value.str (Str.ofString "&quot;") (tk1 + 1 + 1 + 1),
            Value.str (Str.ofString "&#13;") (tk1 + 1 + 1 + 1 + 1),
            Value.str (Str.ofString "&#10;") (tk1 + 1 + 1 + 1 + 1 + 1),
            Value.str (Str.ofString "&#09;") (tk1 + 1 + 1 + 1 + 1 + 1 + 1)] 0), (L + 1 + 1, o3), (L + 1, o2)])) (fun i => vs.length - i) ?_ 0 ?_
  case refine_2 => exact ⟨_, _, _, _, _, _, rfl, F5, hI, Nat.zero_le _, rfl, .nil, N5⟩
  clear F5 N5 F4 N4 F3 N3
  rintro i s' ⟨h6, tk6, m6, ys, n, oI, rfl, F6, hI, hle, hsz, hst, N6⟩
  intro K1 hK1
  have hgk2 : h6.get? kp = some ko := F6.keep _ _ (hgg _ _ hgk)
  by_cases hlt : i < vs.length
  · refine next_li (News.get N6 (by k_mem)) hI hgk2 hkl (x := vs[i]) (by simp [hlt]) ?_
    intro h7 oI' hI' c7 e7
    refine upd_k F6 N6 (by k_upd) c7 e7 fun F7 N7 => ?_
    clear F6 N6 c7 e7
    have hln : i < ns.length := by rw [← hi.length]; exact hlt
    have hsz' : ys.size ≤ 1000 := by omega
    obtain ⟨t, ht⟩ := ints_at hi hlt hln
    rw [ht]
    try dsimp only
    k_steps
    all_goals (rename Fr g2 C _ _ => F8; rename News g2 C _ _ => N8; refine hK1 _ ?_; refine ⟨i + 1, (by first | with_reducible exact mdec (by assumption) | (dsimp only; omega)), _, _, _, _, _, _, rfl, F8, hI', hlt, (by rw [Array.size_push, hsz]), strs_next hst hln ?_, N8⟩)
    all_goals (show dressL.getD ((first + ns[i]).fmod 7).toNat _ = _; simp only [*]; rfl)
  · have hie : i = vs.length := by first | with_reducible exact eqEnd (by assumption) (by assumption) | omega
    subst hie
    refine end_li hA (News.get N6 (by k_mem)) hI hgk2 hkl (by simp) ?_
    intro h7 c7
    refine drop2_k F6 N6 c7 (by k_all) fun F7 N7 => ?_
    clear F6 N6 c7
    refine CompEnd.intro F7 N7 ?_
    intro h8 F8 N8
    clear F7 N7
    rw [take_all (by rw [hi.length]; exact Nat.le_refl _)] at hst
    k_steps
    rw [hg] at F8 N8
    exact hret _ _ _ _ _ (chg_of F8) hst (News.get N8 (.head _)) (fresh_of (News.fresh N8 (.head _)) (by simp))
end
end Mine
-- part Turns
namespace Mine
theorem freshTurns : True := by w_top off; trivial
local macro_rules | `(tactic| kct_strs) => `(tactic| first | with_reducible assumption | with_reducible exact And.left (by assumption) | fail "asl")
local macro_rules | `(tactic| k_lt $h:ident) => `(tactic| replace $h := lt_split $h)

local macro_rules | `(tactic| walk_at "subscriptTail") => `(tactic| (k_dflt (refine' item_last ?hl ?_; (case hl => exact ⟨_, News.get (by assumption) (by k_mem), rfl, _, rfl⟩); k_whole)))
local macro_rules | `(tactic| k_mem) => `(tactic| assumption)
abbrev MT (m0 : Str → Option Value) (pv wv Dv Tv tv rv : Option Value) : Str → Option Value := fun y => if y = Str.ofString "place" then pv else if y = Str.ofString "word" then wv else if y = Str.ofString "words" then Dv else if y = Str.ofString "turns" then Tv else if y = Str.ofString "turn" then tv else if y = Str.ofString "reading" then rv else m0 y
theorem fr_mt {g h : Heap} {L : Addr} {m m0 : Str → Option Value} {a1 a2 a3 a4 a5 a6 : Option Value} (F : Fr g L h m) (h1 : m (Str.ofString "place") = a1) (h2 : m (Str.ofString "word") = a2) (h3 : m (Str.ofString "words") = a3)
    (h4 : m (Str.ofString "turns") = a4) (h5 : m (Str.ofString "turn") = a5) (h6 : m (Str.ofString "reading") = a6)
    (hr : ∀ y, y ≠ Str.ofString "place" → y ≠ Str.ofString "word" → y ≠ Str.ofString "words" → y ≠ Str.ofString "turns" → y ≠ Str.ofString "turn" → y ≠ Str.ofString "reading" → m y = m0 y) : Fr g L h (MT m0 a1 a2 a3 a4 a5 a6) := fr_map F fun y => by
  unfold MT
  by_cases e1 : y = Str.ofString "place"
  · subst e1; rw [if_pos rfl]; exact h1
  by_cases e2 : y = Str.ofString "word"
  · subst e2; rw [if_neg e1, if_pos rfl]; exact h2
  by_cases e3 : y = Str.ofString "words"
  · subst e3; rw [if_neg e1, if_neg e2, if_pos rfl]; exact h3
  by_cases e4 : y = Str.ofString "turns"
  · subst e4; rw [if_neg e1, if_neg e2, if_neg e3, if_pos rfl]; exact h4
  by_cases e5 : y = Str.ofString "turn"
  · subst e5; rw [if_neg e1, if_neg e2, if_neg e3, if_neg e4, if_pos rfl]; exact h5
  by_cases e6 : y = Str.ofString "reading"
  · subst e6; rw [if_neg e1, if_neg e2, if_neg e3, if_neg e4, if_neg e5, if_pos rfl]; exact h6
  rw [if_neg e1, if_neg e2, if_neg e3, if_neg e4, if_neg e5, if_neg e6]; exact hr y e1 e2 e3 e4 e5 e6
abbrev MS (v : Value) : Str → Option Value := fun y => if y = Str.ofString "size" then some v else none
section
variable {w : World} {mg mb : Str → Option Value} {A : Around} {s : Shared} {b : Heap} {Q E : Value → Shared → Prop} {R : Result → Shared → Prop}
theorem turns {z : LexA} {ws : List Str} {tz : Tok} {n0 : Nat}
    (G : Gd w mg mb b s.heap) (hdep : A.depth + 5 < recursionLimit) (hA : A.handled = none) (hl : Led b s.heap ((z.p, listOf #[] n0) :: z.led [] 0)) (hz : LexOk z)
    (hsz : ws.length ≤ 100) (hw : ∀ w ∈ ws, ∃ c cs, w = ⟨(c :: cs).toArray⟩ ∧ okc c ∧ ∀ d ∈ cs, okc d) (htx : z.text.cps.toList = ws.flatMap fun w => w.cps.toList ++ [32])
    (hret : ∀ (T : Addr) (rs : List Value) (extra : List (Addr × Obj)) (ys : List Value) (nT : Nat) (h' : Heap) (tk : Nat), StrsAre ys ws → rs.length = ws.length → h'.get? T = some (listOf rs.toArray nT) → (∀ j, j < ws.length → ∃ r k, rs[j]? = some (.ref r) ∧ (r, listOf (rot j ys).toArray k) ∈ extra) →
      (∀ p ∈ extra, h'.get? p.1 = some p.2 ∧ @LT.lt Nat _ T p.1) → @LE.le Nat _ s.heap.objs.size T → Chg [z.p, z.gl] s.heap h' → Q (.ref T) { s with heap := h', toks := tk }) :
    wpAny (MM w) A (call (.ref 278) [.ref z.x, .int ws.length tz]) Q E s := by
  refine ord10k hz.nd fun o1 o2 o3 o4 o5 o6 o7 o8 o9 => ?_
  have X := G.K
  refine wpAny_call ?_
  k_dflt (refine' enterC (binds := [(Str.ofString "line", .ref z.x), (Str.ofString "size", .int ws.length tz)]) G hl ?k6 ?k7 (by omega) ?k9 ?kB ?c5 ?_ ?c2 ?c3 ?c4; (case k6 => k_is); (case k7 => k_is); (case k9 => exact BindsTo.of_eq rfl); (case c5 => decide); (case kB => exact rfl); (case c2 => exact rfl); (case c3 => exact rfl); (case c4 => exact rfl); k_whole)
  clear X
  intro g L h₁ tk cells hg F N Y X T lt
  dsimp only [LexA.led] at N lt hg hl
  k_cells Y
  have cL0 : @LT.lt Nat _ L (L + 1) := Nat.lt_add_one _
  k_lt lt
  (try simp only [List.cons_append, List.nil_append] at N)
  try dsimp only
  refine body_k ?_
  intro K0 hK0
  k_steps
  rename Fr g L _ _ => F1
  rename News g L _ _ => N1
  rename IsRange _ _ _ _ _ _ _ _ => R1
  have st := st_of G hl
  rw [← hg] at st
  refine iter_ra F1 N1 R1 (by decide) (by decide) (Int.natCast_nonneg _) (by first | with_reducible exact le1000 (by assumption) | omega) ?_
  intro I h4 F4 N4 lI
  rw [rng0 ws.length] at N4
  refine comp_go_use rfl rfl rfl F4 N4 X T (by decide) rfl (.head _) (fun s' Q' E' h h' => wpAny_pyIter_rangeiter h h') ?_
  intro C D g2 h5 tk5 hg2 F5 N5 X5 T5 lD lC hgg hL2
  k_lt lI
  k_lt lD
  clear lC
  rename_i oL dL N0 h1 tk1 tr1 tr2 tr3 aK
  clear N0
  refine comp_ind0 (α := Nat) (fun i s' => Ex7 fun (h : Heap) (tk : Nat) (m' : Str → Option Value) (ys gone : List Value) (n n' : Nat) => And6 (s' = { s with heap := h, toks := tk }) (Fr g2 C h m') (i ≤ ws.length) (StrsAre ys (ws.take i)) (z.text.cps.toList.drop gone.length = (ws.drop i).flatMap (fun w => w.cps.toList ++ [32])) (News g2 C h [(D, listOf ys.toArray n), (I, riObj i (ws.length - i) 1), (L + 1, oL), (z.p, listOf #[] n0), (z.x, lexI z.dx), (z.dx, lexD z.q 1 (.ref z.y) z.p), (z.y, lexI z.dy),
      (z.dy, strD z.q2 z.h5 z.k5 z.p2 z.pf), (z.a1, z.o1), (z.a2, z.o2), (z.gl, listOf gone.toArray n'), (z.cc, z.oc), (z.pf, fnMade z.nm pieceQ z.params z.body z.scope (pieceCl z.a1 z.a2) z.doc z.pm z.cc z.ctv)])) (fun i => ws.length - i) ?_ 0 ?_
  case refine_2 => exact ⟨_, _, _, [], [], 0, 0, rfl, F5, Nat.zero_le _, .nil, (by simpa using htx), (by simpa using N5)⟩
  clear F5 N5 F4 N4 F1 N1 R1
  rintro i s' ⟨h6, tk6, m6, ys, gone, n, n', rfl, F6, hle, hst, hdr, N6⟩
  intro K1 hK1
  by_cases hlt : i < ws.length
  · refine next_ri (News.get N6 (by k_mem)) (by first | with_reducible exact pos1 (by assumption) | omega) ?_
    intro h7 c7 e7
    refine upd_k F6 N6 (by k_upd) c7 e7 fun F7 N7 => ?_
    clear F6 N6 c7 e7
    have hyl : ys.toArray.size ≤ 1000 := by have := hst.len_eq; simp only [List.length_take] at this; simp; omega
    dsimp only
    k_steps
    rename Fr g2 C _ _ => F8
    rename News g2 C _ _ => N8
    obtain ⟨c, cs, hwe, hc, hcs⟩ := hw ws[i] (List.getElem_mem _)
    have hd2 : z.text.cps.toList.drop gone.length = c :: (cs ++ 32 :: (ws.drop (i + 1)).flatMap fun w => w.cps.toList ++ [32]) := by
      rw [hdr, List.drop_eq_getElem_cons hlt, List.flatMap_cons, hwe]; simp
    refine get_token0 (z := z) (gone := gone) (n := n') (n0 := n0) (c := c) (cs := cs) (post := (ws.drop (i + 1)).flatMap fun w => w.cps.toList ++ [32]) ⟨G.K, G.T, fun a o e => F8.keep _ _ (hgg _ _ (st a o e))⟩ (by show A.depth + 1 + 3 < _; exact lt_le 1 hdep) hA (by k_subL) hz hd2 hc hcs ?_
    intro t n1 gone1 h8 tk8 c8 hgl hlen hdrop
    refine upd_c (o' := listOf gone1.toArray n1) F8 N8 (by k_upd) c8 hgl fun F9 N9 => ?_
    clear F8 N8 c8 hgl
    dsimp only
    k_steps
    rename Fr g2 C _ _ => Fa
    rename News g2 C _ _ => Na
    rw [List.push_toArray, cast1 i, sub1c ws.length i] at Na
    refine hK1 _ ?_; refine ⟨i + 1, (by first | with_reducible exact mdec (by assumption) | (dsimp only; omega)), _, _, _, ys ++ [.str ws[i] t], gone1, _, _, rfl, Fa, hlt, ?_, hdrop, by rw [hwe]; exact Na⟩
    rw [List.take_add_one, List.getElem?_eq_getElem hlt]
    exact hst.append' (.cons _ _ .nil)
  · have hie : i = ws.length := by first | with_reducible exact eqEnd (by assumption) (by assumption) | omega
    subst hie
    refine end_ri hA (News.get N6 (by k_mem)) (by first | with_reducible exact le0 _ | omega) ?_
    intro h7 c7
    refine drop2_k F6 N6 c7 (by k_all) fun F7 N7 => ?_
    clear F6 N6 c7
    refine CompEndU.intro F7 N7 ?_
    intro h8 F8 N8
    clear F7 N7 X5 T5
    rw [take_all (Nat.le_refl _)] at hst
    dsimp only
    k_steps
    rename Fr g _ _ _ => Fb
    rename News g _ _ _ => Nb
    replace Fb := fr_mt (m0 := MS (.int ws.length tz)) Fb rfl rfl rfl rfl rfl rfl (by intro y h1 h2 h3 h4 h5 h6; simp only [h3, if_false]; rfl)
    have hyl : ys.length = ws.length := hst.len_eq
    refine iter_li Fb Nb (News.get Nb (by k_mem)) (isLs _ _) ?_
    intro I2 ha oI2 hoI2 Fc Nc lI2
    clear Fb Nb
    k_lt lI2
    dsimp only
    refine for_ind (α := Nat) (fun i s' => Ex5 fun (h : Heap) (tk : Nat) (wv : Option Value) (nn : Nat) (oI : Obj) => And5 (s' = { s with heap := h, toks := tk }) (Fr g L h (MT (MS (.int ws.length tz)) none wv (some (.ref D)) none none none)) (i ≤ ys.length) (IsLi oI D i) (News g L h [(I2, oI), (D, listOf ys.toArray n), (L + 1, oL), (z.p, listOf (ys.take i).toArray nn), (z.x, lexI z.dx), (z.dx, lexD z.q 1 (.ref z.y) z.p), (z.y, lexI z.dy),
      (z.dy, strD z.q2 z.h5 z.k5 z.p2 z.pf), (z.a1, z.o1), (z.a2, z.o2), (z.gl, listOf gone.toArray n'), (z.cc, z.oc), (z.pf, fnMade z.nm pieceQ z.params z.body z.scope (pieceCl z.a1 z.a2) z.doc z.pm z.cc z.ctv)])) (fun i => ys.length - i) ?_ 0 ?_
    case refine_2 => exact ⟨_, _, _, _, _, rfl, Fc, Nat.zero_le _, hoI2, Nc⟩
    clear Fc Nc
    rintro i s' ⟨h9, tk9, wv, nn, oI, rfl, F9, hile, hoI, N9⟩
    intro K2 hK2
    refine turn_name ?_
    by_cases hlt : i < ys.length
    · refine next_li (x := ys[i]) (News.get N9 (.head _)) hoI (News.get N9 (by k_mem)) (isLs _ _) (by simp [hlt]) ?_
      intro ha oI' hoI' ca ea
      refine upd_k F9 N9 (by k_upd) ca ea fun Fa Na => ?_
      clear F9 N9 ca ea
      dsimp only
      k_steps
      rename Fr g L _ _ => Fb
      rename News g L _ _ => Nb
      refine push_token (its := (ys.take i).toArray) (n := nn) ⟨G.K, G.T, fun a o e => Fb.keep _ _ (st _ _ e)⟩ (by show A.depth + 1 < _; exact lt_le 4 hdep) (by k_subL) (by simp; omega) (neN (by omega)) (neN (by omega)) (neN (by omega)) ?_
      intro hb tkb cb eb
      refine upd_c Fb Nb (by k_upd) cb eb fun Fc Nc => ?_
      clear Fb Nb cb eb
      dsimp only
      k_steps
      rename Fr g L _ _ => Fb
      rename News g L _ _ => Nb
      rw [List.push_toArray, show List.take i ys ++ [ys[i]] = List.take (i + 1) ys from by rw [List.take_add_one, List.getElem?_eq_getElem hlt]; rfl] at Nb
      refine hK2 _ _ ?_; exact ⟨i + 1, (by first | with_reducible exact mdec (by assumption) | (dsimp only; omega)), _, _, _, _, _, rfl, fr_mt Fb rfl rfl rfl rfl rfl rfl (by intro y h1 h2 h3 h4 h5 h6; kd_addB), hlt, hoI', Nb⟩
    · have hie : i = ys.length := by first | with_reducible exact eqEnd (by assumption) (by assumption) | omega
      subst hie
      refine end_li hA (News.get N9 (.head _)) hoI (News.get N9 (by k_mem)) (isLs _ _) (by simp) ?_
      intro ha ca
      refine drop_k F9 N9 ca (by k_all) fun Fa Na => ?_
      clear F9 N9 ca
      rw [List.take_length] at Na
      dsimp only
      k_steps
      rename Fr g L _ _ => Fb
      rename News g L _ _ => Nb
      rename IsRange _ _ _ _ _ _ _ _ => Rb
      rename_i Tt _ lT _ _ _ _ _ _ _ _ _
      refine iter_ra Fb Nb Rb (by decide) (by decide) (Int.natCast_nonneg _) (by first | with_reducible exact le1000 (by assumption) | omega) ?_
      intro J hb Fc Nc lJ
      rw [rng0 ws.length] at Nc
      clear Fb Nb
      k_lt lJ
      dsimp only
      refine for_ind (α := Nat) (fun t s' => Ex10 fun (h : Heap) (tk : Nat) (pv wv tv rv : Option Value) (rs : List Value) (extra : List (Addr × Obj)) (nT nn : Nat) => And7 (s' = { s with heap := h, toks := tk }) (Fr g L h (MT (MS (.int ws.length tz)) pv wv (some (.ref D)) (some (.ref Tt)) tv rv)) (t ≤ ws.length) (rs.length = t) (AllGt J extra) (∀ j, j < t → ∃ r k, rs[j]? = some (.ref r) ∧ (r, listOf (rot j ys).toArray k) ∈ extra) (News g L h ((J, riObj t (ws.length - t) 1) :: (Tt, listOf rs.toArray nT) :: (D, listOf ys.toArray n) :: (L + 1, oL) :: (z.p, listOf (rot t ys).toArray nn) :: (z.x, lexI z.dx) :: (z.dx, lexD z.q 1 (.ref z.y) z.p) :: (z.y, lexI z.dy) ::
      (z.dy, strD z.q2 z.h5 z.k5 z.p2 z.pf) :: (z.a1, z.o1) :: (z.a2, z.o2) :: (z.gl, listOf gone.toArray n') :: (z.cc, z.oc) :: (z.pf, fnMade z.nm pieceQ z.params z.body z.scope (pieceCl z.a1 z.a2) z.doc z.pm z.cc z.ctv) :: extra))) (fun t => ws.length - t) ?_ 0 ?_
      case refine_2 => exact ⟨_, _, none, wv, none, none, [], [], 0, _, rfl, fr_mt Fc rfl rfl rfl rfl rfl rfl (by intro y h1 h2 h3 h4 h5 h6; kd_addB), Nat.zero_le _, rfl, (fun _ h => nomatch h), (fun _ h => absurd h (Nat.not_lt_zero _)), (by rw [rot_zero]; simpa using Nc)⟩
      clear Fc Nc
      rintro t s' ⟨hc, tkc, pv, wv', tv, rv, rs, extra, nT, nn', rfl, Fd, hle, hrs, hgt, hrd, Nd⟩
      intro K3 hK3
      refine turn_name ?_
      by_cases htn : t < ws.length
      · refine next_ri (News.get Nd (by k_mem)) (by first | with_reducible exact pos1 (by assumption) | omega) ?_
        intro hd cd ed
        refine upd_k Fd Nd (by k_upd) cd ed fun Fe Ne => ?_
        clear Fd Nd cd ed
        dsimp only
        k_steps
        rename Fr g L _ _ => Ff
        rename News g L _ _ => Nf
        rename IsRange _ _ _ _ _ _ _ _ => Rf
        rename_i r _ lr _ _ _ _ _ _ _ _ _
        have lJr : @LT.lt Nat _ J r := lr.1
        have er : AllLt r extra := by first | exact lr.2 | exact allLt_drop 1 lr.2 | exact allLt_drop 2 lr.2 | exact allLt_drop 3 lr.2 | exact allLt_drop 4 lr.2 | exact allLt_drop 5 lr.2 | exact allLt_drop 6 lr.2 | exact allLt_drop 7 lr.2 | exact allLt_drop 8 lr.2 | exact allLt_drop 9 lr.2 | exact allLt_drop 10 lr.2 | exact allLt_drop 11 lr.2 | exact allLt_drop 12 lr.2 | exact allLt_drop 13 lr.2 | exact allLt_drop 14 lr.2 | exact allLt_drop 15 lr.2
        refine iter_ra Ff Nf Rf (by decide) (by decide) (Int.natCast_nonneg _) (by first | with_reducible exact le1000 (by assumption) | omega) ?_
        intro V hb Fg Ng lV
        rw [rng0 ws.length] at Ng
        clear Ff Nf
        k_lt lV
        have eV : AllLt V extra := by first | exact lV.2 | exact allLt_drop 1 lV.2 | exact allLt_drop 2 lV.2 | exact allLt_drop 3 lV.2 | exact allLt_drop 4 lV.2 | exact allLt_drop 5 lV.2 | exact allLt_drop 6 lV.2 | exact allLt_drop 7 lV.2 | exact allLt_drop 8 lV.2 | exact allLt_drop 9 lV.2 | exact allLt_drop 10 lV.2 | exact allLt_drop 11 lV.2 | exact allLt_drop 12 lV.2 | exact allLt_drop 13 lV.2 | exact allLt_drop 14 lV.2 | exact allLt_drop 15 lV.2
        dsimp only
        have hrl : (rot t ys).length = ys.length := rot_len _ _
        refine for_ind (α := Nat) (fun j s' => Ex5 fun (h : Heap) (tk : Nat) (pv : Option Value) (kr nn : Nat) => And4 (s' = { s with heap := h, toks := tk }) (Fr g L h (MT (MS (.int ws.length tz)) pv wv' (some (.ref D)) (some (.ref Tt)) (some (.int t tkc)) (some (.ref r)))) (j ≤ ws.length) (News g L h ((V, riObj j (ws.length - j) 1) :: (r, listOf ((rot t ys).take j).toArray kr) :: (J, riObj (t + 1) (ws.length - t - 1) 1) :: (Tt, listOf rs.toArray nT) :: (D, listOf ys.toArray n) :: (L + 1, oL) :: (z.p, listOf (rot j (rot t ys)).toArray nn) :: (z.x, lexI z.dx) :: (z.dx, lexD z.q 1 (.ref z.y) z.p) :: (z.y, lexI z.dy) ::
      (z.dy, strD z.q2 z.h5 z.k5 z.p2 z.pf) :: (z.a1, z.o1) :: (z.a2, z.o2) :: (z.gl, listOf gone.toArray n') :: (z.cc, z.oc) :: (z.pf, fnMade z.nm pieceQ z.params z.body z.scope (pieceCl z.a1 z.a2) z.doc z.pm z.cc z.ctv) :: extra))) (fun j => ws.length - j) ?_ 0 ?_
        case refine_2 => exact ⟨_, _, _, _, _, rfl, fr_mt Fg rfl rfl rfl rfl rfl rfl (by intro y h1 h2 h3 h4 h5 h6; kd_addB), Nat.zero_le _, (by rw [rot_zero]; exact Ng)⟩
        clear Fg Ng
        rintro j s' ⟨hc, tkc', pv', kr, nn3, rfl, Fg, hjle, Ng⟩
        intro K4 hK4
        refine turn_name ?_
        by_cases htj : j < ws.length
        · refine next_ri (News.get Ng (by k_mem)) (by first | with_reducible exact pos1 (by assumption) | omega) ?_
          intro hd cd ed
          refine upd_k Fg Ng (by k_upd) cd ed fun Fe Ne => ?_
          clear Fg Ng cd ed
          have hjr : j < (rot t ys).length := by omega
          rw [rot_cons hjr] at Ne
          dsimp only
          k_steps
          rename Fr g L _ _ => Fa
          rename News g L _ _ => Na
          refine get_token1 (its := List.drop (j + 1) (rot t ys) ++ List.take j (rot t ys)) (n := nn3) ⟨G.K, G.T, fun a o e => Fa.keep _ _ (st _ _ e)⟩ (by show A.depth + 1 < _; exact lt_le 4 hdep) (by k_subL) (by simp; omega) (neN (by omega)) (neN (by omega)) (neN (by omega)) ?_
          intro hb tkb cb eb
          refine upd_c Fa Na (by k_upd) cb eb fun Fc Nc => ?_
          clear Fa Na cb eb
          have hsr : ((rot t ys).take j).toArray.size ≤ 1000 := by simp; omega
          dsimp only
          k_steps
          rename Fr g L _ _ => Fa
          rename News g L _ _ => Na
          refine push_token (its := (List.drop (j + 1) (rot t ys) ++ List.take j (rot t ys)).toArray) (n := nn3 + 1) ⟨G.K, G.T, fun a o e => Fa.keep _ _ (st _ _ e)⟩ (by show A.depth + 1 < _; exact lt_le 4 hdep) (by k_subL) (by simp; omega) (neN (by omega)) (neN (by omega)) (neN (by omega)) ?_
          intro hb tkb cb eb
          refine upd_c Fa Na (by k_upd) cb eb fun Fc Nc => ?_
          clear Fa Na cb eb
          dsimp only
          k_steps
          rename Fr g L _ _ => Fa
          rename News g L _ _ => Na
          rw [List.push_toArray, rot_next hjr, show List.take j (rot t ys) ++ [(rot t ys)[j]] = List.take (j + 1) (rot t ys) from by rw [List.take_add_one, List.getElem?_eq_getElem hjr]; rfl,
            cast1 j, sub1c ws.length j] at Na
          refine hK4 _ _ ?_; exact ⟨j + 1, (by first | with_reducible exact mdec (by assumption) | (dsimp only; omega)), _, _, _, _, _, rfl, fr_mt Fa rfl rfl rfl rfl rfl rfl (by intro y h1 h2 h3 h4 h5 h6; kd_addB), htj, Na⟩
        · have hje : j = ys.length := by first | with_reducible exact eqEnd (by assumption) (by assumption) | omega
          subst hje
          refine end_ri hA (News.get Ng (.head _)) (by first | with_reducible exact le0 _ | omega) ?_
          intro hd cd
          refine drop_k Fg Ng cd (by k_all) fun Fe Ne => ?_
          clear Fg Ng cd
          rw [show rot ys.length (rot t ys) = rot t ys from by rw [← hrl]; exact rot_all _, show List.take ys.length (rot t ys) = rot t ys from by rw [← hrl]; exact List.take_length] at Ne
          have hty : t < ys.length := by omega
          have hrs2 : rs.toArray.size ≤ 1000 := by simp; omega
          rw [rot_cons hty] at Ne
          dsimp only
          k_steps
          rename Fr g L _ _ => Fa
          rename News g L _ _ => Na
          refine get_token1 (its := List.drop (t + 1) ys ++ List.take t ys) (n := nn3) ⟨G.K, G.T, fun a o e => Fa.keep _ _ (st _ _ e)⟩ (by show A.depth + 1 < _; exact lt_le 4 hdep) (by k_subL) (by simp; omega) (neN (by omega)) (neN (by omega)) (neN (by omega)) ?_
          intro hb tkb cb eb
          refine upd_c Fa Na (by k_upd) cb eb fun Fc Nc => ?_
          clear Fa Na cb eb
          dsimp only
          k_steps
          rename Fr g L _ _ => Fa
          rename News g L _ _ => Na
          refine push_token (its := (List.drop (t + 1) ys ++ List.take t ys).toArray) (n := nn3 + 1) ⟨G.K, G.T, fun a o e => Fa.keep _ _ (st _ _ e)⟩ (by show A.depth + 1 < _; exact lt_le 4 hdep) (by k_subL) (by simp; omega) (neN (by omega)) (neN (by omega)) (neN (by omega)) ?_
          intro hb tkb cb eb
          refine upd_c Fa Na (by k_upd) cb eb fun Fc Nc => ?_
          clear Fa Na cb eb
          dsimp only
          k_steps
          rename Fr g L _ _ => Fa
          rename News g L _ _ => Na
          rw [List.push_toArray] at Na
          simp only [List.push_toArray, rot_next hty] at Na
          rw [← rot_cons hty] at Na
          refine hK3 _ _ ?_; refine ⟨t + 1, (by first | with_reducible exact mdec (by assumption) | (dsimp only; omega)), _, _, _, _, _, _, rs ++ [.ref r], (r, listOf (rot t ys).toArray kr) :: extra, nT + 1, nn3 + 1 + 1, rfl, fr_mt Fa rfl rfl rfl rfl rfl rfl (by intro y h1 h2 h3 h4 h5 h6; kd_addB), htn, (by simp [hrs]), ?_, ?_, ?_⟩
          · intro p hp
            rcases List.mem_cons.mp hp with rfl | hp
            · exact lJr
            · exact hgt p hp
          · intro i hi
            by_cases hit : i < t
            · obtain ⟨r', k', e1, e2⟩ := hrd i hit
              exact ⟨r', k', by rw [List.getElem?_append_left (by omega)]; exact e1, .tail _ e2⟩
            · have : i = t := by omega
              subst this
              exact ⟨r, kr, by rw [List.getElem?_append_right (by omega)]; simp [hrs], .head _⟩
          · rw [cast1 t, sub1c ws.length t] at Na
            (repeat (first | exact Na | exact ndrop 1 Na | exact ndrop 2 Na | refine news_mk Na (by k_mem) ?_ | exact ndrop 3 Na | exact ndrop 4 Na | exact ndrop 5 Na | exact ndrop 6 Na | exact ndrop 7 Na | exact ndrop 8 Na | exact ndrop 9 Na | exact ndrop 10 Na | exact ndrop 11 Na | exact ndrop 12 Na | exact ndrop 13 Na | exact ndrop 14 Na | exact ndrop 15 Na | exact ndrop 16 Na | exact ndrop 17 Na | exact ndrop 18 Na | exact ndrop 19 Na))
      · have hte : t = ws.length := by first | with_reducible exact eqEnd (by assumption) (by assumption) | omega
        subst hte
        refine end_ri hA (News.get Nd (.head _)) (by first | with_reducible exact le0 _ | omega) ?_
        intro hd cd
        have hno : ∀ p ∈ extra, p.1 ≠ J := fun p hp => Nat.ne_of_gt (hgt p hp)
        refine drop_k Fd Nd cd (by k_all) fun Fe Ne => ?_
        clear Fd Nd cd
        dsimp only
        k_steps
        have hLs : @LE.le Nat _ s.heap.objs.size L := by rw [← hideAll_size, ← hg]; exact Fe.above
        have hTJ : @LT.lt Nat _ Tt J := by omega
        subst hg
        refine hK0 _ _ ?_
        try dsimp only
        refine hret Tt rs extra ys nT _ _ hst hrs (News.get Ne (.head _)) hrd (fun p hp => ⟨(Ne p (by repeat (first | exact hp | refine List.Mem.tail _ ?_))).1, Nat.lt_trans hTJ (hgt p hp)⟩) (by omega) (chg_less (chg_of Fe) (by ktr_rel))
end
end Mine
-- part PDefs
namespace Mine
def nameAt (ws : List Str) (l t : Nat) : Str := Txt.join (Str.ofString "") ((rot t ws).take l)
def rowN (ws : List Str) (l t : Nat) : Str := if t % 2 = 0 then nameAt ws l t else Txt.upper (nameAt ws l t)
def rowsOf (ws : List Str) (l : Nat) : List (Str × Str) := (List.range ws.length).map fun t => (rowN ws l t, Str.ofString (toString (t : Int)))
def wantAt (ws : List Str) (l : Nat) : List (List Str) := (List.range ws.length).map fun t => ((rowsOf ws l).filter (hit (Txt.upper (nameAt ws l t)))).map (·.2)
def frontAt (ns : List Int) (l t : Nat) : List Int := ((ns ++ ns).drop t).take l
def dueAt (ns : List Int) (l : Nat) : List (List Str) := (List.range ns.length).map fun j => ((List.range ns.length).filter fun t => decide (frontAt ns l t = frontAt ns l j)).map (fun (t : Nat) => Str.ofString (toString (t : Int)))
def pyIdx (k : Int) (n : Nat) : Nat := if k < 0 then (k + n).toNat else k.toNat
def endsOk (ns : List Int) (kind : Int) (t l : Nat) : Bool :=
  let r := ns ++ ns
  let e (k : Int) : Bool := decide (r.getD (pyIdx k r.length) 0 = kind)
  e t && e (t + l - 1) && !e (t + l) && !e ((t : Int) - 1)
def cutAt (ns : List Int) (W : Nat → Nat → Nat) (kind : Int) (t l : Nat) : Bool :=
  endsOk ns kind t l && W (ns.length - l - 1) ((t + l) % ns.length) == 1 && W (l - 1) t == 1
def cutB (ns : List Int) (W : Nat → Nat → Nat) (kind : Int) : Bool := (List.range ns.length).any fun t => (List.range (ns.length - 1)).any fun i => cutAt ns W kind t (i + 1)
def saidGo (ws : List Str) (p : Nat) : Nat → Nat → Bool
  | 0, _ => false
  | f + 1, place => if Txt.join (Str.ofString "") ((ws.drop place).take p) = Txt.join (Str.ofString "") (ws.take p) then (if place + p = ws.length then true else saidGo ws p f (place + p)) else false
def saidB (ws : List Str) : Bool := (List.range (ws.length - 1)).any fun i => saidGo ws (i + 1) (ws.length + 1) 0
end Mine
-- part Plain1
namespace Mine
/-! the words' signs -/
def dressC : List (List Nat) := [[38,97,109,112,59],[38,108,116,59],[38,103,116,59],[38,113,117,111,116,59],[38,35,49,51,59],[38,35,49,48,59],[38,35,48,57,59]]
def dcode (first k : Int) : List Nat := dressC.getD ((first + k).fmod 7).toNat []
theorem dress_list : ∀ i, i < 8 → ((dressL.getD i ⟨#[]⟩).cps.toList = dressC.getD i []) := by decide +kernel
theorem fm7 (a : Int) : ∃ i : Nat, i < 7 ∧ (a.fmod 7).toNat = i ∧ a.fmod 7 = (i : Int) := by
  rw [Int.fmod_eq_emod_of_nonneg _ (by decide)]
  exact ⟨(a % 7).toNat, by omega, rfl, by omega⟩
theorem dress_cps (first k : Int) : (dress first k).cps.toList = dcode first k := by
  obtain ⟨i, h, e, _⟩ := fm7 (first + k)
  unfold dress dcode
  rw [e]
  exact dress_list i (by omega)
abbrev okS (c : Nat) : Bool := c < 127 && 32 < c && lo1 c == c && lo1 (up1 c) == c && decide (up1 c < 127) && decide (32 < up1 c)
theorem dress_okS : ∀ i, i < 7 → ∀ c ∈ dressC.getD i [], okS c = true := by decide +kernel
theorem dress_end : ∀ i, i < 7 → ∃ u, dressC.getD i [] = u ++ [59] ∧ 59 ∉ u ∧ (dressC.getD i []).length ≤ 6 ∧ u ≠ [] := by
  intro i hi
  refine ⟨(dressC.getD i []).dropLast, ?_⟩
  revert hi; revert i
  decide +kernel
theorem dress_inj : ∀ i, i < 7 → ∀ j, j < 7 → dressC.getD i [] = dressC.getD j [] → i = j := by decide +kernel
theorem dcode_okS (first k : Int) : ∀ c ∈ dcode first k, okS c = true := by
  obtain ⟨i, h, e, _⟩ := fm7 (first + k)
  unfold dcode; rw [e]; exact dress_okS i h
theorem dcode_end (first k : Int) : ∃ u, dcode first k = u ++ [59] ∧ 59 ∉ u ∧ (dcode first k).length ≤ 6 ∧ u ≠ [] := by
  obtain ⟨i, h, e, _⟩ := fm7 (first + k)
  unfold dcode; rw [e]; exact dress_end i h
abbrev Kind (k : Int) : Prop := 0 ≤ k ∧ k < 3
theorem dcode_inj {first k k' : Int} (h : Kind k) (h' : Kind k') (e : dcode first k = dcode first k') : k = k' := by
  obtain ⟨i, hi, ei, ei'⟩ := fm7 (first + k)
  obtain ⟨j, hj, ej, ej'⟩ := fm7 (first + k')
  unfold dcode at e
  rw [ei, ej] at e
  have := dress_inj i hi j hj e
  rw [Int.fmod_eq_emod_of_nonneg _ (by decide)] at ei' ej'
  unfold Kind at h h'
  omega
theorem cut59 : ∀ {u v s t : List Nat}, 59 ∉ u → 59 ∉ v → u ++ 59 :: s = v ++ 59 :: t → u = v ∧ s = t
  | [], [], _, _, _, _, e => by simp at e; exact ⟨rfl, e⟩
  | [], b :: v, _, _, _, hv, e => by simp at e; exact absurd (by rw [e.1]; exact List.mem_cons_self ..) hv
  | a :: u, [], _, _, hu, _, e => by simp at e; exact absurd (by rw [e.1]; exact List.mem_cons_self ..) hu
  | a :: u, b :: v, s, t, hu, hv, e => by
    simp only [List.cons_append, List.cons.injEq] at e
    have := cut59 (fun m => hu (List.mem_cons_of_mem _ m)) (fun m => hv (List.mem_cons_of_mem _ m)) e.2
    exact ⟨by rw [e.1, this.1], this.2⟩
def flatC (first : Int) (l : List Int) : List Nat := l.flatMap (dcode first)
theorem flatC_inj {first : Int} : ∀ {l l' : List Int}, (∀ k ∈ l, Kind k) → (∀ k ∈ l', Kind k) → flatC first l = flatC first l' → l = l'
  | [], [], _, _, _ => rfl
  | [], b :: r, _, _, e => by
    obtain ⟨u, h1, h2, _, _⟩ := dcode_end first b
    simp only [flatC, List.flatMap_nil, List.flatMap_cons, h1] at e
    simp at e
  | a :: r, [], _, _, e => by
    obtain ⟨u, h1, h2, _, _⟩ := dcode_end first a
    simp only [flatC, List.flatMap_nil, List.flatMap_cons, h1] at e
    simp at e
  | a :: r, b :: q, h, h', e => by
    obtain ⟨u, h1, h2, _, _⟩ := dcode_end first a
    obtain ⟨v, g1, g2, _, _⟩ := dcode_end first b
    simp only [flatC, List.flatMap_cons, h1, g1, List.append_assoc, List.singleton_append] at e
    obtain ⟨e1, e2⟩ := cut59 h2 g2 e
    have ab : a = b := dcode_inj (h a (.head _)) (h' b (.head _)) (by rw [h1, g1, e1])
    rw [ab, flatC_inj (fun k hk => h k (.tail _ hk)) (fun k hk => h' k (.tail _ hk)) e2]
theorem flatC_okS (first : Int) (l : List Int) : ∀ c ∈ flatC first l, okS c = true := by
  intro c hc
  obtain ⟨k, _, hk⟩ := List.mem_flatMap.mp hc
  exact dcode_okS first k c hk
theorem flatC_len (first : Int) : ∀ l : List Int, (flatC first l).length ≤ 6 * l.length
  | [] => by simp [flatC]
  | a :: r => by
    obtain ⟨u, h1, h2, h3, _⟩ := dcode_end first a
    have := flatC_len first r
    simp only [flatC, List.flatMap_cons, List.length_append, List.length_cons] at this ⊢
    omega
theorem join_flatP : ∀ l : List Str, (Txt.join (Str.ofString "") l).cps.toList = l.flatMap fun x => x.cps.toList := by
  have e : ∀ l : List Str, (Str.join ⟨#[]⟩ l).cps.toList = l.flatMap fun x => x.cps.toList := by
    intro l
    induction l with
    | nil => rfl
    | cons a r ih =>
      cases r with
      | nil => simp [Str.join]
      | cons b q =>
        show (a ++ ⟨#[]⟩ ++ Str.join ⟨#[]⟩ (b :: q)).cps.toList = _
        simp only [Str.cps_append, Array.toList_append, ih]
        simp
  intro l
  show (Builtin.Str.glued (Str.ofString "") l).cps.toList = _
  rw [StrLaws.glued_eq_join]
  exact e l
theorem str_extP {x y : Str} (h : x.cps.toList = y.cps.toList) : x = y := by
  cases x; cases y; congr 1; exact Array.toList_inj.mp h
theorem join_dress (first : Int) (l : List Int) : (Txt.join (Str.ofString "") (l.map (dress first))).cps.toList = flatC first l := by
  rw [join_flatP, List.flatMap_map]
  unfold flatC
  congr 1
  funext k
  exact dress_cps first k
theorem join_eq {first : Int} {l l' : List Int} (h : ∀ k ∈ l, Kind k) (h' : ∀ k ∈ l', Kind k) : (Txt.join (Str.ofString "") (l.map (dress first)) = Txt.join (Str.ofString "") (l'.map (dress first))) ↔ l = l' :=
  ⟨fun e => flatC_inj h h' (by rw [← join_dress, ← join_dress, e]), fun e => by rw [e]⟩
/-! great and small letters -/
abbrev OkT (x : Str) : Prop := ∀ c ∈ x.cps.toList, okS c = true
theorem okT_parts {c : Nat} (h : okS c = true) : c < 127 ∧ 32 < c ∧ lo1 c = c ∧ lo1 (up1 c) = c ∧ up1 c < 127 ∧ 32 < up1 c := by
  simp only [okS, Bool.and_eq_true, decide_eq_true_eq, beq_iff_eq] at h
  omega
theorem okT_lower {x : Str} (h : OkT x) : Txt.lower x = x := by
  rw [lower_ascii fun c hc => by have := okT_parts (h c hc); omega]
  apply str_extP
  show (x.cps.map lo1).toList = _
  rw [Array.toList_map]
  refine (List.map_congr_left fun c hc => (okT_parts (h c hc)).2.2.1).trans (List.map_id _)
theorem okT_upper {x : Str} (h : OkT x) : Txt.upper x = ⟨x.cps.map up1⟩ := upper_ascii fun c hc => by have := okT_parts (h c hc); omega
theorem okT_upper_mem {x : Str} (h : OkT x) : ∀ c ∈ (Txt.upper x).cps.toList, 32 < c ∧ c < 127 := by
  rw [okT_upper h]
  intro c hc
  rw [Array.toList_map] at hc
  obtain ⟨d, hd, rfl⟩ := List.mem_map.mp hc
  have := okT_parts (h d hd)
  omega
theorem okT_low_up {x : Str} (h : OkT x) : Txt.lower (Txt.upper x) = x := by
  rw [lower_ascii fun c hc => by have := okT_upper_mem h c hc; omega, okT_upper h]
  apply str_extP
  show ((x.cps.map up1).map lo1).toList = _
  rw [Array.toList_map, Array.toList_map, List.map_map]
  refine (List.map_congr_left fun c hc => (okT_parts (h c hc)).2.2.2.1).trans (List.map_id _)
theorem plain_of {x : Str} (h : OkT x) : Plain x := fun c hc => by
  have := okT_parts (h c (Array.mem_toList_iff.mpr hc)); omega
theorem plain_up {x : Str} (h : OkT x) : Plain (Txt.upper x) := fun c hc => by
  have := okT_upper_mem h c (Array.mem_toList_iff.mpr hc); omega
theorem len_up {x : Str} (h : OkT x) : (Txt.upper x).length = x.length := by rw [okT_upper h]; simp [Str.length]
/-! the names -/
theorem rot_map {α β : Type} (f : α → β) (t : Nat) (l : List α) : rot t (l.map f) = (rot t l).map f := by simp [rot]
theorem front_rot {ns : List Int} {l t : Nat} (hl : l ≤ ns.length) (ht : t ≤ ns.length) : frontAt ns l t = (rot t ns).take l := by
  unfold frontAt rot
  rw [List.drop_append_of_le_length ht]
  conv => lhs; rw [show ns.drop t ++ ns = (ns.drop t ++ ns.take t) ++ ns.drop t from by rw [List.append_assoc, List.take_append_drop]]
  rw [List.take_append_of_le_length (by simp; omega)]
theorem name_cps {ns : List Int} {first : Int} {l t : Nat} (hl : l ≤ ns.length) (ht : t ≤ ns.length) : nameAt (ns.map (dress first)) l t = Txt.join (Str.ofString "") ((frontAt ns l t).map (dress first)) := by
  unfold nameAt
  rw [rot_map, ← List.map_take, front_rot hl ht]
theorem front_mem {ns : List Int} {l t : Nat} {k : Int} (h : k ∈ frontAt ns l t) : k ∈ ns := by
  have := List.mem_of_mem_drop (List.mem_of_mem_take h)
  rcases List.mem_append.mp this with h | h <;> exact h
theorem front_len (ns : List Int) (l t : Nat) : (frontAt ns l t).length ≤ l := by unfold frontAt; rw [List.length_take]; omega
theorem name_ok {ns : List Int} {first : Int} {l t : Nat} (hl : l ≤ ns.length) (ht : t ≤ ns.length) : OkT (nameAt (ns.map (dress first)) l t) := by
  rw [name_cps hl ht]
  intro c hc
  rw [join_dress] at hc
  exact flatC_okS _ _ c hc
theorem name_len {ns : List Int} {first : Int} {l t : Nat} (hl : l ≤ ns.length) (ht : t ≤ ns.length) : (nameAt (ns.map (dress first)) l t).length ≤ 6 * l := by
  have e : (nameAt (ns.map (dress first)) l t).length = (nameAt (ns.map (dress first)) l t).cps.toList.length := by simp [Str.length]
  rw [e, name_cps hl ht, join_dress]
  have := flatC_len first (frontAt ns l t)
  have := front_len ns l t
  omega
theorem name_iff {ns : List Int} {first : Int} {l t t' : Nat} (hk : ∀ k ∈ ns, Kind k) (hl : l ≤ ns.length) (ht : t ≤ ns.length) (ht' : t' ≤ ns.length) : nameAt (ns.map (dress first)) l t = nameAt (ns.map (dress first)) l t' ↔ frontAt ns l t = frontAt ns l t' := by
  rw [name_cps hl ht, name_cps hl ht']
  exact join_eq (fun k h => hk k (front_mem h)) (fun k h => hk k (front_mem h))
theorem low_row {ns : List Int} {first : Int} {l t : Nat} (hl : l ≤ ns.length) (ht : t ≤ ns.length) : Txt.lower (rowN (ns.map (dress first)) l t) = nameAt (ns.map (dress first)) l t := by
  unfold rowN
  split
  · exact okT_lower (name_ok hl ht)
  · exact okT_low_up (name_ok hl ht)
theorem rows_ok {ns : List Int} {first : Int} (hn : ns.length ≤ 10) : ∀ l t, l ≤ (ns.map (dress first)).length → t < (ns.map (dress first)).length →
    Plain (rowN (ns.map (dress first)) l t) ∧ Plain (Txt.lower (Txt.upper (nameAt (ns.map (dress first)) l t))) ∧ (rowN (ns.map (dress first)) l t).length ≤ 100 ∧ (Txt.upper (nameAt (ns.map (dress first)) l t)).length ≤ 100 ∧ (nameAt (ns.map (dress first)) l t).length ≤ 100 := by
  intro l t hl ht
  rw [List.length_map] at hl ht
  have ok := name_ok (first := first) hl (Nat.le_of_lt ht)
  have ln := name_len (first := first) hl (Nat.le_of_lt ht)
  refine ⟨?_, ?_, ?_, ?_, by omega⟩
  · unfold rowN; split
    · exact plain_of ok
    · exact plain_up ok
  · rw [okT_low_up ok]; exact plain_of ok
  · unfold rowN; split
    · omega
    · rw [len_up ok]; omega
  · rw [len_up ok]; omega
theorem nums_ok : ∀ t : Nat, t < 10 → Plain (Str.ofString (toString (t : Int))) ∧ (Str.ofString (toString (t : Int))).length ≤ 1000 := by
  have h : ∀ t : Nat, t < 10 → ((Str.ofString (toString (t : Int))).cps.toList.all fun c => decide (32 ≤ c ∧ c < 127)) = true ∧ (Str.ofString (toString (t : Int))).length ≤ 1000 := by decide +kernel
  intro t ht
  refine ⟨fun c hc => ?_, (h t ht).2⟩
  have := List.all_eq_true.mp (h t ht).1 c (Array.mem_toList_iff.mpr hc)
  simpa using this
theorem want_due {ns : List Int} {first : Int} {l : Nat} (hk : ∀ k ∈ ns, Kind k) (hl : l ≤ ns.length) : wantAt (ns.map (dress first)) l = dueAt ns l := by
  unfold wantAt dueAt rowsOf
  rw [List.length_map]
  refine List.map_congr_left fun t ht => ?_
  rw [List.mem_range] at ht
  rw [List.filter_map, List.map_map]
  have e : (List.range ns.length).filter (hit (Txt.upper (nameAt (ns.map (dress first)) l t)) ∘ fun t => (rowN (ns.map (dress first)) l t, Str.ofString (toString (t : Int)))) = (List.range ns.length).filter fun t' => decide (frontAt ns l t' = frontAt ns l t) := by
    refine List.filter_congr fun t' ht' => ?_
    rw [List.mem_range] at ht'
    show (Txt.lower (rowN (ns.map (dress first)) l t') == Txt.lower (Txt.upper (nameAt (ns.map (dress first)) l t))) = _
    rw [low_row hl (Nat.le_of_lt ht'), okT_low_up (name_ok hl (Nat.le_of_lt ht))]
    rw [Bool.eq_iff_iff, beq_iff_eq, decide_eq_true_iff]
    exact name_iff hk hl (Nat.le_of_lt ht') (Nat.le_of_lt ht)
  rw [e]
  rfl
end Mine
-- part Plain2
namespace Mine
noncomputable section
def iff' (b t e : Bool) : Bool := @Bool.rec (fun _ => Bool) e t b
def ringN (l : List Nat) : Nat := @List.rec Nat (fun _ => Nat) 0 (fun k _ ih => Nat.add k (Nat.mul 4 ih)) l
def digN (R i : Nat) : Nat := Nat.mod (Nat.div R (Nat.pow 4 i)) 4
def frN (R l t : Nat) : Nat := Nat.mod (Nat.div R (Nat.pow 4 t)) (Nat.pow 4 l)
def anyN (f : Nat → Bool) (n : Nat) : Bool := @Nat.rec (fun _ => Bool) false (fun i ih => iff' (f i) true ih) n
def oneN (R l x n : Nat) : Bool := @Nat.rec (fun _ => Bool → Bool) (fun seen => seen) (fun t ih seen => iff' (Nat.beq (frN R l t) x) (iff' seen false (ih true)) (ih seen)) n false
def innN (R n kind t l : Nat) : Bool := iff' (Nat.beq (digN R (Nat.sub (Nat.add t l) 1)) kind) (iff' (Nat.beq (digN R (Nat.add t l)) kind) false (iff' (oneN R (Nat.sub n l) (frN R (Nat.sub n l) (Nat.mod (Nat.add t l) n)) n) (oneN R l (frN R l t) n) false)) false
def outN (R n kind t : Nat) : Bool := iff' (Nat.beq (digN R t) kind) (iff' (Nat.beq (digN R (Nat.sub (Nat.add n t) 1)) kind) false (anyN (fun i => innN R n kind t (Nat.succ i)) (Nat.sub n 1))) false
def cutN (R n kind : Nat) : Bool := anyN (outN R n kind) n
def goN (C n p f place : Nat) : Bool := @Nat.rec (fun _ => Nat → Bool) (fun _ => false) (fun _ ih place => iff' (Nat.ble (Nat.add place p) n) (iff' (Nat.beq (frN C p place) (frN C p 0)) (iff' (Nat.beq (Nat.add place p) n) true (ih (Nat.add place p))) false) false) f place
def saidN (C n : Nat) : Bool := anyN (fun i => goN C n (Nat.succ i) (Nat.succ n) 0) (Nat.sub n 1)
def hasN (k : Nat) (l : List Nat) : Bool := @List.rec Nat (fun _ => Bool) false (fun a _ ih => iff' (Nat.beq a k) true ih) l
def kindN (R n : Nat) (s : Bool) (ks : List Nat) (k : Nat) : Bool := iff' (hasN k ks) (iff' (cutN R n k) (iff' s false true) s) true
def checkN (n : Nat) (ks : List Nat) : Bool := iff' (kindN (ringN (ks ++ ks)) n (saidN (ringN ks) n) ks 0) (iff' (kindN (ringN (ks ++ ks)) n (saidN (ringN ks) n) ks 1) (kindN (ringN (ks ++ ks)) n (saidN (ringN ks) n) ks 2) false) false
def allN (n m : Nat) (acc : List Nat) : Bool := @Nat.rec (fun _ => List Nat → Bool) (checkN n) (fun _ ih acc => iff' (ih (0 :: acc)) (iff' (ih (1 :: acc)) (ih (2 :: acc)) false) false) m acc
end
theorem all5 : allN 5 5 [] = true := by decide +kernel
theorem all6 : allN 6 6 [] = true := by decide +kernel
theorem all70 : allN 7 6 [0] = true := by decide +kernel
theorem all71 : allN 7 6 [1] = true := by decide +kernel
theorem all72 : allN 7 6 [2] = true := by decide +kernel
theorem iff'_eq (b t e : Bool) : iff' b t e = bif b then t else e := by cases b <;> rfl
theorem all7 : allN 7 7 [] = true := by
  show iff' (allN 7 6 [0]) (iff' (allN 7 6 [1]) (allN 7 6 [2]) false) false = true
  rw [all70, all71, all72]; rfl
theorem ringN_cons (k : Nat) (l : List Nat) : ringN (k :: l) = k + 4 * ringN l := rfl
theorem ringN_lt : ∀ {l : List Nat}, (∀ k ∈ l, k < 4) → ringN l < 4 ^ l.length
  | [], _ => by simp [ringN]
  | k :: l, h => by
    have h1 := ringN_lt fun a ha => h a (.tail _ ha)
    have h2 := h k (.head _)
    rw [ringN_cons, List.length_cons, Nat.pow_succ]; omega
theorem ringN_drop : ∀ {l : List Nat} (t : Nat), (∀ k ∈ l, k < 4) → ringN l / 4 ^ t = ringN (l.drop t)
  | l, 0, _ => by simp
  | [], t + 1, _ => by simp [ringN]
  | k :: l, t + 1, h => by
    have h2 := h k (.head _)
    rw [List.drop_succ_cons, ← ringN_drop t fun a ha => h a (.tail _ ha), ringN_cons, Nat.pow_succ, Nat.mul_comm (4 ^ t) 4, ← Nat.div_div_eq_div_mul, show (k + 4 * ringN l) / 4 = ringN l by omega]
theorem ringN_take : ∀ {l : List Nat} (t : Nat), (∀ k ∈ l, k < 4) → ringN l % 4 ^ t = ringN (l.take t)
  | l, 0, _ => by simp [ringN, Nat.mod_one]
  | [], t + 1, _ => by simp [ringN]
  | k :: l, t + 1, h => by
    have h2 := h k (.head _)
    rw [List.take_succ_cons, ringN_cons, ringN_cons, ← ringN_take t fun a ha => h a (.tail _ ha), Nat.pow_succ, Nat.mul_comm (4 ^ t) 4, Nat.mod_mul, show (k + 4 * ringN l) % 4 = k by omega, show (k + 4 * ringN l) / 4 = ringN l by omega]
theorem ringN_inj : ∀ {l l' : List Nat}, (∀ k ∈ l, k < 4) → (∀ k ∈ l', k < 4) → l.length = l'.length → ringN l = ringN l' → l = l'
  | [], [], _, _, _, _ => rfl
  | [], _ :: _, _, _, e, _ => by simp at e
  | _ :: _, [], _, _, e, _ => by simp at e
  | a :: l, b :: l', h, h', e, q => by
    have h1 := h a (.head _)
    have h2 := h' b (.head _)
    rw [ringN_cons, ringN_cons] at q
    rw [show a = b by omega, ringN_inj (fun k hk => h k (.tail _ hk)) (fun k hk => h' k (.tail _ hk)) (by simpa using e) (by omega)]
theorem frN_eq {l : List Nat} (h : ∀ k ∈ l, k < 4) (m t : Nat) : frN (ringN l) m t = ringN ((l.drop t).take m) := by
  show ringN l / 4 ^ t % 4 ^ m = _
  rw [ringN_drop t h, ringN_take m fun k hk => h k (List.mem_of_mem_drop hk)]
theorem digN_eq {l : List Nat} (h : ∀ k ∈ l, k < 4) (i : Nat) : digN (ringN l) i = l.getD i 0 := by
  show ringN l / 4 ^ i % 4 = _
  rw [ringN_drop i h]
  have := ringN_take 1 fun k hk => h k (List.mem_of_mem_drop (i := i) hk)
  rw [show (4 : Nat) ^ 1 = 4 from rfl] at this
  rw [this]
  rw [List.getD_eq_getElem?_getD]
  cases e : l.drop i with
  | nil => rw [List.getElem?_eq_none (by simpa using e)]; rfl
  | cons a r =>
    have : l[i]? = some a := by rw [← List.head?_drop, e]; rfl
    rw [this]; simp [ringN]
theorem anyN_iff {f : Nat → Bool} {n : Nat} : anyN f n = true ↔ ∃ i, i < n ∧ f i = true := by
  induction n with
  | zero => exact ⟨fun h => (nomatch h), fun ⟨_, h, _⟩ => absurd h (Nat.not_lt_zero _)⟩
  | succ n ih =>
    show iff' (f n) true (anyN f n) = true ↔ _
    rw [iff'_eq]
    cases e : f n with
    | true => exact ⟨fun _ => ⟨n, Nat.lt_succ_self _, e⟩, fun _ => rfl⟩
    | false =>
      show anyN f n = true ↔ _
      rw [ih]
      constructor
      · rintro ⟨i, h, q⟩; exact ⟨i, Nat.lt_succ_of_lt h, q⟩
      · rintro ⟨i, h, q⟩
        rcases Nat.lt_succ_iff_lt_or_eq.mp h with h | rfl
        · exact ⟨i, h, q⟩
        · rw [e] at q; cases q
theorem one_go (R l x : Nat) : ∀ n (seen : Bool), (@Nat.rec (fun _ => Bool → Bool) (fun seen => seen) (fun t ih seen => iff' (Nat.beq (frN R l t) x) (iff' seen false (ih true)) (ih seen)) n seen) = decide (((List.range n).filter fun t => frN R l t == x).length + seen.toNat = 1)
  | 0, seen => by cases seen <;> rfl
  | n + 1, seen => by
    show iff' (Nat.beq (frN R l n) x) (iff' seen false (Nat.rec (motive := fun _ => Bool → Bool) (fun seen => seen) (fun t ih seen => iff' (Nat.beq (frN R l t) x) (iff' seen false (ih true)) (ih seen)) n true)) (Nat.rec (motive := fun _ => Bool → Bool) (fun seen => seen) (fun t ih seen => iff' (Nat.beq (frN R l t) x) (iff' seen false (ih true)) (ih seen)) n seen) = _
    rw [one_go R l x n, one_go R l x n, iff'_eq, iff'_eq, List.range_succ, List.filter_append, List.length_append]
    cases e : Nat.beq (frN R l n) x with
    | true =>
      have e2 : (frN R l n == x) = true := by rw [beq_iff_eq]; exact Nat.eq_of_beq_eq_true e
      rw [show ([n].filter fun t => frN R l t == x) = [n] from List.filter_cons_of_pos (p := fun t => frN R l t == x) e2]
      cases seen
      · simp
      · simp
    | false =>
      have e2 : ¬ (frN R l n == x) = true := by rw [beq_iff_eq]; intro q; rw [q, Nat.beq_refl] at e; cases e
      rw [show ([n].filter fun t => frN R l t == x) = [] from List.filter_cons_of_neg (p := fun t => frN R l t == x) e2]
      simp
theorem oneN_iff {R l x n : Nat} : oneN R l x n = true ↔ ((List.range n).filter fun t => frN R l t == x).length = 1 := by
  show (@Nat.rec (fun _ => Bool → Bool) _ _ n false) = true ↔ _
  rw [one_go]; simp
theorem beqN {a b : Nat} : Nat.beq a b = decide (a = b) := by
  by_cases h : a = b
  · rw [decide_eq_true h, h]; exact Nat.beq_refl b
  · rw [decide_eq_false h]; cases e : Nat.beq a b with
    | false => rfl
    | true => exact absurd (Nat.eq_of_beq_eq_true e) h
theorem iff'_true {b t e : Bool} : iff' b t e = true ↔ (b = true ∧ t = true) ∨ (b = false ∧ e = true) := by cases b <;> simp [iff']
theorem innN_iff {R n kind t l : Nat} : innN R n kind t l = true ↔ digN R (t + l - 1) = kind ∧ digN R (t + l) ≠ kind ∧ ((List.range n).filter fun t' => frN R (n - l) t' == frN R (n - l) ((t + l) % n)).length = 1 ∧ ((List.range n).filter fun t' => frN R l t' == frN R l t).length = 1 := by
  show iff' (Nat.beq (digN R (t + l - 1)) kind) (iff' (Nat.beq (digN R (t + l)) kind) false (iff' (oneN R (n - l) (frN R (n - l) ((t + l) % n)) n) (oneN R l (frN R l t) n) false)) false = true ↔ _
  simp only [iff'_true, beqN, oneN_iff, decide_eq_true_eq, decide_eq_false_iff_not, Bool.false_eq_true, and_false, or_false, false_or]
theorem outN_iff {R n kind t : Nat} : outN R n kind t = true ↔ digN R t = kind ∧ digN R (n + t - 1) ≠ kind ∧ ∃ i, i < n - 1 ∧ innN R n kind t (i + 1) = true := by
  show iff' (Nat.beq (digN R t) kind) (iff' (Nat.beq (digN R (n + t - 1)) kind) false (anyN (fun i => innN R n kind t (i + 1)) (n - 1))) false = true ↔ _
  simp only [iff'_true, beqN, anyN_iff, decide_eq_true_eq, decide_eq_false_iff_not, Bool.false_eq_true, and_false, or_false, false_or]
theorem cutN_iff {R n kind : Nat} : cutN R n kind = true ↔ ∃ t, t < n ∧ digN R t = kind ∧ digN R (n + t - 1) ≠ kind ∧ ∃ i, i < n - 1 ∧ digN R (t + (i + 1) - 1) = kind ∧ digN R (t + (i + 1)) ≠ kind ∧
    ((List.range n).filter fun t' => frN R (n - (i + 1)) t' == frN R (n - (i + 1)) ((t + (i + 1)) % n)).length = 1 ∧ ((List.range n).filter fun t' => frN R (i + 1) t' == frN R (i + 1) t).length = 1 := by
  unfold cutN
  simp only [anyN_iff, outN_iff, innN_iff]
end Mine
-- part Plain3
namespace Mine
def castL (ks : List Nat) : List Int := ks.map fun (k : Nat) => (k : Int)
theorem castL_len (ks : List Nat) : (castL ks).length = ks.length := List.length_map _
theorem castL_inj {l l' : List Nat} (h : castL l = castL l') : l = l' := by
  unfold castL at h
  exact (List.map_inj_right (fun a b e => by omega)).mp h
theorem castL_getD (ks : List Nat) (i : Nat) : (castL ks ++ castL ks).getD i 0 = (((ks ++ ks).getD i 0 : Nat) : Int) := by
  unfold castL
  rw [← List.map_append, List.getD_eq_getElem?_getD, List.getElem?_map, List.getD_eq_getElem?_getD]
  cases (ks ++ ks)[i]? <;> rfl
theorem castL_front (ks : List Nat) (l t : Nat) : frontAt (castL ks) l t = castL (((ks ++ ks).drop t).take l) := by
  unfold frontAt castL
  rw [← List.map_append, ← List.map_drop, ← List.map_take]
section
variable {ks : List Nat} (hk : ∀ k ∈ ks, k < 3)
include hk
theorem two_lt : ∀ k ∈ ks ++ ks, k < 4 := fun k h => by
  rcases List.mem_append.mp h with h | h <;> exact Nat.lt_succ_of_lt (hk k h)
theorem front_iff {l t t' : Nat} (hl : l ≤ ks.length) (ht : t < ks.length) (ht' : t' < ks.length) : frontAt (castL ks) l t = frontAt (castL ks) l t' ↔ frN (ringN (ks ++ ks)) l t = frN (ringN (ks ++ ks)) l t' := by
  rw [castL_front, castL_front, frN_eq (two_lt hk), frN_eq (two_lt hk)]
  constructor
  · intro e; rw [castL_inj e]
  · intro e
    rw [ringN_inj (fun k h => two_lt hk k (List.mem_of_mem_drop (List.mem_of_mem_take h))) (fun k h => two_lt hk k (List.mem_of_mem_drop (List.mem_of_mem_take h))) (by simp; omega) e]
theorem due_len {i j : Nat} (hi : i < ks.length) (hj : j < ks.length) : ((dueAt (castL ks) (i + 1)).getD j []).length = ((List.range ks.length).filter fun t => frN (ringN (ks ++ ks)) (i + 1) t == frN (ringN (ks ++ ks)) (i + 1) j).length := by
  unfold dueAt
  rw [castL_len, List.getD_eq_getElem?_getD, List.getElem?_map, List.getElem?_range hj]
  show (List.map _ _).length = _
  rw [List.length_map]
  congr 1
  refine List.filter_congr fun t ht => ?_
  rw [List.mem_range] at ht
  rw [Bool.eq_iff_iff, decide_eq_true_iff, beq_iff_eq]
  exact front_iff hk (by omega) ht hj
theorem ends_iff {kn t i : Nat} (ht : t < ks.length) (hi : i < ks.length - 1) : endsOk (castL ks) (kn : Int) t (i + 1) = true ↔
    digN (ringN (ks ++ ks)) t = kn ∧ digN (ringN (ks ++ ks)) (t + (i + 1) - 1) = kn ∧ digN (ringN (ks ++ ks)) (t + (i + 1)) ≠ kn ∧ digN (ringN (ks ++ ks)) (ks.length + t - 1) ≠ kn := by
  unfold endsOk
  dsimp only
  rw [show pyIdx (t : Int) (castL ks ++ castL ks).length = t from by unfold pyIdx; rw [if_neg (by omega)]; omega,
    show pyIdx ((t : Int) + ((i + 1 : Nat) : Int) - 1) (castL ks ++ castL ks).length = t + (i + 1) - 1 from by unfold pyIdx; rw [if_neg (by omega)]; omega,
    show pyIdx ((t : Int) + ((i + 1 : Nat) : Int)) (castL ks ++ castL ks).length = t + (i + 1) from by unfold pyIdx; rw [if_neg (by omega)]; omega]
  have e : (castL ks ++ castL ks).getD (pyIdx ((t : Int) - 1) (castL ks ++ castL ks).length) 0 = (((ks ++ ks).getD (ks.length + t - 1) 0 : Nat) : Int) := by
    rw [castL_getD]
    congr 1
    unfold pyIdx
    rw [List.length_append, castL_len]
    rw [List.getD_eq_getElem?_getD, List.getD_eq_getElem?_getD]
    congr 1
    by_cases h : t = 0
    · subst h
      rw [if_pos (by omega), show (((0 : Nat) : Int) - 1 + ((ks.length + ks.length : Nat) : Int)).toNat = ks.length + (ks.length - 1) by omega, show ks.length + 0 - 1 = ks.length - 1 by omega,
        List.getElem?_append_right (by omega), List.getElem?_append_left (by omega)]
      congr 1; omega
    · rw [if_neg (by omega), List.getElem?_append_left (by omega), List.getElem?_append_right (by omega)]
      congr 1; omega
  rw [e, castL_getD, castL_getD, castL_getD]
  simp only [digN_eq (two_lt hk), Bool.and_eq_true, decide_eq_true_eq, Bool.not_eq_true', decide_eq_false_iff_not, and_assoc]
  constructor
  · rintro ⟨a, b, c, d⟩; exact ⟨by omega, by omega, by omega, by omega⟩
  · rintro ⟨a, b, c, d⟩; exact ⟨by omega, by omega, by omega, by omega⟩
theorem cut_iff (kn : Nat) : cutB (castL ks) (fun i j => ((dueAt (castL ks) (i + 1)).getD j []).length) (kn : Int) = true ↔ cutN (ringN (ks ++ ks)) ks.length kn = true := by
  unfold cutB
  rw [cutN_iff, castL_len]
  simp only [List.any_eq_true, List.mem_range]
  have key : ∀ t, t < ks.length → ∀ i, i < ks.length - 1 → (cutAt (castL ks) (fun i j => ((dueAt (castL ks) (i + 1)).getD j []).length) (kn : Int) t (i + 1) = true ↔
      endsOk (castL ks) (kn : Int) t (i + 1) = true ∧ ((List.range ks.length).filter fun t' => frN (ringN (ks ++ ks)) (ks.length - (i + 1)) t' == frN (ringN (ks ++ ks)) (ks.length - (i + 1)) ((t + (i + 1)) % ks.length)).length = 1 ∧ ((List.range ks.length).filter fun t' => frN (ringN (ks ++ ks)) (i + 1) t' == frN (ringN (ks ++ ks)) (i + 1) t).length = 1) := by
    intro t ht i hi
    unfold cutAt
    dsimp only
    rw [castL_len, due_len hk (by omega) (Nat.mod_lt _ (by omega)), due_len hk (by omega) ht, show ks.length - (i + 1) - 1 + 1 = ks.length - (i + 1) by omega, show i + 1 - 1 + 1 = i + 1 by omega]
    simp only [Bool.and_eq_true, beq_iff_eq, and_assoc]
  constructor
  · rintro ⟨t, ht, i, hi, h⟩
    obtain ⟨h1, h2, h3⟩ := (key t ht i hi).mp h
    obtain ⟨a, b, c, d⟩ := (ends_iff hk ht hi).mp h1
    exact ⟨t, ht, a, d, i, hi, b, c, h2, h3⟩
  · rintro ⟨t, ht, a, d, i, hi, b, c, h2, h3⟩
    exact ⟨t, ht, i, hi, (key t ht i hi).mpr ⟨(ends_iff hk ht hi).mpr ⟨a, b, c, d⟩, h2, h3⟩⟩
theorem go_eq {first : Int} {p : Nat} (hp : 0 < p) (hpn : p ≤ ks.length) : ∀ f place, saidGo ((castL ks).map (dress first)) p f place = goN (ringN ks) ks.length p f place
  | 0, _ => rfl
  | f + 1, place => by
    have h4 : ∀ k ∈ ks, k < 4 := fun k h => Nat.lt_succ_of_lt (hk k h)
    have hK : ∀ k ∈ castL ks, Kind k := fun k h => by
      obtain ⟨a, ha, rfl⟩ := List.mem_map.mp h
      have := hk a ha
      unfold Kind; omega
    show (if Txt.join (Str.ofString "") ((((castL ks).map (dress first)).drop place).take p) = Txt.join (Str.ofString "") (((castL ks).map (dress first)).take p) then (if place + p = ((castL ks).map (dress first)).length then true else saidGo ((castL ks).map (dress first)) p f (place + p)) else false) =
      iff' (Nat.ble (place + p) ks.length) (iff' (Nat.beq (frN (ringN ks) p place) (frN (ringN ks) p 0)) (iff' (Nat.beq (place + p) ks.length) true (goN (ringN ks) ks.length p f (place + p))) false) false
    rw [go_eq hp hpn f, List.length_map, castL_len, iff'_eq, iff'_eq, iff'_eq, beqN, beqN, ← List.map_drop, ← List.map_take, ← List.map_take]
    have e : (Txt.join (Str.ofString "") ((((castL ks).drop place).take p).map (dress first)) = Txt.join (Str.ofString "") (((castL ks).take p).map (dress first))) ↔ (place + p ≤ ks.length ∧ frN (ringN ks) p place = frN (ringN ks) p 0) := by
      rw [join_eq (fun k h => hK k (List.mem_of_mem_drop (List.mem_of_mem_take h))) (fun k h => hK k (List.mem_of_mem_take h)), frN_eq h4, frN_eq h4, List.drop_zero]
      have c1 : ((castL ks).drop place).take p = castL ((ks.drop place).take p) := by unfold castL; rw [← List.map_drop, ← List.map_take]
      have c2 : (castL ks).take p = castL (ks.take p) := by unfold castL; rw [← List.map_take]
      rw [c1, c2]
      constructor
      · intro q
        have q := castL_inj q
        refine ⟨?_, by rw [q]⟩
        have := congrArg List.length q
        simp at this
        omega
      · rintro ⟨q, r⟩
        rw [ringN_inj (fun k h => h4 k (List.mem_of_mem_drop (List.mem_of_mem_take h))) (fun k h => h4 k (List.mem_of_mem_take h)) (by simp; omega) r]
    by_cases c : place + p ≤ ks.length
    · rw [Nat.ble_eq_true_of_le c]
      by_cases c2 : frN (ringN ks) p place = frN (ringN ks) p 0
      · rw [if_pos (e.mpr ⟨c, c2⟩), decide_eq_true c2]
        by_cases c3 : place + p = ks.length
        · rw [if_pos c3, decide_eq_true c3]; rfl
        · rw [if_neg c3, decide_eq_false c3]; rfl
      · rw [if_neg (fun q => c2 (e.mp q).2), decide_eq_false c2]; rfl
    · rw [if_neg (fun q => c (e.mp q).1), show Nat.ble (place + p) ks.length = false from by
        cases q : Nat.ble (place + p) ks.length with
        | false => rfl
        | true => exact absurd (Nat.le_of_ble_eq_true q) c]
      rfl
theorem said_eq (first : Int) : saidB ((castL ks).map (dress first)) = saidN (ringN ks) ks.length := by
  unfold saidB saidN
  rw [List.length_map, castL_len, Bool.eq_iff_iff, anyN_iff, List.any_eq_true]
  constructor
  · rintro ⟨i, hi, h⟩
    rw [List.mem_range] at hi
    exact ⟨i, hi, by rw [go_eq hk (by omega) (by omega)] at h; exact h⟩
  · rintro ⟨i, hi, h⟩
    have hi' : i < ks.length - 1 := hi
    exact ⟨i, List.mem_range.mpr hi, by rw [go_eq hk (by omega) (by omega)]; exact h⟩
end
theorem allN_sound {n : Nat} : ∀ m acc, allN n m acc = true → ∀ ls : List Nat, ls.length = m → (∀ k ∈ ls, k < 3) → checkN n (ls ++ acc) = true
  | 0, acc, h, ls, e, _ => by rw [List.eq_nil_of_length_eq_zero e]; exact h
  | m + 1, acc, h, ls, e, hk => by
    have h' : iff' (allN n m (0 :: acc)) (iff' (allN n m (1 :: acc)) (allN n m (2 :: acc)) false) false = true := h
    simp only [iff'_true, Bool.false_eq_true, and_false, or_false] at h'
    obtain ⟨h0, h1, h2⟩ := h'
    have hne : ls ≠ [] := fun q => by rw [q] at e; cases e
    have hs := List.dropLast_concat_getLast hne
    have hl : ls.dropLast.length = m := by rw [List.length_dropLast]; omega
    have hd : ∀ k ∈ ls.dropLast, k < 3 := fun k q => hk k (List.dropLast_subset _ q)
    have h3 := hk _ (List.getLast_mem hne)
    generalize ls.getLast hne = a at hs h3
    rw [← hs, List.append_assoc, List.singleton_append]
    have : a = 0 ∨ a = 1 ∨ a = 2 := by omega
    rcases this with rfl | rfl | rfl
    · exact allN_sound m _ h0 _ hl hd
    · exact allN_sound m _ h1 _ hl hd
    · exact allN_sound m _ h2 _ hl hd
theorem hasN_of {k : Nat} : ∀ {l : List Nat}, k ∈ l → hasN k l = true
  | a :: l, h => by
    show iff' (Nat.beq a k) true (hasN k l) = true
    rw [iff'_eq, beqN]
    by_cases e : a = k
    · rw [decide_eq_true e]; rfl
    · rw [decide_eq_false e]
      rcases List.mem_cons.mp h with h | h
      · exact absurd h.symm e
      · exact hasN_of h
theorem check_kind {n : Nat} {ks : List Nat} (h : checkN n ks = true) {k : Nat} (hk : k < 3) (hm : k ∈ ks) : cutN (ringN (ks ++ ks)) n k = !saidN (ringN ks) n := by
  have h' : iff' (kindN (ringN (ks ++ ks)) n (saidN (ringN ks) n) ks 0) (iff' (kindN (ringN (ks ++ ks)) n (saidN (ringN ks) n) ks 1) (kindN (ringN (ks ++ ks)) n (saidN (ringN ks) n) ks 2) false) false = true := h
  simp only [iff'_true, Bool.false_eq_true, and_false, or_false] at h'
  obtain ⟨h0, h1, h2⟩ := h'
  have hh : kindN (ringN (ks ++ ks)) n (saidN (ringN ks) n) ks k = true := by
    have : k = 0 ∨ k = 1 ∨ k = 2 := by omega
    rcases this with rfl | rfl | rfl
    · exact h0
    · exact h1
    · exact h2
  have hq : iff' (hasN k ks) (iff' (cutN (ringN (ks ++ ks)) n k) (iff' (saidN (ringN ks) n) false true) (saidN (ringN ks) n)) true = true := hh
  rw [hasN_of hm] at hq
  revert hq
  cases cutN (ringN (ks ++ ks)) n k <;> cases saidN (ringN ks) n <;> intro hq <;> first | rfl | exact absurd hq (by decide)
theorem law_plain {ns : List Int} {first kind : Int} (h5 : 5 ≤ ns.length) (h7 : ns.length ≤ 7) (hk : ∀ k ∈ ns, Kind k) (hm : kind ∈ ns) :
    cutB ns (fun i j => ((dueAt ns (i + 1)).getD j []).length) kind = !saidB (ns.map (dress first)) := by
  have e : ns = castL (ns.map Int.toNat) := by
    unfold castL
    rw [List.map_map]
    refine (List.map_id _).symm.trans (List.map_congr_left fun k hm => ?_)
    have := hk k hm
    unfold Kind at this
    show k = (k.toNat : Int)
    omega
  have hk' : ∀ k ∈ ns.map Int.toNat, k < 3 := fun k h => by
    obtain ⟨a, ha, rfl⟩ := List.mem_map.mp h
    have := hk a ha
    unfold Kind at this; omega
  have hl : (ns.map Int.toNat).length = ns.length := List.length_map _
  have hkn : kind = ((kind.toNat : Nat) : Int) := by have := hk kind hm; unfold Kind at this; omega
  have hmn : kind.toNat ∈ ns.map Int.toNat := List.mem_map_of_mem hm
  have h3 := hk' _ hmn
  rw [← hl] at h5 h7
  rw [hkn]
  generalize kind.toNat = kn at hmn h3
  rw [e]
  generalize ns.map Int.toNat = ks at hk' hmn h5 h7
  have hc : checkN ks.length ks = true := by
    have : ks.length = 5 ∨ ks.length = 6 ∨ ks.length = 7 := by omega
    have s := List.append_nil ks
    rcases this with q | q | q
    · have := allN_sound 5 [] all5 ks q hk'; rw [s] at this; rw [q]; exact this
    · have := allN_sound 6 [] all6 ks q hk'; rw [s] at this; rw [q]; exact this
    · have := allN_sound 7 [] all7 ks q hk'; rw [s] at this; rw [q]; exact this
  rw [said_eq hk', ← check_kind hc h3 hmn, Bool.eq_iff_iff]
  exact cut_iff hk' kn
end Mine
-- part Places
namespace Mine
local macro_rules | `(tactic| walk_at "zz zz") => `(tactic| fail "pad")
theorem freshPlaces : True := by w_top off; trivial
local macro_rules | `(tactic| kct_strs) => `(tactic| first | with_reducible assumption | with_reducible exact And.left (by assumption) | fail "asl")
local macro_rules | `(tactic| k_lt $h:ident) => `(tactic| replace $h := lt_split $h)
local macro_rules | `(tactic| k_mem) => `(tactic| assumption)
local macro_rules | `(tactic| walk_at "subscriptTail") => `(tactic| (k_dflt (first
  | (refine' sub_upto ?F ?N ?hl ?ho ?h0 ?hz ?_ ?hs ?ht; (case F => k_asm); (case N => k_asm); (case hl => exact Fr.keep (by assumption) _ _ (by assumption)); (case ho => exact isLs _ _); (case h0 => omega); (case hz => assumption); (case hs => with_unfolding_all rfl); (case ht => (intro _; with_unfolding_all rfl)); k_whole; intro D' h' F' N' l1; (try k_lt l1); (try k_sweep))
  | (refine' sub_run ?F ?N ?hl ?ho ?h0 ?h1 ?hz ?_ ?hs ?ht; (case F => k_asm); (case N => k_asm); (case hl => exact Fr.keep (by assumption) _ _ (by assumption)); (case ho => exact isLs _ _); (case h0 => omega); (case h1 => omega); (case hz => assumption); (case hs => with_unfolding_all rfl); (case ht => (intro _; with_unfolding_all rfl)); k_whole; intro D' h' F' N' l1; (try k_lt l1); (try k_sweep))
  | (refine' item_par ?hl ?_ ?hs; (case hl => exact News.get (by assumption) (by k_mem)); (case hs => with_unfolding_all rfl); k_whole))))

abbrev MP (a1 a2 a3 a4 a5 : Option Value) : Str → Option Value := fun y => if y = Str.ofString "turns" then a1 else if y = Str.ofString "places" then a2 else if y = Str.ofString "turn" then a3 else if y = Str.ofString "words" then a4 else if y = Str.ofString "name" then a5 else none
theorem fr_MP {g h : Heap} {L : Addr} {m : Str → Option Value} {a1 a2 a3 a4 a5 : Option Value} (F : Fr g L h m) (h1 : m (Str.ofString "turns") = a1) (h2 : m (Str.ofString "places") = a2) (h3 : m (Str.ofString "turn") = a3) (h4 : m (Str.ofString "words") = a4) (h5 : m (Str.ofString "name") = a5)
    (hr : ∀ y, y ≠ Str.ofString "turns" → y ≠ Str.ofString "places" → y ≠ Str.ofString "turn" → y ≠ Str.ofString "words" → y ≠ Str.ofString "name" → m y = none) : Fr g L h (MP a1 a2 a3 a4 a5) := fr_map F fun y => by
  unfold MP
  by_cases e1 : y = Str.ofString "turns"
  · subst e1; rw [if_pos rfl]; exact h1
  by_cases e2 : y = Str.ofString "places"
  · subst e2; rw [if_neg e1, if_pos rfl]; exact h2
  by_cases e3 : y = Str.ofString "turn"
  · subst e3; rw [if_neg e1, if_neg e2, if_pos rfl]; exact h3
  by_cases e4 : y = Str.ofString "words"
  · subst e4; rw [if_neg e1, if_neg e2, if_neg e3, if_pos rfl]; exact h4
  by_cases e5 : y = Str.ofString "name"
  · subst e5; rw [if_neg e1, if_neg e2, if_neg e3, if_neg e4, if_pos rfl]; exact h5
  rw [if_neg e1, if_neg e2, if_neg e3, if_neg e4, if_neg e5]; exact hr y e1 e2 e3 e4 e5
theorem allLt_mono {a b : Nat} {l : List (Addr × Obj)} (h : AllLt a l) (e : @LE.le Nat _ a b) : AllLt b l := by
  induction l with
  | nil => trivial
  | cons q r ih => exact ⟨Nat.lt_of_lt_of_le h.1 e, ih h.2⟩
theorem made_two {g h5 h6 : Heap} {L : Addr} {m : Str → Option Value} {x2 dx2 : Addr} {oI o0 o1 o2 : Obj} {nw : List (Addr × Obj)} (F5 : Fr g L h5 m) (N5 : News g L h5 ((x2, oI) :: (dx2, o0) :: nw)) (c : Chg [x2, dx2] h5 h6) (hx2 : h6.get? x2 = some o1) (hdx2 : h6.get? dx2 = some o2)
    (lts : ∀ q ∈ nw, @LT.lt Nat _ q.1 dx2) (l : @LT.lt Nat _ dx2 x2) : Fr g L h6 m ∧ News g L h6 ((x2, o1) :: (dx2, o2) :: nw) :=
  chg_all F5 N5 c (by
      intro a ha
      rcases List.mem_cons.mp ha with rfl | ha
      · exact (N5 _ (.head _)).2
      · rw [List.mem_singleton.mp ha]; exact (N5 _ (.tail _ (.head _))).2) (by
      intro q hq
      rcases List.mem_cons.mp hq with rfl | hq
      · exact .inr ⟨hx2, .inl (.head _)⟩
      rcases List.mem_cons.mp hq with rfl | hq
      · exact .inr ⟨hdx2, .inl (.tail _ (.head _))⟩
      · have l1 := lts q hq
        exact .inl ⟨.tail _ (.tail _ hq), by simp only [List.mem_cons, List.not_mem_nil, or_false, not_or]; exact ⟨neN (by omega), neN (by omega)⟩⟩)
structure RowsEx (ex : List (Addr × Obj)) (its : Array Value) (rows : List (Str × Str)) : Prop where
  len : its.size = rows.length
  at_ : ∀ i (hi : i < rows.length), ∃ T t1 t2, its[i]? = some (.ref T) ∧ (T, tupO #[.str rows[i].1 t1, .str rows[i].2 t2]) ∈ ex
theorem news_add {g h h' : Heap} {L T : Addr} {m : Str → Option Value} {o : Obj} {nw : List (Addr × Obj)} (F : Fr g L h m) (N : News g L h' nw) (hf : h.get? T = none) (hT : h'.get? T = some o) : News g L h' ((T, o) :: nw) := fun p hp => by
  rcases List.mem_cons.mp hp with rfl | hp
  · refine ⟨hT, fun q => ?_, ?_⟩
    · obtain ⟨oL, es, ep, e, r⟩ := F.ns
      dsimp only at q; rw [q, e] at hf; cases hf
    · cases q : g.get? T with
      | none => rfl
      | some o' => rw [F.keep _ _ q] at hf; cases hf
  · exact N p hp
theorem off_add {h : Heap} {T : Addr} {o : Obj} {ex : List (Addr × Obj)} {ds : List Addr} (off : OwnOff ex ds) (hf : h.get? T = none) (hd : ∀ d ∈ ds, ∃ o, h.get? d = some o) : OwnOff ((T, o) :: ex) ds := fun p hp d hm => by
  rcases List.mem_cons.mp hp with rfl | hp
  · intro q; obtain ⟨o', e⟩ := hd d hm; dsimp only at q; rw [q, e] at hf; cases hf
  · exact off p hp d hm
theorem RowsEx.next {ex : List (Addr × Obj)} {its : Array Value} {rows : List (Str × Str)} {t : Nat} {T : Addr} {t1 t2 : Tok} (r : RowsEx ex its (rows.take t)) (ht : t < rows.length) :
    RowsEx ((T, tupO #[.str rows[t].1 t1, .str rows[t].2 t2]) :: ex) (its.push (.ref T)) (rows.take (t + 1)) := by
  have hl : its.size = t := by rw [r.len, List.length_take]; omega
  refine ⟨by rw [Array.size_push, hl, List.length_take]; omega, fun i hi => ?_⟩
  rw [List.length_take] at hi
  by_cases hit : i < t
  · obtain ⟨T', u1, u2, e1, e2⟩ := r.at_ i (by rw [List.length_take]; omega)
    refine ⟨T', u1, u2, by rw [Array.getElem?_push, if_neg (by omega)]; exact e1, List.mem_cons_of_mem _ ?_⟩
    simpa only [List.getElem_take] using e2
  · have : i = t := by omega
    subst this
    refine ⟨T, t1, t2, by rw [Array.getElem?_push, if_pos hl.symm], ?_⟩
    simp only [List.getElem_take]; exact List.mem_cons_self ..
/-- the value is a list of lists of strings, written in ex -/
def LLAt (ex : List (Addr × Obj)) (v : Value) (want : List (List Str)) : Prop :=
  ∃ r its k, v = .ref r ∧ (r, listOf its k) ∈ ex ∧ its.size = want.length ∧ ∀ j (hj : j < want.length), ∃ c zs k', its[j]? = some (.ref c) ∧ (c, listOf zs k') ∈ ex ∧ StrsAre zs.toList want[j]
theorem LLAt.mono {ex ex' : List (Addr × Obj)} {v : Value} {want : List (List Str)} (h : LLAt ex v want) (e : ∀ p ∈ ex, p ∈ ex') : LLAt ex' v want := by
  obtain ⟨r, its, k, e1, e2, e3, e4⟩ := h
  exact ⟨r, its, k, e1, e _ e2, e3, fun j hj => let ⟨c, zs, k', f1, f2, f3⟩ := e4 j hj; ⟨c, zs, k', f1, e _ f2, f3⟩⟩

section
variable {w : World} {mg mb : Str → Option Value} {A : Around} {s : Shared} {b : Heap} {Q E : Value → Shared → Prop} {R : Result → Shared → Prop}
theorem places {tp : Addr} {to : Obj} {rs ys : List Value} {ws : List Str}
    (G : Gd w mg mb b s.heap) (hdep : A.depth + 10 < recursionLimit) (hA : A.handled = none) (ht : s.heap.get? tp = some to) (hto : IsLs to rs.toArray) (hst : StrsAre ys ws) (hlen : rs.length = ws.length) (hn : ws.length ≤ 100) (hwl : ∀ y ∈ ws, y.length ≤ 100)
    (hP : ∀ l t, l ≤ ws.length → t < ws.length → Plain (rowN ws l t) ∧ Plain (Txt.lower (Txt.upper (nameAt ws l t))) ∧ (rowN ws l t).length ≤ 100 ∧ (Txt.upper (nameAt ws l t)).length ≤ 100 ∧ (nameAt ws l t).length ≤ 100) (hT : ∀ t : Nat, t < ws.length → Plain (Str.ofString (toString (t : Int))) ∧ (Str.ofString (toString (t : Int))).length ≤ 1000) (hrd : ∀ j, j < ws.length → ∃ r k, rs[j]? = some (.ref r) ∧ s.heap.get? r = some (listOf (rot j ys).toArray k))
    (hret : ∀ (P : Addr) (ps : List Value) (extra : List (Addr × Obj)) (nP : Nat) (h' : Heap) (tk : Nat), h'.get? P = some (listOf ps.toArray nP) → ps.length = ws.length - 1 → (∀ j (hj : j < ps.length), LLAt extra ps[j] (wantAt ws (j + 1))) →
      (∀ q ∈ extra, h'.get? q.1 = some q.2 ∧ s.heap.get? q.1 = none) → s.heap.get? P = none → Chg [] s.heap h' → Q (.ref P) { s with heap := h', toks := tk }) :
    wpAny (MM w) A (call (.ref 283) [.ref tp]) Q E s := by
  have X := G.K
  have hl : Led b s.heap [] := Led.nil
  refine wpAny_call ?_
  k_dflt (refine' enterC (binds := [(Str.ofString "turns", .ref tp)]) G hl ?k6 ?k7 (by omega) ?k9 ?kB ?c5 ?_ ?c2 ?c3 ?c4; (case k6 => k_is); (case k7 => k_is); (case k9 => exact BindsTo.of_eq rfl); (case c5 => decide); (case kB => exact rfl); (case c2 => exact rfl); (case c3 => exact rfl); (case c4 => exact rfl); k_whole)
  clear X
  intro g L h₁ tk cells hg F N Y X T lt
  clear lt
  k_cells Y
  have cL0 : @LT.lt Nat _ L (L + 1) := Nat.lt_add_one _
  have cL1 : @LT.lt Nat _ (L + 1) (L + 1 + 1) := Nat.lt_add_one _
  (try simp only [List.cons_append, List.nil_append] at N)
  try dsimp only
  refine body_k ?_
  intro K0 hK0
  have hgt : g.get? tp = some to := by rw [hg]; exact hideAll_get _ ht (by simp)
  have st := st_of G hl
  rw [← hg] at st
  k_steps
  rename Fr g L _ _ => F1
  refine len_list (items := rs.toArray) ⟨to, F1.keep _ _ hgt, hto.1, hto.2⟩ (by simp; omega) ?_
  rw [List.size_toArray, hlen]
  dsimp only
  k_steps
  rename Fr g L _ _ => F2
  rename News g L _ _ => N2
  rename IsRange _ _ _ _ _ _ _ _ => R2
  rename_i P _ lP _ _ _ _ _ _ _ _ _
  refine iter_ra F2 N2 R2 (by decide) (by decide) (Int.natCast_nonneg _) (by first | with_reducible exact le1000 (by assumption) | omega) ?_
  intro J hb Fc Nc lJ
  clear F2 N2
  k_lt lJ
  rw [rng1 ws.length] at Nc
  dsimp only
  refine for_ind (α := Nat) (fun i s' => Ex12 fun (h : Heap) (tk : Nat) (a3 a4 a5 vT vL : Option Value) (ps : List Value) (ex : List (Addr × Obj)) (nP : Nat) (oT oN : Obj) => And9 (s' = { s with heap := h, toks := tk }) (Fr g L h (MP (some (.ref tp)) (some (.ref P)) a3 a4 a5)) (i ≤ ws.length - 1) (ps.length = i) (OwnOff ex [J, P, L + 1 + 1, L + 1]) (∀ j (hj : j < ps.length), LLAt ex ps[j] (wantAt ws (j + 1))) (oT.data = .cell vT) (oN.data = .cell vL) (News g L h ((J, riObj (1 + i) ((ws.length - 1 : Nat) - i) 1) :: (P, listOf ps.toArray nP) :: (L + 1 + 1, oT) :: (L + 1, oN) :: ex))) (fun i => ws.length - 1 - i) ?_ 0 ?_
  case refine_2 => exact ⟨_, _, none, none, none, _, _, [], [], _, _, _, rfl, fr_MP Fc rfl rfl rfl rfl rfl (by intro y h1 h2 h3 h4 h5; simp only [h2, if_false]; exact if_neg h1), Nat.zero_le _, rfl, (fun p hp => nomatch hp), (fun j hj => absurd hj (Nat.not_lt_zero _)), by assumption, by assumption, Nc⟩
  clear Fc Nc
  rintro i s' ⟨hc, tkc, a3, a4, a5, vT, vL, ps, ex, nP, oT, oN, rfl, Fd, hile, hps, off, hpl, dT, dN, Nd⟩
  intro K1 hK1
  refine turn_name ?_
  by_cases hin : i < ws.length - 1
  · refine next_ri (News.get Nd (by k_mem)) (by first | with_reducible exact pos1 (by assumption) | omega) ?_
    intro hd cd ed
    refine upd_k Fd Nd (by k_upd) cd ed fun Fe Ne => ?_
    clear Fd Nd cd ed
    dsimp only
    k_steps
    rename Fr g L _ _ => Fa
    rename News g L _ _ => Na
    rename_i _ oN2 dN2 p _ lp
    have ep : AllLt p ex := by repeat (first | exact lp | replace lp := lp.2)

    refine call_cls Fa X Na (by k_is) (by k_is) (by k_is) ?_
    intro x dx hx Fb Nb l1 l2
    clear Fa Na
    replace l2 : @LT.lt Nat _ dx x := l2
    have l1' := l1
    k_lt l1
    have edx : AllLt dx ex := by repeat (first | exact l1 | replace l1 := l1.2)
    have exx : AllLt x ex := allLt_mono edx (Nat.le_of_lt l2)
    have l1 := l1' _ (.head _)
    replace l1 : @LT.lt Nat _ p dx := l1
    refine hd_init (x := x) (dx := dx) (p := p) ⟨G.K, G.T, fun a o e => Fb.keep _ _ (st _ _ e)⟩ (by show A.depth + 1 + 1 + 1 < _; exact lt_le 7 hdep) hA (Led.cons (News.get Nb (by k_mem)) (bn_of st Nb (.head _)) (Led.cons (News.get Nb (by k_mem)) (bn_of st Nb (.tail _ (.head _))) (Led.cons (News.get Nb (by k_mem)) (bn_of st Nb (.tail _ (.tail _ (.head _)))) Led.nil))) (by omega) l2 ?_
    intro hh kh h2 tk2 c2 hx2 hdx2
    refine ⟨rfl, ?_⟩
    obtain ⟨Fc, Nc⟩ := made_two Fb Nb c2 hx2 hdx2 l1' l2
    clear Fb Nb c2 hx2 hdx2
    dsimp only
    k_steps
    rename Fr g L _ _ => Fa
    rename News g L _ _ => Na
    rename_i _ oT2 dT2
    refine call_enum Fa Na (Fa.keep _ _ hgt) hto ?_
    intro e it h3 oI hI Fb Nb l3 l4
    clear Fa Na
    k_lt l3
    have eit : AllLt it ex := by
      have l3' := l3
      repeat (first | exact l3' | replace l3' := l3'.2)
    have ee : AllLt e ex := allLt_mono eit (Nat.le_of_lt l4)
    refine iter_enum (News.get Nb (.head _)) ?_
    dsimp only
    have off1 : OwnOff ex [e, it, x, dx, p, J, P, L + 1 + 1, L + 1] := (off_push ee (off_push eit (off_push exx (off_push edx (off_push ep off)))))
    refine for_ind (α := Nat) (fun t s' => Ex10 fun (h : Heap) (tk : Nat) (a3 a4 a5 : Option Value) (ex' : List (Addr × Obj)) (its : Array Value) (nH : Nat) (old : Value) (oI : Obj) => And8 (s' = { s with heap := h, toks := tk }) (Fr g L h (MP (some (.ref tp)) (some (.ref P)) a3 a4 a5)) (t ≤ ws.length) (IsLi oI tp t) (OwnOff ex' [e, it, x, dx, p, J, P, L + 1 + 1, L + 1]) (∀ q ∈ ex, q ∈ ex') (RowsEx ex' its ((rowsOf ws (i + 1)).take t)) (News g L h ((e, enumO it t old) :: (it, oI) :: (x, hdI dx) :: (dx, hdD hh kh (.ref p)) :: (p, listOf its nH) :: (J, riObj (1 + i + 1) ((ws.length - 1 : Nat) - i - 1) 1) :: (P, listOf ps.toArray nP) :: (L + 1 + 1, oT2) :: (L + 1, oN2) :: ex'))) (fun t => ws.length - t) ?_ 0 ?_
    case refine_2 => exact ⟨_, _, _, _, _, ex, #[], 0, _, _, rfl, Fb, Nat.zero_le _, hI, off1, (fun q hq => hq), ⟨rfl, fun j hj => absurd hj (Nat.not_lt_zero _)⟩, Nb⟩
    clear Fb Nb
    rintro t s' ⟨hc, tkc', a3', a4', a5', ex', its, nH, old, oI, rfl, Fd, htle, hI, off', hsub, hrows, Nd⟩
    intro K2 hK2
    by_cases htn : t < ws.length
    · obtain ⟨r, kr, hr1, hr2⟩ := hrd t htn
      have hgr : g.get? r = some (listOf (rot t ys).toArray kr) := by rw [hg]; exact hideAll_get _ hr2 (by simp)
      refine turn_enum hA Fd Nd hI (Fd.keep _ _ hgt) hto (x := .ref r) (by simpa using hr1) l4 (by k_all) (by k_all) ?_
      intro h5 oI' hI' Fe Ne
      clear Fd Nd
      have hrl2 : (rot t ys).length ≤ 1000 := by rw [rot_len, hst.len_eq]; omega
      dsimp only
      k_steps
      rename Fr g L _ _ => Ff
      rename News g L _ _ => Nf
      refine join_listC (ys := (rot t ws).take (i + 1)) ⟨_, News.get Nf (.head _), rfl, _, rfl⟩ (by rw [show (1 + (i : Int)).toNat = i + 1 from by omega]; exact strs_take (strs_rot hst t) _) (by decide) (fit_of (fun y hy => hwl y (mem_rot (List.mem_of_mem_take hy))) (by simp; omega)) ?_
      intro tj kj
      rw [show Txt.join (Str.ofString "") ((rot t ws).take (i + 1)) = nameAt ws (i + 1) t from rfl]
      have hP1 := hP (i + 1) t (by omega) htn
      obtain ⟨hP2, hP3, hP4, hP5, hP6⟩ := hP1
      dsimp only
      k_steps
      rename Fr g L _ _ => Fg
      rename News g L _ _ => Ng
      have hsz : its.size = t := by rw [hrows.len, List.length_take]; unfold rowsOf; rw [List.length_map, List.length_range]; omega
      refine add_header (x := x) (dx := dx) (p := p) (hh := hh) (k := kh) (its := its) (n := nH) ⟨G.K, G.T, fun a o e => Fg.keep _ _ (st _ _ e)⟩ (by show A.depth + 1 + 2 < _; exact lt_le 7 hdep) hA (Led.cons (News.get Ng (by k_mem)) (bn_of st Ng (by k_mem)) (Led.cons (News.get Ng (by k_mem)) (bn_of st Ng (by k_mem)) (Led.cons (News.get Ng (by k_mem)) (bn_of st Ng (by k_mem)) Led.nil))) l1 l2 (by omega) hP2 (hT t htn).1 (hT t htn).2 ?_
      intro U t1 t2 h6 tk6 c6 hp6 hU6 hf6
      refine upd_c Fg Ng (by k_upd) c6 hp6 fun Fh Nh => ?_
      have Ni := news_add Fg Nh hf6 hU6
      rw [show (if t % 2 = 0 then nameAt ws (i + 1) t else Txt.upper (nameAt ws (i + 1) t)) = rowN ws (i + 1) t from rfl] at Ni
      have off2 : OwnOff ((U, _) :: ex') [e, it, x, dx, p, J, P, L + 1 + 1, L + 1] := off_add (o := tupO #[.str (rowN ws (i + 1) t) t1, .str (Str.ofString (toString (t : Int))) t2]) off' hf6 (by repeat (first | exact hv_nil | refine hv_cons (News.get Ng (by k_mem)) ?_))
      clear Ng Nh c6 hp6 hU6 hf6
      dsimp only
      k_steps
      refine hK2 _ _ ?_; refine ⟨t + 1, (by first | with_reducible exact mdec (by assumption) | (dsimp only; omega)), _, _, _, _, _, (U, tupO #[.str (rowN ws (i + 1) t) t1, .str (Str.ofString (toString (t : Int))) t2]) :: ex', its.push (.ref U), nH + 1, .ref r, oI', rfl, fr_MP Fh rfl rfl rfl rfl rfl (by intro y h1 h2 h3 h4 h5; kd_addB), htn, hI', off2, (fun q hq => .tail _ (hsub q hq)), ?_, ?_⟩
      · have := hrows.next (T := U) (t1 := t1) (t2 := t2) (t := t) (by unfold rowsOf; rw [List.length_map, List.length_range]; omega)
        simpa only [rowsOf, List.getElem_map, List.getElem_range] using this
      · (repeat (first | exact Ni | exact ndrop 1 Ni | exact ndrop 2 Ni | exact ndrop 3 Ni | refine news_mk Ni (by k_mem) ?_ | exact ndrop 4 Ni | exact ndrop 5 Ni | exact ndrop 6 Ni | exact ndrop 7 Ni | exact ndrop 8 Ni | exact ndrop 9 Ni | exact ndrop 10 Ni | exact ndrop 11 Ni | exact ndrop 12 Ni | exact ndrop 13 Ni | exact ndrop 14 Ni | exact ndrop 15 Ni | exact ndrop 16 Ni | exact ndrop 17 Ni | exact ndrop 18 Ni | exact ndrop 19 Ni))
    · have hte : t = ws.length := by first | with_reducible exact eqEnd (by assumption) (by assumption) | omega
      subst hte
      refine end_enum hA Fd Nd hI (Fd.keep _ _ hgt) hto (by simp [hlen]) (by k_all) ?_
      intro h5 Fe Ne
      clear Fd Nd
      rw [List.take_of_length_le (by unfold rowsOf; rw [List.length_map, List.length_range]; omega)] at hrows
      dsimp only
      k_steps
      rename Fr g L _ _ => Ff
      rename News g L _ _ => Nf
      refine iter_li Ff Nf (Ff.keep _ _ hgt) hto ?_
      intro I h6 oI3 hI3 Fg Ng lI
      refine comp_go rfl Fg Ng X T (by decide) rfl (.head _) (fun s' Q' E' h h' => wpAny_pyIter_listiter ⟨_, h, hI3⟩ h') ?_
      intro C D g2 h7 tk7 hg2 F5 N5 X5 T5 lD lC hgg hL2
      clear Ff Nf Fg Ng
      k_lt lI
      k_lt lD
      clear lC
      have eI : AllLt I ex' := by first | exact lI.2 | exact allLt_drop 1 lI.2 | exact allLt_drop 2 lI.2 | exact allLt_drop 3 lI.2 | exact allLt_drop 4 lI.2 | exact allLt_drop 5 lI.2 | exact allLt_drop 6 lI.2 | exact allLt_drop 7 lI.2 | exact allLt_drop 8 lI.2 | exact allLt_drop 9 lI.2 | exact allLt_drop 10 lI.2 | exact allLt_drop 11 lI.2 | exact allLt_drop 12 lI.2 | exact allLt_drop 13 lI.2 | exact allLt_drop 14 lI.2 | exact allLt_drop 15 lI.2
      have eD : AllLt D ex' := by first | exact lD.2 | exact allLt_drop 1 lD.2 | exact allLt_drop 2 lD.2 | exact allLt_drop 3 lD.2 | exact allLt_drop 4 lD.2 | exact allLt_drop 5 lD.2 | exact allLt_drop 6 lD.2 | exact allLt_drop 7 lD.2 | exact allLt_drop 8 lD.2 | exact allLt_drop 9 lD.2 | exact allLt_drop 10 lD.2 | exact allLt_drop 11 lD.2 | exact allLt_drop 12 lD.2 | exact allLt_drop 13 lD.2 | exact allLt_drop 14 lD.2 | exact allLt_drop 15 lD.2
      have off3 : OwnOff ex' [D, I, x, dx, p, J, P, L + 1 + 1, L + 1] := off_push eD (off_push eI (off_drop (off_drop off')))
      have st2 : b.StaysIn g2 := fun a o e => hgg _ _ (st _ _ e)
      refine comp_ind0 (α := Nat) (fun t s' => Ex7 fun (h : Heap) (tk : Nat) (m' : Str → Option Value) (cs : List Value) (ex2 : List (Addr × Obj)) (nD : Nat) (oI : Obj) => And9 (s' = { s with heap := h, toks := tk }) (Fr g2 C h m') (t ≤ ws.length) (cs.length = t) (IsLi oI tp t) (OwnOff ex2 [D, I, x, dx, p, J, P, L + 1 + 1, L + 1]) (∀ q ∈ ex', q ∈ ex2) (∀ j (hj : j < cs.length), ∃ c zs k', cs[j]? = some (.ref c) ∧ (c, listOf zs k') ∈ ex2 ∧ StrsAre zs.toList (((rowsOf ws (i + 1)).filter (hit (Txt.upper (nameAt ws (i + 1) j)))).map (·.2))) (News g2 C h ((D, listOf cs.toArray nD) :: (I, oI) :: (x, hdI dx) :: (dx, hdD hh kh (.ref p)) :: (p, listOf its nH) :: (J, riObj (1 + i + 1) ((ws.length - 1 : Nat) - i - 1) 1) :: (P, listOf ps.toArray nP) :: (L + 1 + 1, oT2) :: (L + 1, oN2) :: ex2))) (fun t => ws.length - t) ?_ 0 ?_
      case refine_2 => exact ⟨_, _, _, [], ex', 0, _, rfl, F5, Nat.zero_le _, rfl, hI3, off3, (fun q hq => hq), (fun j hj => absurd hj (Nat.not_lt_zero _)), N5⟩
      clear F5 N5
      rintro t s' ⟨h8, tk8, m8, cs, ex2, nD, oI4, rfl, F6, htle, hcs, hI4, off4, hsub2, hch, N6⟩
      intro K3 hK3
      by_cases htn : t < ws.length
      · obtain ⟨r, kr, hr1, hr2⟩ := hrd t htn
        have hgr : g.get? r = some (listOf (rot t ys).toArray kr) := by rw [hg]; exact hideAll_get _ hr2 (by simp)
        have hgr2 := hgg _ _ hgr
        refine next_li (x := .ref r) (News.get N6 (by k_mem)) hI4 (F6.keep _ _ (hgg _ _ hgt)) hto (by simpa using hr1) ?_
        intro h9 oI' hI' c9 e9
        refine upd_k F6 N6 (by k_upd) c9 e9 fun F7 N7 => ?_
        clear F6 N6 c9 e9
        have hrl2 : (rot t ys).length ≤ 1000 := by rw [rot_len, hst.len_eq]; omega
        dsimp only
        k_steps
        rename Fr g2 C _ _ => Ff
        rename News g2 C _ _ => Nf
        refine join_listC (ys := (rot t ws).take (i + 1)) ⟨_, News.get Nf (.head _), rfl, _, rfl⟩ (by rw [show (1 + (i : Int)).toNat = i + 1 from by omega]; exact strs_take (strs_rot hst t) _) (by decide) (fit_of (fun y hy => hwl y (mem_rot (List.mem_of_mem_take hy))) (by simp; omega)) ?_
        intro tj kj
        rw [show Txt.join (Str.ofString "") ((rot t ws).take (i + 1)) = nameAt ws (i + 1) t from rfl]
        obtain ⟨hP2, hP3, hP4, hP5, hP6⟩ := hP (i + 1) t (by omega) htn
        dsimp only
        k_steps
        rename Fr g2 C _ _ => Fg
        rename News g2 C _ _ => Ng
        have hrl : (rowsOf ws (i + 1)).length = ws.length := by unfold rowsOf; rw [List.length_map, List.length_range]
        refine get_all (x := x) (dx := dx) (p := p) (its := its) (n := nH) (hh := hh) (k := kh) (rows := rowsOf ws (i + 1)) ⟨G.K, G.T, fun a o e => Fg.keep _ _ (st2 _ _ e)⟩ (by show A.depth + 1 + 2 < _; exact lt_le 7 hdep) hA (Led.cons (News.get Ng (by k_mem)) (bn_of st2 Ng (by k_mem)) (Led.cons (News.get Ng (by k_mem)) (bn_of st2 Ng (by k_mem)) (Led.cons (News.get Ng (by k_mem)) (bn_of st2 Ng (by k_mem)) Led.nil))) l1 l2
          ⟨by rw [hrows.len], fun j hj => let ⟨T, t1, t2, e1, e2⟩ := hrows.at_ j hj; ⟨T, t1, t2, e1, (Ng (T, tupO #[.str (rowsOf ws (i + 1))[j].1 t1, .str (rowsOf ws (i + 1))[j].2 t2]) (by have := hsub2 _ e2; k_mem)).1⟩⟩ (by omega) hP5 hP3 (fun r hr => by
            simp only [rowsOf, List.mem_map, List.mem_range] at hr
            obtain ⟨j, hj, rfl⟩ := hr
            exact (hP (i + 1) j (by omega) hj).2.2.1) ?_
        intro c zs nz h10 tk10 c10 hzs hc10 hf10
        refine same_k Fg Ng c10 fun Fh Nh => ?_
        have Ni := news_add Fg Nh hf10 hc10
        have off5 := off_add (o := listOf zs nz) off4 hf10 (by repeat (first | exact hv_nil | refine hv_cons (News.get Ng (by k_mem)) ?_))
        have lc : c ≠ D := by
          intro q; rw [q, News.get Ng (by k_mem)] at hf10; cases hf10
        clear Ng Nh c10 hc10 hf10
        have hcsz : cs.toArray.size ≤ 1000 := by simp; omega
        dsimp only
        k_steps
        rename News g2 C _ _ => Nj
        rename Fr g2 C _ _ => Fj
        rw [List.push_toArray] at Nj
        refine hK3 _ ?_; refine ⟨t + 1, (by first | with_reducible exact mdec (by assumption) | (dsimp only; omega)), _, _, _, cs ++ [.ref c], (c, listOf zs nz) :: ex2, nD + 1, oI', rfl, Fj, htn, by simp [hcs], hI', off5, (fun q hq => List.mem_cons_of_mem _ (hsub2 q hq)), ?_, ?_⟩
        · intro j hj
          by_cases hjt : j < cs.length
          · obtain ⟨c', zs', k', f1, f2, f3⟩ := hch j hjt
            exact ⟨c', zs', k', by rw [List.getElem?_append_left hjt]; exact f1, List.mem_cons_of_mem _ f2, f3⟩
          · have : j = t := by rw [List.length_append, List.length_singleton] at hj; first | with_reducible exact eqLast hj (by assumption) (by assumption) | omega
            subst this
            exact ⟨c, zs, nz, by rw [List.getElem?_append_right (by omega)]; simp [hcs], List.mem_cons_self .., hzs⟩
        · (repeat (first | exact Nj | exact ndrop 1 Nj | exact ndrop 2 Nj | exact ndrop 3 Nj | refine news_mk Nj (by k_mem) ?_ | exact ndrop 4 Nj | exact ndrop 5 Nj | exact ndrop 6 Nj | exact ndrop 7 Nj | exact ndrop 8 Nj | exact ndrop 9 Nj | exact ndrop 10 Nj | exact ndrop 11 Nj | exact ndrop 12 Nj | exact ndrop 13 Nj | exact ndrop 14 Nj | exact ndrop 15 Nj | exact ndrop 16 Nj | exact ndrop 17 Nj | exact ndrop 18 Nj | exact ndrop 19 Nj))
      · have hte : t = ws.length := by first | with_reducible exact eqEnd (by assumption) (by assumption) | omega
        subst hte
        refine end_li hA (News.get N6 (by k_mem)) hI4 (F6.keep _ _ (hgg _ _ hgt)) hto (by simp [hlen]) ?_
        intro h9 c9
        refine drop2_k F6 N6 c9 (by k_all) fun F7 N7 => ?_
        clear F6 N6 c9
        refine CompEnd.intro F7 N7 ?_
        intro h10 F8 N8
        clear F7 N7 X5 T5
        have hpsz : ps.toArray.size ≤ 1000 := by simp; omega
        dsimp only
        k_steps
        rename News g L _ _ => Nj
        rename Fr g L _ _ => Fj
        rw [List.push_toArray] at Nj
        rw [one1 i, sub1c (ws.length - 1) i] at Nj
        refine hK1 _ _ ?_; refine ⟨i + 1, (by first | with_reducible exact mdec (by assumption) | (dsimp only; omega)), _, _, _, _, _, _, _, ps ++ [.ref D], (D, listOf cs.toArray nD) :: ex2, nP + 1, oT2, oN2, rfl, Fj, hin, by simp [hps], ?_, ?_, dT2, dN2, ?_⟩
        · exact off_cons (by repeat (first | exact na_nil | refine na_cons (by k_ne) ?_)) (off_drop (off_drop (off_drop (off_drop (off_drop off4)))))
        · intro j hj
          by_cases hji : j < ps.length
          · rw [List.getElem_append_left hji]
            exact (hpl j hji).mono fun q hq => List.mem_cons_of_mem _ (hsub2 q (hsub q hq))
          · have : j = i := by rw [List.length_append, List.length_singleton] at hj; first | with_reducible exact eqLast hj (by assumption) (by assumption) | omega
            subst this
            rw [List.getElem_append_right (by omega)]
            simp only [hps, Nat.sub_self, List.getElem_singleton]
            have hwl2 : (wantAt ws (j + 1)).length = ws.length := by unfold wantAt; rw [List.length_map, List.length_range]
            refine ⟨D, cs.toArray, nD, rfl, List.mem_cons_self .., by rw [List.size_toArray, hcs, hwl2], fun k hk => ?_⟩
            obtain ⟨c, zs, k', f1, f2, f3⟩ := hch k (by omega)
            refine ⟨c, zs, k', by simpa using f1, List.mem_cons_of_mem _ f2, ?_⟩
            simpa only [wantAt, List.getElem_map, List.getElem_range] using f3
        · (repeat (first | exact Nj | exact ndrop 1 Nj | exact ndrop 2 Nj | exact ndrop 3 Nj | refine news_mk Nj (by k_mem) ?_ | exact ndrop 4 Nj | exact ndrop 5 Nj | exact ndrop 6 Nj | exact ndrop 7 Nj | exact ndrop 8 Nj | exact ndrop 9 Nj | exact ndrop 10 Nj | exact ndrop 11 Nj | exact ndrop 12 Nj | exact ndrop 13 Nj | exact ndrop 14 Nj | exact ndrop 15 Nj | exact ndrop 16 Nj | exact ndrop 17 Nj | exact ndrop 18 Nj | exact ndrop 19 Nj))
  · have hie : i = ws.length - 1 := by first | with_reducible exact eqEnd (by assumption) (by assumption) | omega
    subst hie
    refine end_ri hA (News.get Nd (.head _)) (by first | with_reducible exact le0 _ | omega) ?_
    intro hd2 cd
    refine drop_k Fd Nd cd (by k_all) fun Fe Ne => ?_
    clear Fd Nd cd
    dsimp only
    k_steps
    subst hg
    refine hK0 _ _ ?_
    try dsimp only
    refine hret P ps ex nP _ _ (News.get Ne (.head _)) hps hpl (fun q hq => ?_) ?_ (chg_of Fe)
    · have n := Ne q (by repeat (first | exact hq | refine List.Mem.tail _ ?_))
      exact ⟨n.1, fresh_of n.2.2 (by simp)⟩
    · exact fresh_of (Ne _ (.head _)).2.2 (by simp)
end
end Mine
section
local macro_rules | `(tactic| walk_at "subscriptTail") => `(tactic| (k_dflt (first
  | (refine' sub_upto ?F ?N ?hl ?ho ?h0 ?hz ?_ ?hs ?ht; (case F => k_asm); (case N => k_asm); (case hl => first | exact News.get (by assumption) (by k_mem) | exact Fr.keep (by assumption) _ _ (by assumption) | fail "no such list"); (case ho => exact isLs _ _); (case h0 => omega); (case hz => assumption); (case hs => with_unfolding_all rfl); (case ht => (intro _; with_unfolding_all rfl)); k_whole; intro D' h' F' N' l1; (try k_lt l1); (try k_sweep))
  | (refine' sub_run ?F ?N ?hl ?ho ?h0 ?h1 ?hz ?_ ?hs ?ht; (case F => k_asm); (case N => k_asm); (case hl => first | exact News.get (by assumption) (by k_mem) | exact Fr.keep (by assumption) _ _ (by assumption) | fail "no such list"); (case ho => exact isLs _ _); (case h0 => omega); (case h1 => omega); (case hz => assumption); (case hs => with_unfolding_all rfl); (case ht => (intro _; with_unfolding_all rfl)); k_whole; intro D' h' F' N' l1; (try k_lt l1); (try k_sweep))
  | (refine' item_par ?hl ?_ ?hs; (case hl => exact News.get (by assumption) (by k_mem)); (case hs => with_unfolding_all rfl); k_whole))))
-- part Due
namespace Mine
theorem freshDue : True := by w_top off; trivial
local macro_rules | `(tactic| kct_strs) => `(tactic| first | with_reducible assumption | with_reducible exact And.left (by assumption) | fail "asl")
local macro_rules | `(tactic| k_lt $h:ident) => `(tactic| replace $h := lt_split $h)
local macro_rules | `(tactic| walk_at "storeName") => `(tactic| (k_dflt (refine' storeC_C ?F ?N ?c ?U ?d ?_ ?a ?b; (case a => rfl); (case b => rfl); (case F => k_asm); (case N => k_asm); (case c => rfl); (case U => k_updF); (case d => k_asm); k_whole; intro h' o' F' N' d'; (try dsimp only at N'); (try k_sweep))))
local macro_rules | `(tactic| k_mem) => `(tactic| assumption)

section
variable {w : World} {A : Around} {s : Shared} {E : Value → Shared → Prop}
theorem item_li {value slice : Expr} {l : Addr} {o : Obj} {its : Array Value} {t : Nat} {u : Tok} {x : Value} {Q : Value → Shared → Prop} (hl : s.heap.get? l = some o) (ho : IsLs o its) (hx : its[t]? = some x) (ht : t ≤ 1000) (h : Q x s)
    (hs : subscripted slice false (.ref l) (.int t u) = operate [.ref l, .int t u] (getItem (.ref l) (.int t u)) := by with_unfolding_all rfl) :
    wpAny (MM w) A (subscriptTail value slice (.ref l) (.int t u)) Q E s :=
  tail_any (Heap.IsList.typeIs ⟨_, hl, ho.1, ho.2⟩) slot_list_getitem.lookup (wpAny_getItem_list (items := its) (x := x) ⟨_, hl, ho.1, ho.2⟩ (by omega) (by omega) (by simpa using hx) h) hs
end
local macro_rules | `(tactic| walk_at "subscriptTail Name Name ref int") => `(tactic| (k_dflt (refine' item_li ?hl ?ho ?hx ?ht ?_ ?hs; (case hl => first | exact News.get (by assumption) (by k_mem) | exact Fr.keep (by assumption) _ _ (by assumption) | fail "no such list"); (case ho => exact isLs _ _); (case hx => assumption); (case ht => omega); (case hs => with_unfolding_all rfl); k_whole)))
local macro_rules | `(tactic| walk_at "compareOp Eq ref ref") => `(tactic| (k_dflt (refine' ke_eq_ints ?ha ?hb ?hi ?hj ?hu ?_; (case ha => exact ⟨_, News.get (by assumption) (by k_mem), rfl, _, rfl⟩); (case hb => exact ⟨_, News.get (by assumption) (by k_mem), rfl, _, rfl⟩); (case hi => assumption); (case hj => assumption); (case hu => (show Around.units _ + 3 + 64 < _; omega)); k_whole)))
abbrev MD (a1 : Option Value) : Str → Option Value := fun y => if y = Str.ofString "due" then a1 else none
theorem fr_MD {g h : Heap} {L : Addr} {m : Str → Option Value} {a1 : Option Value} (F : Fr g L h m) (h1 : m (Str.ofString "due") = a1)
    (hr : ∀ y, y ≠ Str.ofString "due" → m y = none) : Fr g L h (MD a1) := fr_map F fun y => by
  unfold MD
  by_cases e1 : y = Str.ofString "due"
  · subst e1; rw [if_pos rfl]; exact h1
  rw [if_neg e1]; exact hr y e1

section
variable {w : World} {mg mb : Str → Option Value} {A : Around} {s : Shared} {b : Heap} {Q E : Value → Shared → Prop} {R : Result → Shared → Prop}
theorem due {kp : Addr} {ko : Obj} {vs : List Value} {ns : List Int}
    (G : Gd w mg mb b s.heap) (hd : A.depth + 10 < recursionLimit) (hA : A.handled = none) (hu : A.units + 100 < cLine) (hk : s.heap.get? kp = some ko) (hko : IsLs ko vs.toArray) (hi : IntsAre vs ns) (hn : ns.length ≤ 100)
    (hret : ∀ (P : Addr) (ps : List Value) (extra : List (Addr × Obj)) (nP : Nat) (h' : Heap) (tk : Nat), h'.get? P = some (listOf ps.toArray nP) → ps.length = ns.length - 1 → (∀ j (hj : j < ps.length), LLAt extra ps[j] (dueAt ns (j + 1))) →
      (∀ q ∈ extra, h'.get? q.1 = some q.2 ∧ s.heap.get? q.1 = none) → s.heap.get? P = none → Chg [] s.heap h' → Q (.ref P) { s with heap := h', toks := tk }) :
    wpAny (MM w) A (call (.ref 288) [.ref kp]) Q E s := by
  have X := G.K
  have hl : Led b s.heap [] := Led.nil
  refine wpAny_call ?_
  k_dflt (refine' enterC (binds := [(Str.ofString "kinds", .ref kp)]) G hl ?k6 ?k7 (by omega) ?k9 ?kB ?c5 ?_ ?c2 ?c3 ?c4; (case k6 => k_is); (case k7 => k_is); (case k9 => exact BindsTo.of_eq rfl); (case c5 => decide); (case kB => exact rfl); (case c2 => exact rfl); (case c3 => exact rfl); (case c4 => exact rfl); k_whole)
  clear X
  intro g L h₁ tk cells hg F N Y X T lt
  clear lt
  k_cells Y
  have cL0 : @LT.lt Nat _ L (L + 1) := Nat.lt_add_one _
  have cL1 : @LT.lt Nat _ (L + 1) (L + 1 + 1) := Nat.lt_add_one _
  have cL2 : @LT.lt Nat _ (L + 1 + 1) (L + 1 + 1 + 1) := Nat.lt_add_one _
  have cL3 : @LT.lt Nat _ (L + 1 + 1 + 1) (L + 1 + 1 + 1 + 1) := Nat.lt_add_one _
  (try simp only [List.cons_append, List.nil_append] at N)
  try dsimp only
  refine body_k ?_
  intro K0 hK0
  have hgk : g.get? kp = some ko := by rw [hg]; exact hideAll_get _ hk (by simp)
  have st := st_of G hl
  rw [← hg] at st
  k_steps
  rename Fr g L _ _ => F1
  refine len_list (items := vs.toArray) ⟨ko, F1.keep _ _ hgk, hko.1, hko.2⟩ (by simp; have := hi.length; omega) ?_
  rw [List.size_toArray, hi.length]
  dsimp only
  k_steps
  rename Fr g L _ _ => F2
  rename News g L _ _ => N2
  refine unpack2 hA F2 N2 (by k_mem) rfl rfl ?_
  intro h3 F3 N3
  clear F2 N2
  k_steps
  rename Fr g L _ _ => F2
  rename News g L _ _ => N2
  rename IsRange _ _ _ _ _ _ _ _ => R2
  refine iter_ra F2 N2 R2 (by decide) (by decide) (Int.natCast_nonneg _) (by first | with_reducible exact le1000 (by assumption) | omega) ?_
  intro J hb Fc Nc lJ
  clear F2 N2
  k_lt lJ
  rw [rng1 ns.length] at Nc
  obtain ⟨U, oF, oN, oS, oK, ts, Nz, lU, lUJ, dF, dN, dS, dK, Fz⟩ : Ex6 fun (U : Addr) (oF oN oS oK : Obj) (ts : Tok) => And8 (News g L hb [(J, riObj 1 ((ns.length - 1 : Nat) : Int) 1), (U, listOf #[] 0), (L + 1 + 1 + 1 + 1, oF), (L + 1 + 1 + 1, oN), (L + 1 + 1, oS), (L + 1, oK)]) (@LT.lt Nat _ (L + 1 + 1 + 1 + 1) U) (@LT.lt Nat _ U J) (oF.data = .cell none) (oN.data = .cell none) (oS.data = .cell (some (.int ns.length ts))) (oK.data = .cell (some (.ref kp))) (Fr g L hb (MD (some (.ref U)))) :=
    ⟨_, _, _, _, _, _, (by (repeat (first | exact Nc | exact ndrop 1 Nc | exact ndrop 2 Nc | exact ndrop 3 Nc | exact News.nil | refine news_mk Nc (by k_mem) ?_))), by omega, by omega, by assumption, by assumption, by assumption, by assumption, fr_MD Fc rfl (by intro y h1; simp only [h1, if_false]; rfl)⟩
  clear Fc Nc lJ
  dsimp only
  refine for_ind (α := Nat) (fun i s' => Ex9 fun (h : Heap) (tk : Nat) (vF vL : Option Value) (ps : List Value) (ex : List (Addr × Obj)) (nP : Nat) (oF oN : Obj) => And9 (s' = { s with heap := h, toks := tk }) (Fr g L h (MD (some (.ref U)))) (i ≤ ns.length - 1) (ps.length = i) (OwnOff ex [J, U, L + 1 + 1 + 1 + 1, L + 1 + 1 + 1, L + 1 + 1, L + 1]) (∀ j (hj : j < ps.length), LLAt ex ps[j] (dueAt ns (j + 1))) (oF.data = .cell vF) (oN.data = .cell vL) (News g L h ((J, riObj (1 + i) ((ns.length - 1 : Nat) - i) 1) :: (U, listOf ps.toArray nP) :: (L + 1 + 1 + 1 + 1, oF) :: (L + 1 + 1 + 1, oN) :: (L + 1 + 1, oS) :: (L + 1, oK) :: ex))) (fun i => ns.length - 1 - i) ?_ 0 ?_
  case refine_2 => exact ⟨_, _, _, _, [], [], _, _, _, rfl, Fz, Nat.zero_le _, rfl, (fun p hp => nomatch hp), (fun j hj => absurd hj (Nat.not_lt_zero _)), dF, dN, Nz⟩
  clear Fz Nz dF dN
  clear oF oN
  rintro i s' ⟨hc, tkc, vF, vL, ps, ex, nP, oF, oN, rfl, Fd, hile, hps, off, hpl, dF, dN, Nd⟩
  intro K1 hK1
  refine turn_name ?_
  by_cases hin : i < ns.length - 1
  · refine next_ri (News.get Nd (by k_mem)) (by first | with_reducible exact pos1 (by assumption) | omega) ?_
    intro hd cd ed
    refine upd_k Fd Nd (by k_upd) cd ed fun Fe Ne => ?_
    clear Fd Nd cd ed
    dsimp only
    k_steps
    rename Fr g L _ _ => Ff
    rename News g L _ _ => Nf
    rename IsRange _ _ _ _ _ _ _ _ => Rf
    rename_i oN2 _ _ dN2 _ _ _ _ _ _
    refine iter_ra Ff Nf Rf (by decide) (by decide) (Int.natCast_nonneg _) (by first | with_reducible exact le1000 (by assumption) | omega) ?_
    intro I h6 Fg Ng lI
    rw [rng0 ns.length] at Ng
    refine comp_go rfl Fg Ng X T (by decide) rfl (.head _) (fun s' Q' E' h h' => wpAny_pyIter_rangeiter h h') ?_
    intro C D g2 h7 tk7 hg2 F5 N5 X5 T5 lD lC hgg hL2
    clear Ff Nf Fg Ng
    k_lt lI
    k_lt lD
    have eI : AllLt I ex := by first | exact lI.2 | exact allLt_drop 1 lI.2 | exact allLt_drop 2 lI.2 | exact allLt_drop 3 lI.2 | exact allLt_drop 4 lI.2 | exact allLt_drop 5 lI.2 | exact allLt_drop 6 lI.2 | exact allLt_drop 7 lI.2 | exact allLt_drop 8 lI.2 | exact allLt_drop 9 lI.2 | exact allLt_drop 10 lI.2 | exact allLt_drop 11 lI.2 | exact allLt_drop 12 lI.2 | exact allLt_drop 13 lI.2 | exact allLt_drop 14 lI.2 | exact allLt_drop 15 lI.2
    have eD : AllLt D ex := by first | exact lD.2 | exact allLt_drop 1 lD.2 | exact allLt_drop 2 lD.2 | exact allLt_drop 3 lD.2 | exact allLt_drop 4 lD.2 | exact allLt_drop 5 lD.2 | exact allLt_drop 6 lD.2 | exact allLt_drop 7 lD.2 | exact allLt_drop 8 lD.2 | exact allLt_drop 9 lD.2 | exact allLt_drop 10 lD.2 | exact allLt_drop 11 lD.2 | exact allLt_drop 12 lD.2 | exact allLt_drop 13 lD.2 | exact allLt_drop 14 lD.2 | exact allLt_drop 15 lD.2
    have off3 : OwnOff ex [D, I, J, U, L + 1 + 1 + 1 + 1, L + 1 + 1 + 1, L + 1 + 1, L + 1] := (off_push eD (off_push eI off))
    have st2 : b.StaysIn g2 := fun a o e => hgg _ _ (st _ _ e)
    refine comp_ind0 (α := Nat) (fun t s' => Ex6 fun (h : Heap) (tk : Nat) (m' : Str → Option Value) (cs : List Value) (ex2 : List (Addr × Obj)) (nD : Nat) => And8 (s' = { s with heap := h, toks := tk }) (Fr g2 C h m') (t ≤ ns.length) (cs.length = t) (OwnOff ex2 [D, I, J, U, L + 1 + 1 + 1 + 1, L + 1 + 1 + 1, L + 1 + 1, L + 1]) (∀ q ∈ ex, q ∈ ex2) (∀ j (hj : j < cs.length), ∃ c us k', cs[j]? = some (.ref c) ∧ (c, listOf (List.toArray us) k') ∈ ex2 ∧ IntsAre us (frontAt ns (i + 1) j)) (News g2 C h ((D, listOf cs.toArray nD) :: (I, riObj t (ns.length - t) 1) :: (J, riObj (1 + i + 1) ((ns.length - 1 : Nat) - i - 1) 1) :: (U, listOf ps.toArray nP) :: (L + 1 + 1 + 1 + 1, oF) :: (L + 1 + 1 + 1, oN2) :: (L + 1 + 1, oS) :: (L + 1, oK) :: ex2))) (fun t => ns.length - t) ?_ 0 ?_
    case refine_2 => exact ⟨_, _, _, [], ex, 0, rfl, F5, Nat.zero_le _, rfl, off3, (fun q hq => hq), (fun j hj => absurd hj (Nat.not_lt_zero _)), by simpa using N5⟩
    clear F5 N5
    rintro t s' ⟨h8, tk8, m8, cs, ex2, nD, rfl, F6, htle, hcs, off4, hsub2, hch, N6⟩
    intro K2 hK2
    by_cases htn : t < ns.length
    · refine next_ri (News.get N6 (by k_mem)) (by first | with_reducible exact pos1 (by assumption) | omega) ?_
      intro h9 c9 e9
      refine upd_k F6 N6 (by k_upd) c9 e9 fun F7 N7 => ?_
      clear F6 N6 c9 e9
      have hgk2 := hgg _ _ hgk
      dsimp only
      k_steps
      rename Fr g2 C _ _ => Fg
      rename News g2 C _ _ => Ng
      refine kmk_add_lit (zs := vs ++ vs) Fg Ng ⟨ko, Fg.keep _ _ hgk2, hko.1, hko.2⟩ ⟨ko, Fg.keep _ _ hgk2, hko.1, hko.2⟩ (by simp) (fun D' h' Fh Nh lD' => ?_) (fit2 hi.length hn)
      clear Fg Ng
      k_lt lD'
      have hvv : (vs ++ vs).length ≤ 1000 := by rw [List.length_append, hi.length]; omega
      dsimp only
      k_steps
      rename Fr g2 C _ _ => Fj
      rename News g2 C _ _ => Nj
      rename_i Z zs _ hZ _ _ lZ _
      rw [show List.take (min ((t : Int) + (1 + (i : Int))).toNat (ns ++ ns).length - (t : Int).toNat) (List.drop (t : Int).toNat (ns ++ ns)) = frontAt ns (i + 1) t from by
        unfold frontAt
        rw [front_min htn hin]; rfl] at hZ
      rw [List.push_toArray, cast1 t, sub1c ns.length t] at Nj
      refine hK2 _ ?_; refine ⟨t + 1, (by first | with_reducible exact mdec (by assumption) | (dsimp only; omega)), _, _, _, cs ++ [.ref Z], (Z, listOf zs.toArray 0) :: ex2, nD + 1, rfl, Fj, htn, by simp [hcs], ?_, (fun q hq => List.mem_cons_of_mem _ (hsub2 q hq)), ?_, ?_⟩
      · exact off_cons (by repeat (first | exact na_nil | refine na_cons (by k_ne) ?_)) off4
      · intro j hj
        by_cases hjt : j < cs.length
        · obtain ⟨c', zs', k', f1, f2, f3⟩ := hch j hjt
          exact ⟨c', zs', k', by rw [List.getElem?_append_left hjt]; exact f1, List.mem_cons_of_mem _ f2, f3⟩
        · have : j = t := by rw [List.length_append, List.length_singleton] at hj; first | with_reducible exact eqLast hj (by assumption) (by assumption) | omega
          subst this
          exact ⟨Z, zs, 0, by rw [List.getElem?_append_right (by omega)]; simp [hcs], List.mem_cons_self .., hZ⟩
      · (repeat (first | exact Nj | exact ndrop 1 Nj | exact ndrop 2 Nj | exact ndrop 3 Nj | refine news_mk Nj (by k_mem) ?_ | exact ndrop 4 Nj | exact ndrop 5 Nj | exact ndrop 6 Nj | exact ndrop 7 Nj | exact ndrop 8 Nj | exact ndrop 9 Nj | exact ndrop 10 Nj | exact ndrop 11 Nj | exact ndrop 12 Nj | exact ndrop 13 Nj | exact ndrop 14 Nj | exact ndrop 15 Nj | exact ndrop 16 Nj | exact ndrop 17 Nj | exact ndrop 18 Nj | exact ndrop 19 Nj))
    · have hte : t = ns.length := by first | with_reducible exact eqEnd (by assumption) (by assumption) | omega
      subst hte
      refine end_ri hA (News.get N6 (by k_mem)) (by first | with_reducible exact le0 _ | omega) ?_
      intro h9 c9
      refine drop2_k F6 N6 c9 (by k_all) fun F7 N7 => ?_
      clear F6 N6 c9
      refine CompEnd.intro F7 N7 ?_
      intro h10 F8 N8
      clear F7 N7 X5 T5
      dsimp only
      k_steps
      rename Fr g L _ _ => Ff
      rename News g L _ _ => Nf
      rename_i _ oF2 dF2
      have offc : OwnOff ex2 [D, J, U, L + 1 + 1 + 1 + 1, L + 1 + 1 + 1, L + 1 + 1, L + 1] := off_del2 off4
      clear off4 hg2 hL2 hgg st2 lC
      refine iter_li Ff Nf (News.get Nf (.head _)) (isLs _ _) ?_
      intro I1 h6 oI hI Fg Ng lI1
      refine comp_goC (y := Str.ofString "front") rfl Fg Ng X T (fun _ => rfl) (fun _ => rfl) (.head _) (fun s' Q' E' h h' => wpAny_pyIter_listiter ⟨_, h, hI⟩ h') ?_
      intro C1 D1 g2 h7 tk7 hg2 F5 N5 X5 T5 lD1 lC1 hgg hL2
      clear Ff Nf Fg Ng
      k_lt lI1
      k_lt lD1
      have eI1 : AllLt I1 ex2 := by first | exact lI1.2 | exact allLt_drop 1 lI1.2 | exact allLt_drop 2 lI1.2 | exact allLt_drop 3 lI1.2 | exact allLt_drop 4 lI1.2 | exact allLt_drop 5 lI1.2 | exact allLt_drop 6 lI1.2 | exact allLt_drop 7 lI1.2 | exact allLt_drop 8 lI1.2 | exact allLt_drop 9 lI1.2 | exact allLt_drop 10 lI1.2 | exact allLt_drop 11 lI1.2 | exact allLt_drop 12 lI1.2 | exact allLt_drop 13 lI1.2 | exact allLt_drop 14 lI1.2 | exact allLt_drop 15 lI1.2
      have eD1 : AllLt D1 ex2 := by first | exact lD1.2 | exact allLt_drop 1 lD1.2 | exact allLt_drop 2 lD1.2 | exact allLt_drop 3 lD1.2 | exact allLt_drop 4 lD1.2 | exact allLt_drop 5 lD1.2 | exact allLt_drop 6 lD1.2 | exact allLt_drop 7 lD1.2 | exact allLt_drop 8 lD1.2 | exact allLt_drop 9 lD1.2 | exact allLt_drop 10 lD1.2 | exact allLt_drop 11 lD1.2 | exact allLt_drop 12 lD1.2 | exact allLt_drop 13 lD1.2 | exact allLt_drop 14 lD1.2 | exact allLt_drop 15 lD1.2
      have eC1 : AllLt (C1 + 1) ex2 := allLt_mono eD1 (by have : @LT.lt Nat _ D1 C1 := lC1; omega)
      replace lC1 : @LT.lt Nat _ D1 C1 := lC1
      have off5 : OwnOff ex2 [C1 + 1, D1, I1, D, J, U, L + 1 + 1 + 1 + 1, L + 1 + 1 + 1, L + 1 + 1, L + 1] := (off_push eC1 (off_push eD1 (off_push eI1 offc)))
      refine comp_ind0 (α := Nat) (fun j s' => Ex9 fun (h : Heap) (tk : Nat) (m' : Str → Option Value) (qs : List Value) (ex3 : List (Addr × Obj)) (nQ : Nat) (oI oC : Obj) (vC : Option Value) => And10 (s' = { s with heap := h, toks := tk }) (Fr g2 C1 h m') (j ≤ ns.length) (qs.length = j) (IsLi oI D j) (OwnOff ex3 [C1 + 1, D1, I1, D, J, U, L + 1 + 1 + 1 + 1, L + 1 + 1 + 1, L + 1 + 1, L + 1]) (∀ q ∈ ex2, q ∈ ex3) (∀ k (hk : k < qs.length), ∃ c zs k', qs[k]? = some (.ref c) ∧ (c, listOf zs k') ∈ ex3 ∧ StrsAre zs.toList (((List.range ns.length).filter fun t => decide (frontAt ns (i + 1) t = frontAt ns (i + 1) k)).map (fun (t : Nat) => Str.ofString (toString (t : Int))))) (oC.data = .cell vC) (News g2 C1 h ((C1 + 1, oC) :: (D1, listOf qs.toArray nQ) :: (I1, oI) :: (D, listOf cs.toArray nD) :: (J, riObj (1 + i + 1) ((ns.length - 1 : Nat) - i - 1) 1) :: (U, listOf ps.toArray nP) :: (L + 1 + 1 + 1 + 1, oF2) :: (L + 1 + 1 + 1, oN2) :: (L + 1 + 1, oS) :: (L + 1, oK) :: ex3))) (fun j => ns.length - j) ?_ 0 ?_
      case refine_2 => exact ⟨_, _, _, [], ex2, 0, _, _, _, rfl, F5, Nat.zero_le _, rfl, hI, off5, (fun q hq => hq), (fun j hj => absurd hj (Nat.not_lt_zero _)), rfl, N5⟩
      clear F5 N5
      rintro j s' ⟨h8, tk8, m8, qs, ex3, nQ, oI1, oC, vC, rfl, F6, hjle, hqs, hI1, off6, hsub3, hqh, dC, N6⟩
      intro K3 hK3
      by_cases hjn : j < ns.length
      · obtain ⟨cj, uj, kj, hj1, hj2, hj3⟩ := hch j (by omega)
        refine next_li (x := .ref cj) (News.get N6 (by k_mem)) hI1 (News.get N6 (by k_mem)) (isLs _ _) (by simpa using hj1) ?_
        intro h9 oI1' hI1' c9 e9
        refine upd_k F6 N6 (by k_upd) c9 e9 fun F7 N7 => ?_
        clear F6 N6 c9 e9
        dsimp only
        k_steps
        rename Fr g2 C1 _ _ => Ff
        rename News g2 C1 _ _ => Nf
        rename IsRange _ _ _ _ _ _ _ _ => Rf
        rename_i oC2 _ _ dC2 _ _ _ _ _ _
        refine iter_ra Ff Nf Rf (by decide) (by decide) (Int.natCast_nonneg _) (by first | with_reducible exact le1000 (by assumption) | omega) ?_
        intro I2 h6 Fg Ng lI2
        rw [rng0 ns.length] at Ng
        refine comp_go rfl Fg Ng X5 T5 (by decide) rfl (.head _) (fun s' Q' E' h h' => wpAny_pyIter_rangeiter h h') ?_
        intro C2 D2 g3 h7 tk7 hg3 F8 N8 X6 T6 lD2 lC2 hgg3 hL3
        clear Ff Nf Fg Ng hL3 hgg3 hg3
        k_lt lI2
        k_lt lD2
        have eI2 : AllLt I2 ex3 := by first | exact lI2.2 | exact allLt_drop 1 lI2.2 | exact allLt_drop 2 lI2.2 | exact allLt_drop 3 lI2.2 | exact allLt_drop 4 lI2.2 | exact allLt_drop 5 lI2.2 | exact allLt_drop 6 lI2.2 | exact allLt_drop 7 lI2.2 | exact allLt_drop 8 lI2.2 | exact allLt_drop 9 lI2.2 | exact allLt_drop 10 lI2.2 | exact allLt_drop 11 lI2.2 | exact allLt_drop 12 lI2.2 | exact allLt_drop 13 lI2.2 | exact allLt_drop 14 lI2.2 | exact allLt_drop 15 lI2.2
        have eD2 : AllLt D2 ex3 := by first | exact lD2.2 | exact allLt_drop 1 lD2.2 | exact allLt_drop 2 lD2.2 | exact allLt_drop 3 lD2.2 | exact allLt_drop 4 lD2.2 | exact allLt_drop 5 lD2.2 | exact allLt_drop 6 lD2.2 | exact allLt_drop 7 lD2.2 | exact allLt_drop 8 lD2.2 | exact allLt_drop 9 lD2.2 | exact allLt_drop 10 lD2.2 | exact allLt_drop 11 lD2.2 | exact allLt_drop 12 lD2.2 | exact allLt_drop 13 lD2.2 | exact allLt_drop 14 lD2.2 | exact allLt_drop 15 lD2.2
        have off7 : OwnOff ex3 [D2, I2, C1 + 1, D1, I1, D, J, U, L + 1 + 1 + 1 + 1, L + 1 + 1 + 1, L + 1 + 1, L + 1] := (off_push eD2 (off_push eI2 off6))
        refine comp_ind1 (α := Nat) (fun t s' => Ex5 fun (h : Heap) (tk : Nat) (m' : Str → Option Value) (zs : Array Value) (nZ : Nat) => And6 (s' = { s with heap := h, toks := tk }) (Fr g3 C2 h m') (t ≤ ns.length) (zs.size ≤ t) (StrsAre zs.toList ((((List.range ns.length).take t).filter fun t => decide (frontAt ns (i + 1) t = frontAt ns (i + 1) j)).map (fun (t : Nat) => Str.ofString (toString (t : Int))))) (News g3 C2 h ((D2, listOf zs nZ) :: (I2, riObj t (ns.length - t) 1) :: (C1 + 1, oC2) :: (D1, listOf qs.toArray nQ) :: (I1, oI1') :: (D, listOf cs.toArray nD) :: (J, riObj (1 + i + 1) ((ns.length - 1 : Nat) - i - 1) 1) :: (U, listOf ps.toArray nP) :: (L + 1 + 1 + 1 + 1, oF2) :: (L + 1 + 1 + 1, oN2) :: (L + 1 + 1, oS) :: (L + 1, oK) :: ex3))) (fun t => ns.length - t) ?_ 0 ?_
        case refine_2 => exact ⟨_, _, _, #[], 0, rfl, F8, Nat.zero_le _, Nat.le_refl _, .nil, by simpa using N8⟩
        clear F8 N8
        rintro t s' ⟨h8, tk9, m9, zs, nZ, rfl, F9, htle, hzs, hst, N9⟩
        intro K4 hK4
        by_cases htn : t < ns.length
        · refine next_ri (News.get N9 (by k_mem)) (by first | with_reducible exact pos1 (by assumption) | omega) ?_
          intro ha ca ea
          refine upd_k F9 N9 (by k_upd) ca ea fun Fa Na => ?_
          clear F9 N9 ca ea
          obtain ⟨ct, ut, kt, ht1, ht2, ht3⟩ := hch t (by omega)
          have hft : cs.toArray[t]? = some (.ref ct) := by simpa using ht1
          have ht4 := hsub3 _ ht2
          have hj4 := hsub3 _ hj2
          have hrt : (List.range ns.length)[t]'(by rw [List.length_range]; exact htn) = t := List.getElem_range _
          have hzz : zs.size ≤ 1000 := by omega
          dsimp only
          k_steps
          · rename News g3 C2 _ _ => Nj
            rename Fr g3 C2 _ _ => Fj
            rename frontAt ns (i + 1) t = frontAt ns (i + 1) j => hfe
            rw [cast1 t, sub1c ns.length t] at Nj
            refine hK4 _ ?_; exact ⟨t + 1, (by first | with_reducible exact mdec (by assumption) | (dsimp only; omega)), _, _, _, _, _, rfl, Fj, htn, (by rw [Array.size_push]; omega), (by
              rw [List.take_add_one, List.getElem?_eq_getElem (by rw [List.length_range]; exact htn), hrt, List.filter_append, List.map_append]
              rw [show (Option.some t).toList = [t] from rfl, List.filter_cons_of_pos (by simp [hfe])]
              exact strs_push hst), Nj⟩
          · rename News g3 C2 _ _ => Nj
            rename Fr g3 C2 _ _ => Fj
            rename ¬ (frontAt ns (i + 1) t = frontAt ns (i + 1) j) => hfe
            rw [cast1 t, sub1c ns.length t] at Nj
            refine hK4 _ ?_; exact ⟨t + 1, (by first | with_reducible exact mdec (by assumption) | (dsimp only; omega)), _, _, _, _, _, rfl, Fj, htn, (by omega), (by
              rw [List.take_add_one, List.getElem?_eq_getElem (by rw [List.length_range]; exact htn), hrt, List.filter_append, List.map_append]
              rw [show (Option.some t).toList = [t] from rfl, List.filter_cons_of_neg (by simp [hfe])]
              simpa using hst), Nj⟩
        · have hte : t = ns.length := by first | with_reducible exact eqEnd (by assumption) (by assumption) | omega
          subst hte
          refine end_ri hA (News.get N9 (by k_mem)) (by first | with_reducible exact le0 _ | omega) ?_
          intro ha ca
          refine drop2_k F9 N9 ca (by k_all) fun Fa Na => ?_
          clear F9 N9 ca
          refine CompEnd.intro Fa Na ?_
          intro hb Fb Nb
          clear Fa Na X6 T6
          rw [List.take_of_length_le (by rw [List.length_range]; exact Nat.le_refl _)] at hst
          have hqz : qs.toArray.size ≤ 1000 := by simp; omega
          dsimp only
          k_steps
          rename News g2 C1 _ _ => Nj
          rename Fr g2 C1 _ _ => Fj
          rw [List.push_toArray] at Nj
          refine hK3 _ ?_; refine ⟨j + 1, (by first | with_reducible exact mdec (by assumption) | (dsimp only; omega)), _, _, _, qs ++ [.ref D2], (D2, listOf zs nZ) :: ex3, nQ + 1, oI1', oC2, _, rfl, Fj, hjn, by simp [hqs], hI1', ?_, (fun q hq => List.mem_cons_of_mem _ (hsub3 q hq)), ?_, dC2, ?_⟩
          · exact off_cons (by repeat (first | exact na_nil | refine na_cons (by k_ne) ?_)) off6
          · intro k hk
            by_cases hkj : k < qs.length
            · obtain ⟨c', zs', k', f1, f2, f3⟩ := hqh k hkj
              exact ⟨c', zs', k', by rw [List.getElem?_append_left hkj]; exact f1, List.mem_cons_of_mem _ f2, f3⟩
            · have : k = j := by rw [List.length_append, List.length_singleton] at hk; first | with_reducible exact eqLast hk (by assumption) (by assumption) | omega
              subst this
              exact ⟨D2, zs, nZ, by rw [List.getElem?_append_right (by omega)]; simp [hqs], List.mem_cons_self .., hst⟩
          · (repeat (first | exact Nj | exact ndrop 1 Nj | exact ndrop 2 Nj | exact ndrop 3 Nj | refine news_mk Nj (by k_mem) ?_ | exact ndrop 4 Nj | exact ndrop 5 Nj | exact ndrop 6 Nj | exact ndrop 7 Nj | exact ndrop 8 Nj | exact ndrop 9 Nj | exact ndrop 10 Nj | exact ndrop 11 Nj | exact ndrop 12 Nj | exact ndrop 13 Nj | exact ndrop 14 Nj | exact ndrop 15 Nj | exact ndrop 16 Nj | exact ndrop 17 Nj | exact ndrop 18 Nj | exact ndrop 19 Nj))
      · have hje : j = ns.length := by first | with_reducible exact eqEnd (by assumption) (by assumption) | omega
        subst hje
        refine end_li hA (News.get N6 (by k_mem)) hI1 (News.get N6 (by k_mem)) (isLs _ _) (by simp [hcs]) ?_
        intro h9 c9
        refine drop_k (I := I1) (news := (D1, listOf qs.toArray nQ) :: (D, listOf cs.toArray nD) :: (J, riObj (1 + i + 1) ((ns.length - 1 : Nat) - i - 1) 1) :: (U, listOf ps.toArray nP) :: (L + 1 + 1 + 1 + 1, oF2) :: (L + 1 + 1 + 1, oN2) :: (L + 1 + 1, oS) :: (L + 1, oK) :: ex3) F6 (by repeat (first | exact ndrop 3 N6 | refine news_mk N6 (by k_mem) ?_)) c9 (by k_all) fun F7 N7 => ?_
        clear F6 N6 c9
        refine CompEnd.intro F7 N7 ?_
        intro h10 F8 N8
        clear F7 N7 X5 T5
        have hpsz : ps.toArray.size ≤ 1000 := by simp; omega
        dsimp only
        k_steps
        rename News g L _ _ => Nj
        rename Fr g L _ _ => Fj
        rw [List.push_toArray] at Nj
        rw [one1 i, sub1c (ns.length - 1) i] at Nj
        refine hK1 _ _ ?_; refine ⟨i + 1, (by first | with_reducible exact mdec (by assumption) | (dsimp only; omega)), _, _, _, _, ps ++ [.ref D1], (D1, listOf qs.toArray nQ) :: ex3, nP + 1, oF2, oN2, rfl, Fj, hin, by simp [hps], ?_, ?_, dF2, dN2, ?_⟩
        · exact off_cons (by repeat (first | exact na_nil | refine na_cons (by k_ne) ?_)) (off_drop (off_drop (off_drop (off_drop off6))))
        · intro k hk
          by_cases hki : k < ps.length
          · rw [List.getElem_append_left hki]
            exact (hpl k hki).mono fun q hq => List.mem_cons_of_mem _ (hsub3 q (hsub2 q hq))
          · have : k = i := by rw [List.length_append, List.length_singleton] at hk; first | with_reducible exact eqLast hk (by assumption) (by assumption) | omega
            subst this
            rw [List.getElem_append_right (by omega)]
            simp only [hps, Nat.sub_self, List.getElem_singleton]
            have hwl2 : (dueAt ns (k + 1)).length = ns.length := by unfold dueAt; rw [List.length_map, List.length_range]
            refine ⟨D1, qs.toArray, nQ, rfl, List.mem_cons_self .., by rw [List.size_toArray, hqs, hwl2], fun j hj => ?_⟩
            obtain ⟨c, zs, k', f1, f2, f3⟩ := hqh j (by omega)
            refine ⟨c, zs, k', by simpa using f1, List.mem_cons_of_mem _ f2, ?_⟩
            simpa only [dueAt, List.getElem_map, List.getElem_range] using f3
        · (repeat (first | exact Nj | exact ndrop 1 Nj | exact ndrop 2 Nj | exact ndrop 3 Nj | refine news_mk Nj (by k_mem) ?_ | exact ndrop 4 Nj | exact ndrop 5 Nj | exact ndrop 6 Nj | exact ndrop 7 Nj | exact ndrop 8 Nj | exact ndrop 9 Nj | exact ndrop 10 Nj | exact ndrop 11 Nj | exact ndrop 12 Nj | exact ndrop 13 Nj | exact ndrop 14 Nj | exact ndrop 15 Nj | exact ndrop 16 Nj | exact ndrop 17 Nj | exact ndrop 18 Nj | exact ndrop 19 Nj))
  · have hie : i = ns.length - 1 := by first | with_reducible exact eqEnd (by assumption) (by assumption) | omega
    subst hie
    refine end_ri hA (News.get Nd (.head _)) (by first | with_reducible exact le0 _ | omega) ?_
    intro hd2 cd
    refine drop_k Fd Nd cd (by k_all) fun Fe Ne => ?_
    clear Fd Nd cd
    dsimp only
    k_steps
    subst hg
    refine hK0 _ _ ?_
    try dsimp only
    refine hret U ps ex nP _ _ (News.get Ne (.head _)) hps hpl (fun q hq => ?_) ?_ (chg_of Fe)
    · have n := Ne q (by repeat (first | exact hq | refine List.Mem.tail _ ?_))
      exact ⟨n.1, fresh_of n.2.2 (by simp)⟩
    · exact fresh_of (Ne _ (.head _)).2.2 (by simp)
end
end Mine
-- part Cut
namespace Mine
theorem freshCut : True := by w_top off; trivial
local macro_rules | `(tactic| k_mem) => `(tactic| assumption)
abbrev MK (a1 a2 a3 a4 a5 a6 a7 a8 : Option Value) : Str → Option Value := fun y => if y = Str.ofString "kinds" then a1 else if y = Str.ofString "places" then a2 else if y = Str.ofString "size" then a3 else if y = Str.ofString "ring" then a4 else if y = Str.ofString "turn" then a5 else if y = Str.ofString "length" then a6 else if y = Str.ofString "ends" then a7 else if y = Str.ofString "rest" then a8 else none
theorem fr_MK {g h : Heap} {L : Addr} {m : Str → Option Value} {a1 a2 a3 a4 a5 a6 a7 a8 : Option Value} (F : Fr g L h m) (h1 : m (Str.ofString "kinds") = a1) (h2 : m (Str.ofString "places") = a2) (h3 : m (Str.ofString "size") = a3) (h4 : m (Str.ofString "ring") = a4) (h5 : m (Str.ofString "turn") = a5) (h6 : m (Str.ofString "length") = a6) (h7 : m (Str.ofString "ends") = a7) (h8 : m (Str.ofString "rest") = a8)
    (hr : ∀ y, y ≠ Str.ofString "kinds" → y ≠ Str.ofString "places" → y ≠ Str.ofString "size" → y ≠ Str.ofString "ring" → y ≠ Str.ofString "turn" → y ≠ Str.ofString "length" → y ≠ Str.ofString "ends" → y ≠ Str.ofString "rest" → m y = none) : Fr g L h (MK a1 a2 a3 a4 a5 a6 a7 a8) := fr_map F fun y => by
  unfold MK
  by_cases e1 : y = Str.ofString "kinds"
  · subst e1; rw [if_pos rfl]; exact h1
  by_cases e2 : y = Str.ofString "places"
  · subst e2; rw [if_neg e1, if_pos rfl]; exact h2
  by_cases e3 : y = Str.ofString "size"
  · subst e3; rw [if_neg e1, if_neg e2, if_pos rfl]; exact h3
  by_cases e4 : y = Str.ofString "ring"
  · subst e4; rw [if_neg e1, if_neg e2, if_neg e3, if_pos rfl]; exact h4
  by_cases e5 : y = Str.ofString "turn"
  · subst e5; rw [if_neg e1, if_neg e2, if_neg e3, if_neg e4, if_pos rfl]; exact h5
  by_cases e6 : y = Str.ofString "length"
  · subst e6; rw [if_neg e1, if_neg e2, if_neg e3, if_neg e4, if_neg e5, if_pos rfl]; exact h6
  by_cases e7 : y = Str.ofString "ends"
  · subst e7; rw [if_neg e1, if_neg e2, if_neg e3, if_neg e4, if_neg e5, if_neg e6, if_pos rfl]; exact h7
  by_cases e8 : y = Str.ofString "rest"
  · subst e8; rw [if_neg e1, if_neg e2, if_neg e3, if_neg e4, if_neg e5, if_neg e6, if_neg e7, if_pos rfl]; exact h8
  rw [if_neg e1, if_neg e2, if_neg e3, if_neg e4, if_neg e5, if_neg e6, if_neg e7, if_neg e8]; exact hr y e1 e2 e3 e4 e5 e6 e7 e8

def tokAt : Value → Tok
  | .int _ t => t
  | _ => 0
theorem ring_get {vs : List Value} {ns : List Int} (hi : IntsAre vs ns) {j : Nat} (hj : j < ns.length) : vs[j]? = some (.int (ns.getD j 0) (tokAt (vs.getD j .none))) := by
  obtain ⟨t, ht⟩ := hi.get j (ns.getD j 0) (by rw [List.getD_eq_getElem?_getD, List.getElem?_eq_getElem hj]; rfl)
  rw [List.getD_eq_getElem?_getD (l := vs), ht]; rfl
section
variable {w : World} {A : Around} {s : Shared} {E : Value → Shared → Prop}
theorem item_ring {value slice : Expr} {l : Addr} {vs : List Value} {ns : List Int} {n : Nat} {k : Int} {u : Tok} {Q : Value → Shared → Prop} (hl : s.heap.get? l = some (listOf vs.toArray n)) (hi : IntsAre vs ns) (h0 : -(ns.length : Int) ≤ k) (h1 : k < ns.length) (h2 : ns.length ≤ 1000)
    (h : Q (.int (ns.getD (pyIdx k ns.length) 0) (tokAt (vs.getD (pyIdx k ns.length) .none))) s)
    (hs : subscripted slice false (.ref l) (.int k u) = operate [.ref l, .int k u] (getItem (.ref l) (.int k u)) := by with_unfolding_all rfl) :
    wpAny (MM w) A (subscriptTail value slice (.ref l) (.int k u)) Q E s := by
  refine tail_any (Heap.IsList.typeIs ⟨_, hl, rfl, _, rfl⟩) slot_list_getitem.lookup ?_ hs
  have hln := hi.length
  by_cases hk : k < 0
  · have e : pyIdx k ns.length = (k + ns.length).toNat := if_pos hk
    rw [e] at h
    refine wpAny_getItem_list_neg (items := vs.toArray) ⟨_, hl, rfl, _, rfl⟩ hk (by simp; omega) (by omega) ?_ h
    have := ring_get hi (j := (k + ns.length).toNat) (by omega)
    simpa [hln] using this
  · have e : pyIdx k ns.length = k.toNat := if_neg hk
    rw [e] at h
    refine wpAny_getItem_list (items := vs.toArray) ⟨_, hl, rfl, _, rfl⟩ (by omega) (by omega) ?_ h
    have := ring_get hi (j := k.toNat) (by omega)
    simpa using this
theorem item_liZ {value slice : Expr} {l : Addr} {o : Obj} {its : Array Value} {k : Int} {u : Tok} {x : Value} {Q : Value → Shared → Prop} (hl : s.heap.get? l = some o) (ho : IsLs o its) (hx : its[k.toNat]? = some x) (h0 : 0 ≤ k) (ht : k ≤ 1000) (h : Q x s)
    (hs : subscripted slice false (.ref l) (.int k u) = operate [.ref l, .int k u] (getItem (.ref l) (.int k u)) := by with_unfolding_all rfl) :
    wpAny (MM w) A (subscriptTail value slice (.ref l) (.int k u)) Q E s :=
  tail_any (Heap.IsList.typeIs ⟨_, hl, ho.1, ho.2⟩) slot_list_getitem.lookup (wpAny_getItem_list (items := its) (x := x) ⟨_, hl, ho.1, ho.2⟩ (by omega) (by omega) hx h) hs
theorem mod_at {x y z : Int} {t u : Tok} {Q : Value → Shared → Prop} (h0 : y ≠ 0) (e : Int.fmod x y = z) (h : Q (.int z s.toks) { s with toks := s.toks + 1 }) : wpAny (MM w) A (binaryOp .Mod (.int x t) (.int y u)) Q E s := mod_int' h0 (by rw [e]; exact h)
theorem eq_bools4 {a b : Addr} {b0 b1 b2 b3 c : Bool} {n k : Nat} {Q : Value → Shared → Prop} (ha : s.heap.get? a = some (listOf #[.bool b0, .bool b1, .bool b2, .bool b3] n)) (hb : s.heap.get? b = some (listOf #[.bool true, .bool true, .bool false, .bool false] k)) (hu : A.units + 64 < cLine) (e : (b0 && b1 && !b2 && !b3) = c) (h : Q (.bool c) s) :
    wpAny (MM w) A (compareOp .Eq (.ref a) (.ref b)) Q E s := by
  have ra : Reads s.heap (.ref a) (.list [.bool b0, .bool b1, .bool b2, .bool b3]) (a :: ([] ++ ([] ++ ([] ++ ([] ++ []))))) := .list ha rfl rfl (.cons (.bool _) (.cons (.bool _) (.cons (.bool _) (.cons (.bool _) .nil))))
  have rb : Reads s.heap (.ref b) (.list [.bool true, .bool true, .bool false, .bool false]) (b :: ([] ++ ([] ++ ([] ++ ([] ++ []))))) := .list hb rfl rfl (.cons (.bool _) (.cons (.bool _) (.cons (.bool _) (.cons (.bool _) .nil))))
  refine eq_dataH_same ra rb rfl rfl hu (SeqAt.noMix_of_shape (.list .bool) rfl _ _ rfl rfl) ?_
  have e2 : PySem.Spec.same (.list [.bool b0, .bool b1, .bool b2, .bool b3]) (.list [.bool true, .bool true, .bool false, .bool false]) = c := by
    rw [← e]; cases b0 <;> cases b1 <;> cases b2 <;> cases b3 <;> rfl
  rw [e2]; exact h
end
/-- the value is a list of lists of strings in the heap -/
def LLH (h : Heap) (v : Value) (want : List (List Str)) : Prop :=
  ∃ r its k, v = .ref r ∧ h.get? r = some (listOf its k) ∧ its.size = want.length ∧ ∀ j (hj : j < want.length), ∃ c zs k', its[j]? = some (.ref c) ∧ h.get? c = some (listOf zs k') ∧ StrsAre zs.toList want[j]
local macro_rules | `(tactic| tb_start) => `(tactic| (k_dflt (refine' item_liZ ?hl ?ho ?hx ?h0 ?ht ?_ ?hs; (case hl => exact Fr.keep (by with_reducible assumption) _ _ (by with_reducible assumption)); (case ho => first | exact isLs _ _ | with_reducible assumption); (case hx => with_reducible assumption); (case h0 => omega); (case ht => omega); (case hs => with_unfolding_all rfl); k_whole)))
local macro_rules | `(tactic| tb_rel) => `(tactic| first | tb_start | (k_dflt (refine' item_ring ?hl ?hi ?h0 ?h1 ?h2 ?_ ?hs; (case hl => exact News.get (by assumption) (by k_mem)); (case hi => assumption); (case h0 => omega); (case h1 => omega); (case h2 => omega); (case hs => with_unfolding_all rfl); k_whole)) | (k_dflt (refine' item_liZ ?hl ?ho ?hx ?h0 ?ht ?_ ?hs; (case hl => first | exact News.get (by assumption) (by k_mem) | exact Fr.keep (by assumption) _ _ (by assumption) | fail "no such list"); (case ho => exact isLs _ _); (case hx => assumption); (case h0 => omega); (case ht => omega); (case hs => with_unfolding_all rfl); k_whole)))
local macro_rules | `(tactic| walk_at "subscriptTail Name Name ref int") => `(tactic| tb_rel)
local macro_rules | `(tactic| walk_at "subscriptTail Name BinOp ref int") => `(tactic| tb_rel)
local macro_rules | `(tactic| walk_at "subscriptTail Subscript Name ref int") => `(tactic| tb_rel)
local macro_rules | `(tactic| walk_at "subscriptTail Subscript BinOp ref int") => `(tactic| tb_rel)
local macro_rules | `(tactic| walk_at "subscriptTail") => `(tactic| tb_start)

local macro_rules | `(tactic| walk_at "call builtin:len") => `(tactic| (k_dflt (refine' len_list ?hl ?hz ?_; (case hl => exact ⟨_, Fr.keep (by with_reducible assumption) _ _ (by with_reducible assumption), rfl, _, rfl⟩); (case hz => omega); k_whole)))
local macro_rules | `(tactic| walk_at "binaryOp Mod int int") => `(tactic| (k_dflt (refine' mod_at ?h0 ?he ?_; (case h0 => with_reducible assumption); (case he => with_reducible assumption); k_whole)))
local macro_rules | `(tactic| walk_at "compareOp Eq ref ref") => `(tactic| (k_dflt (refine' eq_bools4 ?ha ?hb ?hu ?he ?_; (case ha => exact News.get (by assumption) (by k_mem)); (case hb => exact News.get (by assumption) (by k_mem)); (case hu => (show Around.units _ + 3 + 64 < _; omega)); (case he => with_reducible assumption); k_whole)))
section
variable {w : World} {mg mb : Str → Option Value} {A : Around} {s : Shared} {b : Heap} {Q E : Value → Shared → Prop} {R : Result → Shared → Prop}
theorem cut {kp pp : Addr} {ko po : Obj} {vs ps : List Value} {ns : List Int} {kind : Int} {tkk : Tok} {W : Nat → List (List Str)}
    (G : Gd w mg mb b s.heap) (hd : A.depth + 10 < recursionLimit) (hA : A.handled = none) (hu : A.units + 100 < cLine) (hk : s.heap.get? kp = some ko) (hko : IsLs ko vs.toArray) (hi : IntsAre vs ns) (hn : ns.length ≤ 100)
    (hp : s.heap.get? pp = some po) (hpo : IsLs po ps.toArray) (hpl : ps.length = ns.length - 1) (hps : ∀ i (hi : i < ps.length), LLH s.heap ps[i] (W i)) (hW : ∀ i, (W i).length = ns.length) (hWb : ∀ i j, ((W i).getD j []).length ≤ 1000)
    (hret : ∀ r h' tk, r = cutB ns (fun i j => ((W i).getD j []).length) kind → Chg [] s.heap h' → Q (.bool r) { s with heap := h', toks := tk }) :
    wpAny (MM w) A (call (.ref 300) [.ref kp, .ref pp, .int kind tkk]) Q E s := by
  have X := G.K
  have hl : Led b s.heap [] := Led.nil
  refine wpAny_call ?_
  k_dflt (refine' enterC (binds := [(Str.ofString "kinds", .ref kp), (Str.ofString "places", .ref pp), (Str.ofString "kind", .int kind tkk)]) G hl ?k6 ?k7 (by omega) ?k9 ?kB ?c5 ?_ ?c2 ?c3 ?c4; (case k6 => k_is); (case k7 => k_is); (case k9 => exact BindsTo.of_eq rfl); (case c5 => decide); (case kB => exact rfl); (case c2 => exact rfl); (case c3 => exact rfl); (case c4 => exact rfl); k_whole)
  clear X
  intro g L h₁ tk0 cells hg F N Y X T lt
  clear lt
  k_cells Y
  have cL0 : @LT.lt Nat _ L (L + 1) := Nat.lt_add_one _
  (try simp only [List.cons_append, List.nil_append] at N)
  try dsimp only
  refine body_k ?_
  intro K0 hK0
  have hgk : g.get? kp = some ko := by rw [hg]; exact hideAll_get _ hk (by simp)
  have hgp : g.get? pp = some po := by rw [hg]; exact hideAll_get _ hp (by simp)
  have st := st_of G hl
  rw [← hg] at st
  k_steps
  rename Fr g L _ _ => F1
  refine len_list (items := vs.toArray) ⟨ko, F1.keep _ _ hgk, hko.1, hko.2⟩ (by simp; have := hi.length; omega) ?_
  rw [List.size_toArray, hi.length]
  dsimp only
  k_steps
  rename Fr g L _ _ => F2
  rename News g L _ _ => N2
  refine kmk_add_lit (zs := vs ++ vs) F2 N2 ⟨ko, F2.keep _ _ hgk, hko.1, hko.2⟩ ⟨ko, F2.keep _ _ hgk, hko.1, hko.2⟩ (by simp) (fun R' h' Fh Nh lR => ?_) (fit2 hi.length hn)
  clear F2 N2
  k_lt lR
  dsimp only
  k_steps
  rename Fr g L _ _ => F2
  rename News g L _ _ => N2
  refine unpackItemsN_ F2 N2 ⟨_, (N2 _ (List.mem_cons_self ..)).1, rfl, _, rfl⟩ hA rfl fun h3 F3 N3 => ?_
  clear F2 N2
  dsimp only
  k_steps
  rename Fr g L _ _ => F2
  rename News g L _ _ => N2
  rename IsRange _ _ _ _ _ _ _ _ => R2
  refine iter_ra F2 N2 R2 (by decide) (by decide) (Int.natCast_nonneg _) (by first | with_reducible exact le1000 (by assumption) | omega) ?_
  intro J hb Fc Nc lJ
  clear F2 N2
  k_lt lJ
  rw [rng0 ns.length] at Nc
  obtain ⟨oK, ts, Nz, lUJ, dK, Fz⟩ : Ex2 fun (oK : Obj) (ts : Tok) => And4 (News g L hb [(J, riObj 0 ns.length 1), (R', listOf (vs ++ vs).toArray 0), (L + 1, oK)]) (@LT.lt Nat _ R' J) (oK.data = .cell (some (.int kind tkk))) (Fr g L hb (MK (some (.ref kp)) (some (.ref pp)) (some (.int ns.length ts)) (some (.ref R')) none none none none)) :=
    ⟨_, _, (by (repeat (first | exact Nc | exact ndrop 1 Nc | exact ndrop 2 Nc | exact ndrop 3 Nc | exact News.nil | refine news_mk Nc (by k_mem) ?_))), by omega, by assumption, fr_MK Fc rfl rfl rfl rfl rfl rfl rfl rfl (by intro y h1 h2 h3 h4 h5 h6 h7 h8; simp only [h3, h4, if_false]; exact (if_neg h2).trans (if_neg h1))⟩
  clear Fc Nc lJ
  replace lR : @LT.lt Nat _ (L + 1) R' := lR
  have hir : IntsAre (vs ++ vs) (ns ++ ns) := hi.append hi
  have hrl : (ns ++ ns).length = ns.length + ns.length := List.length_append
  dsimp only
  generalize hw : (fun i j => ((W i).getD j []).length) = Wl at hret
  refine for_ind (α := Nat) (fun t s' => Ex6 fun (h : Heap) (tk : Nat) (a5 a6 a7 a8 : Option Value) => And5 (s' = { s with heap := h, toks := tk }) (Fr g L h (MK (some (.ref kp)) (some (.ref pp)) (some (.int ns.length ts)) (some (.ref R')) a5 a6 a7 a8)) (t ≤ ns.length) (∀ t' < t, ∀ i < ns.length - 1, cutAt ns Wl kind t' (i + 1) = false) (News g L h [(J, riObj t (ns.length - t) 1), (R', listOf (vs ++ vs).toArray 0), (L + 1, oK)])) (fun t => ns.length - t) ?_ 0 ?_
  case refine_2 => exact ⟨_, _, _, _, _, _, rfl, Fz, Nat.zero_le _, (fun _ h => absurd h (Nat.not_lt_zero _)), by simpa using Nz⟩
  clear Fz Nz
  rintro t s' ⟨hc, tkc, a5, a6, a7, a8, rfl, Fd, htle, hno, Nd⟩
  intro K1 hK1
  refine turn_name ?_
  by_cases htn : t < ns.length
  · refine next_ri (News.get Nd (by k_mem)) (by first | with_reducible exact pos1 (by assumption) | omega) ?_
    intro hd cd ed
    refine upd_k Fd Nd (by k_upd) cd ed fun Fe Ne => ?_
    clear Fd Nd cd ed
    dsimp only
    k_steps
    rename Fr g L _ _ => F2
    rename News g L _ _ => N2
    rename IsRange _ _ _ _ _ _ _ _ => R3
    refine iter_ra F2 N2 R3 (by decide) (by decide) (Int.natCast_nonneg _) (by first | with_reducible exact le1000 (by assumption) | omega) ?_
    intro V hb Fc Nc lV
    clear F2 N2
    k_lt lV
    rw [rng1 ns.length] at Nc
    dsimp only
    refine for_ind (α := Nat) (fun i s' => Ex5 fun (h : Heap) (tk : Nat) (a6 a7 a8 : Option Value) => And5 (s' = { s with heap := h, toks := tk }) (Fr g L h (MK (some (.ref kp)) (some (.ref pp)) (some (.int ns.length ts)) (some (.ref R')) (some (.int t tkc)) a6 a7 a8)) (i ≤ ns.length - 1) (∀ i' < i, cutAt ns Wl kind t (i' + 1) = false) (News g L h [(V, riObj (1 + i) ((ns.length - 1 : Nat) - i) 1), (J, riObj (t + 1) (ns.length - t - 1) 1), (R', listOf (vs ++ vs).toArray 0), (L + 1, oK)])) (fun i => ns.length - 1 - i) ?_ 0 ?_
    case refine_2 => exact ⟨_, _, _, _, _, rfl, fr_MK Fc rfl rfl rfl rfl rfl rfl rfl rfl (by intro y h1 h2 h3 h4 h5 h6 h7 h8; kd_addB), Nat.zero_le _, (fun _ h => absurd h (Nat.not_lt_zero _)), Nc⟩
    clear Fc Nc
    rintro i s' ⟨hc, tkd, a6, a7, a8, rfl, Fd, hile, hno2, Nd⟩
    intro K2 hK2
    refine turn_name ?_
    by_cases hin : i < ns.length - 1
    · refine next_ri (News.get Nd (by k_mem)) (by first | with_reducible exact pos1 (by assumption) | omega) ?_
      intro hd cd ed
      refine upd_k Fd Nd (by k_upd) cd ed fun Fe Ne => ?_
      clear Fd Nd cd ed
      dsimp only
      have hz0 : -((ns ++ ns).length : Int) ≤ (t : Int) - 1 := by omega
      have hz1 : (t : Int) - 1 < (ns ++ ns).length := by omega
      have hz2 : (ns ++ ns).length ≤ 1000 := by omega
      k_steps
      rename Fr g L _ _ => F2
      rename News g L _ _ => N2
      rename_i En _ lEn hz
      obtain ⟨x0, x1, x2, x3, t0, t1, t2, t3, e0, e1, e2, e3, N3⟩ : Ex8 fun (x0 x1 x2 x3 : Int) (t0 t1 t2 t3 : Tok) => And5 (x0 = (ns ++ ns).getD (pyIdx t (ns ++ ns).length) 0) (x1 = (ns ++ ns).getD (pyIdx ((t : Int) + (1 + i) - 1) (ns ++ ns).length) 0) (x2 = (ns ++ ns).getD (pyIdx ((t : Int) + (1 + i)) (ns ++ ns).length) 0) (x3 = (ns ++ ns).getD (pyIdx ((t : Int) - 1) (ns ++ ns).length) 0) (News g L hz [(En, listOf #[.int x0 t0, .int x1 t1, .int x2 t2, .int x3 t3] 0), (V, riObj (1 + i + 1) (((ns.length - 1 : Nat) : Int) - i - 1) 1), (J, riObj (t + 1) (ns.length - t - 1) 1), (R', listOf (vs ++ vs).toArray 0), (L + 1, oK)]) := ⟨_, _, _, _, _, _, _, _, rfl, rfl, rfl, rfl, N2⟩
      clear N2
      have hends : endsOk ns kind t (i + 1) = ((x0 == kind) && (x1 == kind) && !(x2 == kind) && !(x3 == kind)) := by
        rw [e0, e1, e2, e3]
        simp only [show ∀ a : Int, (a == kind) = decide (a = kind) from fun a => by rw [Bool.eq_iff_iff, beq_iff_eq, decide_eq_true_iff]]
        unfold endsOk
        dsimp only
        rw [show ((t : Int) + ((i + 1 : Nat) : Int) - 1) = (t : Int) + (1 + i) - 1 from by omega, show ((t : Int) + ((i + 1 : Nat) : Int)) = (t : Int) + (1 + i) from by omega]
      clear e0 e1 e2 e3
      refine iter_li F2 N3 (News.get N3 (.head _)) (isLs _ _) ?_
      intro I h6 oI hI Fg Ng lI
      refine comp_go rfl Fg Ng X T (by decide) rfl (.head _) (fun s' Q' E' h h' => wpAny_pyIter_listiter ⟨_, h, hI⟩ h') ?_
      intro C D g2 h7 tk7 hg2 F5 N5 X5 T5 lD lC hgg hL2
      clear F2 N3 Fg Ng
      k_lt lI
      k_lt lD
      refine comp_ind0 (α := Nat) (fun j s' => Ex6 fun (h : Heap) (tk : Nat) (m' : Str → Option Value) (cs : List Value) (nD : Nat) (oI : Obj) => And6 (s' = { s with heap := h, toks := tk }) (Fr g2 C h m') (j ≤ 4) (IsLi oI En j) (cs = ([x0, x1, x2, x3].take j).map (fun x => Value.bool (x == kind))) (News g2 C h [(D, listOf cs.toArray nD), (I, oI), (En, listOf #[.int x0 t0, .int x1 t1, .int x2 t2, .int x3 t3] 0), (V, riObj (1 + i + 1) (((ns.length - 1 : Nat) : Int) - i - 1) 1), (J, riObj (t + 1) (ns.length - t - 1) 1), (R', listOf (vs ++ vs).toArray 0), (L + 1, oK)])) (fun j => 4 - j) ?_ 0 ?_
      case refine_2 => exact ⟨_, _, _, [], 0, _, rfl, F5, Nat.zero_le _, hI, rfl, N5⟩
      clear F5 N5
      rintro j s' ⟨h8, tk8, m8, cs, nD, oI1, rfl, F6, hj4, hI1, hcs, N6⟩
      intro K3 hK3
      by_cases hj : j < 4
      · obtain ⟨x, tx, hx, hcx⟩ : ∃ x tx, (#[Value.int x0 t0, .int x1 t1, .int x2 t2, .int x3 t3] : Array Value)[j]? = some (.int x tx) ∧ ([x0, x1, x2, x3].take (j + 1)).map (fun x => Value.bool (x == kind)) = ([x0, x1, x2, x3].take j).map (fun x => Value.bool (x == kind)) ++ [.bool (x == kind)] := by
          have : j = 0 ∨ j = 1 ∨ j = 2 ∨ j = 3 := by omega
          rcases this with rfl | rfl | rfl | rfl <;> exact ⟨_, _, rfl, rfl⟩
        refine next_li (x := .int x tx) (News.get N6 (by k_mem)) hI1 (News.get N6 (by k_mem)) (isLs _ _) hx ?_
        intro h9 oI' hI' c9 e9
        refine upd_k F6 N6 (by k_upd) c9 e9 fun F7 N7 => ?_
        clear F6 N6 c9 e9
        have hcsz : cs.toArray.size ≤ 1000 := by rw [hcs]; simp; omega
        dsimp only
        k_steps
        rename Fr g2 C _ _ => F8
        rename News g2 C _ _ => N8
        rw [List.push_toArray] at N8
        refine hK3 _ ?_; exact ⟨j + 1, (by first | with_reducible exact mdec (by assumption) | (dsimp only; omega)), _, _, _, cs ++ [.bool (x == kind)], nD + 1, oI', rfl, F8, hj, hI', by rw [hcs, hcx], N8⟩
      · have hje : j = 4 := by first | with_reducible exact eqEnd (by assumption) (by assumption) | omega
        subst hje
        refine end_li hA (News.get N6 (by k_mem)) hI1 (News.get N6 (by k_mem)) (isLs _ _) rfl ?_
        intro h9 c9
        refine drop2_k F6 N6 c9 (by k_all) fun F7 N7 => ?_
        clear F6 N6 c9
        replace hcs : cs = [Value.bool (x0 == kind), .bool (x1 == kind), .bool (x2 == kind), .bool (x3 == kind)] := hcs
        subst hcs
        refine CompEnd.intro F7 N7 ?_
        intro h10 F8 N8
        clear F7 N7 X5 T5 hg2 hgg hL2
        have hl4 : (1 : Int) + i = ((i + 1 : Nat) : Int) := by omega
        dsimp only
        cases hE : endsOk ns kind t (i + 1) with
        | false =>
          have he : ((x0 == kind) && (x1 == kind) && !(x2 == kind) && !(x3 == kind)) = false := hends.symm.trans hE
          k_steps
          rename Fr g L _ _ => F2
          rename News g L _ _ => N2
          rw [one1 i, sub1c (ns.length - 1) i] at N2
          refine hK2 _ _ ?_; refine ⟨i + 1, (by first | with_reducible exact mdec (by assumption) | (dsimp only; omega)), _, _, _, _, _, rfl, fr_MK F2 rfl rfl rfl rfl rfl rfl rfl rfl (by intro y h1 h2 h3 h4 h5 h6 h7 h8; kd_addB), hin, ?_, (by (repeat (first | exact N2 | exact ndrop 1 N2 | exact ndrop 2 N2 | exact ndrop 3 N2 | exact News.nil | refine news_mk N2 (by k_mem) ?_)))⟩
          intro i' hi'
          rcases Nat.lt_succ_iff_lt_or_eq.mp hi' with h | rfl
          · exact hno2 i' h
          · unfold cutAt; rw [hE]; rfl
        | true =>
          have he : ((x0 == kind) && (x1 == kind) && !(x2 == kind) && !(x3 == kind)) = true := hends.symm.trans hE
          have hgs : ∀ a o, s.heap.get? a = some o → g.get? a = some o := fun a o e => by rw [hg]; exact hideAll_get _ e (by simp)
          have hnz : (ns.length : Int) ≠ 0 := by omega
          have hpl' := hpl
          have hml : (t + (i + 1)) % ns.length < ns.length := Nat.mod_lt _ (by omega)
          obtain ⟨r1, its1, k1, p1, q1, z1, w1⟩ := hps (ns.length - (i + 1) - 1) (by omega)
          obtain ⟨c1, zs1, k1', u1, v1, y1⟩ := w1 ((t + (i + 1)) % ns.length) (by rw [hW]; exact hml)
          obtain ⟨r2, its2, k2, p2, q2, z2, w2⟩ := hps i (by omega)
          obtain ⟨c2, zs2, k2', u2, v2, y2⟩ := w2 t (by rw [hW]; exact htn)
          clear z1 z2 w1 w2
          have f1 : ps.toArray[((ns.length : Int) - (1 + i) - 1).toNat]? = some (.ref r1) := by
            rw [show ((ns.length : Int) - (1 + i) - 1).toNat = ns.length - (i + 1) - 1 from by omega, ← p1]
            simp
          have ef : Int.fmod ((t : Int) + (1 + i)) ns.length = (((t + (i + 1)) % ns.length : Nat) : Int) := by
            rw [Int.fmod_eq_emod_of_nonneg _ (by omega), show (t : Int) + (1 + i) = ((t + (i + 1) : Nat) : Int) from by omega]; rfl
          have hcut : cutAt ns Wl kind t (i + 1) = (Wl (ns.length - (i + 1) - 1) ((t + (i + 1)) % ns.length) == 1 && Wl i t == 1) := by
            unfold cutAt; rw [hE]; rfl
          have hb1 := hWb (ns.length - (i + 1) - 1) ((t + (i + 1)) % ns.length)
          have hb2 := hWb i t
          replace hb1 : Wl (ns.length - (i + 1) - 1) ((t + (i + 1)) % ns.length) ≤ 1000 := by rw [← hw]; exact hb1
          replace hb2 : Wl i t ≤ 1000 := by rw [← hw]; exact hb2
          have s1 : zs1.size = Wl (ns.length - (i + 1) - 1) ((t + (i + 1)) % ns.length) := by
            rw [← hw]; dsimp only
            rw [List.getD_eq_getElem?_getD, List.getElem?_eq_getElem (by rw [hW]; exact hml), ← Array.length_toList, y1.len_eq]; rfl
          have s2 : zs2.size = Wl i t := by
            rw [← hw]; dsimp only
            rw [List.getD_eq_getElem?_getD, List.getElem?_eq_getElem (by rw [hW]; exact htn), ← Array.length_toList, y2.len_eq]; rfl
          generalize Wl (ns.length - (i + 1) - 1) ((t + (i + 1)) % ns.length) = m1 at hcut s1 hb1
          generalize Wl i t = m2 at hcut s2 hb2
          clear y1 y2
          generalize (t + (i + 1)) % ns.length = jj at ef hml u1
          have f2 : its1[((jj : Nat) : Int).toNat]? = some (.ref c1) := by rw [Int.toNat_natCast]; exact u1
          have f3 : ps.toArray[((1 : Int) + i - 1).toNat]? = some (.ref r2) := by
            rw [show ((1 : Int) + i - 1).toNat = i from by omega, ← p2]
            simp
          have f4 : its2[(t : Int).toNat]? = some (.ref c2) := by rw [Int.toNat_natCast]; exact u2
          have g4 := hgs _ _ q1
          have g5 := hgs _ _ v1
          have g6 := hgs _ _ q2
          have g7 := hgs _ _ v2
          clear u1 u2 q1 q2 v1 v2 p1 p2
          rw [← s1, ← s2] at hcut
          rw [← s1] at hb1
          rw [← s2] at hb2
          clear s1 s2
          k_steps
          · rename Fr g L _ _ => F2
            rename News g L _ _ => N2
            subst hg
            refine hK2 _ _ ?_
            dsimp only [Post]
            try k_steps
            refine hK1 _ _ ?_
            dsimp only [Post]
            try k_steps
            refine hK0 _ _ ?_
            try dsimp only
            refine hret true _ _ ?_ (chg_of F2)
            symm
            unfold cutB
            rw [List.any_eq_true]
            refine ⟨t, List.mem_range.mpr htn, ?_⟩
            rw [List.any_eq_true]
            refine ⟨i, List.mem_range.mpr hin, ?_⟩
            rw [hcut, Bool.and_eq_true, beq_iff_eq, beq_iff_eq]
            constructor <;> omega
          · rename Fr g L _ _ => F2
            rename News g L _ _ => N2
            rw [one1 i, sub1c (ns.length - 1) i] at N2
            refine hK2 _ _ ?_; refine ⟨i + 1, (by first | with_reducible exact mdec (by assumption) | (dsimp only; omega)), _, _, _, _, _, rfl, fr_MK F2 rfl rfl rfl rfl rfl rfl rfl rfl (by intro y h1 h2 h3 h4 h5 h6 h7 h8; kd_addB), hin, ?_, (by (repeat (first | exact N2 | exact ndrop 1 N2 | exact ndrop 2 N2 | exact ndrop 3 N2 | exact News.nil | refine news_mk N2 (by k_mem) ?_)))⟩
            intro i' hi'
            rcases Nat.lt_succ_iff_lt_or_eq.mp hi' with h | rfl
            · exact hno2 i' h
            · rw [hcut, Bool.and_eq_false_iff, beq_eq_false_iff_ne, beq_eq_false_iff_ne]
              omega
          · rename Fr g L _ _ => F2
            rename News g L _ _ => N2
            rw [one1 i, sub1c (ns.length - 1) i] at N2
            refine hK2 _ _ ?_; refine ⟨i + 1, (by first | with_reducible exact mdec (by assumption) | (dsimp only; omega)), _, _, _, _, _, rfl, fr_MK F2 rfl rfl rfl rfl rfl rfl rfl rfl (by intro y h1 h2 h3 h4 h5 h6 h7 h8; kd_addB), hin, ?_, (by (repeat (first | exact N2 | exact ndrop 1 N2 | exact ndrop 2 N2 | exact ndrop 3 N2 | exact News.nil | refine news_mk N2 (by k_mem) ?_)))⟩
            intro i' hi'
            rcases Nat.lt_succ_iff_lt_or_eq.mp hi' with h | rfl
            · exact hno2 i' h
            · rw [hcut, Bool.and_eq_false_iff, beq_eq_false_iff_ne, beq_eq_false_iff_ne]
              omega
    · have hie : i = ns.length - 1 := by first | with_reducible exact eqEnd (by assumption) (by assumption) | omega
      subst hie
      refine end_ri hA (News.get Nd (.head _)) (by first | with_reducible exact le0 _ | omega) ?_
      intro hd2 cd
      refine drop_k Fd Nd cd (by k_all) fun Fe Ne => ?_
      clear Fd Nd cd
      dsimp only
      k_steps
      rw [cast1 t, sub1c ns.length t] at Ne
      refine hK1 _ _ ?_; refine ⟨t + 1, (by first | with_reducible exact mdec (by assumption) | (dsimp only; omega)), _, _, _, _, _, _, rfl, Fe, htn, ?_, Ne⟩
      intro t' ht' i hi
      rcases Nat.lt_succ_iff_lt_or_eq.mp ht' with h | rfl
      · exact hno t' h i hi
      · exact hno2 i hi
  · have hte : t = ns.length := by first | with_reducible exact eqEnd (by assumption) (by assumption) | omega
    subst hte
    refine end_ri hA (News.get Nd (.head _)) (by first | with_reducible exact le0 _ | omega) ?_
    intro hd2 cd
    refine drop_k Fd Nd cd (by k_all) fun Fe Ne => ?_
    clear Fd Nd cd
    dsimp only
    k_steps
    subst hg
    refine hK0 _ _ ?_
    try dsimp only
    refine hret false _ _ ?_ (chg_of Fe)
    symm
    unfold cutB
    rw [List.any_eq_false]
    intro t ht
    rw [List.mem_range] at ht
    simp only [Bool.not_eq_true, List.any_eq_false]
    intro i hi
    rw [List.mem_range] at hi
    simpa using hno t ht i hi
end
end Mine
-- part Said
namespace Mine
theorem freshSaid : True := by w_top off; trivial
abbrev MSd (a1 a2 a3 a4 : Option Value) : Str → Option Value := fun y => if y = Str.ofString "words" then a1 else if y = Str.ofString "part" then a2 else if y = Str.ofString "place" then a3 else if y = Str.ofString "step" then a4 else none
theorem fr_MSd {g h : Heap} {L : Addr} {m : Str → Option Value} {a1 a2 a3 a4 : Option Value} (F : Fr g L h m) (h1 : m (Str.ofString "words") = a1) (h2 : m (Str.ofString "part") = a2) (h3 : m (Str.ofString "place") = a3) (h4 : m (Str.ofString "step") = a4)
    (hr : ∀ y, y ≠ Str.ofString "words" → y ≠ Str.ofString "part" → y ≠ Str.ofString "place" → y ≠ Str.ofString "step" → m y = none) : Fr g L h (MSd a1 a2 a3 a4) := fr_map F fun y => by
  unfold MSd
  by_cases e1 : y = Str.ofString "words"
  · subst e1; rw [if_pos rfl]; exact h1
  by_cases e2 : y = Str.ofString "part"
  · subst e2; rw [if_neg e1, if_pos rfl]; exact h2
  by_cases e3 : y = Str.ofString "place"
  · subst e3; rw [if_neg e1, if_neg e2, if_pos rfl]; exact h3
  by_cases e4 : y = Str.ofString "step"
  · subst e4; rw [if_neg e1, if_neg e2, if_neg e3, if_pos rfl]; exact h4
  rw [if_neg e1, if_neg e2, if_neg e3, if_neg e4]; exact hr y e1 e2 e3 e4

section
variable {w : World} {A : Around} {s : Shared} {E : Value → Shared → Prop}
theorem len_is {l : Addr} {its : Array Value} {nl k : Nat} {Q : Value → Shared → Prop} (hl : s.heap.get? l = some (listOf its nl)) (e : its.size = k) (hk : k ≤ 1000) (h : Q (.int k (s.toks + 1)) { s with toks := s.toks + 1 + 1 }) : wpAny (MM w) A (call (.builtin "len") [.ref l]) Q E s :=
  len_list (items := its) ⟨_, hl, rfl, _, rfl⟩ (by omega) (by rw [e]; exact h)
end
local macro_rules | `(tactic| walk_at "call builtin:len") => `(tactic| (k_dflt (refine' len_is ?hl ?e ?hk ?_; (case hl => exact Fr.keep (by with_reducible assumption) _ _ (by with_reducible assumption)); (case e => with_reducible assumption); (case hk => omega); k_whole)))
theorem abs_news {g h : Heap} {L : Addr} {nw : List (Addr × Obj)} (N : News g L h nw) : ∃ nw', nw' = nw ∧ News g L h nw' := ⟨nw, rfl, N⟩
theorem said_step {ws : List Str} {p k pl : Nat} (hk : k ≤ ws.length) : saidGo ws p (ws.length + 1 - k) pl = if Txt.join (Str.ofString "") ((ws.drop pl).take p) = Txt.join (Str.ofString "") (ws.take p) then (if pl + p = ws.length then true else saidGo ws p (ws.length + 1 - (k + 1)) (pl + p)) else false := by
  rw [show ws.length + 1 - k = (ws.length + 1 - (k + 1)) + 1 by omega]
  rfl
abbrev jn (l : List Str) : Str := Txt.join (Str.ofString "") l
section
variable {w : World} {mg mb : Str → Option Value} {A : Around} {s : Shared} {b : Heap} {Q E : Value → Shared → Prop} {R : Result → Shared → Prop}
theorem said {wp : Addr} {ys : List Value} {ws : List Str} {nw : Nat}
    (G : Gd w mg mb b s.heap) (hdep : A.depth + 10 < recursionLimit) (hA : A.handled = none) (hk : s.heap.get? wp = some (listOf ys.toArray nw)) (hst : StrsAre ys ws) (hn : ws.length ≤ 100) (hwl : ∀ y ∈ ws, y.length ≤ 100)
    (hbd : ∀ p place, 0 < p → p < ws.length → jn ((ws.drop place).take p) = jn (ws.take p) → place + p ≤ ws.length) (hbare : AllBare s.gens)
    (hret : ∀ r h' tk gens', r = saidB ws → Chg [] s.heap h' → AllBare gens' → Q (.bool r) { s with heap := h', toks := tk, gens := gens' }) :
    wpAny (MM w) A (call (.ref 295) [.ref wp]) Q E s := by
  have X := G.K
  have hl : Led b s.heap [] := Led.nil
  refine wpAny_call ?_
  k_dflt (refine' enter (binds := [(Str.ofString "words", .ref wp)]) G hl ?k6 ?k7 (by omega) ?k9 ?kB ?c5 ?_ ?c2 ?c3 ?c4; ktn_open)
  clear X
  intro g L h₁ hg F N X T lt
  clear lt
  try dsimp only
  refine body_k ?_
  intro K0 hK0
  have hgk : g.get? wp = some (listOf ys.toArray nw) := by rw [hg]; exact hideAll_get _ hk (by simp)
  have st := st_of G hl
  rw [← hg] at st
  have hyl := hst.len_eq
  have hyz : ys.length ≤ 1000 := by omega
  have hysz : ys.toArray.size = ws.length := by rw [List.size_toArray, hyl]
  k_steps
  rename Fr g L _ _ => F2
  rename News g L _ _ => N2
  rename IsRange _ _ _ _ _ _ _ _ => R2
  refine iter_ra F2 N2 R2 (by decide) (by decide) (Int.natCast_nonneg _) (by first | with_reducible exact le1000 (by assumption) | omega) ?_
  intro J hb Fc Nc lJ
  clear F2 N2
  k_lt lJ
  rw [rng1 ws.length] at Nc
  dsimp only
  have hJL : @LT.lt Nat _ L J ∨ @LT.lt Nat _ J L := Nat.lt_or_gt_of_ne (fun q => (Nc (J, _) (.head _)).2.1 q.symm)
  refine for_ind (α := Nat) (fun i s' => Ex6 fun (h : Heap) (tk : Nat) (gens : Array GenState) (a2 a3 a4 : Option Value) => And6 (s' = { s with heap := h, toks := tk, gens := gens }) (Fr g L h (MSd (some (.ref wp)) a2 a3 a4)) (i ≤ ws.length - 1) (AllBare gens) (∀ i' < i, saidGo ws (i' + 1) (ws.length + 1) 0 = false) (News g L h [(J, riObj (1 + i) ((ws.length - 1 : Nat) - i) 1)])) (fun i => ws.length - 1 - i) ?_ 0 ?_
  case refine_2 => exact ⟨_, _, _, none, none, none, rfl, fr_MSd Fc rfl rfl rfl rfl (by intro y h1 h2 h3 h4; show List.lookup y [(Str.ofString "words", Value.ref wp)] = none; rw [List.lookup_cons, beq_eq_false_iff_ne.mpr h1]; rfl), Nat.zero_le _, hbare, (fun _ h => absurd h (Nat.not_lt_zero _)), Nc⟩
  clear Fc Nc
  rintro i s' ⟨hc, tkc, gens, a2, a3, a4, rfl, Fd, hile, hbg, hno, Nd⟩
  intro K1 hK1
  refine turn_name ?_
  by_cases hin : i < ws.length - 1
  · refine next_ri (News.get Nd (by k_mem)) (by first | with_reducible exact pos1 (by assumption) | omega) ?_
    intro hd1 cd ed
    refine upd_k Fd Nd (by k_upd) cd ed fun Fe Ne => ?_
    clear Fd Nd cd ed
    dsimp only
    k_steps
    rename Fr g L _ _ => F2
    rename News g L _ _ => N2
    rename_i Gl hz lG
    refine gi_use F2 X T (News.get N2 (.head _)) (by omega) (by omega) (by show A.depth + 1 < _; exact lt_le 9 hdep) hA ?_
    intro a Lg h3 tk3 gs oa P hk3 hLg haL hgen hao hbs hP hstep
    obtain ⟨F3, N3⟩ := same_all F2 N2 hk3
    have N4 := news_add F2 N3 (Heap.get?_none_of_le (Nat.le_trans hLg (Nat.le_of_lt haL))) hao
    have lL : @LT.lt Nat _ L Lg := Nat.lt_of_lt_of_le F2.ns.lt hLg
    have lG2 : @LT.lt Nat _ Gl Lg := Nat.lt_of_lt_of_le (Heap.lt_size (N2 _ (.head _)).1) hLg
    have lJ2 : @LT.lt Nat _ J Lg := Nat.lt_of_lt_of_le (Heap.lt_size (N2 _ (.tail _ (.head _))).1) hLg
    have hgL : ∀ b o, g.get? b = some o → @LT.lt Nat _ b Lg := fun b o e => Nat.lt_of_lt_of_le (Heap.lt_size (F2.keep b o e)) hLg
    obtain ⟨nw, hnw, N5⟩ := abs_news N4
    have hnw2 : ∀ p ∈ nw, @LT.lt Nat _ p.1 Lg ∨ p = (a, oa) := by
      rw [hnw]
      intro p hp
      simp only [List.mem_cons, List.not_mem_nil, or_false] at hp
      rcases hp with rfl | rfl | rfl
      · exact .inr rfl
      · exact .inl lG2
      · exact .inl lJ2
    have hma : (a, oa) ∈ nw := by rw [hnw]; exact .head _
    obtain ⟨tpl, F5⟩ : ∃ tpl, Fr g L h3 (MSd (some (.ref wp)) (some (.int (1 + i) tkc)) (some (.int ((0 : Nat) : Int) tpl)) a4) :=
      ⟨_, fr_MSd F3 rfl rfl rfl rfl (by intro y h1 h2 h3 h4; kd_addB)⟩
    clear F3 N3 N4 F2 N2
    refine wpAny_pyIter_gen hgen ?_
    dsimp only
    refine for_ind (α := Nat × Nat) (fun q s' => Ex5 fun (h : Heap) (tk : Nat) (gs : GenState) (tp : Tok) (a4 : Option Value) => And8 (s' = { s with heap := h, toks := tk, gens := gens.push gs }) (Fr g L h (MSd (some (.ref wp)) (some (.int (1 + i) tkc)) (some (.int (q.2 : Int) tp)) a4)) (News g L h nw) (q.1 ≤ q.2) (q.2 ≤ ws.length) (saidGo ws (i + 1) (ws.length + 1) 0 = saidGo ws (i + 1) (ws.length + 1 - q.1) q.2) (gs.bare = true) (P gs (ws.length + 4 - q.1 + 1) s')) (fun q => ws.length + 1 - q.1) ?_ (0, 0) ?_
    case refine_2 => exact ⟨_, _, gs, _, _, rfl, F5, N5, Nat.le_refl _, Nat.zero_le _, rfl, hbs, hP _⟩
    clear F5 N5 hP hbs
    rintro ⟨k, pl⟩ s' ⟨h4, tk4, gs4, tp4, a4', rfl, F6, N6, hkp, hpl, hsg, hb4, hP4⟩
    intro K2 hK2
    dsimp only at F6 hkp hpl hsg hP4
    refine turn_name ?_
    refine hstep gs4 _ _ _ _ F6.keep (N6 _ hma).1 rfl rfl rfl hP4 ?_
    intro t h5 tk5 gs5 hb5 hk5 ha5 ⟨oL5, hL5⟩ ⟨oI5, hI5⟩ hnext
    have F7 : Fr g L h5 (MSd (some (.ref wp)) (some (.int (1 + i) tkc)) (some (.int (pl : Int) tp4)) a4') := ⟨F6.ns.at' (fun o e => hk5 _ _ lL e), fun b o e => hk5 b o (hgL b o e) (F6.keep b o e), F6.above⟩
    have N7 : News g L h5 ((Lg, oL5) :: (a + 1, oI5) :: nw) := fun p hp => by
      have off : ∀ b : Nat, Lg ≤ b → g.get? b = none := fun b hb => by
        cases q : g.get? b with
        | none => rfl
        | some o => exact absurd (hgL b o q) (Nat.not_lt.mpr hb)
      rcases List.mem_cons.mp hp with rfl | hp
      · exact ⟨hL5, Nat.ne_of_gt lL, off _ (Nat.le_refl _)⟩
      rcases List.mem_cons.mp hp with rfl | hp
      · exact ⟨hI5, Nat.ne_of_gt (Nat.lt_succ_of_lt (Nat.lt_trans lL haL)), off _ (Nat.le_succ_of_le (Nat.le_of_lt haL))⟩
      · rcases hnw2 p hp with l | rfl
        · exact ⟨hk5 _ _ l (N6 p hp).1, (N6 p hp).2⟩
        · exact ⟨ha5, (N6 _ hp).2⟩
    clear F6 N6
    dsimp only
    k_steps
    rename Fr g L _ _ => F8
    rename News g L _ _ => N8
    have e1 : ((pl : Int) + (1 + (i : Int)) - pl).toNat = i + 1 := by omega
    have e2 : ((pl : Int)).toNat = pl := by omega
    have e3 : ((1 : Int) + (i : Int)).toNat = i + 1 := by omega
    rw [e1, e2] at N8
    refine join_listC (ys := (ws.drop pl).take (i + 1)) ⟨_, News.get N8 (.head _), rfl, _, rfl⟩ (strs_take (hst.drop' pl) _) (by decide) (fit_of (fun y hy => hwl y (List.mem_of_mem_drop (List.mem_of_mem_take hy))) (by simp; omega)) ?_
    intro tj kj
    dsimp only
    k_steps
    rename Fr g L _ _ => F9
    rename News g L _ _ => N9
    rw [e3] at N9
    clear e1 e2 e3
    refine join_listC (ys := ws.take (i + 1)) ⟨_, News.get N9 (.head _), rfl, _, rfl⟩ (strs_take hst _) (by decide) (fit_of (fun y hy => hwl y (List.mem_of_mem_take hy)) (by simp; omega)) ?_
    intro tj2 kj2
    dsimp only
    k_steps
    refine strcoll ⟨G.K, G.T, fun a o e => F9.keep _ _ (st _ _ e)⟩ (by show A.depth + 1 < _; exact lt_le 9 hdep) ?_
    intro ic tc h10 tk10 c10 hic
    refine same_k F9 N9 c10 fun F10 N10 => ?_
    clear F9 N9 c10
    dsimp only
    k_steps
    all_goals rw [said_step (by clear hnext; omega)] at hsg
    · rename ic ≠ 0 => hne
      refine hK2 _ _ ?_
      dsimp only [Post]
      try k_steps
      have N11 : News g L h10 [(J, riObj (1 + i + 1) (((ws.length - 1 : Nat) : Int) - i - 1) 1)] := news_of N10 (by
        intro q hq
        rw [List.mem_singleton.mp hq]
        refine .tail _ (.tail _ (.tail _ (.tail _ ?_)))
        rw [hnw]; exact .tail _ (.tail _ (.head _)))
      rw [one1 i, sub1c (ws.length - 1) i] at N11
      refine hK1 _ _ ?_; refine ⟨i + 1, (by first | with_reducible exact mdec (by assumption) | (dsimp only; clear hnext; omega)), _, _, _, _, _, _, rfl, fr_MSd F10 rfl rfl rfl rfl (by intro y h1 h2 h3 h4; kd_addB), hin, hbg.push hb5, ?_, N11⟩
      intro i' hi'
      rcases Nat.lt_succ_iff_lt_or_eq.mp hi' with h | rfl
      · exact hno i' h
      · rw [hsg, if_neg (fun q => hne (hic.mpr q))]
    · rename ic = 0 => hne
      rename Fr g L _ _ => F12
      subst hg
      refine hK2 _ _ ?_
      dsimp only [Post]
      try k_steps
      refine hK1 _ _ ?_
      dsimp only [Post]
      try k_steps
      refine hK0 _ _ ?_
      try dsimp only
      refine hret true _ _ _ ?_ (chg_of F12) (hbg.push hb5)
      symm
      unfold saidB
      rw [List.any_eq_true]
      refine ⟨i, List.mem_range.mpr hin, ?_⟩
      rw [hsg, if_pos (hic.mp hne), if_pos (by clear hnext; omega)]
    · rename ic = 0 => hne
      rename Fr g L _ _ => F12
      rename News g L _ _ => N12
      have hjn := hic.mp hne
      rw [show (pl : Int) + (1 + (i : Int)) = ((pl + (i + 1) : Nat) : Int) from by clear hnext; omega] at F12
      have hb := hbd (i + 1) pl (by clear hnext; omega) (by clear hnext; omega) hjn
      rw [if_pos hjn, if_neg (by clear hnext; omega)] at hsg
      have hGl : ∃ oG, (Gl, oG) ∈ nw := by rw [hnw]; exact ⟨_, .tail _ (.head _)⟩
      refine hK2 _ _ ?_
      refine ⟨(k + 1, pl + (i + 1)), (by first | with_reducible exact mdec (by assumption) | (dsimp only; clear hnext; omega)), _, _, gs5, _, _, rfl, fr_MSd F12 rfl rfl rfl rfl (by intro y h1 h2 h3 h4; kd_addB), news_of N12 (fun q hq => .tail _ (.tail _ (.tail _ (.tail _ hq)))), by dsimp only; clear hnext; omega, by dsimp only; clear hnext; omega, hsg, hb5, ?_⟩
      · rcases hnext with e | hnext
        · omega
        · dsimp only
          rw [show ws.length + 4 - (k + 1) + 1 = ws.length + 4 - k by omega]
          refine hnext _ F12.keep ?_ (N12 _ (.tail _ (.tail _ (.tail _ (.tail _ hma))))).1 ?_ ?_
          · refine (N12 (Gl, _) (.tail _ (.tail _ (.tail _ (.tail _ ?_))))).1
            rw [hnw]; exact .tail _ (.head _)
          · exact (N12 (Lg, oL5) (.tail _ (.tail _ (.head _)))).1.trans hL5.symm
          · exact (N12 (a + 1, oI5) (.tail _ (.tail _ (.tail _ (.head _))))).1.trans hI5.symm
  · have hie : i = ws.length - 1 := by first | with_reducible exact eqEnd (by assumption) (by assumption) | omega
    subst hie
    refine end_ri hA (News.get Nd (.head _)) (by first | with_reducible exact le0 _ | omega) ?_
    intro hd2 cd
    refine drop_k Fd Nd cd (fun p hp => nomatch hp) fun Fe Ne => ?_
    clear Fd Nd cd
    dsimp only
    k_steps
    subst hg
    refine hK0 _ _ ?_
    try dsimp only
    refine hret false _ _ _ ?_ (chg_of Fe) hbg
    symm
    unfold saidB
    rw [List.any_eq_false]
    intro i hi
    rw [List.mem_range] at hi
    rw [hno i hi]
    decide
end
end Mine
end
-- part LawP
namespace Mine
theorem sign_esc : ∀ i : Nat, i < 7 → ((Txt.item (Str.ofString "&<>\"\r\n\t") (i : Int) ++ Str.ofString " ").cps.toList.flatMap fun k => escC 7 [k]) = dressC.getD i [] ++ [32] := by decide +kernel
theorem text_words (first : Int) (ns : List Int) : (escN 7 (Txt.join (Str.ofString "") (ns.map (signW first)))).cps.toList = (ns.map (dress first)).flatMap fun w => w.cps.toList ++ [32] := by
  rw [escN_list, escC_flat, join_flat]
  induction ns with
  | nil => rfl
  | cons k r ih =>
    obtain ⟨i, hi, e1, e2⟩ := fm7 (first + k)
    have h1 : ((signW first k).cps.toList.flatMap fun k => escC 7 [k]) = (dress first k).cps.toList ++ [32] := by
      have h2 := sign_esc i hi
      rw [dress_cps]
      unfold dcode signW
      rw [e1, e2]
      exact h2
    rw [List.map_cons, List.flatMap_cons, List.flatMap_append, ih, h1, List.map_cons, List.flatMap_cons]
theorem dress_okc : ∀ i, i < 7 → dressC.getD i [] ≠ [] ∧ ∀ c ∈ dressC.getD i [], okc c := by decide +kernel
theorem words_okc (first : Int) (ns : List Int) : ∀ w ∈ ns.map (dress first), ∃ c cs, w = ⟨(c :: cs).toArray⟩ ∧ okc c ∧ ∀ d ∈ cs, okc d := fun w hw => by
  obtain ⟨k, _, rfl⟩ := List.mem_map.mp hw
  obtain ⟨i, hi, e1, _⟩ := fm7 (first + k)
  have h := dress_okc i hi
  have e : (dress first k).cps.toList = dressC.getD i [] := by rw [dress_cps]; unfold dcode; rw [e1]
  rw [← e] at h
  cases q : (dress first k).cps.toList with
  | nil => exact absurd q h.1
  | cons c cs =>
    rw [q] at h
    exact ⟨c, cs, str_extP (by rw [q]), h.2 c (.head _), fun d hd => h.2 d (.tail _ hd)⟩
theorem dress_len (first : Int) (ns : List Int) : ∀ y ∈ ns.map (dress first), y.length ≤ 100 := fun y hy => by
  obtain ⟨k, _, rfl⟩ := List.mem_map.mp hy
  obtain ⟨_, _, _, h, _⟩ := dcode_end first k
  rw [← dress_cps] at h
  rw [Array.length_toList] at h
  show (dress first k).cps.size ≤ 100
  omega
theorem said_bd {ns : List Int} {first : Int} (hk : ∀ k ∈ ns, Kind k) : ∀ p place, 0 < p → p < (ns.map (dress first)).length → jn (((ns.map (dress first)).drop place).take p) = jn ((ns.map (dress first)).take p) → place + p ≤ (ns.map (dress first)).length := by
  intro p place h0 hp e
  rw [← List.map_drop, ← List.map_take, ← List.map_take] at e
  rw [List.length_map] at hp ⊢
  have e2 := (join_eq (first := first) (fun k h => hk k (List.mem_of_mem_drop (List.mem_of_mem_take h))) (fun k h => hk k (List.mem_of_mem_take h))).mp e
  have := congrArg List.length e2
  simp only [List.length_take, List.length_drop] at this
  omega
theorem kinds3 (ms : List Int) : ∀ k ∈ ms.map (fun c => Int.fmod c 3), Kind k := fun k hk => by
  obtain ⟨c, _, rfl⟩ := List.mem_map.mp hk
  exact ⟨Int.fmod_nonneg_of_pos _ (by decide), Int.fmod_lt_of_pos _ (by decide)⟩
theorem due_size (ns : List Int) (l : Nat) : (dueAt ns l).length = ns.length := by simp [dueAt]
theorem due_bound {ns : List Int} (hn : ns.length ≤ 100) (i j : Nat) : ((dueAt ns (i + 1)).getD j []).length ≤ 1000 := by
  unfold dueAt
  rw [List.getD_eq_getElem?_getD, List.getElem?_map]
  cases q : (List.range ns.length)[j]? with
  | none => simp
  | some x =>
    simp only [Option.map_some, Option.getD_some, List.length_map]
    have := List.length_filter_le (fun t => decide (frontAt ns (i + 1) t = frontAt ns (i + 1) x)) (List.range ns.length)
    rw [List.length_range] at this
    omega
/-! reading lists of texts -/
def dS (l : List Str) : PyData := .list (l.map .str)
def dLL (w : List (List Str)) : PyData := .list (w.map dS)
def dLLL (w : List (List (List Str))) : PyData := .list (w.map dLL)
theorem readsAll_of {h : Heap} {α : Type} (f : α → PyData) : ∀ (vs : List Value) (l : List α), vs.length = l.length → (∀ j (hj : j < l.length), ∃ v as, vs[j]? = some v ∧ Reads h v (f l[j]) as) → ∃ as, ReadsAll h vs (l.map f) as
  | [], [], _, _ => ⟨[], .nil⟩
  | [], _ :: _, e, _ => by cases e
  | _ :: _, [], e, _ => by cases e
  | v :: vs, x :: l, e, k => by
    obtain ⟨as, ha⟩ := readsAll_of f vs l (by simpa using e) fun j hj => by
      have := k (j + 1) (by simpa using hj)
      simpa using this
    obtain ⟨v', bs, h1, h2⟩ := k 0 (by simp)
    simp only [List.getElem?_cons_zero, Option.some.injEq] at h1
    subst h1
    exact ⟨bs ++ as, .cons h2 ha⟩
theorem ll_reads {h : Heap} {v : Value} {want : List (List Str)} (H : LLH h v want) : ∃ as, Reads h v (dLL want) as := by
  obtain ⟨r, its, k, rfl, e1, e2, e3⟩ := H
  obtain ⟨as, ha⟩ := readsAll_of (h := h) dS its.toList want (by rw [Array.length_toList]; exact e2) fun j hj => by
    obtain ⟨c, zs, k', f1, f2, f3⟩ := e3 j hj
    exact ⟨_, _, by rw [Array.getElem?_toList]; exact f1, .list f2 rfl rfl (f3.reads h)⟩
  exact ⟨_, .list e1 rfl rfl ha⟩
theorem lll_reads {h : Heap} {P : Addr} {ps : List Value} {n : Nat} {F : Nat → List (List Str)} (hP : h.get? P = some (listOf ps.toArray n)) (H : ∀ j (hj : j < ps.length), LLH h ps[j] (F j)) : ∃ as, Reads h (.ref P) (dLLL ((List.range ps.length).map F)) as := by
  obtain ⟨as, ha⟩ := readsAll_of (h := h) dLL ps ((List.range ps.length).map F) (by simp) fun j hj => by
    rw [List.length_map, List.length_range] at hj
    obtain ⟨as, h1⟩ := ll_reads (H j hj)
    refine ⟨ps[j], as, List.getElem?_eq_getElem hj, ?_⟩
    rw [List.getElem_map, List.getElem_range]
    exact h1
  exact ⟨_, .list hP rfl rfl ha⟩
theorem llh_of {ex : List (Addr × Obj)} {h : Heap} {v : Value} {want : List (List Str)} (H : LLAt ex v want) (e : ∀ q ∈ ex, h.get? q.1 = some q.2) : LLH h v want := by
  obtain ⟨r, its, k, e1, e2, e3, e4⟩ := H
  exact ⟨r, its, k, e1, e _ e2, e3, fun j hj => let ⟨c, zs, k', f1, f2, f3⟩ := e4 j hj; ⟨c, zs, k', f1, e _ f2, f3⟩⟩
theorem canAll {α : Type} (f : α → PyData) : ∀ l : List α, (∀ x ∈ l, (f x).canLay0 = true) → PyData.canLayAll0 (l.map f) = true
  | [], _ => rfl
  | x :: r, h => by
    show ((f x).canLay0 && PyData.canLayAll0 (r.map f)) = true
    rw [h x (.head _), canAll f r fun y hy => h y (.tail _ hy)]; rfl
theorem deepAll {α : Type} {n : Nat} (f : α → PyData) : ∀ l : List α, (∀ x ∈ l, (f x).depth ≤ n) → PyData.depthAll (l.map f) ≤ n
  | [], _ => Nat.zero_le _
  | x :: r, h => by
    show max (f x).depth (PyData.depthAll (r.map f)) ≤ n
    have h1 := h x (.head _)
    have h2 := deepAll f r fun y hy => h y (.tail _ hy)
    omega
theorem dS_can {l : List Str} (h : ∀ x ∈ l, PyData.strOk x = true) : (dS l).canLay0 = true := canAll _ l h
theorem dS_deep (l : List Str) : (dS l).depth ≤ 1 := Nat.succ_le_succ (deepAll (n := 0) _ l fun _ _ => Nat.le_refl _)
theorem dLL_can {w : List (List Str)} (h : ∀ l ∈ w, ∀ x ∈ l, PyData.strOk x = true) : (dLL w).canLay0 = true := canAll _ w fun l hl => dS_can (h l hl)
theorem dLL_deep (w : List (List Str)) : (dLL w).depth ≤ 2 := Nat.succ_le_succ (deepAll (n := 1) _ w fun l _ => dS_deep l)
theorem dLLL_shaped {w : List (List (List Str))} (h : ∀ l ∈ w, ∀ m ∈ l, ∀ x ∈ m, PyData.strOk x = true) : SeqAt.shaped (dLLL w) = true := by
  have h1 : (dLLL w).canLay0 = true := canAll _ w fun l hl => dLL_can (h l hl)
  have h2 : (dLLL w).depth ≤ 3 := Nat.succ_le_succ (deepAll (n := 2) _ w fun l _ => dLL_deep l)
  unfold SeqAt.shaped
  rw [h1, decide_eq_true (by omega)]; rfl
theorem dS_shaped {l : List Str} (h : ∀ x ∈ l, PyData.strOk x = true) : SeqAt.shaped (dS l) = true := by
  have h2 := dS_deep l
  unfold SeqAt.shaped
  rw [dS_can h, decide_eq_true (by omega)]; rfl
theorem has_map {α : Type} {S : Shape} (f : α → PyData) (l : List α) (h : ∀ x ∈ l, S.has (f x) = true) : (Shape.list S).has (.list (l.map f)) = true := by
  show (l.map f).all S.has = true
  rw [List.all_eq_true]
  intro y hy
  obtain ⟨x, hx, rfl⟩ := List.mem_map.mp hy
  exact h x hx
theorem dS_has (l : List Str) : (Shape.list .str).has (dS l) = true := has_map _ _ fun _ _ => rfl
theorem dLLL_has (w : List (List (List Str))) : (Shape.list (.list (.list .str))).has (dLLL w) = true := has_map _ _ fun l _ => has_map _ _ fun m _ => dS_has m
section
variable {w : World} {A : Around} {s : Shared} {E : Value → Shared → Prop} {a b : Value} {Q : Value → Shared → Prop} {as bs : List Addr}
theorem ne_same {S : Shape} {d : PyData} (ra : Reads s.heap a d as) (rb : Reads s.heap b d bs) (hsh : SeqAt.shaped d = true) (hp : SeqAt.plainShape S = true) (hS : S.has d = true) (hu : A.units + 64 < cLine) (h : Q (.bool false) s) : wpAny (MM w) A (compareOp .NotEq a b) Q E s :=
  ne_dataH_same ra rb hsh hsh hu (SeqAt.noMix_of_shape S hp _ _ hS hS) (by rw [same_refl]; exact h)
end
theorem num_ok : ∀ t : Nat, t < 10 → PyData.strOk (Str.ofString (toString (t : Int))) = true := by decide +kernel
theorem due_strOk {ns : List Int} (hn : ns.length ≤ 10) {l : Nat} : ∀ m ∈ dueAt ns l, ∀ x ∈ m, PyData.strOk x = true := fun m hm x hx => by
  obtain ⟨j, _, rfl⟩ := List.mem_map.mp hm
  obtain ⟨t, ht, rfl⟩ := List.mem_map.mp hx
  have := List.mem_range.mp (List.mem_filter.mp ht).1
  exact num_ok t (by omega)
theorem dress_strOk (first : Int) (ns : List Int) : ∀ x ∈ ns.map (dress first), PyData.strOk x = true := fun x hx => by
  obtain ⟨k, _, rfl⟩ := List.mem_map.mp hx
  unfold PyData.strOk
  rw [Array.all_eq_true_iff_forall_mem]
  intro c hc
  have h := dcode_okS first k c (by rw [← dress_cps]; exact Array.mem_toList_iff.mpr hc)
  have := (okT_parts h).1
  exact decide_eq_true (by omega)
end Mine
-- part Law1
namespace Mine
theorem freshLaw1 : True := by w_top off; trivial
local macro_rules | `(tactic| kct_strs) => `(tactic| first | with_reducible assumption | with_reducible exact And.left (by assumption) | fail "asl")
local macro_rules | `(tactic| k_lt $h:ident) => `(tactic| replace $h := lt_split $h)
abbrev ML (a1 a2 a3 a4 a5 a6 a7 a8 a9 : Option Value) : Str → Option Value := fun y => if y = Str.ofString "script" then a1 else if y = Str.ofString "drawn" then a2 else if y = Str.ofString "cells" then a3 else if y = Str.ofString "kinds" then a4 else if y = Str.ofString "first" then a5 else if y = Str.ofString "turns" then a6 else if y = Str.ofString "places" then a7 else if y = Str.ofString "whole" then a8 else if y = Str.ofString "kind" then a9 else none
theorem fr_ML {g h : Heap} {L : Addr} {m : Str → Option Value} {a1 a2 a3 a4 a5 a6 a7 a8 a9 : Option Value} (F : Fr g L h m) (h1 : m (Str.ofString "script") = a1) (h2 : m (Str.ofString "drawn") = a2) (h3 : m (Str.ofString "cells") = a3) (h4 : m (Str.ofString "kinds") = a4) (h5 : m (Str.ofString "first") = a5) (h6 : m (Str.ofString "turns") = a6) (h7 : m (Str.ofString "places") = a7) (h8 : m (Str.ofString "whole") = a8) (h9 : m (Str.ofString "kind") = a9)
    (hr : ∀ y, y ≠ Str.ofString "script" → y ≠ Str.ofString "drawn" → y ≠ Str.ofString "cells" → y ≠ Str.ofString "kinds" → y ≠ Str.ofString "first" → y ≠ Str.ofString "turns" → y ≠ Str.ofString "places" → y ≠ Str.ofString "whole" → y ≠ Str.ofString "kind" → m y = none) : Fr g L h (ML a1 a2 a3 a4 a5 a6 a7 a8 a9) := fr_map F fun y => by
  unfold ML
  by_cases e1 : y = Str.ofString "script"
  · subst e1; rw [if_pos rfl]; exact h1
  by_cases e2 : y = Str.ofString "drawn"
  · subst e2; rw [if_neg e1, if_pos rfl]; exact h2
  by_cases e3 : y = Str.ofString "cells"
  · subst e3; rw [if_neg e1, if_neg e2, if_pos rfl]; exact h3
  by_cases e4 : y = Str.ofString "kinds"
  · subst e4; rw [if_neg e1, if_neg e2, if_neg e3, if_pos rfl]; exact h4
  by_cases e5 : y = Str.ofString "first"
  · subst e5; rw [if_neg e1, if_neg e2, if_neg e3, if_neg e4, if_pos rfl]; exact h5
  by_cases e6 : y = Str.ofString "turns"
  · subst e6; rw [if_neg e1, if_neg e2, if_neg e3, if_neg e4, if_neg e5, if_pos rfl]; exact h6
  by_cases e7 : y = Str.ofString "places"
  · subst e7; rw [if_neg e1, if_neg e2, if_neg e3, if_neg e4, if_neg e5, if_neg e6, if_pos rfl]; exact h7
  by_cases e8 : y = Str.ofString "whole"
  · subst e8; rw [if_neg e1, if_neg e2, if_neg e3, if_neg e4, if_neg e5, if_neg e6, if_neg e7, if_pos rfl]; exact h8
  by_cases e9 : y = Str.ofString "kind"
  · subst e9; rw [if_neg e1, if_neg e2, if_neg e3, if_neg e4, if_neg e5, if_neg e6, if_neg e7, if_neg e8, if_pos rfl]; exact h9
  rw [if_neg e1, if_neg e2, if_neg e3, if_neg e4, if_neg e5, if_neg e6, if_neg e7, if_neg e8, if_neg e9]; exact hr y e1 e2 e3 e4 e5 e6 e7 e8 e9

section
variable {w : World} {A : Around} {s : Shared} {E : Value → Shared → Prop} {g : Heap} {L : Addr} {m : Str → Option Value} {news : List (Addr × Obj)}
theorem sub_from {value slice : Expr} {l : Addr} {o : Obj} {vs : List Value} {x : Int} {u : Tok} {Q : Value → Shared → Prop} (F : Fr g L s.heap m) (N : News g L s.heap news) (hl : s.heap.get? l = some o) (ho : IsLs o vs.toArray) (h0 : 0 ≤ x) (hz : vs.length ≤ 1000)
    (h : ∀ D h', Fr g L h' m → News g L h' ((D, listOf (vs.drop x.toNat).toArray 0) :: news) → (∀ p ∈ news, p.1 < D) → Q (.ref D) { s with heap := h' })
    (hs : subscripted slice false (.ref l) (.ref s.heap.objs.size) = operate [.ref s.heap.objs.size, .ref l] (getItem (.ref l) (.ref s.heap.objs.size))) (ht : ∀ r, letTemporaryGo value (.ref l) r = pure ()) :
    wpAny (MM w) A (subscriptTail value slice (.ref l) (.ref s.heap.objs.size)) Q E { s with heap := s.heap.push { cls := .type "slice", data := .fields #[.int x u, .none, .none] } } := by
  refine kms_slice_lit (zs := vs.drop x.toNat) F N (l := l) (its := vs.toArray) ⟨o, hl, ho.1, ho.2⟩ (.int x u) .none ?_ h hs ht (by rw [List.size_toArray]; simp [sizeLine_eq]; omega)
  unfold kms_pick kms_lo kms_hi
  simp only [if_neg (show ¬ (x < 0) by omega)]
  rw [kmk_drop_min]
  exact List.take_of_length_le (by rw [List.length_drop]; omega)
end
local macro_rules | `(tactic| walk_at "subscriptTail Name Slice ref ref") => `(tactic| (k_dflt (first | (refine' sub_upto ?F ?N ?hl ?ho ?h0 ?hz ?_ ?hs ?ht; (case F => k_asm); (case N => k_asm); (case hl => first | exact News.get (by assumption) (by k_mem) | exact Fr.keep (by assumption) _ _ (by assumption) | fail "no such list"); (case ho => first | with_reducible assumption | exact isLs _ _); (case h0 => omega); (case hz => assumption); (case hs => with_unfolding_all rfl); (case ht => (intro _; with_unfolding_all rfl)); k_whole; intro D' h' F' N' l1; (try k_lt l1); (try k_sweep)) | (refine' sub_from ?F ?N ?hl ?ho ?h0 ?hz ?_ ?hs ?ht; (case F => k_asm); (case N => k_asm); (case hl => first | exact News.get (by assumption) (by k_mem) | exact Fr.keep (by assumption) _ _ (by assumption) | fail "no such list"); (case ho => first | with_reducible assumption | exact isLs _ _); (case h0 => omega); (case hz => first | with_reducible assumption | exact Nat.le_of_ble_eq_true rfl); (case hs => with_unfolding_all rfl); (case ht => (intro _; with_unfolding_all rfl)); k_whole; intro D' h' F' N' l1; (try k_lt l1); (try k_sweep)))))

section
variable {w : World} {A : Around} {s : Shared} {E : Value → Shared → Prop}
theorem len_li {l : Addr} {o : Obj} {its : Array Value} {Q : Value → Shared → Prop} (hl : s.heap.get? l = some o) (ho : IsLs o its) (hk : its.size ≤ 1000) (h : Q (.int its.size (s.toks + 1)) { s with toks := s.toks + 1 + 1 }) : wpAny (MM w) A (call (.builtin "len") [.ref l]) Q E s :=
  len_list (items := its) ⟨_, hl, ho.1, ho.2⟩ (by omega) h
end
local macro_rules | `(tactic| walk_at "call builtin:len") => `(tactic| (k_dflt (refine' len_li ?hl ?ho ?hk ?_; (case hl => first | exact News.get (by assumption) (by k_mem) | exact Fr.keep (by with_reducible assumption) _ _ (by with_reducible assumption)); (case ho => first | with_reducible assumption | exact isLs _ _); (case hk => first | (simp only [List.size_toArray]; omega) | omega); k_whole)))
local macro_rules | `(tactic| walk_at "binaryOp Add ref ref") => `(tactic| (k_dflt (refine' kmk_add_lit ?F ?N ?a ?b ?e ?_ ?z; (case F => k_asm); (case N => k_asm); (case a => exact ⟨_, News.get (by assumption) (by k_mem), rfl, _, rfl⟩); (case b => exact ⟨_, News.get (by assumption) (by k_mem), rfl, _, rfl⟩); (case e => rfl); (case z => (simp only [sizeLine_eq, Array.length_toList, List.toList_toArray, List.length_drop, List.length_cons, List.length_nil]; omega))); intro D' h' F' N' l1; (try k_lt l1); (try k_sweep)))
local macro_rules | `(tactic| walk_at "call builtin:sum") => `(tactic| (k_dflt (refine' PyProof.Rows.LSm.sum_ints ?F ?N ?hh ?hl ?hi ?_; (case F => k_asm); (case N => k_asm); (case hh => assumption); (case hl => exact ⟨_, News.get (by assumption) (by k_mem), rfl, _, rfl⟩); (case hi => assumption); k_whole; intro h' tk' t' F' N'; (try k_sweep))))
local macro_rules | `(tactic| walk_at "subscriptTail Name Constant ref int") => `(tactic| (k_dflt (refine' item_liZ ?hl ?ho ?hx ?h0 ?ht ?_ ?hs; (case hl => exact News.get (by assumption) (by k_mem)); (case ho => exact isLs _ _); (case hx => with_reducible assumption); (case h0 => decide); (case ht => decide); (case hs => with_unfolding_all rfl); k_whole)))
local macro_rules | `(tactic| walk_at "compareOp NotEq ref ref") => `(tactic| (k_dflt (refine' ne_same ?ra ?rb ?hsh ?hp ?hS ?hu ?_; (case ra => assumption); (case rb => assumption); (case hsh => with_reducible assumption); (case hS => with_reducible assumption); (case hp => with_unfolding_all rfl); (case hu => (show Around.units _ + 3 + 64 < _; omega)); k_whole)))
local macro_rules | `(tactic| walk_at "call type:set") => `(tactic| (k_dflt (refine' call_set3 ?hh ?hl ?hi ?hk ?_; (case hh => assumption); (case hl => exact ⟨_, News.get (by assumption) (by k_mem), rfl, _, rfl⟩); (case hi => assumption); (case hk => assumption); k_whole); intro h' tk' hset' hkeep'; (obtain ⟨F', N'⟩ := same_all (by assumption) (by assumption) (fun b o e => hkeep' b o (Heap.lt_size e) e)); clear hkeep'; (try k_sweep)))
local macro_rules | `(tactic| walk_at "call builtin:sorted") => `(tactic| (k_dflt (refine' sorted_set3 ?F ?N ?hA ?hS ?_; (case hA => assumption); (case F => k_asm); (case N => k_asm); (case hS => assumption); k_whole); intro D' vs' ns' c' h' tk' F' N' l1 hi' hm' hl'; clear l1; (try k_sweep)))
abbrev drawn1 (c : Int) : Int := c.fmod (10 ^ Int.toNat 6)
abbrev fillers : List Int := [1, 0, 1, 1, 0]
abbrev cellsOf (ns : List Int) : List Int := (ns.take 7).map drawn1 ++ fillers.drop (ns.take 7).length
section
variable {w : World} {mg mb : Str → Option Value} {A : Around} {s : Shared} {b : Heap} {Q E : Value → Shared → Prop} {R : Result → Shared → Prop} {loose : List Str} {mean : ExcName → Option Value}
theorem law1 {sp P : Addr} {so : Obj} {vs : List Value} {ns : List Int}
    (G : Gd w mg mb b s.heap) (TT : Top topProg loose mean mg mb b) (CC : CodeHd b 262 P) (hdep : A.depth + 30 < recursionLimit) (hA : A.handled = none) (hu : A.units + 200 < cLine)
    (hk : s.heap.get? sp = some so) (hko : IsLs so vs.toArray) (hi : IntsAre vs ns) (hn : ns.length ≤ 100) (hl : Led b s.heap [(P, tabObj #[])]) (hne : sp ≠ P) (hbare : AllBare s.gens)
    (hret : ∀ ps h' tk gens', Chg [P] s.heap h' → h'.get? P = some (tabObj ps) → AllBare gens' → R (.ok (.ret (.bool true))) { s with heap := h', toks := tk, gens := gens' }) :
    codeAny (MM w) A (.call (.ref 305) ⟨[.ref sp], []⟩) R s := by
  have X := G.K
  k_dflt (refine' enter (binds := [(Str.ofString "script", .ref sp)]) G hl ?k6 ?k7 (by omega) ?k9 ?kB ?c5 ?_ ?c2 ?c3 ?c4; ktn_open)
  clear X
  intro g L h₁ hg F N X T lt
  k_lt lt
  have hgk : g.get? sp = some so := by rw [hg]; exact hideAll_get _ hk (by simpa using hne)
  have st := st_of G hl
  rw [← hg] at st
  have hvl := hi.length
  have hvz : vs.length ≤ 1000 := by omega
  try dsimp only
  k_steps
  rename Fr g L _ _ => F1
  rename News g L _ _ => N1
  have hi7 := hi.take 7
  obtain ⟨vs7, ev7⟩ : ∃ x, x = vs.take 7 := ⟨_, rfl⟩
  rw [show List.take (Int.toNat 7) vs = vs7 from by rw [ev7]; rfl] at N1
  rw [← ev7] at hi7
  obtain ⟨ns7, en7⟩ : ∃ x, x = ns.take 7 := ⟨_, rfl⟩
  rw [← en7] at hi7
  have hn7 : ns7.length ≤ 7 := by rw [en7, List.length_take]; omega
  have hv7 := hi7.length
  rename_i D0 h10 l10
  refine iter_li F1 N1 (News.get N1 (.head _)) (isLs _ _) ?_
  intro I h4 oI hI F4 N4 lI
  refine comp_go_use rfl rfl rfl F4 N4 X T (by decide) rfl (.head _) (fun s' Q' E' h h' => wpAny_pyIter_listiter ⟨_, h, hI⟩ h') ?_
  intro C D g2 h5 tk5 hg2 F5 N5 X5 T5 lD lC hgg hL2
  k_lt lI
  k_lt lD
  refine comp_ind0 (α := Nat) (fun i s' => Ex6 fun (h : Heap) (tk : Nat) (m' : Str → Option Value) (ys : Array Value) (n : Nat) (oI : Obj) => And7 (s' = { s with heap := h, toks := tk }) (Fr g2 C h m') (IsLi oI D0 i) (i ≤ vs7.length) (ys.size = i) (IntsAre ys.toList ((ns7.take i).map drawn1)) (News g2 C h [(D, listOf ys n), (I, oI), (D0, listOf vs7.toArray 0), (P, tabObj #[])])) (fun i => vs7.length - i) ?_ 0 ?_
  case refine_2 => exact ⟨_, _, _, _, _, _, rfl, F5, hI, Nat.zero_le _, rfl, .nil, N5⟩
  clear F5 N5 F4 N4 F1 N1
  rintro i s' ⟨h6, tk6, m6, ys, n, oI, rfl, F6, hI, hle, hsz, hst, N6⟩
  intro K1 hK1
  by_cases hlt : i < vs7.length
  · refine next_li (News.get N6 (by k_mem)) hI (News.get N6 (by k_mem)) (isLs _ _) (x := vs7[i]) (by simp [hlt]) ?_
    intro h7 oI' hI' c7 e7
    refine upd_k F6 N6 (by k_upd) c7 e7 fun F7 N7 => ?_
    clear F6 N6 c7 e7
    have hln : i < ns7.length := by rw [← hv7]; exact hlt
    have hsz' : ys.size ≤ 1000 := by omega
    obtain ⟨t, ht⟩ := ints_at hi7 hlt hln
    rw [ht]
    try dsimp only
    k_steps
    rename Fr g2 C _ _ => F8
    rename News g2 C _ _ => N8
    refine hK1 _ ?_; exact ⟨i + 1, (by first | with_reducible exact mdec (by assumption) | (dsimp only; omega)), _, _, _, _, _, _, rfl, F8, hI', hlt, (by rw [Array.size_push, hsz]), ints_next hst hln rfl, N8⟩
  · have hie : i = vs7.length := by first | with_reducible exact eqEnd (by assumption) (by assumption) | omega
    subst hie
    refine end_li hA (News.get N6 (by k_mem)) hI (News.get N6 (by k_mem)) (isLs _ _) (by simp) ?_
    intro h7 c7
    refine drop2_k F6 N6 c7 (by k_all) fun F7 N7 => ?_
    clear F6 N6 c7
    refine CompEndU.intro F7 N7 ?_
    intro h8 F8 N8
    clear F7 N7 X5 T5
    rw [take_all (Nat.le_of_eq hv7.symm)] at hst
    clear hg2 hgg hL2
    dsimp only
    k_steps
    rename Fr g L _ _ => F8
    rename News g L _ _ => N8
    obtain ⟨ms, hms⟩ : ∃ x, x = ns7.map drawn1 ++ fillers.drop ns7.length := ⟨_, rfl⟩
    rename_i tL Dl hl1 ll1 Ds hs1 ls1 D1 ht1 Ft1 Nt1 lz1 h12
    obtain ⟨cs, ecs⟩ : ∃ x, x = ys.toList ++ (List.drop ((ys.size : Nat) : Int).toNat [Value.int 1 tL, .int 0 (tL + 1), .int 1 (tL + 1 + 1), .int 1 (tL + 1 + 1 + 1), .int 0 (tL + 1 + 1 + 1 + 1)]) := ⟨_, rfl⟩
    have Nz : News g L h12 [(D1, listOf cs.toArray 0), (P, tabObj #[])] := by
      rw [ecs]; exact news_of N8 (List.forall_mem_cons.mpr ⟨.head _, List.forall_mem_cons.mpr ⟨by k_mem, List.forall_mem_nil _⟩⟩)
    have hcs : IntsAre cs ms := by
      rw [ecs, hms, show ((ys.size : Nat) : Int).toNat = ns7.length by omega]
      exact hst.append (IntsAre.drop (.cons _ _ (.cons _ _ (.cons _ _ (.cons _ _ (.cons _ _ .nil))))) _)
    have hml : 5 ≤ ms.length ∧ ms.length ≤ 7 := by
      rw [hms, List.length_append, List.length_map, List.length_drop]; simp only [fillers, List.length_cons, List.length_nil]; omega
    have Fz : Fr g L h12 (ML (some (.ref sp)) (some (.ref D)) (some (.ref D1)) none none none none none none) := fr_ML F8 rfl rfl rfl rfl rfl rfl rfl rfl rfl (by intro y k1 k2 k3 k4 k5 k6 k7 k8 k9; simp only [k2, k3, if_false]; show List.lookup y [(Str.ofString "script", Value.ref sp)] = none; rw [List.lookup_cons, beq_eq_false_iff_ne.mpr k1]; rfl)
    have lPD : @LT.lt Nat _ P D1 := (show @LT.lt Nat _ P D1 ∧ True from allLt_drop 3 lz1.2).1
    have hcl := hcs.length
    clear hK1 K1 Ft1 Nt1 N8 F8 lz1 ls1 ll1 hst ecs hlt hsz hle hI lC lD lI
    dsimp only
    refine iter_li Fz Nz (News.get Nz (.head _)) (isLs _ _) ?_
    clear I oI
    intro I h4 oI hI F4 N4 lI
    refine comp_go rfl F4 N4 X T (by decide) rfl (.head _) (fun s' Q' E' h h' => wpAny_pyIter_listiter ⟨_, h, hI⟩ h') ?_
    clear h5 C g2
    intro C K g2 h5 tk5 hg2 F5 N5 X5 T5 lD lC hgg hL2
    clear hg2 hL2 hgg
    k_lt lI
    k_lt lD
    refine comp_ind0 (α := Nat) (fun i s' => Ex6 fun (h : Heap) (tk : Nat) (m' : Str → Option Value) (ys : Array Value) (n : Nat) (oI : Obj) => And7 (s' = { s with heap := h, toks := tk }) (Fr g2 C h m') (IsLi oI D1 i) (i ≤ cs.length) (ys.size = i) (IntsAre ys.toList ((ms.take i).map fun c => Int.fmod c 3)) (News g2 C h [(K, listOf ys n), (I, oI), (D1, listOf cs.toArray 0), (P, tabObj #[])])) (fun i => cs.length - i) ?_ 0 ?_
    case refine_2 => exact ⟨_, _, _, _, _, _, rfl, F5, hI, Nat.zero_le _, rfl, .nil, N5⟩
    clear F5 N5 F4 N4 Fz Nz h6 h7 h8 m6 ys n
    rintro i s' ⟨h6, tk6, m6, ys, n, oI, rfl, F6, hI, hle, hsz, hst, N6⟩
    intro K2 hK2
    by_cases hlt : i < cs.length
    · refine next_li (News.get N6 (by k_mem)) hI (News.get N6 (by k_mem)) (isLs _ _) (x := cs[i]) (by simp [hlt]) ?_
      intro h7 oI' hI' c7 e7
      refine upd_k F6 N6 (by k_upd) c7 e7 fun F7 N7 => ?_
      clear F6 N6 c7 e7
      have hln : i < ms.length := by rw [← hcl]; exact hlt
      have hsz' : ys.size ≤ 1000 := by omega
      obtain ⟨t, ht⟩ := ints_at hcs hlt hln
      rw [ht]
      try dsimp only
      k_steps
      rename Fr g2 C _ _ => F8
      rename News g2 C _ _ => N8
      refine hK2 _ ?_; exact ⟨i + 1, (by first | with_reducible exact mdec (by assumption) | (dsimp only; omega)), _, _, _, _, _, _, rfl, F8, hI', hlt, (by rw [Array.size_push, hsz]), ints_next hst hln rfl, N8⟩
    · have hie : i = cs.length := by first | with_reducible exact eqEnd (by assumption) (by assumption) | omega
      subst hie
      refine end_li hA (News.get N6 (by k_mem)) hI (News.get N6 (by k_mem)) (isLs _ _) (by simp) ?_
      intro h7 c7
      refine drop2_k F6 N6 c7 (by k_all) fun F7 N7 => ?_
      clear F6 N6 c7
      refine CompEnd.intro F7 N7 ?_
      intro h8 F8 N8
      clear F7 N7 X5 T5
      rw [take_all (Nat.le_of_eq hcl.symm)] at hst
      dsimp only
      k_steps
      rename Fr g L _ _ => F2
      rename News g L _ _ => N2
      refine unpackItemsN_ F2 N2 ⟨_, (N2 _ (List.mem_cons_self ..)).1, rfl, _, rfl⟩ hA rfl fun h3 F3 N3 => ?_
      clear F2 N2
      dsimp only
      k_steps
      rename Fr g L _ _ => F3
      rename News g L _ _ => N3
      obtain ⟨ks, rfl⟩ : ∃ ks : List Value, ys = ks.toArray := ⟨ys.toList, by simp⟩
      obtain ⟨kn, hkn⟩ : ∃ x, x = ms.map fun c => Int.fmod c 3 := ⟨_, rfl⟩
      have hks : IntsAre ks kn := by rw [hkn]; simpa using hst
      have hknd : ∀ k ∈ kn, Kind k := by rw [hkn]; exact kinds3 ms
      have hkl : kn.length = ms.length := by rw [hkn, List.length_map]
      have hksl := hks.length
      have lK : @LT.lt Nat _ P K := by omega
      clear hst hsz hle hlt hI hkn
      refine line (P := P) (vs := ks) (ns := kn) ⟨G.K, G.T, fun a o e => F3.keep _ _ (st a o e)⟩ TT CC (by show A.depth + 1 + 4 < _; exact lt_le 25 hdep) hA ⟨_, News.get N3 (by k_mem), rfl, _, rfl⟩ hks (by omega) (Led.cons (News.get N3 (by k_mem)) (bn_of st N3 (by k_mem)) Led.nil) ?_
      intro z pt h4 tk4 c4 hz hzt hP4 hq4 hab4
      clear hab4
      have hqn : ∀ q ∈ (z.p, listOf #[] 0) :: z.led [] 0, K ≠ q.1 ∧ P ≠ q.1 := fun q hm => by
        have h1 := (hq4 q hm).2
        dsimp only at h1
        exact ⟨fun e => (by rw [← e, News.get N3 (o := listOf ks.toArray n) (by k_mem)] at h1; cases h1), fun e => (by rw [← e, News.get N3 (o := tabObj #[]) (by k_mem)] at h1; cases h1)⟩
      obtain ⟨F4, N4⟩ := chg_all (news' := (K, listOf ks.toArray n) :: (P, tabObj pt) :: (z.p, listOf #[] 0) :: z.led [] 0) F3 N3 c4 (fun a ha => by rw [List.mem_singleton.mp ha]; exact (N3 (P, tabObj #[]) (by k_mem)).2)
        (List.forall_mem_cons.mpr ⟨.inl ⟨by k_mem, fun e => absurd (List.mem_singleton.mp e) (neN (by dsimp only; omega))⟩, List.forall_mem_cons.mpr ⟨.inr ⟨hP4, .inl (.head _)⟩, fun q hm => .inr ⟨(hq4 q hm).1, .inr (hq4 q hm).2⟩⟩⟩)
      clear F3 N3 c4 hP4 hq4
      dsimp only
      k_steps
      have ew : (((ks.toArray.size : Nat) : Int)) = (((kn.map (dress (Int.fmod ms.sum 7))).length : Nat) : Int) := by rw [List.length_map, List.size_toArray, hksl]
      rw [ew]
      refine turns (z := z) (ws := kn.map (dress (Int.fmod ms.sum 7))) (n0 := 0) ⟨G.K, G.T, fun a o e => F4.keep _ _ (st a o e)⟩ (by show A.depth + 1 + 5 < _; exact lt_le 24 hdep) hA (fun q hq => ⟨(N4 q (.tail _ (.tail _ hq))).1, bn_of st N4 (.tail _ (.tail _ hq))⟩) hz (by rw [List.length_map]; omega) (words_okc _ _) (by rw [hzt]; exact text_words _ _) ?_
      intro T0 rs ex1 ws nT h6 tk6 hws hrl hT0 hrow hex1 hTs c6
      dsimp only at hTs
      have hgl : (z.gl, listOf ([] : List Value).toArray 0) ∈ (z.p, listOf #[] 0) :: z.led [] 0 := .tail _ (by dsimp only [LexA.led]; k_mem)
      have fr1 : ∀ x : Addr, @LE.le Nat _ T0 x → ∀ hh : Heap, hh.objs.size ≤ T0 → hh.get? x = none := fun x hx hh hs => by
        cases e : hh.get? x with
        | none => rfl
        | some o => exact absurd (Heap.lt_size e) (Nat.not_lt.mpr (Nat.le_trans hs hx))
      obtain ⟨F6, N6⟩ := chg_all (news' := (T0, listOf rs.toArray nT) :: (K, listOf ks.toArray n) :: (P, tabObj pt) :: ex1) F4 N4 c6
        (fun a ha => by
          rcases List.mem_cons.mp ha with rfl | ha
          · exact (N4 (z.p, listOf #[] 0) (.tail _ (.tail _ (.head _)))).2
          · rw [List.mem_singleton.mp ha]; exact (N4 _ (.tail _ (.tail _ hgl))).2)
        (List.forall_mem_cons.mpr ⟨.inr ⟨hT0, .inr (fr1 _ (Nat.le_refl _) _ hTs)⟩, List.forall_mem_cons.mpr ⟨.inl ⟨.head _, fun e => by
            rcases List.mem_cons.mp e with e | e
            · exact (hqn _ (.head _)).1 e
            · exact (hqn _ hgl).1 (List.mem_singleton.mp e)⟩, List.forall_mem_cons.mpr ⟨.inl ⟨.tail _ (.head _), fun e => by
            rcases List.mem_cons.mp e with e | e
            · exact (hqn _ (.head _)).2 e
            · exact (hqn _ hgl).2 (List.mem_singleton.mp e)⟩, fun q hm => .inr ⟨(hex1 q hm).1, .inr (fr1 _ (Nat.le_of_lt (hex1 q hm).2) _ hTs)⟩⟩⟩⟩)
      clear F4 N4 c6 hz hzt hqn hgl
      dsimp only
      k_steps
      rename Fr g L _ _ => F7
      rename News g L _ _ => N7
      have hwn : (kn.map (dress (Int.fmod ms.sum 7))).length = kn.length := List.length_map _
      refine places (ys := ws) (rs := rs) (ws := kn.map (dress (Int.fmod ms.sum 7))) ⟨G.K, G.T, fun a o e => F7.keep _ _ (st a o e)⟩ (by show A.depth + 1 + 10 < _; exact lt_le 19 hdep) hA (News.get N7 (.head _)) (isLs _ _) hws hrl (by omega) (dress_len _ _) (rows_ok (by omega)) (fun t ht => nums_ok t (by omega)) (fun j hj => ?_) ?_
      · obtain ⟨r, k, e1, e2⟩ := hrow j hj
        exact ⟨r, k, e1, News.get N7 (.tail _ (.tail _ (.tail _ e2)))⟩
      intro PL ps ex2 nP h8 tk8 hPL hpl hps hex2 hPLn c8
      obtain ⟨F8, N8⟩ := chg_all (news' := (PL, listOf ps.toArray nP) :: (T0, listOf rs.toArray nT) :: (K, listOf ks.toArray n) :: (P, tabObj pt) :: (ex1 ++ ex2)) F7 N7 c8 (fun a ha => nomatch ha)
        (List.forall_mem_cons.mpr ⟨.inr ⟨hPL, .inr hPLn⟩, List.forall_mem_cons.mpr ⟨.inl ⟨.head _, (fun e => nomatch e)⟩, List.forall_mem_cons.mpr ⟨.inl ⟨.tail _ (.head _), (fun e => nomatch e)⟩, List.forall_mem_cons.mpr ⟨.inl ⟨.tail _ (.tail _ (.head _)), (fun e => nomatch e)⟩, fun q hm => by
          rcases List.mem_append.mp hm with hm | hm
          · exact .inl ⟨.tail _ (.tail _ (.tail _ hm)), (fun e => nomatch e)⟩
          · exact .inr ⟨(hex2 q hm).1, .inr (hex2 q hm).2⟩⟩⟩⟩⟩)
      clear F7 N7 c8
      obtain ⟨r0, k0, er0, em0⟩ := hrow 0 (by omega)
      have hx0 : rs.toArray[Int.toNat 0]? = some (.ref r0) := by simpa using er0
      dsimp only
      k_steps
      rename Fr g L _ _ => F9
      rename News g L _ _ => N9
      rw [show rot 0 ws = ws from by simp [rot]] at em0
      refine dressed (vs := ks) (ns := kn) ⟨G.K, G.T, fun a o e => F9.keep _ _ (st a o e)⟩ (by show A.depth + 1 + 1 < _; exact lt_le 28 hdep) hA ⟨_, News.get N9 (by k_mem), rfl, _, rfl⟩ hks (by omega) ?_
      intro rd yd nd h10x tk10 c10 hyd hrd hrdn
      obtain ⟨Fa, Na⟩ := chg_all (news' := (rd, listOf yd nd) :: (PL, listOf ps.toArray nP) :: (T0, listOf rs.toArray nT) :: (K, listOf ks.toArray n) :: (P, tabObj pt) :: (ex1 ++ ex2)) F9 N9 c10 (fun a ha => nomatch ha)
        (List.forall_mem_cons.mpr ⟨.inr ⟨hrd, .inr hrdn⟩, fun q hm => .inl ⟨hm, (fun e => nomatch e)⟩⟩)
      clear F9 N9 c10 hrd hrdn
      have hra : Reads h10x (.ref r0) (dS (kn.map (dress (Int.fmod ms.sum 7)))) _ := .list (News.get Na (.tail _ (.tail _ (.tail _ (.tail _ (.tail _ (List.mem_append_left _ em0))))))) rfl rfl (hws.reads _)
      have hrb : Reads h10x (.ref rd) (dS (kn.map (dress (Int.fmod ms.sum 7)))) _ := .list (News.get Na (.head _)) rfl rfl (hyd.reads _)
      have hsh1 := dS_shaped (dress_strOk (Int.fmod ms.sum 7) kn)
      have hsh2 := dS_has (kn.map (dress (Int.fmod ms.sum 7)))
      dsimp only
      k_steps
      rename Fr g L _ _ => Fb
      rename News g L _ _ => Nb
      clear hra hrb hsh1 hsh2
      refine due (vs := ks) (ns := kn) ⟨G.K, G.T, fun a o e => Fb.keep _ _ (st a o e)⟩ (by show A.depth + 1 + 10 < _; exact lt_le 19 hdep) hA (by show Around.units _ + 3 + 100 < _; omega) (News.get Nb (by k_mem)) (isLs _ _) hks (by omega) ?_
      intro QD pd ex3 nQ h11 tk11 hQD hpdl hpd hex3 hQDn c11
      obtain ⟨Fc, Nc⟩ := chg_all (news' := (QD, listOf pd.toArray nQ) :: (PL, listOf ps.toArray nP) :: (T0, listOf rs.toArray nT) :: (K, listOf ks.toArray n) :: (P, tabObj pt) :: ((ex1 ++ ex2) ++ ex3)) Fb Nb c11 (fun a ha => nomatch ha)
        (List.forall_mem_cons.mpr ⟨.inr ⟨hQD, .inr hQDn⟩, fun q hm => by
          rcases List.mem_append.mp (show q ∈ ((PL, listOf ps.toArray nP) :: (T0, listOf rs.toArray nT) :: (K, listOf ks.toArray n) :: (P, tabObj pt) :: (ex1 ++ ex2)) ++ ex3 from hm) with hm | hm
          · exact .inl ⟨.tail _ hm, (fun e => nomatch e)⟩
          · exact .inr ⟨(hex3 q hm).1, .inr (hex3 q hm).2⟩⟩)
      clear Fb Nb c11 hQD hQDn
      have hLP : ∀ j (hj : j < ps.length), LLH h11 ps[j] (dueAt kn (j + 1)) := fun j hj => llh_of (by have := hps j hj; rwa [want_due hknd (by omega)] at this) fun q hq => News.get Nc (.tail _ (.tail _ (.tail _ (.tail _ (.tail _ (List.mem_append_left _ (List.mem_append_right _ hq)))))))
      have hLD : ∀ j (hj : j < pd.length), LLH h11 pd[j] (dueAt kn (j + 1)) := fun j hj => llh_of (hpd j hj) fun q hq => News.get Nc (.tail _ (.tail _ (.tail _ (.tail _ (.tail _ (List.mem_append_right _ hq))))))
      obtain ⟨as1, hrc⟩ := lll_reads (F := fun j => dueAt kn (j + 1)) (News.get Nc (.tail _ (.head _))) hLP
      obtain ⟨as2, hrd⟩ := lll_reads (F := fun j => dueAt kn (j + 1)) (News.get Nc (.head _)) hLD
      rw [show ps.length = pd.length by omega] at hrc
      have hsh3 : SeqAt.shaped (dLLL ((List.range pd.length).map fun j => dueAt kn (j + 1))) = true := dLLL_shaped (fun l hl m hm x hx => by obtain ⟨j, _, rfl⟩ := List.mem_map.mp hl; exact due_strOk (by omega) m hm x hx)
      have hsh4 := dLLL_has ((List.range pd.length).map fun j => dueAt kn (j + 1))
      dsimp only
      k_steps
      rename Fr g L _ _ => Fd
      rename News g L _ _ => Nd
      clear hrc hrd hsh3 hsh4 hLD hLP
      refine said (ys := ws) (ws := kn.map (dress (Int.fmod ms.sum 7))) (nw := k0) ⟨G.K, G.T, fun a o e => Fd.keep _ _ (st a o e)⟩ (by show A.depth + 1 + 10 < _; exact lt_le 19 hdep) hA (News.get Nd (.tail _ (.tail _ (.tail _ (.tail _ (.tail _ (List.mem_append_left _ (List.mem_append_left _ em0)))))))) hws (by omega) (dress_len _ _) (said_bd hknd) hbare ?_
      intro rS h12x tk12 gens' hrS c12 hbare'
      refine same_k Fd Nd c12 fun Fe Ne => ?_
      have Nf : News g L h12x ((PL, listOf ps.toArray nP) :: (K, listOf ks.toArray n) :: (P, tabObj pt) :: ex2) := news_of Ne fun q hq => by
        rcases List.mem_cons.mp hq with rfl | hq
        · exact .tail _ (.head _)
        rcases List.mem_cons.mp hq with rfl | hq
        · exact .tail _ (.tail _ (.tail _ (.head _)))
        rcases List.mem_cons.mp hq with rfl | hq
        · exact .tail _ (.tail _ (.tail _ (.tail _ (.head _))))
        · exact .tail _ (.tail _ (.tail _ (.tail _ (.tail _ (List.mem_append_left _ (List.mem_append_right _ hq))))))
      clear Fd Nd Ne c12
      have hks2 : IntsAre ks.toArray.toList kn := by simpa using hks
      dsimp only
      k_steps
      rename Fr g L _ _ => Fg
      rename News g L _ _ => Ng
      rename_i Dk vs3 ns3 c3 hz3 tkz hi3 hm3 hl3
      obtain ⟨tf, Fz2⟩ : ∃ tf, Fr g L hz3 (ML (some (.ref sp)) (some (.ref D)) (some (.ref D1)) (some (.ref K)) (some (.int (Int.fmod ms.sum 7) tf)) (some (.ref T0)) (some (.ref PL)) (some (.bool (!rS))) none) :=
        ⟨_, fr_ML Fg rfl rfl rfl rfl rfl rfl rfl rfl rfl (by intro y k1 k2 k3 k4 k5 k6 k7 k8 k9; kd_addB)⟩
      refine iter_li Fz2 Ng (News.get Ng (.head _)) (isLs _ _) ?_
      intro J hj0 oJ hJ Fh Nh lJ
      clear Fg Fz2 Ng
      dsimp only
      refine for_ind (α := Nat) (fun i s' => Ex4 fun (h : Heap) (tk : Nat) (vk : Option Value) (oJ : Obj) => And5 (s' = { s with heap := h, toks := tk, gens := gens' }) (Fr g L h (ML (some (.ref sp)) (some (.ref D)) (some (.ref D1)) (some (.ref K)) (some (.int (Int.fmod ms.sum 7) tf)) (some (.ref T0)) (some (.ref PL)) (some (.bool (!rS))) vk)) (i ≤ vs3.length) (IsLi oJ Dk i) (News g L h ((J, oJ) :: (Dk, listOf vs3.toArray c3) :: (PL, listOf ps.toArray nP) :: (K, listOf ks.toArray n) :: (P, tabObj pt) :: ex2))) (fun i => vs3.length - i) ?_ 0 ?_
      case refine_2 => exact ⟨_, _, _, _, rfl, Fh, Nat.zero_le _, hJ, Nh⟩
      clear Fh Nh hJ oJ
      rintro i s' ⟨hh, tkh, vk, oJ, rfl, Fh, hile, hJ, Nh⟩
      intro K3 hK3
      refine turn_name ?_
      by_cases hlt : i < vs3.length
      · refine next_li (x := vs3[i]) (News.get Nh (.head _)) hJ (News.get Nh (by k_mem)) (isLs _ _) (by simp [hlt]) ?_
        intro hi2 oJ' hJ' ci ei
        refine upd_k Fh Nh (.head fun p hp => Nat.ne_of_lt (lJ p hp)) ci ei fun Fi Ni => ?_
        clear Fh Nh ci ei
        have hln : i < ns3.length := by rw [← hi3.length]; exact hlt
        obtain ⟨t, ht⟩ := ints_at hi3 hlt hln
        rw [ht]
        dsimp only
        k_steps
        rename Fr g L _ _ => Fj
        rename News g L _ _ => Nj
        refine cut (W := fun i => dueAt kn (i + 1)) (ns := kn) (vs := ks) (ps := ps) ⟨G.K, G.T, fun a o e => Fj.keep _ _ (st a o e)⟩ (by show A.depth + 1 + 10 < _; exact lt_le 19 hdep) hA (by show Around.units _ + 3 + 100 < _; omega) (News.get Nj (by k_mem)) (isLs _ _) hks (by omega) (News.get Nj (by k_mem)) (isLs _ _) (by omega)
          (fun j hj => llh_of (by have := hps j hj; rwa [want_due hknd (by omega)] at this) fun q hq => News.get Nj (.tail _ (.tail _ (.tail _ (.tail _ (.tail _ hq)))))) (fun i => due_size _ _) (fun i j => due_bound (by omega) i j) ?_
        intro r hk2 tk2 hr ck
        rw [law_plain (first := Int.fmod ms.sum 7) (by omega) (by omega) hknd (hm3 _ (List.getElem_mem _)), ← hrS] at hr
        subst hr
        refine same_k Fj Nj ck fun Fk Nk => ?_
        clear Fj Nj ck
        dsimp only
        k_steps
        · rename_i ha
          exact absurd ha (by cases rS <;> decide)
        · rename Fr g L _ _ => Fl
          rename News g L _ _ => Nl
          refine hK3 _ _ ?_; exact ⟨i + 1, (by first | with_reducible exact mdec (by assumption) | (dsimp only; omega)), _, _, _, _, rfl, fr_ML Fl rfl rfl rfl rfl rfl rfl rfl rfl rfl (by intro y k1 k2 k3 k4 k5 k6 k7 k8 k9; kd_addB), hlt, hJ', Nl⟩
      · have hie : i = vs3.length := by first | with_reducible exact eqEnd (by assumption) (by assumption) | omega
        subst hie
        refine end_li hA (News.get Nh (.head _)) hJ (News.get Nh (by k_mem)) (isLs _ _) (by simp) ?_
        intro hi2 ci
        refine drop_k Fh Nh ci (fun p hp => Nat.ne_of_lt (lJ p hp)) fun Fi Ni => ?_
        clear Fh Nh ci
        dsimp only
        k_steps
        rw [hg] at Fi
        exact hret pt _ _ gens' (chg_of Fi) (News.get Ni (by k_mem)) hbare'
end
end Mine
end
-- part Glue
namespace Mine
theorem post_true (l : OpenLaw) (args ds : List WData) : l.row.toRowW.claim.post args (.bool true) ds = true := by
  show (WShape.has [] (.bool true) .bool && (WTm.eq .res (.lit (.bool true))).holds [] { args := args, res := some (.bool true), after := ds }) = true
  simp [WShape.has, WShape.arms, WTm.holds, WTm.value, PySem.W.same]
abbrev tabL : List (Addr × Addr) := [(262, 258)]
theorem glue {w : World} {mg mb : Str → Option Value} {s₁ : Shared} {mean : ExcName → Option Value} {fa sp : Addr} {vs : List Value} {ns : List Int} {cl : Str → Option Addr} {mn : ExcName → Option Value}
    (KX : (hd.heap_1 w.params).In s₁.heap) (T : Top kept (looseW kept LL) mean mg mb s₁.heap) (hT : TabsAt tabL s₁.heap) (hmg : mg (Str.ofString "law") = some (.ref fa)) (hg : s₁.gens = #[])
    (hL : s₁.heap.IsList sp vs.toArray) (hI : IntsAre vs ns) (hn : ns.length ≤ 63) :
    codeAny (MM w) callerA (.call (.ref fa) ⟨[.ref sp], []⟩) (GoodWG Challenge.rw_to0057_01.row.claim cl mn [ofPy (.list (ns.map .int))] s₁) s₁ := by
  have e1 : mg (Str.ofString "law") = some (.ref 305) := mg_of KX T.g (by kernel_rfl)
  rw [hmg] at e1
  cases e1
  obtain ⟨so, hso, hc, n, hd⟩ := hL
  have h258 : s₁.heap.get? 258 = some (tabObj #[]) := (hT (262, 258) (.head _)).2
  have hne : sp ≠ 258 := fun e => by rw [e, h258] at hso; cases hso; cases hc
  have X' := ghost_K hT KX (by kernel_rfl)
  have G : Gd w mg mb (ghostOf s₁.heap tabL) s₁.heap := ⟨X', ⟨ghost_ns hT T.g, ghost_ns hT T.b, (ghost_top hT T).nolimit, T.builtins, T.free⟩, fun a o e => of_hideAll _ e⟩
  refine law1 (sp := sp) (P := 258) (so := so) (vs := vs) (ns := ns) G (ghost_top hT T) (ghost_code hT).1 (Nat.le_of_ble_eq_true rfl) rfl (Nat.le_of_ble_eq_true rfl) hso ⟨hc, n, hd⟩ hI (by omega) (Led.cons h258 (hideAll_none _ (.head _)) Led.nil) hne (AllBare.of_eq hg) ?_
  intro ps h' tk gens' c hP hb
  refine ⟨.inl ⟨.bool true, .bool true, [], rfl, fun _ => rfl, .bool true, ?_, fun _ => ⟨List.nodup_nil, fun a ha => nomatch ha⟩⟩, ⟨fun b o e => ?_, fun b o e => ?_⟩, rfl, hb⟩
  · exact post_true _ _ _
  · by_cases h : b = 258
    · subst h
      rw [h258] at e
      cases e
      exact .inr (.inl ⟨((hT (262, 258) (.head _)).1.tab (hT (262, 258) (.head _)).2).isCodeTable, rfl, #[], ps, rfl, by rw [Array.empty_append]; exact hP⟩)
    · exact .inl (c b o e fun m => h (List.mem_singleton.mp m))
  · by_cases h : b = 258
    · subst h; exact ⟨_, hP⟩
    · exact ⟨o, c b o e fun m => h (List.mem_singleton.mp m)⟩
end Mine
theorem PySem.Challenge.cw_to0057_01_holds : PySem.Challenge.rw_to0057_01.Holds := by
  refine Mine.hd ?_
  k_fill
  intro w s₀ s₁ mg mb G Y fa o pm cd doc dV kV ho hd hcd hD hmg hg args vals as hpre hlay hrd hwl hlo
  have KX := km_in_of Y
  km_tabs Y
  refine Ground.open G ?_
  intro T B D TE TW
  try (refine guard_noD D (by decide +kernel) ?_; clear D)
  km_lay T hmg ho hd cd
  wrow_args hpre hlay hrd hwl hlo
  all_goals (first | refine callC_kw (enter_call ?_) | refine enter_call ?_)
  exact Mine.glue KX T hT9 hmg hg (by assumption) (by assumption) (by omega)
