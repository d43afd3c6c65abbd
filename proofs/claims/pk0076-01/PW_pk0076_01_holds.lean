import PyProof.Rows.All
import Wide.All
import OpenK.AllK
import Wide.FinOn
import PySem.Challenge.RW_pk0076_01
open PySem PySem.W PyProof.Rows
set_option Elab.async false
section
namespace Mine
set_option maxRecDepth 100000 in
set_option maxHeartbeats 8000000 in
open_top hd for PySem.Challenge.rw_pk0076_01
end Mine
end
section
open PySem PySem.W PySem.Calls PyProof.Rows
set_option maxRecDepth 100000
namespace Mine
/-- the room that a contract asks for -/
def roomA (d u : Nat) : Around := { handled := none, depth := d, frames := none, guards := none, units := u }
theorem roomA_handled (d u : Nat) : (roomA d u).handled = none := rfl
theorem roomA_depth (d u : Nat) : (roomA d u).depth = d := rfl
theorem roomA_units (d u : Nat) : (roomA d u).units = u := rfl

theorem codeAny_room {M : Model} {A : Around} {d u : Nat} {c : Code} {R : Result → Shared → Prop} {s : Shared}
    (hh : A.handled = none) (hd : A.depth ≤ d) (hu : A.units ≤ u) (h : codeAny M (roomA d u) c R s) : codeAny M A c R s := by
  intro Γ p hc hΓ
  refine h Γ p hc ⟨hΓ.1.trans hh, Nat.le_trans hΓ.2.1 hd, fun l hl => ?_, fun g hg => ?_, Nat.le_trans hΓ.2.2.2.2 hu⟩
  · cases hl
  · cases hg

section
variable {prog : Program} {w : World} {A : Around} {s : Shared} {h₀ : Heap} {L : Addr} {m : Str → Option Value} {news : List (Addr × Obj)} {K : Frag}
  {R : Result → Shared → Prop} {name qual : Str} {params : Arguments} {body : List Stmt} {scope : Scope} {dV kV doc pm cdv ct oc : Value} {an od : Option Addr} {osl : Array (Option Value)} {f : Addr} {args : Args} {binds : List (Str × Value)}
  {p : Program} {loose : List Str} {mean : ExcName → Option Value} {mg mb : Str → Option Value}

/-- what a callee's end gives back to the caller's heap -/
theorem stays_after {g h' : Heap} {L' : Addr} {m' : Str → Option Value} {news' : List (Addr × Obj)} (hN : ∀ p ∈ news, s.heap.get? p.1 = some p.2)
    (hg : g = hideAll s.heap (news.map (·.1))) (F' : Fr g L' h' m') (N' : News g L' h' news') (hs : ∀ p ∈ news, p ∈ news') :
    s.heap.StaysIn h' := by
  subst hg
  intro b o e
  by_cases hb : b ∈ news.map (·.1)
  · obtain ⟨q, hq, rfl⟩ := List.mem_map.mp hb
    have h1 := hN q hq
    rw [e] at h1
    cases h1
    exact (N' q (hs q hq)).1
  · exact F'.keep b o (hideAll_get _ e hb)

/-- a ledger over a ground that holds less -/
theorem news_under {g h h' : Heap} (hs : ∀ b o, g.get? b = some o → h.get? b = some o) (N : News h L h' news) : News g L h' news := by
  intro q hq
  obtain ⟨n1, n2, n3⟩ := N q hq
  refine ⟨n1, n2, Option.eq_none_iff_forall_ne_some.mpr fun o e => ?_⟩
  exact absurd (n3.symm.trans (hs _ o e)) (Option.some_ne_none o).symm
/-- what a caller hides from a callee is no part of its own ground -/
theorem hidden_stays {h : Heap} (F : Fr h₀ L h m) (N : News h₀ L h news) : h₀.StaysIn (hideAll h (news.map (·.1))) := fun b o e =>
  hideAll_get _ (F.keep b o e) fun hb => (List.mem_map.mp hb).elim fun q hq => absurd (((N q hq.1).2.2.symm.trans (congrArg h₀.get? hq.2)).trans e) (Option.some_ne_none o).symm
theorem hidden_fr {h h₁ : Heap} {as : List Addr} {m₁ : Str → Option Value} (hn : h₁.Ns h.objs.size m₁) (hk : ∀ b o, h.get? b = some o → h₁.get? b = some o) : Fr (hideAll h as) h.objs.size h₁ m₁ where
  ns := hn
  keep b o e := hk b o (of_hideAll as e)
  above := Nat.le_of_eq (hideAll_size as h)
theorem hidden_news {h h₁ : Heap} (N : News h₀ L h news) (hk : ∀ b o, h.get? b = some o → h₁.get? b = some o) : News (hideAll h (news.map (·.1))) h.objs.size h₁ news := fun q hq =>
  ⟨(N.grown hk q hq).1, N.apart q hq, hideAll_none _ (List.mem_map.mpr ⟨q, hq, rfl⟩)⟩
/-- entering a def of the text with a chosen part of the ledger -/
theorem enter_def (F : Fr h₀ L s.heap m) (N : News h₀ L s.heap news) (X₀ : K.In h₀) (T : Top p loose mean mg mb h₀)
    (ho : K.lookup f = some ⟨oc, od, .func (fnOf name qual params body scope dV kV doc pm an cdv ct), osl⟩) (hcd : codeIn K cdv qual = true) (hroom : A.depth < recursionLimit)
    (hbind : BindsTo s (fnOf name qual params body scope dV kV doc pm an cdv ct) args binds) (hloc : ∀ y ∈ binds, scope.names.lookup y.1 = some .local)
    (h : ∀ g L' h₁, g = hideAll s.heap (news.map (·.1)) → L' = s.heap.objs.size → (∀ p ∈ news, p.1 < L') → Fr g L' h₁ (fun y => binds.reverse.lookup y) → News g L' h₁ news → K.In g → Top p loose mean mg mb g →
      wpAny (model prog w) (A.deeper (envOf qual scope L' f cdv)) (execs body (envOf qual scope L' f cdv)) (fun fl s' => R (.ok (.ret (match fl with | .ret v => v | _ => .none))) s') (fun _ _ => False) { s with heap := h₁, toks := s.toks + binds.length })
    (hco : scope.isCoroutine = false) (hgen : scope.isGenerator = false) (hk : scope.kind = .function)
    (hcell : ∀ x ∈ scope.names, x.2 ≠ .cell) : codeAny (model prog w) A (.call (.ref f) args) R s := by
  have st := hidden_stays F N
  refine codeAny_call_def hroom (X₀.keeps F.keep _ _ ho) rfl (T.nolimit.keeps F.keep) (codeRec_of (X₀.keeps F.keep) hcd) rfl hbind hcell hloc (fun h₁ hn hg => ?_) hco hgen hk
  have b := h _ _ h₁ rfl rfl (fun q hq => Heap.lt_size (N q hq).1) (hidden_fr hn hg) (hidden_news N hg) (X₀.keeps st) (T.keeps st)
  exact wpAny_mono b (fun _ _ x => x) (fun _ _ => False.elim)
/-- entering a def with cells: its block, over the heap as it stands -/
theorem enter_cells (X : K.In s.heap) (Z : s.heap.NoLimit)
    (ho : K.lookup f = some ⟨oc, od, .func (fnOf name qual params body scope dV kV doc pm an cdv ct), osl⟩) (hcd : codeIn K cdv qual = true) (hroom : A.depth < recursionLimit)
    (hbind : BindsTo s (fnOf name qual params body scope dV kV doc pm an cdv ct) args binds) (hkind : (binds.all fun y => scope.names.lookup y.1 == some .local || scope.names.lookup y.1 == some .cell) = true)
    (hnd : ((cellsFrom 0 scope.names []).map (·.1)).Nodup)
    (h : ∀ h₁ tk cells, (∀ b o, s.heap.get? b = some o → h₁.get? b = some o) → h₁.Ns s.heap.objs.size (bindL (envOfC qual scope s.heap.objs.size f cdv).kindOf binds fun _ => none) → News s.heap s.heap.objs.size h₁ cells →
      CellsAre (bindC (envOfC qual scope s.heap.objs.size f cdv).kindOf binds fun _ => none) (cellsFrom (s.heap.objs.size + 1) scope.names []) cells →
      wpAny (model prog w) (A.deeper (envOfC qual scope s.heap.objs.size f cdv)) (execs body (envOfC qual scope s.heap.objs.size f cdv)) (fun fl s' => R (.ok (.ret (match fl with | .ret v => v | _ => .none))) s') (fun _ _ => False) { s with heap := h₁, toks := tk })
    (hco : scope.isCoroutine = false) (hgen : scope.isGenerator = false) (hk : scope.kind = .function) : codeAny (model prog w) A (.call (.ref f) args) R s := by
  have one : ∀ n c, (n, c) ∈ cellsFrom (s.heap.objs.size + 1) scope.names [] → (cellsFrom (s.heap.objs.size + 1) scope.names []).lookup n = some c := fun n c hm =>
    lookup_of_mem_nodup (by rw [cellsFrom_names scope.names (s.heap.objs.size + 1) 0 [] [] rfl]; exact hnd) hm
  refine codeAny_call_function hroom (X _ _ ho) rfl hco hgen rfl (codeRec_of X hcd) (hbind _ _ _ _ (wpAny_newFunctionEnv_cells hk (kindsX hkind _) fun env' he s' x => ?_))
  cases he
  have hg := x.toInCall.keep
  obtain ⟨h₁, tk, rfl, -⟩ := x.done
  obtain ⟨cells, hc, hA⟩ := Cl.news (h₀ := s.heap) (Nat.le_refl _) fun n c hm => And.intro (x.cell n c (one n c hm)) (x.above n c hm)
  exact ⟨Z.keeps hg, codeAny_func (wpAny_mono (h h₁ tk cells hg x.toInCall.ns hc hA) (fun _ _ q => q) (fun _ _ => False.elim))⟩
/-- the same for a def with cells -/
theorem enter_defC (F : Fr h₀ L s.heap m) (N : News h₀ L s.heap news) (X₀ : K.In h₀) (T : Top p loose mean mg mb h₀)
    (ho : K.lookup f = some ⟨oc, od, .func (fnOf name qual params body scope dV kV doc pm an cdv ct), osl⟩) (hcd : codeIn K cdv qual = true) (hroom : A.depth < recursionLimit)
    (hbind : BindsTo s (fnOf name qual params body scope dV kV doc pm an cdv ct) args binds) (hkind : (binds.all fun y => scope.names.lookup y.1 == some .local || scope.names.lookup y.1 == some .cell) = true)
    (hnd : ((cellsFrom 0 scope.names []).map (·.1)).Nodup)
    (h : ∀ g L' h₁ tk cells, g = hideAll s.heap (news.map (·.1)) → L' = s.heap.objs.size → (∀ p ∈ news, p.1 < L') → Fr g L' h₁ (bindL (envOfC qual scope L' f cdv).kindOf binds fun _ => none) → News g L' h₁ (cells ++ news) →
      CellsAre (bindC (envOfC qual scope L' f cdv).kindOf binds fun _ => none) (cellsFrom (L' + 1) scope.names []) cells → K.In g → Top p loose mean mg mb g →
      wpAny (model prog w) (A.deeper (envOfC qual scope L' f cdv)) (execs body (envOfC qual scope L' f cdv)) (fun fl s' => R (.ok (.ret (match fl with | .ret v => v | _ => .none))) s') (fun _ _ => False) { s with heap := h₁, toks := tk })
    (hco : scope.isCoroutine = false) (hgen : scope.isGenerator = false) (hk : scope.kind = .function) : codeAny (model prog w) A (.call (.ref f) args) R s :=
  have st := hidden_stays F N
  enter_cells (X₀.keeps F.keep) (T.nolimit.keeps F.keep) ho hcd hroom hbind hkind hnd (fun h₁ tk cells hg hn hc hA =>
    h _ _ h₁ tk cells rfl rfl (fun q hq => Heap.lt_size (N q hq).1) (hidden_fr hn hg) ((news_under (fun _ _ e => of_hideAll _ e) hc).append (hidden_news N hg)) hA (X₀.keeps st) (T.keeps st)) hco hgen hk
end

/-- what a contract promises: the value, the heap kept, a fact of the new heap -/
def Ret (s : Shared) (P : Value → Heap → Prop) (r : Result) (s' : Shared) : Prop :=
  ∃ v h' tk, r = .ok (.ret v) ∧ s' = { s with heap := h', toks := tk } ∧ s.heap.StaysIn h' ∧ P v h'

/-- using a contract in a caller -/
theorem use_ret {M : Model} {A : Around} {d u : Nat} {E : Value → Shared → Prop} {s : Shared} {h₀ : Heap} {L : Addr} {m : Str → Option Value} {news : List (Addr × Obj)} {f : Value} {pos : List Value} {P : Value → Heap → Prop} {Q : Value → Shared → Prop}
    (F : Fr h₀ L s.heap m) (N : News h₀ L s.heap news) (hh : A.handled = none) (hd : A.depth ≤ d) (hu : A.units ≤ u)
    (c : codeAny M (roomA d u) (.call f ⟨pos, []⟩) (Ret s P) s)
    (h : ∀ v h' tk, Fr h₀ L h' m → News h₀ L h' news → s.heap.StaysIn h' → P v h' → Q v { s with heap := h', toks := tk }) :
    wpAny M A (call f pos) Q E s := by
  refine wpAny_call (codeAny_room hh hd hu (codeAny_mono c fun r s' hr => ?_))
  obtain ⟨v, h', tk, rfl, rfl, st, hp⟩ := hr
  obtain ⟨oL, es, ep, hL, r⟩ := F.ns
  exact h v h' tk ⟨⟨oL, es, ep, st _ _ hL, r⟩, fun b o e => st b o (F.keep b o e), F.above⟩ (fun p hp => ⟨st _ _ (N p hp).1, (N p hp).2⟩) st hp
theorem mulOk_fdiv {a b c : Int} (h0 : 0 ≤ a) (h1 : a < 2 ^ 62) (hb : 1 ≤ b) : IntMulOk (a.fdiv b) c := by
  refine IntMulOk.of_left (intBits_le_64 ?_ ?_)
  · have := Int.fdiv_nonneg h0 (show 0 ≤ b by omega)
    omega
  · have h2 : a.fdiv b ≤ a := by
      rw [Int.fdiv_eq_ediv_of_nonneg _ (by omega)]
      exact Int.ediv_le_self _ h0
    omega
abbrev tupOf (vs : List Value) (n : Nat) : Obj := { cls := .type "tuple", data := .seq vs.toArray n }
def lvl (ns : List Int) (ts : Int) : Int := ((rangeKs ts ((ns.length : Int) - ts).toNat).map fun i => i.fdiv ts * ns.getD i.toNat 0).sum

theorem news_four {h₀ h : Heap} {L : Addr} {news : List (Addr × Obj)} {p q r u : Addr × Obj} (N : News h₀ L h news) (h1 : p ∈ news) (h2 : q ∈ news) (h3 : r ∈ news) (h4 : u ∈ news) : News h₀ L h [p, q, r, u] :=
  News.perm N (List.forall_mem_cons.mpr ⟨h1, List.forall_mem_cons.mpr ⟨h2, List.forall_mem_cons.mpr ⟨h3, List.forall_mem_cons.mpr ⟨h4, fun _ h => nomatch h⟩⟩⟩⟩)
theorem news_out {s : Shared} {h₀ g h' : Heap} {L L' : Addr} {m : Str → Option Value} {news news' : List (Addr × Obj)} (F : Fr h₀ L s.heap m) (N : News h₀ L s.heap news) (hg : g = hideAll s.heap (news.map (·.1)))
    (N' : News g L' h' news') : News h₀ L h' news' := by
  subst hg
  intro p hp
  refine ⟨(N' p hp).1, ?_⟩
  have h2 := (N' p hp).2.2
  by_cases hb : p.1 ∈ news.map (·.1)
  · obtain ⟨q, hq, e⟩ := List.mem_map.mp hb
    rw [← e]
    exact (N q hq).2
  · have h3 : s.heap.get? p.1 = none := by
      cases e : s.heap.get? p.1 with
      | none => rfl
      | some o => rw [hideAll_get _ e hb] at h2; cases h2
    obtain ⟨oL, _, _, hL, _⟩ := F.ns
    refine ⟨fun e => ?_, ?_⟩
    · rw [e, hL] at h3; cases h3
    · cases e : h₀.get? p.1 with
      | none => rfl
      | some o => rw [F.keep _ _ e] at h3; cases h3
theorem datAll_congr {l : List (Addr × Obj)} {vs : List Value} {f : Nat → List Dat} {a b : Nat} (h : DatAll l vs (f a)) (e : a = b) : DatAll l vs (f b) := e ▸ h
theorem fr_out {s : Shared} {h₀ g h' : Heap} {L L' : Addr} {m m' : Str → Option Value} {news : List (Addr × Obj)} (F : Fr h₀ L s.heap m) (N : News h₀ L s.heap news) (hg : g = hideAll s.heap (news.map (·.1)))
    (F' : Fr g L' h' m') : Fr h₀ L h' m := by
  subst hg
  obtain ⟨oL, es, ep, hL, r⟩ := F.ns
  have nL : L ∉ news.map (·.1) := fun q => by
    obtain ⟨p, hp, e⟩ := List.mem_map.mp q
    exact (N p hp).2.1 e
  refine ⟨⟨oL, es, ep, F'.keep _ _ (hideAll_get _ hL nL), r⟩, fun b o e => F'.keep _ _ (hideAll_get _ (F.keep b o e) fun q => ?_), F.above⟩
  obtain ⟨p, hp, e'⟩ := List.mem_map.mp q
  have := (N p hp).2.2
  rw [e', e] at this
  cases this
theorem news_kept {s : Shared} {h₀ g h' : Heap} {L L' : Addr} {m' : Str → Option Value} {news rest : List (Addr × Obj)} (N : News h₀ L s.heap rest) (hn : ∀ p ∈ rest, p.1 ∉ news.map (·.1)) (hg : g = hideAll s.heap (news.map (·.1)))
    (F' : Fr g L' h' m') : News h₀ L h' rest := by
  subst hg
  exact fun p hp => ⟨F'.keep _ _ (hideAll_get _ (N p hp).1 (hn p hp)), (N p hp).2⟩
local macro_rules | `(tactic| walk_at "M enter") => `(tactic| ((case k2 => assumption); (case k4 => assumption); (case k3 => assumption); (case k5 => assumption); (case k6 => k_is); (case k7 => k_is); (case k8 => decide); (case k9 => exact BindsTo.of_eq rfl); (case c5 => decide); (case kB => exact locs rfl); (case c2 => exact rfl); (case c3 => exact rfl); (case c4 => exact rfl)))
local macro_rules | `(tactic| walk_at "call builtin:len") => `(tactic| (k_here; (with_reducible show wpAny _ _ (call (Value.builtin "len") [Value.ref _]) _ _ _); refine len_tuple (News.isTup (by k_asm) (by k_mem)) (by simp only [List.size_toArray]; omega) ?_))
local macro_rules | `(tactic| mul_fits) => `(tactic| exact mulOk_fdiv (by omega) (by omega) (by omega))
local macro_rules | `(tactic| walk_at "M sub") => `(tactic| (intro p9 hp9; (repeat (first | exact hp9 | exact List.mem_append_left _ hp9 | exact List.mem_append_right _ hp9 | refine List.Mem.tail _ ?_))))
local macro_rules | `(tactic| walk_at "M ret") => `(tactic| ((try dsimp only); refine ⟨_, _, _, rfl, rfl, stays_after (fun p9 hp9 => ((by assumption : News _ _ _ _) p9 hp9).1) (by assumption) (by assumption) (by assumption) (by walk_at "M sub"), ?_⟩))
local macro_rules | `(tactic| walk_at "M enterC") => `(tactic| ((case k2 => assumption); (case k4 => assumption); (case k3 => assumption); (case k5 => assumption); (case k6 => k_is); (case k7 => k_is); (case k8 => decide); (case k9 => exact BindsTo.of_eq rfl); (case kB => exact rfl); (case kD => decide +kernel); (case c2 => exact rfl); (case c3 => exact rfl); (case c4 => exact rfl)))
section -- C1
set_option maxHeartbeats 4000000 in
theorem c_indent : ∀ {w : World} {s : Shared} {h₀ : Heap} {L : Addr} {news : List (Addr × Obj)} {m mg mb : Str → Option Value} {mean : ExcName → Option Value} {x dx a c : Addr} {e1 e2 e3 e4 e5 : Int} {t1 t2 t3 t4 t5 t6 t7 t8 : Tok} {q1 q2 : Nat} {raw n sim : Value} {nt tr ts : Int} {vs : List Value} {ns : List Int},
  Fr h₀ L s.heap m →
  News h₀ L s.heap news → (x, instObj 111 dx) ∈ news → (dx, dictOf [⟨e1, .str "raw" t1, raw⟩, ⟨e2, .str "n" t2, n⟩, ⟨e3, .str "nt" t3, .int nt t6⟩, ⟨e4, .str "norm" t4, .ref a⟩, ⟨e5, .str "is_simple" t5, sim⟩] 5) ∈ news → (a, tupOf [.ref c, .int tr t7] q1) ∈ news → (c, tupOf vs q2) ∈ news →
  (hd.heap_39 w.params).In h₀ → Top hd.view_39 (looseW hd.view_39 [Str.ofString "Whitespace"]) mean mg mb h₀ → IntsAre vs ns → 1 ≤ ts → ts ≤ 13 → ns.length ≤ 12 →
  codeAny (model Challenge.rw_pk0076_01.row.prog w) (roomA 500 500) (.call (.ref 80) ⟨[.ref x, .int ts t8], []⟩) (Ret s fun v _ => ∃ t, v = .int (tr + ts * (lvl ns ts + nt)) t) s := by
  k_fill
  intro w s h₀ L news m mg mb mean x dx a c e1 e2 e3 e4 e5 t1 t2 t3 t4 t5 t6 t7 t8 q1 q2 raw n sim nt tr ts vs ns F N₀ m1 m2 m3 m4 X T hv hts hts2 hlen
  have hlv : vs.length ≤ 12 := by rw [hv.length]; exact hlen
  have N := news_four N₀ m1 m2 m3 m4
  clear N₀ m1 m2 m3 m4
  w_on
  w_top on
  refine' enter_def (binds := [(Str.ofString "self", .ref x), (Str.ofString "tabsize", .int ts t8)]) ?k2 ?k4 ?k3 ?k5 ?k6 ?k7 ?k8 ?k9 ?kB ?_ ?c2 ?c3 ?c4 ?c5
  walk_at "M enter"
  intro g' L' h' hg' hL' hl' F' N' X' T'
  k_fold
  k_with "pyIter ref" => k_state (fun pre il => il = (pre.map fun i => i.fdiv ts * ns.getD i.toNat 0).sum) "il"
  k_steps
  k_with_none
  walk_at "M ret"
  subst kInv
  exact ⟨_, rfl⟩

set_option maxHeartbeats 4000000 in
theorem c_longest : ∀ {w : World} {s : Shared} {h₀ : Heap} {L : Addr} {news : List (Addr × Obj)} {m mg mb : Str → Option Value} {mean : ExcName → Option Value} {x dx a c : Addr} {e1 e2 e3 e4 e5 : Int} {t1 t2 t3 t4 t5 t6 t7 : Tok} {q1 q2 : Nat} {raw n sim : Value} {nt tr : Int} {vs : List Value},
  Fr h₀ L s.heap m →
  News h₀ L s.heap news → (x, instObj 111 dx) ∈ news → (dx, dictOf [⟨e1, .str "raw" t1, raw⟩, ⟨e2, .str "n" t2, n⟩, ⟨e3, .str "nt" t3, .int nt t6⟩, ⟨e4, .str "norm" t4, .ref a⟩, ⟨e5, .str "is_simple" t5, sim⟩] 5) ∈ news → (a, tupOf [.ref c, .int tr t7] q1) ∈ news → (c, tupOf vs q2) ∈ news →
  (hd.heap_39 w.params).In h₀ → Top hd.view_39 (looseW hd.view_39 [Str.ofString "Whitespace"]) mean mg mb h₀ → vs.length ≤ 12 →
  codeAny (model Challenge.rw_pk0076_01.row.prog w) (roomA 500 500) (.call (.ref 73) ⟨[.ref x], []⟩) (Ret s fun v _ => ∃ t, v = .int (max ((vs.length : Int) - 1) tr) t) s := by
  k_fill
  intro w s h₀ L news m mg mb mean x dx a c e1 e2 e3 e4 e5 t1 t2 t3 t4 t5 t6 t7 q1 q2 raw n sim nt tr vs F N₀ m1 m2 m3 m4 X T hlv
  have N := news_four N₀ m1 m2 m3 m4
  clear N₀ m1 m2 m3 m4
  w_on
  w_top on
  refine' enter_def (binds := [(Str.ofString "self", .ref x)]) ?k2 ?k4 ?k3 ?k5 ?k6 ?k7 ?k8 ?k9 ?kB ?_ ?c2 ?c3 ?c4 ?c5
  walk_at "M enter"
  intro g' L' h' hg' hL' hl' F' N' X' T'
  k_fold
  k_steps
  walk_at "M ret"
  have e : (if tr > (vs.length : Int) - 1 then tr else (vs.length : Int) - 1) = max ((vs.length : Int) - 1) tr := by split <;> omega
  rw [← e]
  exact ⟨_, rfl⟩
end -- C1
section -- C3
local macro_rules | `(tactic| walk_at "call ref") => `(tactic| (k_here; (try dsimp only [List.nil_append, List.cons_append]); (with_reducible show wpAny _ _ (call (Value.ref 80) _) _ _ _); refine' use_ret (by k_asm) (by k_asm) ?h1 ?h2 ?h3 (c_indent (by k_asm) (by k_asm) (by k_mem) (by k_mem) (by k_mem) (by k_mem) (by assumption) (by assumption) (by assumption) (by omega) (by omega) (by omega)) ?_; (case h1 => rfl); (case h2 => exact Nat.le_of_ble_eq_true rfl); (case h3 => exact Nat.le_of_ble_eq_true rfl); intro v' h' tk' F' N' st' hv'; obtain ⟨t', hv'⟩ := hv'; subst hv'; (try k_sweep)))
local macro_rules | `(tactic| walk_at "call ref") => `(tactic| (k_here; (try dsimp only [List.nil_append, List.cons_append]); (with_reducible show wpAny _ _ (call (Value.ref 73) _) _ _ _); refine' use_ret (by k_asm) (by k_asm) ?h1 ?h2 ?h3 (c_longest (by k_asm) (by k_asm) (by k_mem) (by k_mem) (by k_mem) (by k_mem) (by assumption) (by assumption) (by omega)) ?_; (case h1 => rfl); (case h2 => exact Nat.le_of_ble_eq_true rfl); (case h3 => exact Nat.le_of_ble_eq_true rfl); intro v' h' tk' F' N' st' hv'; obtain ⟨t', hv'⟩ := hv'; subst hv'; (try k_sweep)))
def lv (ns : List Int) (tr nt ts : Int) : Int := tr + ts * (lvl ns ts + nt)
def rowsW (ns1 : List Int) (tr1 nt1 : Int) (ns2 : List Int) (tr2 nt2 : Int) (pre : List Int) : List Dat :=
  (pre.filter fun ts => decide (lv ns2 tr2 nt2 ts ≤ lv ns1 tr1 nt1 ts)).map fun ts => Dat.tuple [.int ts, .int (lv ns1 tr1 nt1 ts), .int (lv ns2 tr2 nt2 ts)]
theorem rowsW_len (ns1 : List Int) (tr1 nt1 : Int) (ns2 : List Int) (tr2 nt2 : Int) (pre : List Int) : (rowsW ns1 tr1 nt1 ns2 tr2 nt2 pre).length ≤ pre.length := by
  unfold rowsW
  rw [List.length_map]
  exact List.length_filter_le _ _
theorem rowsW_nil {ns1 : List Int} {tr1 nt1 : Int} {ns2 : List Int} {tr2 nt2 : Int} : ([] : List Dat) = rowsW ns1 tr1 nt1 ns2 tr2 nt2 [] ∧ ([] : List Dat).length ≤ ([] : List Int).length := ⟨rfl, Nat.le_refl _⟩
theorem rowsW_yes {ns1 : List Int} {tr1 nt1 : Int} {ns2 : List Int} {tr2 nt2 : Int} {pre : List Int} {k : Int} (h : tr2 + k * (lvl ns2 k + nt2) ≤ tr1 + k * (lvl ns1 k + nt1)) :
    rowsW ns1 tr1 nt1 ns2 tr2 nt2 pre ++ [Dat.tuple [.int k, .int (tr1 + k * (lvl ns1 k + nt1)), .int (tr2 + k * (lvl ns2 k + nt2))]] = rowsW ns1 tr1 nt1 ns2 tr2 nt2 (pre ++ [k]) ∧
    (rowsW ns1 tr1 nt1 ns2 tr2 nt2 pre ++ [Dat.tuple [.int k, .int (tr1 + k * (lvl ns1 k + nt1)), .int (tr2 + k * (lvl ns2 k + nt2))]]).length ≤ (pre ++ [k]).length := by
  have e : rowsW ns1 tr1 nt1 ns2 tr2 nt2 pre ++ [Dat.tuple [.int k, .int (tr1 + k * (lvl ns1 k + nt1)), .int (tr2 + k * (lvl ns2 k + nt2))]] = rowsW ns1 tr1 nt1 ns2 tr2 nt2 (pre ++ [k]) := by
    unfold rowsW
    have h' : decide (lv ns2 tr2 nt2 k ≤ lv ns1 tr1 nt1 k) = true := decide_eq_true h
    rw [List.filter_append, List.map_append]
    simp only [List.filter_cons, List.filter_nil, h', if_true, List.map_cons, List.map_nil]
    rfl
  exact ⟨e, by rw [e]; exact rowsW_len ..⟩
theorem rowsW_no {ns1 : List Int} {tr1 nt1 : Int} {ns2 : List Int} {tr2 nt2 : Int} {pre : List Int} {k : Int} (h : ¬ tr2 + k * (lvl ns2 k + nt2) ≤ tr1 + k * (lvl ns1 k + nt1)) :
    rowsW ns1 tr1 nt1 ns2 tr2 nt2 pre = rowsW ns1 tr1 nt1 ns2 tr2 nt2 (pre ++ [k]) ∧
    (rowsW ns1 tr1 nt1 ns2 tr2 nt2 pre).length ≤ (pre ++ [k]).length := by
  have e : rowsW ns1 tr1 nt1 ns2 tr2 nt2 pre = rowsW ns1 tr1 nt1 ns2 tr2 nt2 (pre ++ [k]) := by
    unfold rowsW
    have h' : decide (lv ns2 tr2 nt2 k ≤ lv ns1 tr1 nt1 k) = false := decide_eq_false h
    rw [List.filter_append, List.map_append]
    simp only [List.filter_cons, List.filter_nil, h', Bool.false_eq_true, if_false, List.map_nil, List.append_nil]
  exact ⟨e, by rw [e]; exact rowsW_len ..⟩
set_option maxHeartbeats 8000000 in
theorem c_nlw : ∀ {w : World} {s : Shared} {h₀ : Heap} {L : Addr} {news : List (Addr × Obj)} {m mg mb : Str → Option Value} {mean : ExcName → Option Value}
  {x dx a c : Addr} {e1 e2 e3 e4 e5 : Int} {t1 t2 t3 t4 t5 t6 t7 : Tok} {q1 q2 : Nat} {raw n sim : Value} {nt tr : Int} {vs : List Value} {ns : List Int}
  {x' dx' a' c' : Addr} {e1' e2' e3' e4' e5' : Int} {t1' t2' t3' t4' t5' t6' t7' : Tok} {q1' q2' : Nat} {raw' n' sim' : Value} {nt' tr' : Int} {vs' : List Value} {ns' : List Int} {cnt : Nat},
  Fr h₀ L s.heap m → News h₀ L s.heap news →
  (x, instObj 111 dx) ∈ news → (dx, dictOf [⟨e1, .str "raw" t1, raw⟩, ⟨e2, .str "n" t2, n⟩, ⟨e3, .str "nt" t3, .int nt t6⟩, ⟨e4, .str "norm" t4, .ref a⟩, ⟨e5, .str "is_simple" t5, sim⟩] 5) ∈ news → (a, tupOf [.ref c, .int tr t7] q1) ∈ news → (c, tupOf vs q2) ∈ news →
  (x', instObj 111 dx') ∈ news → (dx', dictOf [⟨e1', .str "raw" t1', raw'⟩, ⟨e2', .str "n" t2', n'⟩, ⟨e3', .str "nt" t3', .int nt' t6'⟩, ⟨e4', .str "norm" t4', .ref a'⟩, ⟨e5', .str "is_simple" t5', sim'⟩] 5) ∈ news → (a', tupOf [.ref c', .int tr' t7'] q1') ∈ news → (c', tupOf vs' q2') ∈ news →
  (hd.heap_39 w.params).In h₀ → Top hd.view_39 (looseW hd.view_39 [Str.ofString "Whitespace"]) mean mg mb h₀ → IntsAre vs ns → IntsAre vs' ns' → ns.length ≤ 12 → ns'.length ≤ 12 → tr ≤ 11 → tr' ≤ 11 → (cnt : Int) = max (max ((ns.length : Int) - 1) tr) (max ((ns'.length : Int) - 1) tr') + 1 →
  codeAny (model Challenge.rw_pk0076_01.row.prog w) (roomA 450 400) (.call (.ref 108) ⟨[.ref x, .ref x'], []⟩)
    (Ret s fun v h' => ∃ tl, News h₀ L h' tl ∧ DatIn tl v (.list (rowsW ns tr nt ns' tr' nt' (rangeKs 1 cnt)))) s := by
  k_fill
  intro w s h₀ L news m mg mb mean x dx a c e1 e2 e3 e4 e5 t1 t2 t3 t4 t5 t6 t7 q1 q2 raw n sim nt tr vs ns x' dx' a' c' e1' e2' e3' e4' e5' t1' t2' t3' t4' t5' t6' t7' q1' q2' raw' n' sim' nt' tr' vs' ns' cnt F N₀ m1 m2 m3 m4 m1' m2' m3' m4' X T hv hv' hlen hlen' htr htr' hcnt
  have hlv : vs.length = ns.length := hv.length
  have hlv' : vs'.length = ns'.length := hv'.length
  have N := News.append (news_four N₀ m1 m2 m3 m4) (news_four N₀ m1' m2' m3' m4')
  clear N₀ m1 m2 m3 m4 m1' m2' m3' m4'
  simp only [List.cons_append, List.nil_append] at N
  w_on
  w_top on
  refine' enter_def (binds := [(Str.ofString "self", .ref x), (Str.ofString "other", .ref x')]) ?k2 ?k4 ?k3 ?k5 ?k6 ?k7 ?k8 ?k9 ?kB ?_ ?c2 ?c3 ?c4 ?c5
  walk_at "M enter"
  intro g' L' h' hg' hL' hl' F' N' X' T'
  k_fold
  k_with "pyIter ref" => k_dat (fun pre out => out = rowsW ns tr nt ns' tr' nt' pre ∧ out.length ≤ pre.length) "a*"
  k_with "state" => (first | exact rowsW_nil | exact rowsW_yes (by assumption) | exact rowsW_no (by assumption))
  k_steps
  k_with_none
  walk_at "M ret"
  refine ⟨_, news_out F N hg' kNews, DatIn.list (.head _) (DatAll.mono (fun p hp => .tail _ hp) (datAll_congr (f := fun z => rowsW ns tr nt ns' tr' nt' (rangeKs 1 z)) kFacts ?_))⟩
  split <;> omega
end -- C3
section -- Loops
open PySem.W.KStt
theorem news_cons {h₀ h : Heap} {L : Addr} {news : List (Addr × Obj)} {p : Addr × Obj} (N : News h₀ L h news) (hm : p ∈ news) : News h₀ L h (p :: news) := List.forall_mem_cons.mpr ⟨N p hm, N⟩
section
variable {prog : Program} {w : World} {A : Around} {E : Value → Shared → Prop} {s : Shared} {env : Env} {h₀ : Heap} {x : Str} {body : List Stmt} {Q : Flow → Shared → Prop}

/-- what holds between two turns of a loop whose ledger may change its places -/
def LJ {σ : Type} (Led : σ → List (Addr × Obj)) (ps : σ → List (Str × Value)) (x : Str) (m₀ : Str → Option Value) (P : Nat → σ → Prop) (i : Nat) (m : Str → Option Value) (nx : List (Addr × Obj)) : Prop :=
  ∃ c : σ, nx = Led c ∧ (∀ p ∈ ps c, m p.1 = some p.2) ∧ (∀ z, z ≠ x → (∀ p ∈ ps c, z ≠ p.1) → m z = m₀ z) ∧ P i c
theorem lj_fr {L : Addr} {h : Heap} {ps : List (Str × Value)} {m₀ m₁ : Str → Option Value} {v : Value} (h1 : ∀ p ∈ ps, m₁ p.1 = some p.2) (h2 : ∀ z, z ≠ x → (∀ p ∈ ps, z ≠ p.1) → m₁ z = m₀ z)
    (F : Fr h₀ L h (fun y => if y = x then some v else m₁ y)) : Fr h₀ L h (fun y => if y = x then some v else kstB m₀ ps y) :=
  (funext fun y => ite_congr rfl (fun _ => rfl) fun hy => (kstB_eq h1 fun q => (h2 y hy q).symm).symm : (fun y => if y = x then some v else m₁ y) = fun y => if y = x then some v else kstB m₀ ps y) ▸ F
theorem lj_frOut {L : Addr} {h : Heap} {ps : List (Str × Value)} {m₀ m₁ : Str → Option Value} (h1 : ∀ p ∈ ps, m₁ p.1 = some p.2) (h2 : ∀ z, z ≠ x → (∀ p ∈ ps, z ≠ p.1) → m₁ z = m₀ z)
    (F : Fr h₀ L h m₁) : Fr h₀ L h (fun y => if y = x then m₁ x else kstB m₀ ps y) := by
  refine (funext fun y => ?_ : m₁ = fun y => if y = x then m₁ x else kstB m₀ ps y) ▸ F
  split
  · next hy => rw [hy]
  · next hy => exact (kstB_eq h1 fun q => (h2 y hy q).symm).symm
/-- a loop over an iterator that was just made: nothing that the caller holds is touched by it -/
theorem fresh_loop {n : Nat} {o : Obj} {P : Nat → Value → Prop} {St : Nat → Heap → Prop} {m₀ : Str → Option Value} {news : List (Addr × Obj)} (J : Nat → (Str → Option Value) → List (Addr × Obj) → Prop)
    (W : Walks prog w A s.heap.objs.size [s.heap.objs.size] [s.heap.objs.size] n P St) (hob : ∀ i h, St i h → ∃ o, h.get? s.heap.objs.size = some o) (hst : St 0 (s.heap.push o))
    (F : Fr h₀ env.locals s.heap m₀) (N : News h₀ env.locals s.heap news) (hj : J 0 m₀ news)
    (turn : ∀ i v m₁ nx h tk own, i < n → P i v → OwnOff own (nx.map (·.1)) → J i m₁ nx → Fr h₀ env.locals h (fun y => if y = x then some v else m₁ y) → News h₀ env.locals h (nx ++ own) →
      wpAny (model prog w) A (execs body env) (InvPostG h₀ env.locals (J (i + 1)) own { s with heap := h, toks := tk } Q) E { s with heap := h, toks := tk })
    (done : ∀ m₁ nx h tk, J n m₁ nx → Fr h₀ env.locals h m₁ → News h₀ env.locals h nx → Q .next { s with heap := h, toks := tk }) :
    LoopAtV prog w A h₀ env x body Q E (.ref s.heap.objs.size) { s with heap := s.heap.push o } :=
  have one : ∀ {b : Addr}, b ∈ [s.heap.objs.size] → b = s.heap.objs.size := List.mem_singleton.mp
  kdr_loop J W (fun _ => id) (fun _ => id) (fun i h hi b hb => one hb ▸ hob i h hi) (fun hm => absurd (one hm) (Nat.ne_of_lt F.ns.lt)) (fun b hb => one hb ▸ F.fresh) (fun q hq hI => N.apart q hq (one hI)) hst (F.push o) (N.pushKeep o) hj turn done
theorem text_loop {σ : Type} {xt : Str} {tx : Tok} {m₀ : Str → Option Value} {news : List (Addr × Obj)} (Led : σ → List (Addr × Obj)) (ps : σ → List (Str × Value)) (P : Nat → σ → Prop) (c₀ : σ)
    (hh : A.handled = none) (F : Fr h₀ env.locals s.heap m₀) (N : News h₀ env.locals s.heap news) (hn : news = Led c₀) (hk : ∀ p ∈ ps c₀, m₀ p.1 = some p.2) (hp : P 0 c₀)
    (turn : ∀ (c : σ) (i n : Nat) t h tk own, xt.cps[i]? = some n → OwnOff own ((Led c).map (·.1)) → P i c →
      Fr h₀ env.locals h (fun y => if y = x then some (.str ⟨#[n]⟩ t) else kstB m₀ (ps c) y) → News h₀ env.locals h (Led c ++ own) →
      wpAny (model prog w) A (execs body env) (InvPostG h₀ env.locals (LJ Led ps x m₀ P (i + 1)) own { s with heap := h, toks := tk } Q) E { s with heap := h, toks := tk })
    (done : ∀ (c : σ) u h tk, P xt.cps.size c → Fr h₀ env.locals h (fun y => if y = x then u else kstB m₀ (ps c) y) → News h₀ env.locals h (Led c) → Q .next { s with heap := h, toks := tk }) :
    wpAny (model prog w) A (pyIter (.str xt tx)) (fun it s₂ => LoopAtV prog w A h₀ env x body Q E it s₂) E s := by
  subst hn
  have go : ∀ (T : String) (o : Obj), Walks prog w A s.heap.objs.size [s.heap.objs.size] [s.heap.objs.size] xt.cps.size (SignAt xt) (fun i h => h.IsStrIter s.heap.objs.size T xt tx i) → (s.heap.push o).IsStrIter s.heap.objs.size T xt tx 0 →
      LoopAtV prog w A h₀ env x body Q E (.ref s.heap.objs.size) { s with heap := s.heap.push o } := fun T o W hst =>
    fresh_loop (LJ Led ps x m₀ P) W (fun _ _ hi => let ⟨o, ho, _⟩ := hi; ⟨o, ho⟩) hst F N ⟨c₀, rfl, hk, fun _ _ _ => rfl, hp⟩
      (by rintro i v m₁ nx h tk own hi ⟨n, u, hn, rfl⟩ hoff ⟨c, rfl, h1, h2, hc⟩ F₁ N₁; exact turn c i n u h tk own hn hoff hc (lj_fr h1 h2 F₁) N₁)
      (by rintro m₁ nx h tk ⟨c, rfl, h1, h2, hc⟩ F₁ N₁; exact done c _ h tk hc (lj_frOut h1 h2 F₁) N₁)
  cases ha : xt.cps.all (· < 128)
  · exact wpAny_pyIter_wide ha (go _ _ (Walks.strWide hh _ xt tx) ⟨_, Heap.get?_push_size _ rfl, rfl, rfl⟩)
  · exact wpAny_pyIter_ascii ha (go _ _ (Walks.strAscii hh _ xt tx) ⟨_, Heap.get?_push_size _ rfl, rfl, rfl⟩)
theorem postG_in {L : Addr} {J J' : (Str → Option Value) → List (Addr × Obj) → Prop} {own : List (Addr × Obj)} {s₁ s₂ : Shared} {f : Flow} (hJ : ∀ m nx, J m nx → J' m nx) (b : InvPostG h₀ L J own s₁ Q f s₂) : InvPostG h₀ L J' own s₁ Q f s₂ :=
  have e (z : InvEndG h₀ L J own s₁ s₂) : InvEndG h₀ L J' own s₁ s₂ := by
    obtain ⟨g, t, m, all, nx, rfl, F, N, h1, h2, h3, j⟩ := z
    exact .intro F N (hJ m nx j) h3 h1 h2
  match f with
  | .ret _ => b
  | .brk => b
  | .next => e b
  | .cont => e b
theorem list_loop {σ : Type} {l : Addr} {vs : List Value} {nn : Nat} {m₀ : Str → Option Value} {news : List (Addr × Obj)} (Led : σ → List (Addr × Obj)) (ps : σ → List (Str × Value)) (P : Nat → σ → Prop) (c₀ : σ)
    (hh : A.handled = none) (hl : ∀ c, (l, W.listOf vs.toArray nn) ∈ Led c) (F : Fr h₀ env.locals s.heap m₀) (N : News h₀ env.locals s.heap news) (hn : news = Led c₀) (hk : ∀ p ∈ ps c₀, m₀ p.1 = some p.2) (hp : P 0 c₀)
    (turn : ∀ (c : σ) (i : Nat) v h tk own, vs[i]? = some v → OwnOff own ((Led c).map (·.1)) → P i c →
      Fr h₀ env.locals h (fun y => if y = x then some v else kstB m₀ (ps c) y) → News h₀ env.locals h (Led c ++ own) →
      wpAny (model prog w) A (execs body env) (InvPostG h₀ env.locals (LJ Led ps x m₀ P (i + 1)) own { s with heap := h, toks := tk } Q) E { s with heap := h, toks := tk })
    (done : ∀ (c : σ) u h tk, P vs.length c → Fr h₀ env.locals h (fun y => if y = x then u else kstB m₀ (ps c) y) → News h₀ env.locals h (Led c) → Q .next { s with heap := h, toks := tk }) :
    wpAny (model prog w) A (pyIter (.ref l)) (fun it s₂ => LoopAtV prog w A h₀ env x body Q E it s₂) E s := by
  subst hn
  refine kdl_iter (LJ Led ps x m₀ P) hh (hl c₀) F N ⟨c₀, rfl, hk, fun _ _ _ => rfl, hp⟩ ?_ ?_
  · rintro i v m₁ nx h tk own hv hoff _ ⟨c, rfl, h1, h2, hc⟩ F₁ N₁
    exact wpAny_mono (turn c i v h tk own hv hoff hc (lj_fr h1 h2 F₁) N₁) (fun _ _ => postG_in fun _ _ ⟨c, e, j⟩ => ⟨e ▸ hl c, c, e, j⟩) fun _ _ => id
  · rintro m₁ nx h tk ⟨c, rfl, h1, h2, hc⟩ F₁ N₁
    exact done c _ h tk hc (lj_frOut h1 h2 F₁) N₁
end

section
variable {prog : Program} {w : World} {A : Around} {E : Value → Shared → Prop} {s : Shared} {env : Env} {h₀ : Heap} {body : List Stmt} {Q : Flow → Shared → Prop}
def LJs {σ : Type} (Led : σ → List (Addr × Obj)) (ps : σ → List (Str × Value)) (fg : List Str) (m₀ : Str → Option Value) (P : Nat → σ → Prop) (i : Nat) (m : Str → Option Value) (nx : List (Addr × Obj)) : Prop :=
  ∃ c : σ, nx = Led c ∧ (∀ p ∈ ps c, m p.1 = some p.2) ∧ (∀ z, (∀ p ∈ ps c, z ≠ p.1) → fg.contains z = false → m z = m₀ z) ∧ P i c
/-- a loop over a list with several names: what its invariant leaves to do from turn i on -/
theorem tup_rest {σ : Type} {elts : List Expr} {k : Nat} {pos : Pos} {I l : Addr} {vs : List Value} {nn : Nat} {m₀ : Str → Option Value} (Led : σ → List (Addr × Obj)) (ps : σ → List (Str × Value)) (fg : List Str) (P : Nat → σ → Prop)
    (hl : ∀ c, (l, W.listOf vs.toArray nn) ∈ Led c)
    (turn : ∀ (c : σ) (i : Nat) v (u : Str → Option Value) h tk own, vs[i]? = some v → OwnOff own ((Led c).map (·.1)) → P i c →
      Fr h₀ env.locals h (kstB (fun z => if fg.contains z then u z else m₀ z) (ps c)) → News h₀ env.locals h (Led c ++ own) →
      wpAny (model prog w) A (assign (.Tuple elts k pos) env v) (fun _ s₃ => wpAny (model prog w) A (execs body env) (InvPostG h₀ env.locals (LJs Led ps fg m₀ P (i + 1)) own { s with heap := h, toks := tk } Q) E s₃) E { s with heap := h, toks := tk })
    (done : ∀ (c : σ) (u : Str → Option Value) h tk, P vs.length c → Fr h₀ env.locals h (kstB (fun z => if fg.contains z then u z else m₀ z) (ps c)) → News h₀ env.locals h (Led c) → Q .next { s with heap := h, toks := tk }) :
    ∀ (todo past : List Value), vs = past ++ todo → ∀ m₁ nx, LJs Led ps fg m₀ P past.length m₁ nx → (∀ q ∈ nx, q.1 ≠ I) →
      ItemsRest prog w A E h₀ env (.Tuple elts k pos) body Q s [(I, "list_iterator")] [(l, W.listOf vs.toArray nn)] (todo.map .val) m₁ nx := by
  intro todo
  induction todo with
  | nil =>
    rintro past hv m₁ _ ⟨c, rfl, h1, h2, hc⟩ -
    have hz : past.length = vs.length := by rw [hv, List.append_nil]
    exact ItemsRest.zero fun h tk F N => done c m₁ h tk (hz ▸ hc) (ksw_fr h1 h2 F) N
  | cons v todo ih =>
    rintro past hv m₁ _ ⟨c, rfl, h1, h2, hc⟩ hI
    refine ItemsRest.val fun h tk F => AllObj.cons fun o _ => AllObj.nil fun N => ?_
    have hvi : vs[past.length]? = some v := by rw [hv, List.getElem?_append_right (Nat.le_refl _), Nat.sub_self]; rfl
    have hoff : OwnOff [(I, o)] ((Led c).map (·.1)) := fun q hq _ hb e => by
      obtain ⟨q', hq', rfl⟩ := List.mem_map.mp hb
      exact hI q' hq' (e.symm.trans (congrArg Prod.fst (List.mem_singleton.mp hq)))
    have N' : News h₀ env.locals h (Led c ++ [(I, o)]) := fun q hq => N q (List.mem_append.mpr (List.mem_append.mp hq).symm)
    have next : ∀ s₂, InvEndG h₀ env.locals (LJs Led ps fg m₀ P (past.length + 1)) [(I, o)] { s with heap := h, toks := tk } s₂ →
        UnrEndW h₀ env.locals { s with heap := h, toks := tk } [(I, o)] (fun m' n' => SubL [(l, W.listOf vs.toArray nn)] n' ∧ ItemsRest prog w A E h₀ env (.Tuple elts k pos) body Q s [(I, "list_iterator")] [(l, W.listOf vs.toArray nn)] (todo.map .val) m' n') s₂ := by
      rintro s₂ ⟨g, t, m', all, nx, rfl, F', A', h3, h4, h5, j⟩
      have hx : ∀ q ∈ nx, q.1 ≠ I := fun q hq e => h5 _ (.head _) q.1 (List.mem_map.mpr ⟨q, hq, rfl⟩) e.symm
      refine ⟨g, t, m', nx, rfl, F', fun q hq => A' q ((List.mem_append.mp hq).elim (h4 q) (h3 q)), fun q hq q' hq' => ?_, ⟨?_, trivial⟩, ?_⟩
      · cases List.mem_singleton.mp hq'
        exact hx q hq
      · obtain ⟨c', rfl, -⟩ := j
        exact hl c'
      · exact ih (past ++ [v]) (by rw [hv, List.append_assoc]; rfl) m' nx (by rw [List.length_append]; exact j) hx
    exact wpAny_mono (turn c past.length v m₁ h tk _ hvi hoff hc (ksw_fr h1 h2 F) N') (fun _ s₃ h₃ => wpAny_mono h₃ (fun fl s₂ b => match fl with
      | .ret _ => b
      | .brk => b
      | .next => next s₂ b
      | .cont => next s₂ b) fun _ _ => id) fun _ _ => id
theorem tup_loop {σ : Type} {elts : List Expr} {k : Nat} {pos : Pos} {l : Addr} {vs : List Value} {nn : Nat} {m₀ : Str → Option Value} {news : List (Addr × Obj)} (Led : σ → List (Addr × Obj)) (ps : σ → List (Str × Value)) (fg : List Str) (P : Nat → σ → Prop) (c₀ : σ)
    (hh : A.handled = none) (hl : ∀ c, (l, W.listOf vs.toArray nn) ∈ Led c) (F : Fr h₀ env.locals s.heap m₀) (N : News h₀ env.locals s.heap news) (hn : news = Led c₀) (hk : ∀ p ∈ ps c₀, m₀ p.1 = some p.2) (hp : P 0 c₀)
    (turn : ∀ (c : σ) (i : Nat) v (u : Str → Option Value) h tk own, vs[i]? = some v → OwnOff own ((Led c).map (·.1)) → P i c →
      Fr h₀ env.locals h (kstB (fun z => if fg.contains z then u z else m₀ z) (ps c)) → News h₀ env.locals h (Led c ++ own) →
      wpAny (model prog w) A (assign (.Tuple elts k pos) env v) (fun _ s₃ => wpAny (model prog w) A (execs body env) (InvPostG h₀ env.locals (LJs Led ps fg m₀ P (i + 1)) own { s with heap := h, toks := tk } Q) E s₃) E { s with heap := h, toks := tk })
    (done : ∀ (c : σ) (u : Str → Option Value) h tk, P vs.length c → Fr h₀ env.locals h (kstB (fun z => if fg.contains z then u z else m₀ z) (ps c)) → News h₀ env.locals h (Led c) → Q .next { s with heap := h, toks := tk }) :
    wpAny (model prog w) A (pyIter (.ref l)) (fun it s₂ => TurnsAt prog w A h₀ env (.Tuple elts k pos) body Q E it s₂) E s :=
  iter_listTurns hh F N (hn ▸ hl c₀) rfl rfl fun _ hI => tup_rest Led ps fg P hl turn done vs [] rfl m₀ news ⟨c₀, hn, hk, fun _ _ _ => rfl, hp⟩ fun q hq => Nat.ne_of_lt (hI q hq)
end
end -- Loops
section -- InitLaws
theorem sign_of {ch k : Nat} {u : String} (hu : Str.ofString u = ⟨#[k]⟩) (h : (({ cps := #[ch] } : Str) == Str.ofString u) = true) : ch = k := by
  have e := eq_of_beq h
  rw [hu] at e
  injection e with e
  injection e with e
  injection e with e
theorem sign_of_not {ch k : Nat} {u : String} (hu : Str.ofString u = ⟨#[k]⟩) (h : (({ cps := #[ch] } : Str) == Str.ofString u) = false) : ch ≠ k := by
  intro e
  rw [hu, e, beq_self_eq_true] at h
  cases h
theorem tab_is : Str.ofString "\t" = ⟨#[9]⟩ := by decide +kernel
structure WSt where
  ns : List Int
  b : Int
  n : Int
  nt : Int
def grow (ns : List Int) (b : Int) : List Int := if (ns.length : Int) ≤ b then ns ++ List.replicate (b - ns.length + 1).toNat 0 else ns
def stepW (S : WSt) (c : Nat) : WSt :=
  if c = 32 then { S with b := S.b + 1, n := S.n + 1 }
  else { ns := (grow S.ns S.b).set S.b.toNat ((grow S.ns S.b).getD S.b.toNat 0 + 1), b := 0, n := S.n + 1, nt := S.nt + 1 }
theorem grow_yes {ns : List Int} {b : Int} (h : (ns.length : Int) ≤ b) : ns ++ (List.replicate (b - ns.length + 1).toNat [(0 : Int)]).flatten = grow ns b := by
  unfold grow
  rw [if_pos h, List.flatten_replicate_singleton]
theorem grow_no {ns : List Int} {b : Int} (h : ¬ (ns.length : Int) ≤ b) : ns = grow ns b := by
  unfold grow
  rw [if_neg h]
structure ISt where
  c : Addr
  vs : List Value
  q : Nat
  st : WSt
  tb : Tok
  tn : Tok
  tt : Tok
def IInv (txt : Str) (x : Addr) (i : Nat) (S : ISt) : Prop :=
  S.st = (txt.cps.toList.take i).foldl stepW ⟨[], 0, 0, 0⟩ ∧ IntsAre S.vs S.st.ns ∧ x < S.c ∧ (∀ c ∈ txt.cps.toList.take i, c = 32 ∨ c = 9) ∧ 0 ≤ S.st.b ∧ S.st.b ≤ i ∧ S.st.ns.length ≤ i
theorem take_next {txt : Str} {i ch : Nat} (hch : txt.cps[i]? = some ch) : txt.cps.toList.take (i + 1) = txt.cps.toList.take i ++ [ch] := by
  have h : txt.cps.toList[i]? = some ch := by rw [Array.getElem?_toList]; exact hch
  rw [List.take_add_one, h]
  rfl
theorem iinv_start {txt : Str} {x c : Addr} {tb tn tt : Tok} (h : x < c) : IInv txt x 0 ⟨c, [], 0, ⟨[], 0, 0, 0⟩, tb, tn, tt⟩ :=
  ⟨rfl, .nil, h, (fun _ h => (nomatch h)), Int.le_refl 0, Int.le_refl 0, Nat.le_refl 0⟩
theorem iinv_space {txt : Str} {x c : Addr} {i ch q : Nat} {vs : List Value} {ns : List Int} {b n nt : Int} {tb tn tt tb' tn' tt' : Tok} (hch : txt.cps[i]? = some ch) (h : ch = 32) (hI : IInv txt x i ⟨c, vs, q, ⟨ns, b, n, nt⟩, tb, tn, tt⟩) :
    IInv txt x (i + 1) ⟨c, vs, q, ⟨ns, b + 1, n + 1, nt⟩, tb', tn', tt'⟩ := by
  obtain ⟨h1, h2, h3, h4, h5, h6, h7⟩ := hI
  dsimp only at h1 h2 h3 h5 h6 h7
  refine ⟨?_, h2, h3, ?_, by dsimp only; omega, by dsimp only; omega, by dsimp only; omega⟩
  · rw [take_next hch, List.foldl_append, ← h1, h]; rfl
  · rw [take_next hch]
    intro d hd
    rcases List.mem_append.mp hd with hd | hd
    · exact h4 d hd
    · rw [List.mem_singleton.mp hd]; exact .inl h
theorem grow_len {ns : List Int} {b : Int} {i : Nat} (h1 : b ≤ i) (h2 : ns.length ≤ i) : (grow ns b).length ≤ i + 1 := by
  unfold grow
  split
  · rw [List.length_append, List.length_replicate]; omega
  · omega
theorem iinv_tab {txt : Str} {x c c' : Addr} {i ch q q' : Nat} {vs vs' : List Value} {ns gs : List Int} {b n nt : Int} {tb tn tt tb' tn' tt' : Tok} (hch : txt.cps[i]? = some ch) (h : ch = 9) (hI : IInv txt x i ⟨c, vs, q, ⟨ns, b, n, nt⟩, tb, tn, tt⟩)
    (hg : gs = grow ns b) (hv : IntsAre vs' (gs.set b.toNat (gs.getD b.toNat 0 + 1))) (hc : x < c') :
    IInv txt x (i + 1) ⟨c', vs', q', ⟨gs.set b.toNat (gs.getD b.toNat 0 + 1), 0, n + 1, nt + 1⟩, tb', tn', tt'⟩ := by
  obtain ⟨h1, h2, h3, h4, h5, h6, h7⟩ := hI
  dsimp only at h1 h2 h3 h5 h6 h7
  refine ⟨?_, hv, hc, ?_, Int.le_refl 0, by dsimp only; omega, ?_⟩
  · rw [take_next hch, List.foldl_append, ← h1, h, hg]; rfl
  · rw [take_next hch]
    intro d hd
    rcases List.mem_append.mp hd with hd | hd
    · exact h4 d hd
    · rw [List.mem_singleton.mp hd]; exact .inr h
  · dsimp only
    rw [List.length_set, hg]
    exact grow_len h6 h7
theorem break_at {txt : Str} {pre rest : List Nat} {z i ch : Nat} (ht : txt.cps.toList = pre ++ z :: rest) (hp : ∀ c ∈ pre, c = 32 ∨ c = 9) (hz : z ≠ 32) (hz' : z ≠ 9)
    (hch : txt.cps[i]? = some ch) (h1 : ch ≠ 32) (h2 : ch ≠ 9) (hall : ∀ c ∈ txt.cps.toList.take i, c = 32 ∨ c = 9) : txt.cps.toList.take i = pre := by
  have hc : (pre ++ z :: rest)[i]? = some ch := by rw [← ht, Array.getElem?_toList]; exact hch
  rw [ht] at hall ⊢
  rcases Nat.lt_trichotomy i pre.length with h | h | h
  · rw [List.getElem?_append_left h] at hc
    rcases hp ch (List.mem_of_getElem? hc) with e | e
    · exact absurd e h1
    · exact absurd e h2
  · rw [h, List.take_left']
    rfl
  · have hm : z ∈ (pre ++ z :: rest).take i := by
      have e : i = pre.length + ((i - pre.length - 1) + 1) := by omega
      rw [e, List.take_length_add_append, List.take_succ_cons]
      exact List.mem_append_right _ (List.mem_cons_self)
    rcases hall z hm with e | e
    · exact absurd e hz
    · exact absurd e hz'
theorem no_end {txt : Str} {pre rest : List Nat} {z : Nat} (ht : txt.cps.toList = pre ++ z :: rest) (hz : z ≠ 32) (hz' : z ≠ 9) (hall : ∀ c ∈ txt.cps.toList.take txt.cps.size, c = 32 ∨ c = 9) : False := by
  have e : txt.cps.toList.take txt.cps.size = txt.cps.toList := by rw [← Array.length_toList, List.take_length]
  rw [e, ht] at hall
  rcases hall z (List.mem_append_right _ List.mem_cons_self) with e | e
  · exact hz e
  · exact hz' e
end -- InitLaws
section -- C4
local macro_rules | `(tactic| walk_at "call type:tuple") => `(tactic| (k_here; (with_reducible show wpAny _ _ (call (Value.type _) [Value.ref _]) _ _ _); k_dflt (refine' kde_tupleOf ?k1 ?k2 ?k3 ?k4 ?k5 ?_; (case k1 => k_asm); (case k2 => k_asm); (case k3 => exact News.isList (by k_asm) (by k_mem)); (case k4 => simp only [List.size_toArray]; omega); (case k5 => exact rfl); k_whole); intro D' h' F' N' l1; (try k_lt l1); (try k_sweep)))
local macro_rules | `(tactic| walk_at "M ps") => `(tactic| (repeat (first | exact List.forall_mem_nil _ | refine List.forall_mem_cons.mpr ⟨rfl, ?_⟩)))
local macro_rules | `(tactic| walk_at "M rest") => `(tactic| (intro z9 hz9 hps9; (have h1 : z9 ≠ Str.ofString "count" := hps9 _ (.head _)); (have h2 : z9 ≠ Str.ofString "b" := hps9 _ (.tail _ (.head _))); (have h3 : z9 ≠ Str.ofString "n" := hps9 _ (.tail _ (.tail _ (.head _)))); (have h4 : z9 ≠ Str.ofString "nt" := hps9 _ (.tail _ (.tail _ (.tail _ (.head _))))); simp only [kstB, if_neg h1, if_neg h2, if_neg h3, if_neg h4, if_neg hz9]))
set_option maxHeartbeats 8000000 in
theorem c_init : ∀ {w : World} {s : Shared} {h₀ : Heap} {L : Addr} {news : List (Addr × Obj)} {m mg mb : Str → Option Value} {mean : ExcName → Option Value}
  {x dx : Addr} {R : Result → Shared → Prop} {txt : Str} {tt : Tok} {pre rest : List Nat} {z : Nat},
  Fr h₀ L s.heap m → News h₀ L s.heap ((x, instObj 111 dx) :: (dx, dictOf [] 0) :: news) → (∀ p ∈ news, p.1 < dx) → dx < x → txt.cps.size ≤ 200 →
  txt.cps.toList = pre ++ z :: rest → (∀ c ∈ pre, c = 32 ∨ c = 9) → z ≠ 32 → z ≠ 9 →
  (hd.heap_39 w.params).In h₀ → Top hd.view_39 (looseW hd.view_39 [Str.ofString "Whitespace"]) mean mg mb h₀ →
  (∀ h' tk a c e1 e2 e3 e4 e5 t1 t2 t3 t4 t5 t6 t7 q1 q2 n sim vs, Fr h₀ L h' m → News h₀ L h' ((x, instObj 111 dx) :: (dx, dictOf [⟨e1, .str "raw" t1, .str txt tt⟩, ⟨e2, .str "n" t2, n⟩, ⟨e3, .str "nt" t3, .int (pre.foldl stepW ⟨[], 0, 0, 0⟩).nt t6⟩, ⟨e4, .str "norm" t4, .ref a⟩, ⟨e5, .str "is_simple" t5, sim⟩] 5) ::
      (a, tupOf [.ref c, .int (pre.foldl stepW ⟨[], 0, 0, 0⟩).b t7] q1) :: (c, tupOf vs q2) :: news) → IntsAre vs (pre.foldl stepW ⟨[], 0, 0, 0⟩).ns → x < c → c < a → R (.ok (.ret .none)) { s with heap := h', toks := tk }) →
  codeAny (model Challenge.rw_pk0076_01.row.prog w) (roomA 450 400) (.call (.ref 66) ⟨[.ref x, .str txt tt], []⟩) R s := by
  k_fill
  intro w s h₀ L news m mg mb mean x dx R txt tt pre rest z F N₀ hlt hxd htx htxt hpre hz hz' X T hR
  have N : News h₀ L s.heap [(x, instObj 111 dx), (dx, dictOf [] 0)] := News.perm N₀ (fun p hp => List.mem_append_left news hp)
  replace hxd := ltN hxd
  w_on
  w_top on
  refine' enter_def (binds := [(Str.ofString "self", .ref x), (Str.ofString "ws", .str txt tt)]) ?k2 ?k4 ?k3 ?k5 ?k6 ?k7 ?k8 ?k9 ?kB ?_ ?c2 ?c3 ?c4 ?c5
  walk_at "M enter"
  intro g' L' h' hg' hL' hl' F' N' X' T'
  k_fold
  k_steps
  rename Fr _ _ _ _ => hF9
  rename News g' _ _ _ => hN8
  rename (_ < _ ∧ _ < _ ∧ _ < _) => hl9
  refine text_loop (σ := ISt) (news := [(_, W.listOf #[] 0), (x, instObj 111 dx), (dx, dictOf [⟨_, .str "raw" _, .str txt tt⟩] 1)])
    (fun S => [(S.c, W.listOf S.vs.toArray S.q), (x, instObj 111 dx), (dx, dictOf [⟨_, .str "raw" _, .str txt tt⟩] 1)])
    (fun S => [(Str.ofString "count", .ref S.c), (Str.ofString "b", .int S.st.b S.tb), (Str.ofString "n", .int S.st.n S.tn), (Str.ofString "nt", .int S.st.nt S.tt)])
    (IInv txt x) ⟨_, [], 0, ⟨[], 0, 0, 0⟩, _, _, _⟩ rfl hF9 (News.perm hN8 (List.forall_mem_cons.mpr ⟨by k_mem, List.forall_mem_cons.mpr ⟨by k_mem, List.forall_mem_cons.mpr ⟨by k_mem, fun _ h => nomatch h⟩⟩⟩)) rfl (List.forall_mem_cons.mpr ⟨rfl, List.forall_mem_cons.mpr ⟨rfl, List.forall_mem_cons.mpr ⟨rfl, List.forall_mem_cons.mpr ⟨rfl, fun _ h => nomatch h⟩⟩⟩⟩) ?_ ?_ ?_
  · exact iinv_start hl9.2.1
  · rintro ⟨c, vs, q, ⟨ns, b, n, nt⟩, tb, tn, tt'⟩ i ch t h tk own hch hoff hinv hF hN
    obtain ⟨hst, hints, hxc, hall, hb0, hbi, hlen⟩ := id hinv
    dsimp only at hst hints hxc hb0 hbi hlen hF hN hoff
    simp only [List.cons_append, List.nil_append] at hN
    simp only [List.map_cons, List.map_nil] at hoff
    have hi : i < 200 := Nat.lt_of_lt_of_le (Array.getElem?_eq_some_iff.mp hch).1 htx
    have hlv : vs.length = ns.length := hints.length
    replace hxc := ltN hxc
    clear hF9 hN8
    show wpAny _ _ _ _ _ _
    k_fold
    k_steps
    · refine InvEndG.intro (by assumption) (by assumption) ⟨⟨c, vs, q, ⟨ns, b + 1, n + 1, nt⟩, _, _, _⟩, rfl, by walk_at "M ps", by walk_at "M rest", iinv_space hch (sign_of KWk.blank_mk (by assumption)) hinv⟩ hoff ?_ ?_
      · exact fun p hp => List.mem_append_left own hp
      · exact fun p hp => .tail _ (.tail _ (.tail _ hp))
    · rename IntsAre (List.set _ _ _) _ => hI9
      rename (_ < _ ∧ _ < _ ∧ _ < _ ∧ _ < _ ∧ _ < _ ∧ AllLt _ own) => hl8
      refine InvEndG.intro (by assumption) (by assumption) ⟨⟨_, _, 0, ⟨_, 0, n + 1, nt + 1⟩, _, _, _⟩, rfl, by walk_at "M ps", by walk_at "M rest", iinv_tab hch (sign_of tab_is (by assumption)) hinv (grow_yes (by assumption)) hI9 hl8.2.2.2.1⟩ ?_ ?_ ?_
      · intro p hp bb hbb
        simp only [List.map_cons, List.map_nil] at hbb
        rcases List.mem_cons.mp hbb with e | hbb
        · rw [e]
          exact Nat.ne_of_lt (kst_ltOf hl8.2.2.2.2.2 p hp)
        · exact hoff p hp _ (.tail _ hbb)
      · exact List.forall_mem_cons.mpr ⟨by k_mem, List.forall_mem_cons.mpr ⟨by k_mem, List.forall_mem_cons.mpr ⟨by k_mem, fun _ h => nomatch h⟩⟩⟩
      · exact fun p hp => .tail _ (.tail _ (.tail _ (.tail _ (.tail _ (.tail _ hp)))))
    · rename IntsAre (List.set _ _ _) _ => hI9
      refine InvEndG.intro (by assumption) (by assumption) ⟨⟨c, _, q, ⟨_, 0, n + 1, nt + 1⟩, _, _, _⟩, rfl, by walk_at "M ps", by walk_at "M rest", iinv_tab hch (sign_of tab_is (by assumption)) hinv (grow_no (by assumption)) hI9 hxc⟩ hoff ?_ ?_
      · exact fun p hp => List.mem_append_left own hp
      · exact fun p hp => .tail _ (.tail _ (.tail _ hp))
    · rename ((_ == Str.ofString " ") = false) => hs9
      rename ((_ == Str.ofString "\t") = false) => ht9
      have hpre9 := break_at htxt hpre hz hz' hch (sign_of_not KWk.blank_mk hs9) (sign_of_not tab_is ht9) hall
      rename Fr g' L' _ _ => hFE
      rename News g' L' _ _ => hNE
      rename (_ < _ ∧ _ < _ ∧ _ < _ ∧ _ < _ ∧ AllLt _ own) => hl8
      rename (_ < _ ∧ _ < _ ∧ _ < _ ∧ AllLt _ own) => hl7
      rw [hpre9] at hst
      rw [← hst] at hR
      have hnew := news_out F N hg' hNE
      have hrest := news_kept (rest := news) (news := [(x, instObj 111 dx), (dx, dictOf [] 0)]) (News.perm N₀ (fun p hp => .tail _ (.tail _ hp))) (fun p hp hq => by
        have h1 := ltN (hlt p hp)
        rcases List.mem_cons.mp hq with e | hq
        · have e' : p.1 = x := e
          rw [e'] at h1
          exact Nat.lt_asymm h1 hxd
        · have e' : p.1 = dx := List.mem_singleton.mp hq
          rw [e'] at h1
          exact Nat.lt_irrefl _ h1) hg' hFE
      exact hR _ _ _ _ _ _ _ _ _ _ _ _ _ _ _ _ _ _ _ _ _ (fr_out F N hg' hFE) (List.forall_mem_cons.mpr ⟨hnew _ (by k_mem), List.forall_mem_cons.mpr ⟨hnew _ (by k_mem), List.forall_mem_cons.mpr ⟨hnew _ (by k_mem), List.forall_mem_cons.mpr ⟨hnew _ (by k_mem), hrest⟩⟩⟩⟩) hints hl7.2.1 hl8.1
  · rintro S u h tk hP hF hN
    exact (no_end htxt hz hz' hP.2.2.2.1).elim
end -- C4
section -- C5
local macro_rules | `(tactic| walk_at "compareOp Is ref ref") => `(tactic| (k_here; first | refine wpAny_is_ref_self ?_ | refine kto_is (News.get (by k_asm) (by k_mem)) (News.get (by k_asm) (by k_mem)) (by assumption) (by intro e9; injection e9 with e9; exact absurd e9 (by decide)) ?_))
def one (n : Int) : Dat := .list [.int n]
def cnt (nums : List Int) (far : Int) : Int := ((nums.filter fun n => decide (n = far)).length : Int)
theorem datAll_one {news : List (Addr × Obj)} {vs : List Value} {nums : List Int} {i : Nat} {v : Value} (hd : DatAll news vs (nums.map one)) (hv : vs[i]? = some v) :
    ∃ n a t k, nums[i]? = some n ∧ v = .ref a ∧ (a, W.listOf #[.int n t] k) ∈ news := by
  have hl := hd.length
  rw [List.length_map] at hl
  have hi : i < nums.length := by rw [← hl]; exact (List.getElem?_eq_some_iff.mp hv).1
  obtain ⟨v', hv', hD⟩ := hd.get (k := i) (by rw [List.length_map]; exact hi)
  rw [hv] at hv'
  cases hv'
  rw [List.getElem_map] at hD
  generalize hn : nums[i] = n at hD
  cases hD with
  | list hm hA =>
    cases hA with
    | cons h1 h2 =>
      cases h2
      cases h1
      exact ⟨n, _, _, _, by rw [List.getElem?_eq_getElem hi, hn], rfl, hm⟩
theorem cnt_next {nums : List Int} {i : Nat} {n far : Int} (h : nums[i]? = some n) : cnt (nums.take (i + 1)) far = cnt (nums.take i) far + if n = far then 1 else 0 := by
  unfold cnt
  rw [List.take_add_one, h]
  simp only [Option.toList, List.filter_append, List.length_append, List.filter_cons, List.filter_nil]
  by_cases e : n = far
  · simp [e]
  · simp [e]
theorem same_one {h : Heap} {a : Addr} {n far : Int} {ta t : Tok} {k qb : Nat} (h1 : h.get? a = some (W.listOf #[.int n ta] k)) (h2 : h.get? a = some (W.listOf #[.int far t] qb)) : n = far := by
  rw [h1] at h2
  injection h2 with h2
  injection h2 with _ _ h2 _
  injection h2 with h2 _
  injection h2 with h2
  injection h2 with h2 _
  injection h2 with h2 _
local macro_rules | `(tactic| walk_at "M ps") => `(tactic| (repeat (first | exact List.forall_mem_nil _ | refine List.forall_mem_cons.mpr ⟨rfl, ?_⟩)))
local macro_rules | `(tactic| walk_at "M rest") => `(tactic| (intro z9 hz9 hps9; (have h1 : z9 ≠ Str.ofString "count" := hps9 _ (.head _)); simp only [kstB, if_neg h1, if_neg hz9]))
set_option maxHeartbeats 8000000 in
theorem c_countOf : ∀ {w : World} {s : Shared} {h₀ : Heap} {L : Addr} {news : List (Addr × Obj)} {m mg mb : Str → Option Value} {mean : ExcName → Option Value}
  {l b : Addr} {vs : List Value} {nums : List Int} {q qb : Nat} {far : Int} {t : Tok},
  Fr h₀ L s.heap m → News h₀ L s.heap news → (l, W.listOf vs.toArray q) ∈ news → DatAll news vs (nums.map one) → (b, W.listOf #[.int far t] qb) ∈ news →
  (hd.heap_39 w.params).In h₀ → Top hd.view_39 (looseW hd.view_39 [Str.ofString "Whitespace"]) mean mg mb h₀ → nums.length ≤ 100 →
  codeAny (model Challenge.rw_pk0076_01.row.prog w) (roomA 500 500) (.call (.ref 49) ⟨[.ref l, .ref b], []⟩) (Ret s fun v _ => ∃ t, v = .int (cnt nums far) t) s := by
  k_fill
  intro w s h₀ L news m mg mb mean l b vs nums q qb far t F N₀ m1 hdat m2 X T hlen
  have N : News h₀ L s.heap ((l, W.listOf vs.toArray q) :: (b, W.listOf #[.int far t] qb) :: news) := List.forall_mem_cons.mpr ⟨N₀ _ m1, List.forall_mem_cons.mpr ⟨N₀ _ m2, N₀⟩⟩
  w_on
  w_top on
  refine' enter_def (binds := [(Str.ofString "a", .ref l), (Str.ofString "b", .ref b)]) ?k2 ?k4 ?k3 ?k5 ?k6 ?k7 ?k8 ?k9 ?kB ?_ ?c2 ?c3 ?c4 ?c5
  walk_at "M enter"
  intro g' L' h' hg' hL' hl' F' N' X' T'
  k_fold
  k_steps
  refine For_invV g' rfl rfl ?_
  walk1
  rename Fr _ _ _ _ => hF9
  rename News g' _ _ _ => hN9
  refine list_loop (σ := Int × Tok) (fun _ => (l, W.listOf vs.toArray q) :: (b, W.listOf #[.int far t] qb) :: news) (fun S => [(Str.ofString "count", .int S.1 S.2)])
    (fun i S => S.1 = cnt (nums.take i) far) (0, _) rfl (fun _ => .head _) hF9 hN9 rfl (List.forall_mem_cons.mpr ⟨rfl, fun _ h => nomatch h⟩) rfl ?_ ?_
  · rintro ⟨co, tc⟩ i v h tk own hv hoff hP hF hN
    obtain ⟨n, a, ta, k, hn, rfl, hm⟩ := datAll_one hdat hv
    dsimp only at hP hF hN
    have hN2 : News g' L' h ((a, W.listOf #[.int n ta] k) :: (l, W.listOf vs.toArray q) :: (b, W.listOf #[.int far t] qb) :: (news ++ own)) :=
      List.forall_mem_cons.mpr ⟨hN _ (.tail _ (.tail _ (List.mem_append_left _ hm))), hN⟩
    clear hF9 hN9 hN
    show wpAny _ _ _ _ _ _
    k_fold
    by_cases hab : a = b
    · subst hab
      have e : n = far := same_one (News.get hN2 (.head _)) (News.get hN2 (.tail _ (.tail _ (.head _))))
      k_steps
      refine InvEndG.intro (by assumption) (by assumption) ⟨(_, _), rfl, by walk_at "M ps", by walk_at "M rest", ?_⟩ hoff (fun p hp => .tail _ (List.mem_append_left own hp)) (fun p hp => .tail _ (.tail _ (.tail _ (List.mem_append_right _ hp))))
      dsimp only
      rw [cnt_next hn, if_pos e, hP]
    · k_steps
      · rename [n] = [far] => e
        injection e with e
        refine InvEndG.intro (by assumption) (by assumption) ⟨(_, _), rfl, by walk_at "M ps", by walk_at "M rest", ?_⟩ hoff (fun p hp => .tail _ (List.mem_append_left own hp)) (fun p hp => .tail _ (.tail _ (.tail _ (List.mem_append_right _ hp))))
        dsimp only
        rw [cnt_next hn, if_pos e, hP]
      · rename ¬[n] = [far] => e
        have e' : ¬ n = far := fun q => e (by rw [q])
        refine InvEndG.intro (by assumption) (by assumption) ⟨(_, _), rfl, by walk_at "M ps", by walk_at "M rest", ?_⟩ hoff (fun p hp => .tail _ (List.mem_append_left own hp)) (fun p hp => .tail _ (.tail _ (.tail _ (List.mem_append_right _ hp))))
        dsimp only
        rw [cnt_next hn, if_neg e', hP, Int.add_zero]
  · rintro ⟨co, tc⟩ u h tk hP hF hN
    dsimp only at hP hF hN ⊢
    clear hF9 hN9
    k_steps
    walk_at "M ret"
    have e : vs.length = nums.length := by rw [hdat.length, List.length_map]
    rw [e, List.take_length] at hP
    exact ⟨_, by rw [← hP]⟩
end -- C5
section -- Comps
theorem ints_of_all : ∀ {vs : List Value}, (∀ v ∈ vs, ∃ n t, v = .int n t) → ∃ ns, IntsAre vs ns
  | [], _ => ⟨[], .nil⟩
  | v :: r, h => by
    obtain ⟨n, t, rfl⟩ := h v (.head _)
    obtain ⟨ns, hn⟩ := ints_of_all fun u hu => h u (.tail _ hu)
    exact ⟨n :: ns, .cons n t hn⟩
theorem slice_ints {vs : List Value} {ns : List Int} (h : IntsAre vs ns) (lo hi st : Option Int) : ∃ zs, IntsAre (slicePick vs.toArray lo hi st).toList zs := by
  refine ints_of_all fun v hv => h.all v ?_
  unfold slicePick at hv
  simp only [List.mem_filterMap] at hv
  obtain ⟨i, _, hi⟩ := hv
  exact List.mem_of_getElem? (by simpa using hi)
section
variable {prog : Program} {w : World} {A : Around} {E : Value → Shared → Prop} {s : Shared} {h₀ : Heap} {L l : Addr} {m : Str → Option Value} {news : List (Addr × Obj)} {Q : Value → Shared → Prop}
theorem slice3_some {value slice : Expr} {vl vu vk : Value} {lo hi st : Option Int} {ops : List Value} {vs : List Value} {ns : List Int} (F : Fr h₀ L s.heap m) (N : News h₀ L s.heap news) (hl : s.heap.IsList l vs.toArray) (hi' : IntsAre vs ns) (pl : IsPart vl lo) (pu : IsPart vu hi) (pk : IsPart vk st) (h0 : st ≠ some 0)
    (h : ∀ D h' ws zs, Fr h₀ L h' m → News h₀ L h' ((D, W.listOf ws.toArray 0) :: news) → (∀ p ∈ news, p.1 < D) → IntsAre ws zs → Q (.ref D) { s with heap := h' })
    (hs : subscripted slice false (.ref l) (.ref s.heap.objs.size) = operate ops (getItem (.ref l) (.ref s.heap.objs.size))) (ht : ∀ r, letTemporaryGo value (.ref l) r = pure ()) (hz : vs.toArray.size ≤ sizeLine) :
    wpAny (model prog w) A (subscriptTail value slice (.ref l) (.ref s.heap.objs.size)) Q E { s with heap := s.heap.push { cls := .type "slice", data := .fields #[vl, vu, vk] } } := by
  obtain ⟨zs, hzs⟩ := slice_ints hi' lo hi st
  refine slice_list3 F N hl pl pu pk h0 (fun h' F' N' => h _ h' _ zs F' ?_ (fun p hp => Nat.lt_succ_of_lt (Heap.lt_size (N p hp).1)) hzs) hs ht hz
  rw [Array.toArray_toList]
  exact N'
end

section
variable {prog : Program} {w : World} {A : Around} {h₀ : Heap} {L : Addr} {m : Str → Option Value} {env : Env} {elt : Expr} {x : Str} {scope : Scope} {cl : List (Str × Addr)} {s : Shared} {S : List (Addr × Obj) → Prop} {P : Nat → Value → Prop} {Fin : List Value → List (Addr × Obj) → Prop} {news base : List (Addr × Obj)}
/-- a comprehension whose elements are ints, whatever they are -/
theorem any_rest {n : Nat}
    (turn : ∀ i v I oI C oC D m₂ ys h tk (E' : Value → Shared → Prop), i < n → P i v → LCg.NsObj oC m₂ → m₂ x = some v → Fr h₀ L h m → News h₀ L h ((I, oI) :: (C, oC) :: (D, LCg.lst ys) :: news) → LCg.Off3 I C D news → ((@Ne Nat I C) ∧ (@Ne Nat I D) ∧ (@Ne Nat C D)) →
      wpAny (model prog w) A (eval elt (compEnvC scope cl C env)) (LCg.CompEnd h₀ L m { s with heap := h, toks := tk } I oI C oC D (LCg.lst ys) S (fun y news' => news' = news ∧ ∃ r t, y = .int r t)) E' { s with heap := h, toks := tk })
    (fin : ∀ ys zs, IntsAre ys zs → zs.length = n → Fin ys news) : LCg.CompRest prog w A h₀ L m env elt x scope cl s S P Fin n 0 [] news := by
  have key : ∀ (j i : Nat) (ys : List Value) (zs : List Int), i + j = n → IntsAre ys zs → zs.length = i → LCg.CompRest prog w A h₀ L m env elt x scope cl s S P Fin j i ys news := by
    intro j
    induction j with
    | zero =>
      intro i ys zs hi hy hl
      exact LCg.CompRest.zero (fin ys zs hy (by omega))
    | succ j ih =>
      intro i ys zs hi hy hl
      refine LCg.CompRest.succ ?_
      intro v I oI C oC D m₂ h tk E' hv hC hx F N off ne
      refine wpAny_mono (turn i v I oI C oC D m₂ ys h tk E' (by omega) hv hC hx F N off ne) (fun y s₂ hq => ?_) fun _ _ e => e
      obtain ⟨h', tk', nw, e, F', N', off', hS, rfl, r, t', rfl⟩ := hq
      exact ⟨h', tk', nw, e, F', N', off', hS, ih (i + 1) _ (zs ++ [r]) (by omega) (IntsAre.append hy (.cons r t' .nil)) (by rw [List.length_append, hl]; rfl)⟩
  exact key n 0 [] [] (by omega) .nil rfl

/-- a comprehension whose elements are data -/
theorem dat_rest {n : Nat} (el : Nat → Dat)
    (turn : ∀ i v tl I oI C oC D m₂ ys h tk (E' : Value → Shared → Prop), i < n → P i v → LCg.NsObj oC m₂ → m₂ x = some v → Fr h₀ L h m → News h₀ L h ((I, oI) :: (C, oC) :: (D, LCg.lst ys) :: (base ++ tl)) → LCg.Off3 I C D (base ++ tl) → ((@Ne Nat I C) ∧ (@Ne Nat I D) ∧ (@Ne Nat C D)) →
      wpAny (model prog w) A (eval elt (compEnvC scope cl C env)) (LCg.CompEnd h₀ L m { s with heap := h, toks := tk } I oI C oC D (LCg.lst ys) S (fun y news' => ∃ add, news' = base ++ (add ++ tl) ∧ DatIn news' y (el i))) E' { s with heap := h, toks := tk })
    (fin : ∀ ys tl, DatAll (base ++ tl) ys ((List.range n).map el) → Fin ys (base ++ tl)) : LCg.CompRest prog w A h₀ L m env elt x scope cl s S P Fin n 0 [] (base ++ []) := by
  have key : ∀ (j i : Nat) (ys : List Value) (tl : List (Addr × Obj)), i + j = n → DatAll (base ++ tl) ys ((List.range i).map el) → LCg.CompRest prog w A h₀ L m env elt x scope cl s S P Fin j i ys (base ++ tl) := by
    intro j
    induction j with
    | zero =>
      intro i ys tl hi hy
      have e : i = n := by omega
      subst e
      exact LCg.CompRest.zero (fin ys tl hy)
    | succ j ih =>
      intro i ys tl hi hy
      refine LCg.CompRest.succ ?_
      intro v I oI C oC D m₂ h tk E' hv hC hx F N off ne
      refine wpAny_mono (turn i v tl I oI C oC D m₂ ys h tk E' (by omega) hv hC hx F N off ne) (fun y s₂ hq => ?_) fun _ _ e => e
      obtain ⟨h', tk', nw, e, F', N', off', hS, add, rfl, hd⟩ := hq
      refine ⟨h', tk', _, e, F', N', off', hS, ih (i + 1) _ (add ++ tl) (by omega) ?_⟩
      rw [List.range_succ, List.map_append]
      refine DatAll.append (DatAll.mono (fun p hp => ?_) hy) (DatAll.one hd)
      rcases List.mem_append.mp hp with hp | hp
      · exact List.mem_append_left _ hp
      · exact List.mem_append_right _ (List.mem_append_right _ hp)
  exact key n 0 [] [] (by omega) .nil
end
end -- Comps
section -- C6
local macro_rules | `(tactic| walk_at "subscriptTail Name Slice ref ref") => `(tactic| (k_here; (with_reducible show wpAny _ _ (subscriptTail _ (PySem.Expr.Slice _ _ (some _) _) (Value.ref _) (Value.ref _)) _ _ _); k_dflt (refine' slice3_some ?F ?N ?l ?i ?p ?q ?k ?o ?_ ?s ?t ?z; (case F => k_asm); (case N => k_asm); (case l => exact Fr.lst (by k_asm) (by k_asm)); (case i => assumption); (case p => kmk_part); (case q => kmk_part); (case k => kmk_part); (case o => decide); (case s => with_unfolding_all rfl); (case t => kmk_pure); (case z => simp only [List.size_toArray, sizeLine_eq]; omega)); intro D' h' ws' zs' F' N' l1 hI'; (try k_lt l1); (try k_sweep)))
local macro_rules | `(tactic| walk_at "CompSrc") => `(tactic| (k_here; k_dflt (refine LCg.CompSrc.range (by rfl) (by k_asm) (by k_asm) (by assumption) (by decide) (by rfl) (by exact Nat.le_of_ble_eq_true rfl) ?_; intro g'; refine any_rest (n := 6) (fun i' v' I' oI' C' oC' D' m' ys' h' tk' E' hi' hv' hC' hx' F' N' off' ne' => ?_) (fun ys' zs' hI' hl' => ?_)); (all_goals (try (obtain ⟨t', hv'⟩ := hv'; subst hv'; (simp only [LCg.Off3, and_true] at off'); (try k_sweep))))))
local macro_rules | `(tactic| walk_at "CompEnd") => `(tactic| (refine LCg.CompEnd.intro (by assumption) (by assumption) _ (by kcf_all) (by (simp only [LCg.Off3, and_true]; assumption)) trivial ⟨rfl, _, _, rfl⟩))
set_option maxHeartbeats 8000000 in
theorem c_drawn : ∀ {w : World} {s : Shared} {h₀ : Heap} {L : Addr} {m mg mb : Str → Option Value} {mean : ExcName → Option Value}
  {sc : Addr} {vs : List Value} {ns : List Int},
  Fr h₀ L s.heap m → (hd.heap_39 w.params).In h₀ → Top hd.view_39 (looseW hd.view_39 [Str.ofString "Whitespace"]) mean mg mb h₀ → h₀.IsList sc vs.toArray → IntsAre vs ns → ns.length ≤ 63 →
  codeAny (model Challenge.rw_pk0076_01.row.prog w) (roomA 450 400) (.call (.ref 120) ⟨[.ref sc], []⟩)
    (Ret s fun v h' => ∃ l us ds q, v = .ref l ∧ News h₀ L h' [(l, W.listOf us.toArray q)] ∧ IntsAre us ds ∧ ds.length = 6) s := by
  k_fill
  intro w s h₀ L m mg mb mean sc vs ns F X T hsc hv hlen
  have hlv : vs.length = ns.length := hv.length
  have N : News h₀ L s.heap [] := fun _ h => nomatch h
  w_on
  w_top on
  refine' enter_defC (binds := [(Str.ofString "script", .ref sc)]) ?k2 ?k4 ?k3 ?k5 ?k6 ?k7 ?k8 ?k9 ?kB ?kD ?_ ?c2 ?c3 ?c4
  walk_at "M enterC"
  intro g' L' h' tk' cells' hg' hL' hl' F' N' Y' X' T'
  k_cells Y'
  have hsc' : g'.IsList sc vs.toArray := by
    subst hg'
    exact hsc.at fun o e => F.keep sc o e
  simp only [List.cons_append, List.nil_append] at N'
  show wpAny _ _ _ _ _ _
  k_fold
  k_steps
  walk_at "M ret"
  rename News g' L' _ _ => hNE
  rename IntsAre _ _ => hI9
  rename (List.length _ = 6) => hl9
  exact ⟨_, _, _, _, rfl, news_out F N hg' (News.perm hNE (List.forall_mem_cons.mpr ⟨.head _, fun _ h => nomatch h⟩)), hI9, hl9⟩
end -- C6
section -- C9
def row3 (r : Int × Int × Int) : Dat := .tuple [.int r.1, .int r.2.1, .int r.2.2]
theorem datAll_row {news : List (Addr × Obj)} {vs : List Value} {rows : List (Int × Int × Int)} {i : Nat} {v : Value} (hd : DatAll news vs (rows.map row3)) (hv : vs[i]? = some v) :
    ∃ r a t1 t2 t3 k, rows[i]? = some r ∧ v = .ref a ∧ (a, tupOf [.int r.1 t1, .int r.2.1 t2, .int r.2.2 t3] k) ∈ news := by
  have hl := hd.length
  rw [List.length_map] at hl
  have hi : i < rows.length := by rw [← hl]; exact (List.getElem?_eq_some_iff.mp hv).1
  obtain ⟨v', hv', hD⟩ := hd.get (k := i) (by rw [List.length_map]; exact hi)
  rw [hv] at hv'
  cases hv'
  rw [List.getElem_map] at hD
  generalize hn : rows[i] = r at hD
  cases hD with
  | tuple hm hA =>
    cases hA with
    | cons h1 h2 =>
      cases h1
      cases h2 with
      | cons h1 h2 =>
        cases h1
        cases h2 with
        | cons h1 h2 =>
          cases h1
          cases h2
          exact ⟨r, _, _, _, _, _, by rw [List.getElem?_eq_getElem hi, hn], rfl, hm⟩
def signsOf : Nat → List Int
  | 0 => [0, 1, -1]
  | 1 => [0, 1, 0, -1]
  | _ => [0, 1, 1, -1, 1, -1, -1]
def mpOf : Nat → Int
  | 0 => 6
  | 1 => 4
  | _ => 2
def mcOf : Nat → Int
  | 0 => 12
  | 1 => 8
  | _ => 4
def stepT (g : Nat) (pc : Int × Int) (r : Int × Int × Int) : Int × Int :=
  (pc.1 + mpOf g * (signsOf g).getD (r.1.fmod (signsOf g).length).toNat 0 * ((r.2.1 - r.2.2).fdiv r.1), if r.1.fmod (signsOf g).length = 0 then pc.2 else pc.2 + mcOf g * (r.2.1 - r.2.2))
theorem mulOk_menu {c : Int} {l : List Int} {i : Nat} {y : Int} (h0 : 0 ≤ c) (h1 : c ≤ 100) (hl : (l.all fun z => decide (-1 ≤ z ∧ z ≤ 1)) = true) : IntMulOk (c * l.getD i 0) y := by
  have hb : -1 ≤ l.getD i 0 ∧ l.getD i 0 ≤ 1 := by
    rw [List.getD_eq_getElem?_getD]
    cases e : l[i]? with
    | none => exact ⟨by decide, by decide⟩
    | some z => exact of_decide_eq_true (List.all_eq_true.mp hl z (List.mem_of_getElem? e))
  obtain ⟨h2, h3⟩ := hb
  generalize l.getD i 0 = z at h2 h3 ⊢
  have h4 : z = -1 ∨ z = 0 ∨ z = 1 := by omega
  refine IntMulOk.of_left (intBits_le_64 ?_ ?_)
  · rcases h4 with rfl | rfl | rfl <;> omega
  · rcases h4 with rfl | rfl | rfl <;> omega
local macro_rules | `(tactic| mul_fits) => `(tactic| exact mulOk_menu (by decide) (by decide) (by decide))
theorem told_next {g : Nat} {rows : List (Int × Int × Int)} {i : Nat} {r : Int × Int × Int} (h : rows[i]? = some r) {pc : Int × Int} (hp : pc = (rows.take i).foldl (stepT g) (5, 5)) : stepT g pc r = (rows.take (i + 1)).foldl (stepT g) (5, 5) := by
  rw [List.take_add_one, h, hp]
  simp
local macro_rules | `(tactic| walk_at "M ps") => `(tactic| (repeat (first | exact List.forall_mem_nil _ | refine List.forall_mem_cons.mpr ⟨rfl, ?_⟩)))
local macro_rules | `(tactic| walk_at "M rest") => `(tactic| (intro z9 hps9 hc9; (have h1 : z9 ≠ Str.ofString "points" := hps9 _ (.head _)); (have h2 : z9 ≠ Str.ofString "couples" := hps9 _ (.tail _ (.head _))); (have h3 : z9 ≠ Str.ofString "size" := fun e9 => by rw [e9] at hc9; exact absurd hc9 (by decide)); (have h4 : z9 ≠ Str.ofString "column" := fun e9 => by rw [e9] at hc9; exact absurd hc9 (by decide)); (have h5 : z9 ≠ Str.ofString "bare" := fun e9 => by rw [e9] at hc9; exact absurd hc9 (by decide)); (have h6 : z9 ≠ Str.ofString "sign" := fun e9 => by rw [e9] at hc9; exact absurd hc9 (by decide)); simp only [kstB, if_neg h1, if_neg h2, if_neg h3, if_neg h4, if_neg h5, if_neg h6, hc9, Bool.false_eq_true, if_false]))
theorem told_zero {g : Nat} {rows : List (Int × Int × Int)} {tp tc : Tok} : (fun i (S : Int × Int × Tok × Tok) => (S.1, S.2.1) = (rows.take i).foldl (stepT g) (5, 5)) 0 (5, 5, tp, tc) := rfl
theorem told_go {g : Nat} {rows : List (Int × Int × Int)} {i : Nat} {r : Int × Int × Int} (h : rows[i]? = some r) {po co p c : Int} (hp : (po, co) = (rows.take i).foldl (stepT g) (5, 5)) (h1 : p = (stepT g (po, co) r).1) (h2 : c = (stepT g (po, co) r).2) : (p, c) = (rows.take (i + 1)).foldl (stepT g) (5, 5) := by
  rw [← told_next h hp, h1, h2]
set_option maxHeartbeats 8000000 in
theorem c_told0 : ∀ {w : World} {s : Shared} {h₀ : Heap} {L : Addr} {news : List (Addr × Obj)} {m mg mb : Str → Option Value} {mean : ExcName → Option Value}
  {l : Addr} {vs : List Value} {rows : List (Int × Int × Int)} {q : Nat} {tg : Tok},
  Fr h₀ L s.heap m → News h₀ L s.heap news → (l, W.listOf vs.toArray q) ∈ news → DatAll news vs (rows.map row3) → (∀ r ∈ rows, 1 ≤ r.1 ∧ r.1 ≤ 13) →
  (hd.heap_39 w.params).In h₀ → Top hd.view_39 (looseW hd.view_39 [Str.ofString "Whitespace"]) mean mg mb h₀ → rows.length ≤ 100 →
  codeAny (model Challenge.rw_pk0076_01.row.prog w) (roomA 500 500) (.call (.ref 137) ⟨[.ref l, .int 0 tg], []⟩)
    (Ret s fun v h' => ∃ l' t1 t2 q', v = .ref l' ∧ News h₀ L h' [(l', W.listOf #[.int (rows.foldl (stepT 0) (5, 5)).1 t1, .int (rows.foldl (stepT 0) (5, 5)).2 t2] q')]) s := by
  k_fill
  intro w s h₀ L news m mg mb mean l vs rows q tg F N₀ m1 hdat hrows X T hlen
  have N : News h₀ L s.heap ((l, W.listOf vs.toArray q) :: news) := List.forall_mem_cons.mpr ⟨N₀ _ m1, N₀⟩
  w_on
  w_top on
  refine' enter_def (binds := [(Str.ofString "witnesses", .ref l), (Str.ofString "grid", .int 0 tg)]) ?k2 ?k4 ?k3 ?k5 ?k6 ?k7 ?k8 ?k9 ?kB ?_ ?c2 ?c3 ?c4 ?c5
  walk_at "M enter"
  intro g' L' h' hg' hL' hl' F' N' X' T'
  k_fold
  k_steps
  rename Fr _ _ _ _ => hF9
  rename News g' _ _ _ => hN9
  dsimp only at hF9 hN9
  refine For_turns hF9 ?_
  walk1
  have hq : News g' L' _ (_ :: (l, W.listOf vs.toArray q) :: news) := News.perm hN9 (List.forall_mem_cons.mpr ⟨.tail _ (.tail _ (.tail _ (.tail _ (.head _)))), fun p hp => .tail _ (.tail _ (.tail _ (.tail _ (.tail _ hp))))⟩)
  refine tup_loop (σ := Int × Int × Tok × Tok) (Function.const _ _) (fun S => [(Str.ofString "points", .int S.1 S.2.2.1), (Str.ofString "couples", .int S.2.1 S.2.2.2)])
    [Str.ofString "size", Str.ofString "column", Str.ofString "bare", Str.ofString "sign"] (fun i S => (S.1, S.2.1) = (rows.take i).foldl (stepT 0) (5, 5)) (5, 5, _, _) rfl (fun _ => .tail _ (.head _)) hF9
    hq rfl (List.forall_mem_cons.mpr ⟨rfl, List.forall_mem_cons.mpr ⟨rfl, fun _ h => nomatch h⟩⟩) ?_ ?_ ?_
  · exact told_zero
  · rintro ⟨po, co, tp, tc⟩ i v u h tk own hv hoff hP hF hN
    obtain ⟨r, a, t1, t2, t3, k, hr, rfl, hm⟩ := datAll_row hdat hv
    obtain ⟨hr1, hr2⟩ := hrows r (List.mem_of_getElem? hr)
    obtain ⟨sz, cl, ba⟩ := r
    dsimp only [Function.const] at hP hF hN hm hr1 hr2 hoff
    simp only [List.cons_append] at hN
    have hN2 : News g' L' h _ := news_cons hN (.tail _ (.tail _ (List.mem_append_left _ hm)))
    clear hF9 hN9 hN hq
    show wpAny _ _ _ _ _ _
    k_fold
    k_steps
    · rename (Int.fmod sz _ ≠ 0) => hne
      refine InvEndG.intro (by assumption) (by assumption) ⟨(_, _, _, _), rfl, by walk_at "M ps", by walk_at "M rest", ?_⟩ hoff (by walk_at "M sub") (by walk_at "M sub")
      exact told_go hr hP rfl (if_neg hne).symm
    · have hne : sz.fmod 3 = 0 := by omega
      refine InvEndG.intro (by assumption) (by assumption) ⟨(_, _, _, _), rfl, by walk_at "M ps", by walk_at "M rest", ?_⟩ hoff (by walk_at "M sub") (by walk_at "M sub")
      exact told_go hr hP rfl (if_pos hne).symm
  · rintro ⟨po, co, tp, tc⟩ u h tk hP hF hN
    dsimp only [Function.const] at hP hF hN ⊢
    have e : vs.length = rows.length := by rw [hdat.length, List.length_map]
    rw [e, List.take_length] at hP
    clear hF9 hN9 hq
    k_steps
    walk_at "M ret"
    rename News g' L' _ _ => hNE
    rw [← hP]
    exact ⟨_, _, _, _, rfl, news_out F N hg' (News.perm hNE (List.forall_mem_cons.mpr ⟨.head _, fun _ h => nomatch h⟩))⟩
set_option maxHeartbeats 8000000 in
theorem c_told1 : ∀ {w : World} {s : Shared} {h₀ : Heap} {L : Addr} {news : List (Addr × Obj)} {m mg mb : Str → Option Value} {mean : ExcName → Option Value}
  {l : Addr} {vs : List Value} {rows : List (Int × Int × Int)} {q : Nat} {tg : Tok},
  Fr h₀ L s.heap m → News h₀ L s.heap news → (l, W.listOf vs.toArray q) ∈ news → DatAll news vs (rows.map row3) → (∀ r ∈ rows, 1 ≤ r.1 ∧ r.1 ≤ 13) →
  (hd.heap_39 w.params).In h₀ → Top hd.view_39 (looseW hd.view_39 [Str.ofString "Whitespace"]) mean mg mb h₀ → rows.length ≤ 100 →
  codeAny (model Challenge.rw_pk0076_01.row.prog w) (roomA 500 500) (.call (.ref 137) ⟨[.ref l, .int 1 tg], []⟩)
    (Ret s fun v h' => ∃ l' t1 t2 q', v = .ref l' ∧ News h₀ L h' [(l', W.listOf #[.int (rows.foldl (stepT 1) (5, 5)).1 t1, .int (rows.foldl (stepT 1) (5, 5)).2 t2] q')]) s := by
  k_fill
  intro w s h₀ L news m mg mb mean l vs rows q tg F N₀ m1 hdat hrows X T hlen
  have N : News h₀ L s.heap ((l, W.listOf vs.toArray q) :: news) := List.forall_mem_cons.mpr ⟨N₀ _ m1, N₀⟩
  w_on
  w_top on
  refine' enter_def (binds := [(Str.ofString "witnesses", .ref l), (Str.ofString "grid", .int 1 tg)]) ?k2 ?k4 ?k3 ?k5 ?k6 ?k7 ?k8 ?k9 ?kB ?_ ?c2 ?c3 ?c4 ?c5
  walk_at "M enter"
  intro g' L' h' hg' hL' hl' F' N' X' T'
  k_fold
  k_steps
  rename Fr _ _ _ _ => hF9
  rename News g' _ _ _ => hN9
  dsimp only at hF9 hN9
  refine For_turns hF9 ?_
  walk1
  have hq : News g' L' _ (_ :: (l, W.listOf vs.toArray q) :: news) := News.perm hN9 (List.forall_mem_cons.mpr ⟨.tail _ (.tail _ (.tail _ (.head _))), fun p hp => .tail _ (.tail _ (.tail _ (.tail _ (.tail _ hp))))⟩)
  refine tup_loop (σ := Int × Int × Tok × Tok) (Function.const _ _) (fun S => [(Str.ofString "points", .int S.1 S.2.2.1), (Str.ofString "couples", .int S.2.1 S.2.2.2)])
    [Str.ofString "size", Str.ofString "column", Str.ofString "bare", Str.ofString "sign"] (fun i S => (S.1, S.2.1) = (rows.take i).foldl (stepT 1) (5, 5)) (5, 5, _, _) rfl (fun _ => .tail _ (.head _)) hF9
    hq rfl (List.forall_mem_cons.mpr ⟨rfl, List.forall_mem_cons.mpr ⟨rfl, fun _ h => nomatch h⟩⟩) ?_ ?_ ?_
  · exact told_zero
  · rintro ⟨po, co, tp, tc⟩ i v u h tk own hv hoff hP hF hN
    obtain ⟨r, a, t1, t2, t3, k, hr, rfl, hm⟩ := datAll_row hdat hv
    obtain ⟨hr1, hr2⟩ := hrows r (List.mem_of_getElem? hr)
    obtain ⟨sz, cl, ba⟩ := r
    dsimp only [Function.const] at hP hF hN hm hr1 hr2 hoff
    simp only [List.cons_append] at hN
    have hN2 : News g' L' h _ := news_cons hN (.tail _ (.tail _ (List.mem_append_left _ hm)))
    clear hF9 hN9 hN hq
    show wpAny _ _ _ _ _ _
    k_fold
    k_steps
    · rename (Int.fmod sz _ ≠ 0) => hne
      refine InvEndG.intro (by assumption) (by assumption) ⟨(_, _, _, _), rfl, by walk_at "M ps", by walk_at "M rest", ?_⟩ hoff (by walk_at "M sub") (by walk_at "M sub")
      exact told_go hr hP rfl (if_neg hne).symm
    · have hne : sz.fmod 4 = 0 := by omega
      refine InvEndG.intro (by assumption) (by assumption) ⟨(_, _, _, _), rfl, by walk_at "M ps", by walk_at "M rest", ?_⟩ hoff (by walk_at "M sub") (by walk_at "M sub")
      exact told_go hr hP rfl (if_pos hne).symm
  · rintro ⟨po, co, tp, tc⟩ u h tk hP hF hN
    dsimp only [Function.const] at hP hF hN ⊢
    have e : vs.length = rows.length := by rw [hdat.length, List.length_map]
    rw [e, List.take_length] at hP
    clear hF9 hN9 hq
    k_steps
    walk_at "M ret"
    rename News g' L' _ _ => hNE
    rw [← hP]
    exact ⟨_, _, _, _, rfl, news_out F N hg' (News.perm hNE (List.forall_mem_cons.mpr ⟨.head _, fun _ h => nomatch h⟩))⟩
set_option maxHeartbeats 8000000 in
theorem c_told2 : ∀ {w : World} {s : Shared} {h₀ : Heap} {L : Addr} {news : List (Addr × Obj)} {m mg mb : Str → Option Value} {mean : ExcName → Option Value}
  {l : Addr} {vs : List Value} {rows : List (Int × Int × Int)} {q : Nat} {tg : Tok},
  Fr h₀ L s.heap m → News h₀ L s.heap news → (l, W.listOf vs.toArray q) ∈ news → DatAll news vs (rows.map row3) → (∀ r ∈ rows, 1 ≤ r.1 ∧ r.1 ≤ 13) →
  (hd.heap_39 w.params).In h₀ → Top hd.view_39 (looseW hd.view_39 [Str.ofString "Whitespace"]) mean mg mb h₀ → rows.length ≤ 100 →
  codeAny (model Challenge.rw_pk0076_01.row.prog w) (roomA 500 500) (.call (.ref 137) ⟨[.ref l, .int 2 tg], []⟩)
    (Ret s fun v h' => ∃ l' t1 t2 q', v = .ref l' ∧ News h₀ L h' [(l', W.listOf #[.int (rows.foldl (stepT 2) (5, 5)).1 t1, .int (rows.foldl (stepT 2) (5, 5)).2 t2] q')]) s := by
  k_fill
  intro w s h₀ L news m mg mb mean l vs rows q tg F N₀ m1 hdat hrows X T hlen
  have N : News h₀ L s.heap ((l, W.listOf vs.toArray q) :: news) := List.forall_mem_cons.mpr ⟨N₀ _ m1, N₀⟩
  w_on
  w_top on
  refine' enter_def (binds := [(Str.ofString "witnesses", .ref l), (Str.ofString "grid", .int 2 tg)]) ?k2 ?k4 ?k3 ?k5 ?k6 ?k7 ?k8 ?k9 ?kB ?_ ?c2 ?c3 ?c4 ?c5
  walk_at "M enter"
  intro g' L' h' hg' hL' hl' F' N' X' T'
  k_fold
  k_steps
  rename Fr _ _ _ _ => hF9
  rename News g' _ _ _ => hN9
  dsimp only at hF9 hN9
  refine For_turns hF9 ?_
  walk1
  have hq : News g' L' _ (_ :: (l, W.listOf vs.toArray q) :: news) := News.perm hN9 (List.forall_mem_cons.mpr ⟨.tail _ (.tail _ (.head _)), fun p hp => .tail _ (.tail _ (.tail _ (.tail _ (.tail _ hp))))⟩)
  refine tup_loop (σ := Int × Int × Tok × Tok) (Function.const _ _) (fun S => [(Str.ofString "points", .int S.1 S.2.2.1), (Str.ofString "couples", .int S.2.1 S.2.2.2)])
    [Str.ofString "size", Str.ofString "column", Str.ofString "bare", Str.ofString "sign"] (fun i S => (S.1, S.2.1) = (rows.take i).foldl (stepT 2) (5, 5)) (5, 5, _, _) rfl (fun _ => .tail _ (.head _)) hF9
    hq rfl (List.forall_mem_cons.mpr ⟨rfl, List.forall_mem_cons.mpr ⟨rfl, fun _ h => nomatch h⟩⟩) ?_ ?_ ?_
  · exact told_zero
  · rintro ⟨po, co, tp, tc⟩ i v u h tk own hv hoff hP hF hN
    obtain ⟨r, a, t1, t2, t3, k, hr, rfl, hm⟩ := datAll_row hdat hv
    obtain ⟨hr1, hr2⟩ := hrows r (List.mem_of_getElem? hr)
    obtain ⟨sz, cl, ba⟩ := r
    dsimp only [Function.const] at hP hF hN hm hr1 hr2 hoff
    simp only [List.cons_append] at hN
    have hN2 : News g' L' h _ := news_cons hN (.tail _ (.tail _ (List.mem_append_left _ hm)))
    clear hF9 hN9 hN hq
    show wpAny _ _ _ _ _ _
    k_fold
    k_steps
    · rename (Int.fmod sz _ ≠ 0) => hne
      refine InvEndG.intro (by assumption) (by assumption) ⟨(_, _, _, _), rfl, by walk_at "M ps", by walk_at "M rest", ?_⟩ hoff (by walk_at "M sub") (by walk_at "M sub")
      exact told_go hr hP rfl (if_neg hne).symm
    · have hne : sz.fmod 7 = 0 := by omega
      refine InvEndG.intro (by assumption) (by assumption) ⟨(_, _, _, _), rfl, by walk_at "M ps", by walk_at "M rest", ?_⟩ hoff (by walk_at "M sub") (by walk_at "M sub")
      exact told_go hr hP rfl (if_pos hne).symm
  · rintro ⟨po, co, tp, tc⟩ u h tk hP hF hN
    dsimp only [Function.const] at hP hF hN ⊢
    have e : vs.length = rows.length := by rw [hdat.length, List.length_map]
    rw [e, List.take_length] at hP
    clear hF9 hN9 hq
    k_steps
    walk_at "M ret"
    rename News g' L' _ _ => hNE
    rw [← hP]
    exact ⟨_, _, _, _, rfl, news_out F N hg' (News.perm hNE (List.forall_mem_cons.mpr ⟨.head _, fun _ h => nomatch h⟩))⟩
end -- C9
section -- C7
set_option maxHeartbeats 4000000 in
theorem c_add : ∀ {w : World} {s : Shared} {h₀ : Heap} {L : Addr} {m mg mb : Str → Option Value} {mean : ExcName → Option Value} {a b : Int} {ta tb : Tok},
  Fr h₀ L s.heap m → (hd.heap_39 w.params).In h₀ → Top hd.view_39 (looseW hd.view_39 [Str.ofString "Whitespace"]) mean mg mb h₀ →
  codeAny (model Challenge.rw_pk0076_01.row.prog w) (roomA 600 600) (.call (.ref 28) ⟨[.int a ta, .int b tb], []⟩) (Ret s fun v _ => ∃ t, v = .int (a + b) t) s := by
  k_fill
  intro w s h₀ L m mg mb mean a b ta tb F X T
  have N : News h₀ L s.heap [] := fun _ h => nomatch h
  w_on
  w_top on
  refine' enter_def (binds := [(Str.ofString "a", .int a ta), (Str.ofString "b", .int b tb)]) ?k2 ?k4 ?k3 ?k5 ?k6 ?k7 ?k8 ?k9 ?kB ?_ ?c2 ?c3 ?c4 ?c5
  walk_at "M enter"
  intro g' L' h' hg' hL' hl' F' N' X' T'
  k_fold
  k_steps
  walk_at "M ret"
  exact ⟨_, rfl⟩
set_option maxHeartbeats 4000000 in
theorem c_sub : ∀ {w : World} {s : Shared} {h₀ : Heap} {L : Addr} {m mg mb : Str → Option Value} {mean : ExcName → Option Value} {a b : Int} {ta tb : Tok},
  Fr h₀ L s.heap m → (hd.heap_39 w.params).In h₀ → Top hd.view_39 (looseW hd.view_39 [Str.ofString "Whitespace"]) mean mg mb h₀ →
  codeAny (model Challenge.rw_pk0076_01.row.prog w) (roomA 600 600) (.call (.ref 42) ⟨[.int a ta, .int b tb], []⟩) (Ret s fun v _ => ∃ t, v = .int (a - b) t) s := by
  k_fill
  intro w s h₀ L m mg mb mean a b ta tb F X T
  have N : News h₀ L s.heap [] := fun _ h => nomatch h
  w_on
  w_top on
  refine' enter_def (binds := [(Str.ofString "a", .int a ta), (Str.ofString "b", .int b tb)]) ?k2 ?k4 ?k3 ?k5 ?k6 ?k7 ?k8 ?k9 ?kB ?_ ?c2 ?c3 ?c4 ?c5
  walk_at "M enter"
  intro g' L' h' hg' hL' hl' F' N' X' T'
  k_fold
  k_steps
  walk_at "M ret"
  exact ⟨_, rfl⟩
set_option maxHeartbeats 4000000 in
theorem c_mul : ∀ {w : World} {s : Shared} {h₀ : Heap} {L : Addr} {m mg mb : Str → Option Value} {mean : ExcName → Option Value} {a b : Int} {ta tb : Tok},
  Fr h₀ L s.heap m → (hd.heap_39 w.params).In h₀ → Top hd.view_39 (looseW hd.view_39 [Str.ofString "Whitespace"]) mean mg mb h₀ → IntMulOk a b →
  codeAny (model Challenge.rw_pk0076_01.row.prog w) (roomA 600 600) (.call (.ref 35) ⟨[.int a ta, .int b tb], []⟩) (Ret s fun v _ => ∃ t, v = .int (a * b) t) s := by
  k_fill
  intro w s h₀ L m mg mb mean a b ta tb F X T hab
  have N : News h₀ L s.heap [] := fun _ h => nomatch h
  w_on
  w_top on
  refine' enter_def (binds := [(Str.ofString "a", .int a ta), (Str.ofString "b", .int b tb)]) ?k2 ?k4 ?k3 ?k5 ?k6 ?k7 ?k8 ?k9 ?kB ?_ ?c2 ?c3 ?c4 ?c5
  walk_at "M enter"
  intro g' L' h' hg' hL' hl' F' N' X' T'
  k_fold
  k_steps
  walk_at "M ret"
  exact ⟨_, rfl⟩
end -- C7
section -- Nest
section
variable {prog : Program} {w : World} {A : Around} {E : Value → Shared → Prop} {s : Shared} {env : Env} {h₀ : Heap} {x : Str} {body : List Stmt} {Q : Flow → Shared → Prop}
theorem range_loop {σ : Type} {r : Addr} {a₀ b₀ : Int} {t₀ u₀ v₀ : Tok} {n : Nat} {m₀ : Str → Option Value} {news : List (Addr × Obj)} (Led : σ → List (Addr × Obj)) (ps : σ → List (Str × Value)) (P : Nat → σ → Prop) (c₀ : σ)
    (hh : A.handled = none) (hr : IsRange s.heap r a₀ b₀ 1 t₀ u₀ v₀) (hsmall : Builtin.Range.small a₀ b₀ 1 = true) (hsz : Builtin.Range.rangeSize a₀ b₀ 1 = (n : Int)) (F : Fr h₀ env.locals s.heap m₀) (N : News h₀ env.locals s.heap news) (hn : news = Led c₀) (hk : ∀ p ∈ ps c₀, m₀ p.1 = some p.2) (hp : P 0 c₀)
    (turn : ∀ (c : σ) (i : Nat) t h tk own, i < n → OwnOff own ((Led c).map (·.1)) → P i c →
      Fr h₀ env.locals h (fun y => if y = x then some (.int (a₀ + (i : Int)) t) else kstB m₀ (ps c) y) → News h₀ env.locals h (Led c ++ own) →
      wpAny (model prog w) A (execs body env) (InvPostG h₀ env.locals (LJ Led ps x m₀ P (i + 1)) own { s with heap := h, toks := tk } Q) E { s with heap := h, toks := tk })
    (done : ∀ (c : σ) u h tk, P n c → Fr h₀ env.locals h (fun y => if y = x then u else kstB m₀ (ps c) y) → News h₀ env.locals h (Led c) → Q .next { s with heap := h, toks := tk }) :
    wpAny (model prog w) A (pyIter (.ref r)) (fun it s₂ => LoopAtV prog w A h₀ env x body Q E it s₂) E s := by
  subst hn
  refine wpAny_pyIter_range hr hsmall (fresh_loop (LJ Led ps x m₀ P) (LCg.range_walks hh a₀ n) (fun _ _ hi => ⟨_, hi⟩) ?_ F N ⟨c₀, rfl, hk, fun _ _ _ => rfl, hp⟩ ?_ ?_)
  · show IsRangeIter _ _ _ _ _
    rw [hsz]
    simpa using Heap.get?_push_size _ rfl
  · rintro i v m₁ nx h tk own hi ⟨t, rfl⟩ hoff ⟨c, rfl, h1, h2, hc⟩ F₁ N₁
    exact turn c i t h tk own hi hoff hc (lj_fr h1 h2 F₁) N₁
  · rintro m₁ nx h tk ⟨c, rfl, h1, h2, hc⟩ F₁ N₁
    exact done c _ h tk hc (lj_frOut h1 h2 F₁) N₁
theorem ljs_frx {L : Addr} {h : Heap} {ps : List (Str × Value)} {fg : List Str} {m₀ m₁ : Str → Option Value} {v : Value} (h1 : ∀ p ∈ ps, m₁ p.1 = some p.2) (h2 : ∀ z, (∀ p ∈ ps, z ≠ p.1) → fg.contains z = false → m₁ z = m₀ z)
    (F : Fr h₀ L h (fun y => if y = x then some v else m₁ y)) : Fr h₀ L h (fun y => if y = x then some v else kstB (fun z => if fg.contains z then m₁ z else m₀ z) ps y) :=
  lj_fr h1 (fun z _ hz => by
    cases hc : fg.contains z with
    | true => exact (if_pos rfl).symm
    | false => exact (h2 z hz hc).trans (if_neg Bool.false_ne_true).symm) F
theorem list_loopF {σ : Type} {l : Addr} {vs : List Value} {nn : Nat} {m₀ : Str → Option Value} {news : List (Addr × Obj)} (Led : σ → List (Addr × Obj)) (ps : σ → List (Str × Value)) (fg : List Str) (P : Nat → σ → Prop) (c₀ : σ)
    (hh : A.handled = none) (hl : ∀ c, (l, W.listOf vs.toArray nn) ∈ Led c) (F : Fr h₀ env.locals s.heap m₀) (N : News h₀ env.locals s.heap news) (hn : news = Led c₀) (hk : ∀ p ∈ ps c₀, m₀ p.1 = some p.2) (hp : P 0 c₀)
    (turn : ∀ (c : σ) (i : Nat) v (u : Str → Option Value) h tk own, vs[i]? = some v → OwnOff own ((Led c).map (·.1)) → P i c →
      Fr h₀ env.locals h (fun y => if y = x then some v else kstB (fun z => if fg.contains z then u z else m₀ z) (ps c) y) → News h₀ env.locals h (Led c ++ own) →
      wpAny (model prog w) A (execs body env) (InvPostG h₀ env.locals (LJs Led ps fg m₀ P (i + 1)) own { s with heap := h, toks := tk } Q) E { s with heap := h, toks := tk })
    (done : ∀ (c : σ) (u : Str → Option Value) h tk, P vs.length c → Fr h₀ env.locals h (kstB (fun z => if fg.contains z then u z else m₀ z) (ps c)) → News h₀ env.locals h (Led c) → Q .next { s with heap := h, toks := tk }) :
    wpAny (model prog w) A (pyIter (.ref l)) (fun it s₂ => LoopAtV prog w A h₀ env x body Q E it s₂) E s := by
  subst hn
  refine kdl_iter (LJs Led ps fg m₀ P) hh (hl c₀) F N ⟨c₀, rfl, hk, fun _ _ _ => rfl, hp⟩ ?_ ?_
  · rintro i v m₁ nx h tk own hv hoff _ ⟨c, rfl, h1, h2, hc⟩ F₁ N₁
    exact wpAny_mono (turn c i v m₁ h tk own hv hoff hc (ljs_frx h1 h2 F₁) N₁) (fun _ _ => postG_in fun _ _ ⟨c, e, j⟩ => ⟨e ▸ hl c, c, e, j⟩) fun _ _ => id
  · rintro m₁ nx h tk ⟨c, rfl, h1, h2, hc⟩ F₁ N₁
    exact done c m₁ h tk hc (ksw_fr h1 h2 F₁) N₁
end
section
variable {prog : Program} {w : World} {A : Around} {R : Result → Shared → Prop} {s : Shared}
theorem turn_in (elt t0 i0 t1 i1 : Expr) (scope : Scope) (pos : Pos) (it acc : Value) (env : Env) :
    compTurn (.ListComp elt [⟨t0, i0, [], 0⟩, ⟨t1, i1, [], 0⟩] scope pos) 1 it acc env = (standAt i1.pos >>= fun _ => pyNext it >>= fun r => match r with
      | none => pure (.done .next)
      | some v => letOwnedTupleGo t1 it v >>= fun _ => assign t1 env v >>= fun _ =>
        (eval elt env >>= fun x => call (.builtin "list.append") [acc, x] >>= fun _ => pure ()) >>= fun _ =>
          again (.compLoop (.ListComp elt [⟨t0, i0, [], 0⟩, ⟨t1, i1, [], 0⟩] scope pos) 1 it acc env)) := by rfl
theorem turn_out (elt t0 i0 t1 i1 : Expr) (scope : Scope) (pos : Pos) (it acc : Value) (env : Env) :
    compTurn (.ListComp elt [⟨t0, i0, [], 0⟩, ⟨t1, i1, [], 0⟩] scope pos) 0 it acc env = (standAt i0.pos >>= fun _ => pyNext it >>= fun r => match r with
      | none => pure (.done .next)
      | some v => letOwnedTupleGo t0 it v >>= fun _ => assign t0 env v >>= fun _ =>
        (eval i1 env >>= fun x => standAt i1.pos >>= fun _ => foldedSetIterable i1 env x >>= fun x => holding [x] (pyIter x) >>= fun it1 =>
          runOwn (.compStart (.ListComp elt [⟨t0, i0, [], 0⟩, ⟨t1, i1, [], 0⟩] scope pos) 1 it1 acc env) env >>= fun _ =>
          again (.compLoop (.ListComp elt [⟨t0, i0, [], 0⟩, ⟨t1, i1, [], 0⟩] scope pos) 0 it acc env))) := by rfl

/-- one turn after another: an element is made and laid behind the others -/
theorem comp_one {elt iter : Expr} {x : Str} {px : Pos} {scope : Scope} {pos : Pos} {I : Addr} {acc : Value} {env : Env} {fp wr : List Addr} {n : Nat} {P : Nat → Value → Prop} {St : Nat → Heap → Prop}
    (W : Walks prog w A I fp wr n P St) (J : Nat → Shared → Prop)
    (turn : ∀ i s', i < n → J i s' → St i s'.heap → ∀ v h₁ tk₁, P i v → St (i + 1) h₁ → (∀ b o, b ∉ wr → s'.heap.get? b = some o → h₁.get? b = some o) →
      wpAny (model prog w) A (assign (.Name x px) env v) (fun _ s₂ => wpAny (model prog w) A (eval elt env) (fun y s₃ => wpAny (model prog w) A (call (.builtin "list.append") [acc, y]) (fun _ s₄ => J (i + 1) s₄ ∧ St (i + 1) s₄.heap) (fun _ _ => False) s₃) (fun _ _ => False) s₂) (fun _ _ => False) { s' with heap := h₁, toks := tk₁ })
    (done : ∀ s', J n s' → ∀ h₁ tk₁, (∀ b o, b ∉ wr → s'.heap.get? b = some o → h₁.get? b = some o) → R (.ok .next) { s' with heap := h₁, toks := tk₁ })
    (h0 : J 0 s) (hst : St 0 s.heap) : codeAny (model prog w) A (.compLoop (.ListComp elt [⟨.Name x px, iter, [], 0⟩] scope pos) 0 (.ref I) acc env) R s := by
  refine codeAny_loop rfl (fun k s' => ∃ i, i ≤ n ∧ k = n + 1 - i ∧ J i s' ∧ St i s'.heap) (fun k s' hI => ?_) (n + 1) ⟨0, Nat.zero_le _, rfl, h0, hst⟩
  show wpAny _ A ((compTurn (.ListComp elt [⟨.Name x px, iter, [], 0⟩] scope pos) 0 (.ref I) acc env).onRaise (fun x => do noteFrame x env; theTreesLotGoes x)) _ _ s'
  refine wpAny_noted ?_
  rw [compTurn_list1]
  obtain ⟨i, hi, rfl, hJ, hS⟩ := hI
  refine wpAny_bind (wpAny_standAt (wpAny_bind ?_))
  by_cases hlt : i < n
  · refine W.item i _ _ _ hlt hS fun v h₁ tk₁ hP hS₁ hk₁ => ?_
    refine wpAny_bind (wpAny_pure ?_)
    refine wpAny_bind (wpAny_mono (turn i s' hlt hJ hS v h₁ tk₁ hP hS₁ hk₁) (fun _ s₂ h₂ => ?_) fun _ _ f => f.elim)
    refine wpAny_bind (wpAny_bind (wpAny_mono h₂ (fun y s₃ h₃ => ?_) fun _ _ f => f.elim))
    refine wpAny_bind (wpAny_mono h₃ (fun _ s₄ h₄ => ?_) fun _ _ f => f.elim)
    exact wpAny_pure (wpAny_pure ⟨rfl, _, by omega, i + 1, hlt, rfl, h₄.1, h₄.2⟩)
  · have e : i = n := by omega
    subst e
    exact W.done _ _ _ hS fun h₁ tk₁ hk₁ => wpAny_pure (done s' hJ h₁ tk₁ hk₁)

theorem comp_in {elt i0 i1 : Expr} {x y : Str} {px py : Pos} {scope : Scope} {pos : Pos} {I : Addr} {acc : Value} {env : Env} {fp wr : List Addr} {n : Nat} {P : Nat → Value → Prop} {St : Nat → Heap → Prop}
    (W : Walks prog w A I fp wr n P St) (J : Nat → Shared → Prop)
    (turn : ∀ i s', i < n → J i s' → St i s'.heap → ∀ v h₁ tk₁, P i v → St (i + 1) h₁ → (∀ b o, b ∉ wr → s'.heap.get? b = some o → h₁.get? b = some o) →
      wpAny (model prog w) A (assign (.Name y py) env v) (fun _ s₂ => wpAny (model prog w) A (eval elt env) (fun y s₃ => wpAny (model prog w) A (call (.builtin "list.append") [acc, y]) (fun _ s₄ => J (i + 1) s₄ ∧ St (i + 1) s₄.heap) (fun _ _ => False) s₃) (fun _ _ => False) s₂) (fun _ _ => False) { s' with heap := h₁, toks := tk₁ })
    (done : ∀ s', J n s' → ∀ h₁ tk₁, (∀ b o, b ∉ wr → s'.heap.get? b = some o → h₁.get? b = some o) → R (.ok .next) { s' with heap := h₁, toks := tk₁ })
    (h0 : J 0 s) (hst : St 0 s.heap) : codeAny (model prog w) A (.compLoop (.ListComp elt [⟨.Name x px, i0, [], 0⟩, ⟨.Name y py, i1, [], 0⟩] scope pos) 1 (.ref I) acc env) R s := by
  refine codeAny_loop rfl (fun k s' => ∃ i, i ≤ n ∧ k = n + 1 - i ∧ J i s' ∧ St i s'.heap) (fun k s' hI => ?_) (n + 1) ⟨0, Nat.zero_le _, rfl, h0, hst⟩
  show wpAny _ A ((compTurn (.ListComp elt [⟨.Name x px, i0, [], 0⟩, ⟨.Name y py, i1, [], 0⟩] scope pos) 1 (.ref I) acc env).onRaise (fun x => do noteFrame x env; theTreesLotGoes x)) _ _ s'
  refine wpAny_noted ?_
  rw [turn_in]
  obtain ⟨i, hi, rfl, hJ, hS⟩ := hI
  refine wpAny_bind (wpAny_standAt (wpAny_bind ?_))
  by_cases hlt : i < n
  · refine W.item i _ _ _ hlt hS fun v h₁ tk₁ hP hS₁ hk₁ => ?_
    refine wpAny_bind (wpAny_pure ?_)
    refine wpAny_bind (wpAny_mono (turn i s' hlt hJ hS v h₁ tk₁ hP hS₁ hk₁) (fun _ s₂ h₂ => ?_) fun _ _ f => f.elim)
    refine wpAny_bind (wpAny_bind (wpAny_mono h₂ (fun y s₃ h₃ => ?_) fun _ _ f => f.elim))
    refine wpAny_bind (wpAny_mono h₃ (fun _ s₄ h₄ => ?_) fun _ _ f => f.elim)
    exact wpAny_pure (wpAny_pure ⟨rfl, _, by omega, i + 1, hlt, rfl, h₄.1, h₄.2⟩)
  · have e : i = n := by omega
    subst e
    exact W.done _ _ _ hS fun h₁ tk₁ hk₁ => wpAny_pure (done s' hJ h₁ tk₁ hk₁)

theorem comp_out {elt i0 i1 : Expr} {x y : Str} {px py : Pos} {scope : Scope} {pos : Pos} {I : Addr} {acc : Value} {env : Env} {fp wr : List Addr} {n : Nat} {P : Nat → Value → Prop} {St : Nat → Heap → Prop}
    (W : Walks prog w A I fp wr n P St) (J : Nat → Shared → Prop) (hs : ∀ x, foldedSetIterable i1 env x = pure x)
    (turn : ∀ i s', i < n → J i s' → St i s'.heap → ∀ v h₁ tk₁, P i v → St (i + 1) h₁ → (∀ b o, b ∉ wr → s'.heap.get? b = some o → h₁.get? b = some o) →
      wpAny (model prog w) A (assign (.Name x px) env v) (fun _ s₂ => wpAny (model prog w) A (eval i1 env) (fun xv s₃ => wpAny (model prog w) A (pyIter xv) (fun it s₄ =>
        codeAny (model prog w) A (.compStart (.ListComp elt [⟨.Name x px, i0, [], 0⟩, ⟨.Name y py, i1, [], 0⟩] scope pos) 1 it acc env) (fun r s₅ => r = .ok .next ∧ J (i + 1) s₅ ∧ St (i + 1) s₅.heap) s₄) (fun _ _ => False) s₃) (fun _ _ => False) s₂) (fun _ _ => False) { s' with heap := h₁, toks := tk₁ })
    (done : ∀ s', J n s' → ∀ h₁ tk₁, (∀ b o, b ∉ wr → s'.heap.get? b = some o → h₁.get? b = some o) → R (.ok .next) { s' with heap := h₁, toks := tk₁ })
    (h0 : J 0 s) (hst : St 0 s.heap) : codeAny (model prog w) A (.compLoop (.ListComp elt [⟨.Name x px, i0, [], 0⟩, ⟨.Name y py, i1, [], 0⟩] scope pos) 0 (.ref I) acc env) R s := by
  refine codeAny_loop rfl (fun k s' => ∃ i, i ≤ n ∧ k = n + 1 - i ∧ J i s' ∧ St i s'.heap) (fun k s' hI => ?_) (n + 1) ⟨0, Nat.zero_le _, rfl, h0, hst⟩
  show wpAny _ A ((compTurn (.ListComp elt [⟨.Name x px, i0, [], 0⟩, ⟨.Name y py, i1, [], 0⟩] scope pos) 0 (.ref I) acc env).onRaise (fun x => do noteFrame x env; theTreesLotGoes x)) _ _ s'
  refine wpAny_noted ?_
  rw [turn_out]
  obtain ⟨i, hi, rfl, hJ, hS⟩ := hI
  refine wpAny_bind (wpAny_standAt (wpAny_bind ?_))
  by_cases hlt : i < n
  · refine W.item i _ _ _ hlt hS fun v h₁ tk₁ hP hS₁ hk₁ => ?_
    refine wpAny_bind (wpAny_pure ?_)
    refine wpAny_bind (wpAny_mono (turn i s' hlt hJ hS v h₁ tk₁ hP hS₁ hk₁) (fun _ s₂ h₂ => ?_) fun _ _ f => f.elim)
    refine wpAny_bind (wpAny_mono h₂ (fun xv s₃ h₃ => ?_) fun _ _ f => f.elim)
    refine wpAny_bind (wpAny_standAt (wpAny_bind ?_))
    rw [hs]
    refine wpAny_pure (wpAny_bind (wpAny_holding (wpAny_mono h₃ (fun it s₄ h₄ => ?_) fun _ _ f => f.elim)))
    refine wpAny_bind (wpAny_runOwn (codeAny_mono h₄ fun r s₅ hr => ?_))
    obtain ⟨rfl, h₅⟩ := hr
    exact wpAny_pure ⟨rfl, _, by omega, i + 1, hlt, rfl, h₅.1, h₅.2⟩
  · have e : i = n := by omega
    subst e
    exact W.done _ _ _ hS fun h₁ tk₁ hk₁ => wpAny_pure (done s' hJ h₁ tk₁ hk₁)
theorem start_in {elt i0 i1 : Expr} {t0 t1 : Expr} {scope : Scope} {pos : Pos} {it acc : Value} {env : Env}
    (h0 : codeAny (model prog w) A (.compLoop (.ListComp elt [⟨t0, i0, [], 0⟩, ⟨t1, i1, [], 0⟩] scope pos) 1 it acc env) R s)
    (h : wpAny (model prog w) A (pyIter it) (fun it' s' => codeAny (model prog w) A (.compLoop (.ListComp elt [⟨t0, i0, [], 0⟩, ⟨t1, i1, [], 0⟩] scope pos) 1 it' acc env) R s') (fun _ _ => False) s) :
    codeAny (model prog w) A (.compStart (.ListComp elt [⟨t0, i0, [], 0⟩, ⟨t1, i1, [], 0⟩] scope pos) 1 it acc env) R s := by
  refine codeAny_of_tree (wpAny_notedAt (m := compStart (.ListComp elt [⟨t0, i0, [], 0⟩, ⟨t1, i1, [], 0⟩] scope pos) 1 it acc env) (pos := theWindowsPlace) ?_)
  unfold compStart
  refine (wpAny_bind (wpAny_askSetting ?_) : wpAny _ _ (ask >>= _) _ _ s)
  refine wpAny_ite_split (fun _ => by first | exact wpAny_pure ⟨rfl, h0⟩ | exact wpAny_bind (wpAny_pure (wpAny_pure ⟨rfl, h0⟩))) fun _ => wpAny_bind (wpAny_rule ?_)
  refine (wpAny_bind (wpAny_standAt ?_) : wpAny _ _ (standAt i1.pos >>= _) _ _ s)
  refine wpAny_bind (wpAny_mono h (fun _ _ q => ?_) fun _ _ => False.elim)
  exact wpAny_pure ⟨rfl, q⟩
end
end -- Nest
section -- Nest2
open LCg
section
variable {prog : Program} {w : World} {A : Around} {R : Result → Shared → Prop} {s : Shared} {h₀ : Heap} {L C D I : Addr} {m : Str → Option Value} {its base : List (Addr × Obj)} {cenv : Env}
/-- the frame, the block's own names, the list that is made -/
structure CS (h₀ : Heap) (L : Addr) (m : Str → Option Value) (C D : Addr) (its base : List (Addr × Obj)) (ys : List Value) (tl : List (Addr × Obj)) (mC : Str → Option Value) (h : Heap) : Prop where
  F : Fr h₀ L h m
  nC : h.Ns C mC
  N : News h₀ L h ((D, lst ys) :: (its ++ (base ++ tl)))
  off : ∀ p ∈ its ++ (base ++ tl), p.1 ≠ C ∧ p.1 ≠ D
structure CSep (h₀ : Heap) (L C D I : Addr) : Prop where
  CL : C ≠ L
  DL : D ≠ L
  CD : C ≠ D
  C0 : h₀.get? C = none
  D0 : h₀.get? D = none
  IL : I ≠ L
  IC : I ≠ C
  ID : I ≠ D
  I0 : h₀.get? I = none
theorem CS.but {ys : List Value} {tl : List (Addr × Obj)} {mC : Str → Option Value} {h h' : Heap} (x : CS h₀ L m C D its base ys tl mC h) (sp : CSep h₀ L C D I) (hI : ∀ p ∈ its ++ (base ++ tl), p.1 ≠ I) (hk : ∀ b o, b ∉ [I] → h.get? b = some o → h'.get? b = some o) :
    CS h₀ L m C D its base ys tl mC h' where
  F := fr_but x.F hk (Ne.symm sp.IL) sp.I0
  nC := x.nC.at' fun o e => hk _ o (by simpa using Ne.symm sp.IC) e
  N := news_but x.N hk fun p hp => by
    rcases List.mem_cons.mp hp with rfl | hp
    · exact Ne.symm sp.ID
    · exact hI p hp
  off := x.off
theorem CS.push {ys : List Value} {tl : List (Addr × Obj)} {mC : Str → Option Value} {h h' : Heap} (x : CS h₀ L m C D its base ys tl mC h) (hk : ∀ b o, h.get? b = some o → h'.get? b = some o) :
    CS h₀ L m C D its base ys tl mC h' where
  F := x.F.keeps hk
  nC := x.nC.keeps hk
  N := fun p hp => ⟨hk _ _ (x.N p hp).1, (x.N p hp).2⟩
  off := x.off
theorem CS.set {ys : List Value} {tl : List (Addr × Obj)} {mC mC' : Str → Option Value} {h h' : Heap} (x : CS h₀ L m C D its base ys tl mC h) (sp : CSep h₀ L C D I) (hn : h'.Ns C mC') (hs : Heap.SameBut C h h') :
    CS h₀ L m C D its base ys tl mC' h' where
  F := x.F.change hs sp.CL sp.C0
  nC := hn
  N := fun p hp => by
    refine ⟨hs.extBut _ _ ?_ (x.N p hp).1, (x.N p hp).2⟩
    rcases List.mem_cons.mp hp with rfl | hp
    · exact Ne.symm sp.CD
    · exact (x.off p hp).1
  off := x.off

theorem inner_range {elt i0 i1 : Expr} {x y : Str} {px py : Pos} {scope : Scope} {pos : Pos} {n : Nat} {vx : Value} {K : Addr} (hh : A.handled = none) (hn : n ≤ 1000) (sp : CSep h₀ L C D I) (hloc : cenv.locals = C) (hyk : cenv.kindOf y = some .local)
    (hpk : (cenv.scope.kind == .class || (cenv.scope.kind == .module && cenv.locals != cenv.globals)) = false) (hxy : x ≠ y) (el : Nat → Dat) (ds : List Dat) (hds : ds.length ≤ 1000)
    (turn : ∀ j tl ys mC oC oI h tk, j < n → NsObj oC mC → mC x = some vx → (∃ t, mC y = some (.int (j : Int) t)) → Fr h₀ L h m → News h₀ L h ((I, oI) :: (C, oC) :: (D, lst ys) :: (its ++ (base ++ tl))) → Off3 I C D (its ++ (base ++ tl)) →
      wpAny (model prog w) A (eval elt cenv) (fun v s' => ∃ h' tk' add, s' = { s with heap := h', toks := tk' } ∧ Fr h₀ L h' m ∧ News h₀ L h' ((I, oI) :: (C, oC) :: (D, lst ys) :: (its ++ (base ++ (add ++ tl)))) ∧ Off3 I C D (its ++ (base ++ (add ++ tl))) ∧ DatIn (base ++ (add ++ tl)) v (el j) ∧ ∀ p ∈ add, p.1 ≠ K) (fun _ _ => False) { s with heap := h, toks := tk })
    {ys₀ : List Value} {tl₀ : List (Addr × Obj)} {mC₀ : Str → Option Value} (x₀ : CS h₀ L m C D its base ys₀ tl₀ mC₀ s.heap) (hx₀ : mC₀ x = some vx) (hI₀ : ∀ p ∈ its ++ (base ++ tl₀), p.1 ≠ I) (hd₀ : DatAll (base ++ tl₀) ys₀ ds) (hK₀ : ∀ p ∈ base ++ tl₀, p.1 ≠ K)
    (hst : IsRangeIter s.heap I 0 (n : Int) 1)
    (fin : ∀ h tk ys tl mC, CS h₀ L m C D its base ys tl mC h → DatAll (base ++ tl) ys (ds ++ (List.range n).map el) → (∀ p ∈ base ++ tl, p.1 ≠ K) → R (.ok .next) { s with heap := h, toks := tk }) :
    codeAny (model prog w) A (.compLoop (.ListComp elt [⟨.Name x px, i0, [], 0⟩, ⟨.Name y py, i1, [], 0⟩] scope pos) 1 (.ref I) (.ref D) cenv) R s := by
  subst hloc
  refine comp_in (range_walks hh 0 n) (fun j s' => ∃ h tk ys tl mC, s' = { s with heap := h, toks := tk } ∧ CS h₀ L m cenv.locals D its base ys tl mC h ∧ mC x = some vx ∧ (∀ p ∈ its ++ (base ++ tl), p.1 ≠ I) ∧ DatAll (base ++ tl) ys (ds ++ (List.range j).map el) ∧ ∀ p ∈ base ++ tl, p.1 ≠ K) ?_ ?_
    ⟨s.heap, s.toks, ys₀, tl₀, mC₀, rfl, x₀, hx₀, hI₀, by simpa using hd₀, hK₀⟩ (by simpa using hst)
  · rintro j s' hj ⟨h, tk, ys, tl, mC, rfl, xs, hx, hI, hd, hK⟩ hS v h₁ tk₁ ⟨t, rfl⟩ hS₁ hk₁
    have x1 := xs.but sp hI hk₁
    refine wpAny_assign_Name (wpAny_storeName_local hyk x1.nC (fun h₂ hn₂ hs₂ => ?_) hpk)
    have x2 := x1.set sp hn₂ hs₂
    have hI1 : h₁.get? I = some _ := hS₁
    have hI2 : h₂.get? I = some _ := hs₂.extBut _ _ sp.IC hI1
    obtain ⟨oC, heC, hoC⟩ := ns_obj x2.nC
    have hoff : Off3 I cenv.locals D (its ++ (base ++ tl)) := Off3.of fun p hp => ⟨hI p hp, (xs.off p hp).1, (xs.off p hp).2⟩
    have N2 : News h₀ L h₂ ((I, _) :: (cenv.locals, oC) :: (D, lst ys) :: (its ++ (base ++ tl))) := List.forall_mem_cons.mpr ⟨⟨hI2, sp.IL, sp.I0⟩, List.forall_mem_cons.mpr ⟨⟨heC, sp.CL, sp.C0⟩, x2.N⟩⟩
    refine wpAny_mono (turn j tl ys _ oC _ h₂ _ hj hoC (by rw [if_neg hxy]; exact hx) ⟨t, by simp⟩ x2.F N2 hoff) (fun v s₃ h₃ => ?_) fun _ _ f => f
    obtain ⟨h₃, tk₃, add, rfl, F₃, N₃, off₃, hv, hKa⟩ := h₃
    have zD := (N₃ (D, lst ys) (.tail _ (.tail _ (.head _)))).1
    have off3 := off₃.mem
    have hyl : ys.length ≤ 2000 := by
      have e := hd.length
      rw [List.length_append, List.length_map, List.length_range] at e
      omega
    refine append_at (hsz := by show ys.toArray.size ≤ sizeLine; rw [List.size_toArray, sizeLine_eq]; omega) zD fun h₄ hs₄ hD₄ => ?_
    have hI4 : h₄.get? I = some _ := hs₄.extBut _ _ sp.ID (N₃ (I, _) (.head _)).1
    refine ⟨⟨h₄, tk₃, ys ++ [v], add ++ tl, _, rfl, ⟨F₃.change hs₄ sp.DL sp.D0, (hoC.ns (N₃ (cenv.locals, oC) (.tail _ (.head _))).1).sameBut hs₄ sp.CD, ?_, fun p hp => (off3 p hp).2⟩, (by rw [if_neg hxy]; exact hx), fun p hp => (off3 p hp).1, ?_, ?_⟩, ?_⟩
    · intro p hp
      rcases List.mem_cons.mp hp with rfl | hp
      · exact ⟨hD₄.trans (congrArg some (lst_snoc ys v)), sp.DL, sp.D0⟩
      · have z := N₃ p (.tail _ (.tail _ (.tail _ hp)))
        exact ⟨hs₄.extBut _ _ (off3 p hp).2.2 z.1, z.2⟩
    · have e : ds ++ (List.range (j + 1)).map el = (ds ++ (List.range j).map el) ++ [el j] := by rw [List.range_succ, List.map_append, List.append_assoc]; rfl
      rw [e]
      refine DatAll.append (DatAll.mono (fun p hp => ?_) hd) (DatAll.one hv)
      rcases List.mem_append.mp hp with hp | hp
      · exact List.mem_append_left _ hp
      · exact List.mem_append_right _ (List.mem_append_right _ hp)
    · intro p hp
      rcases List.mem_append.mp hp with hp | hp
      · exact hK p (List.mem_append_left _ hp)
      · rcases List.mem_append.mp hp with hp | hp
        · exact hKa p hp
        · exact hK p (List.mem_append_right _ hp)
    · exact hI4
  · rintro s' ⟨h, tk, ys, tl, mC, rfl, xs, hx, hI, hd, hK⟩ h₁ tk₁ hk₁
    exact fin h₁ tk₁ ys tl mC (xs.but sp hI hk₁) hd hK

def rowsTo (el : Nat → Nat → Dat) (n1 i : Nat) : List Dat := (List.range i).flatMap fun a => (List.range n1).map (el a)
theorem rowsTo_succ (el : Nat → Nat → Dat) (n1 i : Nat) : rowsTo el n1 (i + 1) = rowsTo el n1 i ++ (List.range n1).map (el i) := by
  unfold rowsTo
  rw [List.range_succ, List.flatMap_append]
  simp
theorem rowsTo_length (el : Nat → Nat → Dat) (n1 i : Nat) : (rowsTo el n1 i).length = i * n1 := by
  induction i with
  | zero => simp [rowsTo]
  | succ i ih => rw [rowsTo_succ, List.length_append, ih, List.length_map, List.length_range, Nat.succ_mul]

theorem outer_range {elt i0 i1 : Expr} {x y : Str} {px py : Pos} {scope : Scope} {pos : Pos} {n0 n1 : Nat} (hh : A.handled = none) (hn : n0 ≤ 30) (hn1 : n1 ≤ 30) (sp : CSep h₀ L C D I) (hloc : cenv.locals = C) (hxk : cenv.kindOf x = some .local) (hyk : cenv.kindOf y = some .local)
    (hpk : (cenv.scope.kind == .class || (cenv.scope.kind == .module && cenv.locals != cenv.globals)) = false) (hxy : x ≠ y) (hs1 : ∀ v, foldedSetIterable i1 cenv v = pure v) (el : Nat → Nat → Dat)
    (inn : ∀ tl ys mC oC oI h tk, NsObj oC mC → Fr h₀ L h m → News h₀ L h ((I, oI) :: (C, oC) :: (D, lst ys) :: (base ++ tl)) → Off3 I C D (base ++ tl) →
      wpAny (model prog w) A (eval i1 cenv) (fun v s' => ∃ r h' tk' a b c, v = .ref r ∧ s' = { s with heap := h', toks := tk' } ∧ (∀ b o, h.get? b = some o → h'.get? b = some o) ∧ IsRange h' r 0 (n1 : Int) 1 a b c) (fun _ _ => False) { s with heap := h, toks := tk })
    (turn : ∀ i j t0 tl ys mC oC oI J oJ h tk, i < n0 → j < n1 → NsObj oC mC → mC x = some (.int (i : Int) t0) → (∃ t, mC y = some (.int (j : Int) t)) → Fr h₀ L h m → News h₀ L h ((J, oJ) :: (C, oC) :: (D, lst ys) :: ([(I, oI)] ++ (base ++ tl))) → Off3 J C D ([(I, oI)] ++ (base ++ tl)) →
      wpAny (model prog w) A (eval elt cenv) (fun v s' => ∃ h' tk' add, s' = { s with heap := h', toks := tk' } ∧ Fr h₀ L h' m ∧ News h₀ L h' ((J, oJ) :: (C, oC) :: (D, lst ys) :: ([(I, oI)] ++ (base ++ (add ++ tl)))) ∧ Off3 J C D ([(I, oI)] ++ (base ++ (add ++ tl))) ∧ DatIn (base ++ (add ++ tl)) v (el i j) ∧ (∀ p ∈ add, p.1 ≠ I)) (fun _ _ => False) { s with heap := h, toks := tk })
    {mC₀ : Str → Option Value} (x₀ : CS h₀ L m C D [] base [] [] mC₀ s.heap) (hI₀ : ∀ p ∈ base, p.1 ≠ I)
    (hst : IsRangeIter s.heap I 0 (n0 : Int) 1)
    (fin : ∀ h tk ys tl mC, CS h₀ L m C D [] base ys tl mC h → DatAll (base ++ tl) ys (rowsTo el n1 n0) → R (.ok .next) { s with heap := h, toks := tk }) :
    codeAny (model prog w) A (.compLoop (.ListComp elt [⟨.Name x px, i0, [], 0⟩, ⟨.Name y py, i1, [], 0⟩] scope pos) 0 (.ref I) (.ref D) cenv) R s := by
  subst hloc
  refine comp_out (range_walks hh 0 n0) (fun i s' => ∃ h tk ys tl mC, s' = { s with heap := h, toks := tk } ∧ CS h₀ L m cenv.locals D [] base ys tl mC h ∧ (∀ p ∈ base ++ tl, p.1 ≠ I) ∧ DatAll (base ++ tl) ys (rowsTo el n1 i)) hs1 ?_ ?_
    ⟨s.heap, s.toks, [], [], mC₀, rfl, x₀, by simpa using hI₀, by simpa [rowsTo] using DatAll.nil⟩ (by simpa using hst)
  · rintro i s' hi ⟨h, tk, ys, tl, mC, rfl, xs, hI, hd⟩ hS v h₁ tk₁ ⟨t, rfl⟩ hS₁ hk₁
    have x1 := xs.but sp (by simpa using hI) hk₁
    refine wpAny_assign_Name (wpAny_storeName_local hxk x1.nC (fun h₂ hn₂ hs₂ => ?_) hpk)
    have x2 := x1.set sp hn₂ hs₂
    have hI1 : h₁.get? I = some _ := hS₁
    have hI2 : h₂.get? I = some _ := hs₂.extBut _ _ sp.IC hI1
    obtain ⟨oC, heC, hoC⟩ := ns_obj x2.nC
    have hoff : Off3 I cenv.locals D (base ++ tl) := Off3.of fun p hp => ⟨hI p hp, (xs.off p (by simpa using hp)).1, (xs.off p (by simpa using hp)).2⟩
    have N2 : News h₀ L h₂ ((I, _) :: (cenv.locals, oC) :: (D, lst ys) :: (base ++ tl)) := List.forall_mem_cons.mpr ⟨⟨hI2, sp.IL, sp.I0⟩, List.forall_mem_cons.mpr ⟨⟨heC, sp.CL, sp.C0⟩, x2.N⟩⟩
    refine wpAny_mono (inn tl ys _ oC _ h₂ _ hoC x2.F N2 hoff) (fun xv s₃ h₃ => ?_) fun _ _ f => f
    obtain ⟨r, h₃, tk₃, ra, rb, rc, rfl, rfl, hk₃, hr⟩ := h₃
    refine wpAny_pyIter_range hr (small_one (by omega) (by omega) (by omega) (by omega)) ?_
    have hsz : Builtin.Range.rangeSize 0 (n1 : Int) 1 = (n1 : Int) := by
      have := rangeSize_nat 0 (n1 : Int)
      rw [this]; omega
    rw [hsz]
    dsimp only
    generalize hH : h₃.push { cls := .type "range_iterator", data := .fields #[rawInt 0, rawInt (n1 : Int), rawInt 1] } = h₄
    have hup : ∀ b o, h₃.get? b = some o → h₄.get? b = some o := fun b o e => hH ▸ Heap.get?_push_of_some _ e
    have x3 := x2.push hk₃
    have x4 := x3.push hup
    have hit : IsRangeIter h₄ h₃.objs.size 0 (n1 : Int) 1 := by show h₄.get? h₃.objs.size = some _; rw [← hH]; exact Heap.get?_push_size _ rfl
    have lts : ∀ b o, h₃.get? b = some o → h₃.objs.size ≠ b := fun b o e => Ne.symm (Nat.ne_of_lt (Heap.lt_size e))
    obtain ⟨oL, _, _, hL3, _⟩ := x3.F.ns
    obtain ⟨oC3, _, _, hC3, _⟩ := x3.nC
    have sp4 : CSep h₀ L cenv.locals D h₃.objs.size := ⟨sp.CL, sp.DL, sp.CD, sp.C0, sp.D0, lts _ _ hL3, lts _ _ hC3, lts _ _ (x3.N (D, lst ys) (.head _)).1, next_is_new x3.F⟩
    have x5 : CS h₀ L m cenv.locals D [(I, _)] base ys tl _ h₄ := ⟨x4.F, x4.nC, fun p hp => by
      rcases List.mem_cons.mp hp with rfl | hp
      · exact x4.N _ (.head _)
      · rcases List.mem_cons.mp hp with rfl | hp
        · exact ⟨hup _ _ (hk₃ _ _ hI2), sp.IL, sp.I0⟩
        · exact x4.N _ (.tail _ hp), fun p hp => by
      rcases List.mem_cons.mp hp with rfl | hp
      · exact ⟨sp.IC, sp.ID⟩
      · exact x4.off p hp⟩
    have loop : codeAny (model prog w) A (.compLoop (.ListComp elt [⟨.Name x px, i0, [], 0⟩, ⟨.Name y py, i1, [], 0⟩] scope pos) 1 (.ref h₃.objs.size) (.ref D) cenv)
        (fun r s₅ => r = .ok .next ∧ (∃ h tk ys tl mC, s₅ = { s with heap := h, toks := tk } ∧ CS h₀ L m cenv.locals D [] base ys tl mC h ∧ (∀ p ∈ base ++ tl, p.1 ≠ I) ∧ DatAll (base ++ tl) ys (rowsTo el n1 (i + 1))) ∧ IsRangeIter s₅.heap I (0 + ((i + 1 : Nat) : Int) * 1) ((n0 : Int) - ((i + 1 : Nat) : Int)) 1) { s with heap := h₄, toks := tk₃ } := by
      refine inner_range (K := I) (vx := .int (0 + (i : Int)) t) hh (by omega) sp4 rfl hyk hpk hxy (el i) (rowsTo el n1 i) (by rw [rowsTo_length]; exact Nat.le_trans (Nat.mul_le_mul (Nat.le_trans (Nat.le_of_lt hi) hn) hn1) (by decide)) ?_ x5 (by simp) ?_ hd hI hit ?_
      · intro j tl' ys' mC' oC' oJ h' tk' hj hoC' hx' hy' F' N' off'
        refine wpAny_mono (turn i j t tl' ys' mC' oC' _ h₃.objs.size oJ h' tk' hi hj hoC' (by rw [hx', Int.zero_add]) hy' F' N' off') (fun v s₆ h₆ => ?_) fun _ _ f => f
        exact h₆
      · intro p hp
        have z : h₃.get? p.1 = some p.2 := by
          rcases List.mem_cons.mp hp with rfl | hp
          · exact hk₃ _ _ hI2
          · exact (x3.N p (.tail _ hp)).1
        exact Ne.symm (lts _ _ z)
      · intro h' tk' ys' tl' mC' x' hd' hK'
        refine ⟨rfl, ⟨h', tk', ys', tl', mC', rfl, ⟨x'.F, x'.nC, fun p hp => ?_, fun p hp => x'.off p (.tail _ hp)⟩, hK', by rw [rowsTo_succ]; exact hd'⟩, (x'.N (I, _) (.tail _ (.head _))).1⟩
        rcases List.mem_cons.mp hp with rfl | hp
        · exact x'.N _ (.head _)
        · exact x'.N _ (.tail _ (.tail _ hp))
    exact start_in loop (wpAny_pyIter_rangeiter hit loop)
  · rintro s' ⟨h, tk, ys, tl, mC, rfl, xs, hI, hd⟩ h₁ tk₁ hk₁
    exact fin h₁ tk₁ ys tl mC (xs.but sp (by simpa using hI) hk₁) hd
end
end -- Nest2
section -- Nest3
open LCg
section
variable {prog : Program} {w : World} {A : Around} {E : Value → Shared → Prop} {s : Shared} {h₀ : Heap} {L : Addr} {m : Str → Option Value} {base : List (Addr × Obj)} {env : Env} {Q : Flow → Shared → Prop}
def HPost (h₀ : Heap) (L : Addr) (m : Str → Option Value) (base : List (Addr × Obj)) (n0 : Nat) (s : Shared) (xv : Value) (s₁ : Shared) : Prop :=
  ∃ r a b c h tk, xv = .ref r ∧ s₁ = { s with heap := h, toks := tk } ∧ Fr h₀ L h m ∧ News h₀ L h base ∧ IsRange h r 0 (n0 : Int) 1 a b c
def IPost (n1 : Nat) (s : Shared) (h : Heap) (v : Value) (s' : Shared) : Prop :=
  ∃ r h' tk' a b c, v = .ref r ∧ s' = { s with heap := h', toks := tk' } ∧ (∀ b o, h.get? b = some o → h'.get? b = some o) ∧ IsRange h' r 0 (n1 : Int) 1 a b c
def EPost (h₀ : Heap) (L : Addr) (m : Str → Option Value) (J : Addr) (oJ : Obj) (C : Addr) (oC : Obj) (D : Addr) (ys : List Value) (I : Addr) (oI : Obj) (base tl : List (Addr × Obj)) (d : Dat) (s : Shared) (v : Value) (s' : Shared) : Prop :=
  ∃ h' tk' add, s' = { s with heap := h', toks := tk' } ∧ Fr h₀ L h' m ∧ News h₀ L h' ((J, oJ) :: (C, oC) :: (D, lst ys) :: ([(I, oI)] ++ (base ++ (add ++ tl)))) ∧ Off3 J C D ([(I, oI)] ++ (base ++ (add ++ tl))) ∧ DatIn (base ++ (add ++ tl)) v d ∧ (∀ p ∈ add, p.1 ≠ I)
/-- the list that was made is laid at its name -/
theorem CS.named {ys : List Value} {tl : List (Addr × Obj)} {mC m' : Str → Option Value} {h h' : Heap} (x : CS h₀ L m C D its base ys tl mC h) (sp : CSep h₀ L C D I) (hn : h'.Ns L m') (hs : Heap.SameBut L h h') :
    CS h₀ L m' C D its base ys tl mC h' where
  F := x.F.set hn hs
  nC := x.nC.sameBut hs sp.CL
  N := x.N.set hs
  off := x.off
/-- what stays when the comprehension's own names are let go -/
theorem CS.left {ys : List Value} {tl : List (Addr × Obj)} {mC : Str → Option Value} {h h' : Heap} (x : CS h₀ L m C D its base ys tl mC h) (sp : CSep h₀ L C D I) (hs : Heap.SameBut C h h') :
    Fr h₀ L h' m ∧ News h₀ L h' ((D, lst ys) :: (its ++ (base ++ tl))) :=
  have off : ∀ q ∈ (D, lst ys) :: (its ++ (base ++ tl)), q.1 ≠ C := List.forall_mem_cons.mpr ⟨Ne.symm sp.CD, fun q hq => (x.off q hq).1⟩
  ⟨x.F.change hs sp.CL sp.C0, fun q hq => ⟨(hs.2 q.1 (off q hq)).trans (x.N q hq).1, (x.N q hq).2⟩⟩
/-- an assignment of a comprehension to a name -/
theorem assign_made {elt i0 t0 : Expr} {gs : List Comprehension} {pt : Str} {pp : Pos} {scope : Scope} {cl : List (Str × Addr)} {pos spos : Pos}
    (hsw : swapsWith (.ListComp elt (⟨t0, i0, [], 0⟩ :: gs) scope pos) (some (.Name pt pp)) spos.line env = pure true) (hs : ∀ x, foldedSetIterable i0 env x = pure x)
    (hclos : closureFor scope env = pure cl) (hkind : scope.kind = .function) (hnames : ∀ z ∈ scope.names, z.2 = .local → scope.names.lookup z.1 = some .local)
    (h : wpAny (model prog w) A (eval i0 env) (fun xv s₁ => wpAny (model prog w) A (pyIter xv) (fun it s₂ => wpAny (model prog w) A (newList []) (fun acc s₃ => wpAny (model prog w) A (newFunctionEnv scope env.globals cl [] env.qual none .none (some env))
      (fun ce s₄ => codeAny (model prog w) A (.compStart (.ListComp elt (⟨t0, i0, [], 0⟩ :: gs) scope pos) 0 it acc { ce with scope := relabel scope env }) (compPost (model prog w) A E (some (assign (.Name pt pp) env)) (fun _ => Q .next) acc ce.locals) s₄) E s₃) E s₂) E s₁) E s) :
    wpAny (model prog w) A (exec (.Assign [.Name pt pp] (.ListComp elt (⟨t0, i0, [], 0⟩ :: gs) scope pos) spos) env) Q E s := by
  rw [exec_Assign_Name_used _ _ _ _ hsw]
  refine wpAny_bind (wpAny_standAt (wpAny_bind (?_ : wpAny _ A (comprehension (.ListComp elt (⟨t0, i0, [], 0⟩ :: gs) scope pos) scope env _ (newList []) false (eval i0 env) (some (assign (.Name pt pp) env)) >>= fun _ => pure ()) _ _ s)))
  have made := wpAny_comprehension_free (pos := firstIterPos (⟨t0, i0, [], 0⟩ :: gs) pos) (newAcc := newList []) (Q := fun _ => Q .next) (use := some (assign (.Name pt pp) env)) rfl hs hclos hkind hnames h
  exact wpAny_bind (wpAny_mono made (fun _ _ q => wpAny_pure (wpAny_pure q)) fun _ _ => id)
theorem Assign_nested {elt i0 i1 : Expr} {x y pt : Str} {px py pp : Pos} {scope : Scope} {cl : List (Str × Addr)} {pos spos : Pos} {n0 n1 : Nat} (F₀ : Fr h₀ L s.heap m) (N₀ : News h₀ L s.heap base) (hh : A.handled = none) (hn : n0 ≤ 30) (hn1 : n1 ≤ 30) (hLe : env.locals = L)
    (hsw : swapsWith (.ListComp elt [⟨.Name x px, i0, [], 0⟩, ⟨.Name y py, i1, [], 0⟩] scope pos) (some (.Name pt pp)) spos.line env = pure true)
    (hclos : closureFor scope env = pure cl) (hcell : ∀ z ∈ scope.names, z.2 ≠ .cell) (hkind : scope.kind = .function)
    (hnames : ∀ z ∈ scope.names, z.2 = .local → scope.names.lookup z.1 = some .local) (hx : scope.names.lookup x = some .local) (hy : scope.names.lookup y = some .local) (hxy : x ≠ y)
    (hpt : env.kindOf pt = some .local) (hp : (env.scope.kind == .class || (env.scope.kind == .module && env.locals != env.globals)) = false)
    (el : Nat → Nat → Dat)
    (h : wpAny (model prog w) A (eval i0 env) (HPost h₀ L m base n0 s) E s)
    (inn : ∀ C D I tl ys mC oC oI h tk, NsObj oC mC → Fr h₀ L h m → News h₀ L h ((I, oI) :: (C, oC) :: (D, lst ys) :: (base ++ tl)) → Off3 I C D (base ++ tl) →
      wpAny (model prog w) A (eval i1 (compEnvC scope cl C env)) (IPost n1 s h) (fun _ _ => False) { s with heap := h, toks := tk })
    (turn : ∀ C D I i j t0 tl ys mC oC oI J oJ h tk, i < n0 → j < n1 → NsObj oC mC → mC x = some (.int (i : Int) t0) → (∃ t, mC y = some (.int (j : Int) t)) → Fr h₀ L h m → News h₀ L h ((J, oJ) :: (C, oC) :: (D, lst ys) :: ([(I, oI)] ++ (base ++ tl))) → Off3 J C D ([(I, oI)] ++ (base ++ tl)) →
      wpAny (model prog w) A (eval elt (compEnvC scope cl C env)) (EPost h₀ L m J oJ C oC D ys I oI base tl (el i j) s) (fun _ _ => False) { s with heap := h, toks := tk })
    (fin : ∀ D h tk ys tl, Fr h₀ L h (fun z => if z = pt then some (.ref D) else m z) → News h₀ L h ((D, lst ys) :: (base ++ tl)) → DatAll (base ++ tl) ys (rowsTo el n1 n0) → Q .next { s with heap := h, toks := tk })
    (hs : ∀ x, foldedSetIterable i0 env x = pure x := by intro _; rfl) (hs1 : ∀ C x, foldedSetIterable i1 (compEnvC scope cl C env) x = pure x := by intro _ _; rfl) :
    wpAny (model prog w) A (exec (.Assign [.Name pt pp] (.ListComp elt [⟨.Name x px, i0, [], 0⟩, ⟨.Name y py, i1, [], 0⟩] scope pos) spos) env) Q E s := by
  subst hLe
  refine assign_made hsw hs hclos hkind hnames (wpAny_mono h (fun xv s₁ h₁ => ?_) fun _ _ => id)
  obtain ⟨r, ra, rb, rc, h1, tk1, rfl, rfl, F1, N1, hr⟩ := h₁
  refine wpAny_pyIter_range hr (small_one (by omega) (by omega) (by omega) (by omega)) ?_
  have hsz : Builtin.Range.rangeSize 0 (n0 : Int) 1 = (n0 : Int) := by
    have := rangeSize_nat 0 (n0 : Int)
    rw [this]; omega
  rw [hsz]
  dsimp only
  generalize hH : h1.push { cls := .type "range_iterator", data := .fields #[rawInt 0, rawInt (n0 : Int), rawInt 1] } = h2
  have hup : ∀ b o, h1.get? b = some o → h2.get? b = some o := fun b o e => hH ▸ Heap.get?_push_of_some _ e
  have hit : IsRangeIter h2 h1.objs.size 0 (n0 : Int) 1 := by show h2.get? h1.objs.size = some _; rw [← hH]; exact Heap.get?_push_size _ rfl
  have hs2 : h2.objs.size = h1.objs.size + 1 := by rw [← hH, Heap.size_push]
  refine wpAny_newObj_type (wpAny_newFunctionEnv hcell (by intro y hy; simp at hy) (fun h₁ hns₁ hsb₁ => ?_) hkind)
  dsimp only at hns₁ hsb₁ ⊢
  generalize hH2 : h2.push { cls := .type "list", dict := none, data := .seq ([] : List Value).toArray } = H2 at hns₁ hsb₁ ⊢
  have hC : H2.objs.size = h2.objs.size + 1 := by rw [← hH2, Heap.size_push]
  have below : ∀ b, b < h2.objs.size → b ≠ H2.objs.size ∧ b ≠ h2.objs.size := fun b hb => ⟨by rw [hC]; exact Nat.ne_of_lt (Nat.lt_succ_of_lt hb), Nat.ne_of_lt hb⟩
  have hDC : h2.objs.size ≠ H2.objs.size := by rw [hC]; exact Nat.ne_of_lt (Nat.lt_succ_self _)
  have old : ∀ b o, h2.get? b = some o → h₁.get? b = some o := fun b o e => hsb₁.extBut b o (below b (Heap.lt_size e)).1 (Heap.get?_push_of_some _ (hH2 ▸ Heap.get?_push_of_some _ e))
  have hacc : h₁.get? h2.objs.size = some (lst []) := hsb₁.extBut _ _ hDC (Heap.get?_push_of_some _ (hH2 ▸ Heap.get?_push_size _ rfl))
  have F2 : Fr h₀ env.locals h2 m := F1.keeps hup
  have N2 : News h₀ env.locals h2 base := fun p hp => ⟨hup _ _ (N1 p hp).1, (N1 p hp).2⟩
  have fresh₀ : ∀ a, h2.objs.size ≤ a → h₀.get? a = none := fun a ha => by
    cases e : h₀.get? a with
    | none => rfl
    | some o' => exact absurd (Heap.lt_size (F2.keep a o' e)) (Nat.not_lt.mpr ha)
  have hLlt : env.locals < h2.objs.size := F2.ns.lt
  have hIlt : h1.objs.size < h2.objs.size := by rw [hs2]; exact Nat.lt_succ_self _
  have sp : CSep h₀ env.locals H2.objs.size h2.objs.size h1.objs.size := ⟨Ne.symm (below _ hLlt).1, Ne.symm (below _ hLlt).2, Ne.symm hDC, fresh₀ _ (by rw [hC]; exact Nat.le_succ _), fresh₀ _ (Nat.le_refl _), Ne.symm (Nat.ne_of_lt F1.ns.lt), (below _ hIlt).1, (below _ hIlt).2, next_is_new F1⟩
  have x₀ : CS h₀ env.locals m H2.objs.size h2.objs.size [] base [] [] _ h₁ := ⟨F2.keeps old, hns₁, fun p hp => by
    rcases List.mem_cons.mp hp with rfl | hp
    · exact ⟨hacc, sp.DL, sp.D0⟩
    · have hp' : p ∈ base := by simpa using hp
      exact ⟨old _ _ (N2 p hp').1, (N2 p hp').2⟩, fun p hp => by
    have hp' : p ∈ base := by simpa using hp
    exact below _ (Heap.lt_size (N2 p hp').1)⟩
  have loop : ∀ s₃ : Shared, s₃ = { s with heap := h₁, toks := tk1 + ([] : List (Str × Value)).length } →
      codeAny (model prog w) A (.compLoop (.ListComp elt [⟨.Name x px, i0, [], 0⟩, ⟨.Name y py, i1, [], 0⟩] scope pos) 0 (.ref h1.objs.size) (.ref h2.objs.size) (compEnvC scope cl H2.objs.size env))
        (compPost (model prog w) A E (some (assign (.Name pt pp) env)) (fun _ s' => Q .next s') (.ref h2.objs.size) H2.objs.size) s₃ := by
    rintro s₃ rfl
    refine outer_range hh hn hn1 sp rfl (lookup_relabel_local hx) (lookup_relabel_local hy) (by simp [compEnvC, relabel, hkind]) hxy (hs1 _) el (inn _ _ _) (turn _ _ _) x₀ (fun p hp => Nat.ne_of_lt (Heap.lt_size (N1 p hp).1)) (old _ _ hit) ?_
    intro h' tk' ys tl mC xs hd
    refine wpAny_assign_Name (s := { s with heap := h', toks := tk' }) (wpAny_storeName_local hpt xs.F.ns (fun h₂ hn₂ hs₂ => ?_) hp)
    have x₂ := xs.named sp hn₂ hs₂
    exact ⟨_, x₂.nC, fun h'' hs'' => fin _ h'' _ ys tl (x₂.left sp hs'').1 (x₂.left sp hs'').2 hd⟩
  exact codeAny_compStart_list (loop _ rfl) (wpAny_pyIter_rangeiter (old _ _ hit) (loop _ rfl))
theorem epost_of {J C D I : Addr} {oJ oC oI : Obj} {ys : List Value} {tl add : List (Addr × Obj)} {d : Dat} {v : Value} {h' : Heap} {tk : Nat} (F : Fr h₀ L h' m) (N : News h₀ L h' (add ++ ((J, oJ) :: (C, oC) :: (D, lst ys) :: (I, oI) :: (base ++ tl)))) (off : Off3 J C D ([(I, oI)] ++ (base ++ tl))) (ha : ∀ p ∈ add, p.1 ≠ J ∧ p.1 ≠ C ∧ p.1 ≠ D ∧ p.1 ≠ I) (hd : DatIn (base ++ (add ++ tl)) v d) :
    EPost h₀ L m J oJ C oC D ys I oI base tl d s v { s with heap := h', toks := tk } := by
  refine ⟨h', tk, add, rfl, F, fun p hp => N p ?_, ?_, hd, fun p hp => (ha p hp).2.2.2⟩
  · replace hp : p ∈ (J, oJ) :: (C, oC) :: (D, lst ys) :: (I, oI) :: (base ++ (add ++ tl)) := hp
    rcases List.mem_cons.mp hp with rfl | hp
    · exact List.mem_append_right _ (.head _)
    rcases List.mem_cons.mp hp with rfl | hp
    · exact List.mem_append_right _ (.tail _ (.head _))
    rcases List.mem_cons.mp hp with rfl | hp
    · exact List.mem_append_right _ (.tail _ (.tail _ (.head _)))
    rcases List.mem_cons.mp hp with rfl | hp
    · exact List.mem_append_right _ (.tail _ (.tail _ (.tail _ (.head _))))
    rcases List.mem_append.mp hp with hp | hp
    · exact List.mem_append_right _ (.tail _ (.tail _ (.tail _ (.tail _ (List.mem_append_left _ hp)))))
    rcases List.mem_append.mp hp with hp | hp
    · exact List.mem_append_left _ hp
    · exact List.mem_append_right _ (.tail _ (.tail _ (.tail _ (.tail _ (List.mem_append_right _ hp)))))
  · have hm : ∀ p ∈ (I, oI) :: (base ++ tl), _ := off.mem
    refine Off3.of fun p hp => ?_
    replace hp : p ∈ (I, oI) :: (base ++ (add ++ tl)) := hp
    rcases List.mem_cons.mp hp with rfl | hp
    · exact hm _ (.head _)
    rcases List.mem_append.mp hp with hp | hp
    · exact hm p (.tail _ (List.mem_append_left _ hp))
    rcases List.mem_append.mp hp with hp | hp
    · exact ⟨(ha p hp).1, (ha p hp).2.1, (ha p hp).2.2.1⟩
    · exact hm p (.tail _ (List.mem_append_right _ hp))
end
end -- Nest3
section -- Comps2
open LCg LCp
theorem sub_add {p1 p2 p3 : Addr × Obj} {base add tl : List (Addr × Obj)} : ∀ p ∈ p1 :: p2 :: p3 :: (base ++ (add ++ tl)), p ∈ add ++ (p1 :: p2 :: p3 :: (base ++ tl)) := by
  intro p hp
  rcases List.mem_cons.mp hp with rfl | hp
  · exact List.mem_append_right _ (.head _)
  rcases List.mem_cons.mp hp with rfl | hp
  · exact List.mem_append_right _ (.tail _ (.head _))
  rcases List.mem_cons.mp hp with rfl | hp
  · exact List.mem_append_right _ (.tail _ (.tail _ (.head _)))
  rcases List.mem_append.mp hp with hp | hp
  · exact List.mem_append_right _ (.tail _ (.tail _ (.tail _ (List.mem_append_left _ hp))))
  rcases List.mem_append.mp hp with hp | hp
  · exact List.mem_append_left _ hp
  · exact List.mem_append_right _ (.tail _ (.tail _ (.tail _ (List.mem_append_right _ hp))))
theorem off_add {I C D : Addr} {base add tl : List (Addr × Obj)} (h : Off3 I C D (base ++ tl)) (ha : ∀ p ∈ add, p.1 ≠ I ∧ p.1 ≠ C ∧ p.1 ≠ D) : Off3 I C D (base ++ (add ++ tl)) := by
  have hm := h.mem
  refine Off3.of fun p hp => ?_
  rcases List.mem_append.mp hp with hp | hp
  · exact hm p (List.mem_append_left _ hp)
  rcases List.mem_append.mp hp with hp | hp
  · exact ha p hp
  · exact hm p (List.mem_append_right _ hp)
section
variable {prog : Program} {w : World} {A : Around} {h₀ : Heap} {L : Addr} {m : Str → Option Value} {env : Env} {elt : Expr} {x x₂ : Str} {scope : Scope} {cl : List (Str × Addr)} {s : Shared} {S : List (Addr × Obj) → Prop} {P : Nat → Value → Prop} {Fin : List Value → List (Addr × Obj) → Prop} {base : List (Addr × Obj)}
theorem dat_restP {n : Nat} (el : Nat → Dat) (rel : Nat → Value → Value → Prop)
    (src : ∀ i v, i < n → P i v → ∃ (t : Addr) (ot : Obj) (v₁ v₂ : Value) (nt : Nat), v = .ref t ∧ (t, ot) ∈ base ∧ ot.cls = .type "tuple" ∧ ot.data = .seq #[v₁, v₂] nt ∧ rel i v₁ v₂)
    (turn : ∀ i v₁ v₂ tl I oI C oC D m₂ ys h tk (E' : Value → Shared → Prop), i < n → rel i v₁ v₂ → NsObj oC m₂ → m₂ x = some v₁ → m₂ x₂ = some v₂ → Fr h₀ L h m → News h₀ L h ((I, oI) :: (C, oC) :: (D, lst ys) :: (base ++ tl)) → Off3 I C D (base ++ tl) → ((@Ne Nat I C) ∧ (@Ne Nat I D) ∧ (@Ne Nat C D)) →
      wpAny (model prog w) A (eval elt (compEnvC scope cl C env)) (CompEnd h₀ L m { s with heap := h, toks := tk } I oI C oC D (lst ys) S (fun y news' => ∃ add, news' = base ++ (add ++ tl) ∧ DatIn news' y (el i))) E' { s with heap := h, toks := tk })
    (fin : ∀ ys tl, DatAll (base ++ tl) ys ((List.range n).map el) → Fin ys (base ++ tl)) : CompRestP prog w A h₀ L m env elt x x₂ scope cl s S P Fin n 0 [] (base ++ []) := by
  have key : ∀ (j i : Nat) (ys : List Value) (tl : List (Addr × Obj)), i + j = n → DatAll (base ++ tl) ys ((List.range i).map el) → CompRestP prog w A h₀ L m env elt x x₂ scope cl s S P Fin j i ys (base ++ tl) := by
    intro j
    induction j with
    | zero =>
      intro i ys tl hi hy
      have e : i = n := by omega
      subst e
      exact CompRestP.zero (fin ys tl hy)
    | succ j ih =>
      intro i ys tl hi hy
      refine CompRestP.succ ?_
      intro v hv
      obtain ⟨t, ot, v₁, v₂, nt, rfl, hm, hc, hd, hr⟩ := src i v (by omega) hv
      refine ⟨t, ot, v₁, v₂, nt, rfl, List.mem_append_left _ hm, hc, hd, ?_⟩
      intro I oI C oC D m₂ h tk E' hC hx hx₂ F N off ne
      refine wpAny_mono (turn i v₁ v₂ tl I oI C oC D m₂ ys h tk E' (by omega) hr hC hx hx₂ F N off ne) (fun y s₂ hq => ?_) fun _ _ e => e
      obtain ⟨h', tk', nw, e, F', N', off', hS, add, rfl, hd⟩ := hq
      refine ⟨h', tk', _, e, F', N', off', hS, ih (i + 1) _ (add ++ tl) (by omega) ?_⟩
      rw [List.range_succ, List.map_append]
      refine DatAll.append (DatAll.mono (fun p hp => ?_) hy) (DatAll.one hd)
      rcases List.mem_append.mp hp with hp | hp
      · exact List.mem_append_left _ hp
      · exact List.mem_append_right _ (List.mem_append_right _ hp)
  exact key n 0 [] [] (by omega) .nil
end
end -- Comps2
section -- C8
open LCg LCp
def ptEl (i j : Nat) : Dat := .tuple [.int ((i : Int) - 3), .int ((j : Int) - 3)]
local macro_rules | `(tactic| walk_at "call ref") => `(tactic| (k_here; (try dsimp only [List.nil_append, List.cons_append]); first
  | ((with_reducible show wpAny _ _ (call (Value.ref 28) _) _ _ _); refine' use_ret (by k_asm) (by k_asm) ?h1 ?h2 ?h3 (c_add (by k_asm) (by assumption) (by assumption)) ?_)
  | ((with_reducible show wpAny _ _ (call (Value.ref 42) _) _ _ _); refine' use_ret (by k_asm) (by k_asm) ?h1 ?h2 ?h3 (c_sub (by k_asm) (by assumption) (by assumption)) ?_)
  | ((with_reducible show wpAny _ _ (call (Value.ref 35) _) _ _ _); refine' use_ret (by k_asm) (by k_asm) ?h1 ?h2 ?h3 (c_mul (by k_asm) (by assumption) (by assumption) (by mul_fits)) ?_)); (case h1 => rfl); (case h2 => exact Nat.le_of_ble_eq_true rfl); (case h3 => exact Nat.le_of_ble_eq_true rfl); intro v' h' tk' F' N' st' hv'; obtain ⟨t', hv'⟩ := hv'; subst hv'; (try k_sweep))
def pts : List (Int × Int) := (List.range 7).flatMap fun (i : Nat) => (List.range 7).map fun (j : Nat) => ((i : Int) - 3, (j : Int) - 3)
def ptD (p : Int × Int) : Dat := .tuple [.int p.1, .int p.2]
theorem pts_rows : rowsTo ptEl 7 7 = pts.map ptD := by
  unfold rowsTo pts
  rw [List.map_flatMap]
  congr 1
theorem pts_len : pts.length = 49 := by decide
theorem pts_small : ∀ p ∈ pts, -3 ≤ p.1 ∧ p.1 ≤ 3 ∧ -3 ≤ p.2 ∧ p.2 ≤ 3 := by decide
def nrm (a d : Int) (p : Int × Int) : Int := p.1 * (p.1 + a * p.2) + d * (p.2 * p.2)
def nEl (a d : Int) (k : Nat) : Dat := one (nrm a d (pts.getD k (0, 0)))
def nRel (k : Nat) (v₁ v₂ : Value) : Prop := ∃ p1 p2 t1 t2, v₁ = .int p1 t1 ∧ v₂ = .int p2 t2 ∧ pts.getD k (0, 0) = (p1, p2) ∧ -3 ≤ p1 ∧ p1 ≤ 3 ∧ -3 ≤ p2 ∧ p2 ≤ 3
theorem pts_src {news base : List (Addr × Obj)} {ys : List Value} (hd : DatAll news ys (pts.map ptD)) (hb : ∀ p ∈ news, p ∈ base) : ∀ i v, i < ys.toArray.size → ys.toArray[i]? = some v → ∃ (t : Addr) (ot : Obj) (v₁ v₂ : Value) (nt : Nat), v = .ref t ∧ (t, ot) ∈ base ∧ ot.cls = .type "tuple" ∧ ot.data = .seq #[v₁, v₂] nt ∧ nRel i v₁ v₂ := by
  intro i v _ hv
  have hv' : ys[i]? = some v := by simpa using hv
  have hl := hd.length
  rw [List.length_map] at hl
  have hi : i < pts.length := by rw [← hl]; exact (List.getElem?_eq_some_iff.mp hv').1
  obtain ⟨v', hv2, hD⟩ := hd.get (k := i) (by rw [List.length_map]; exact hi)
  rw [hv'] at hv2
  cases hv2
  rw [List.getElem_map] at hD
  have hs := pts_small _ (List.getElem_mem hi)
  have hg : pts.getD i (0, 0) = pts[i] := by rw [List.getD_eq_getElem?_getD, List.getElem?_eq_getElem hi]; rfl
  generalize pts[i] = p at hD hs hg
  obtain ⟨p1, p2⟩ := p
  cases hD with
  | tuple hm hA =>
    cases hA with
    | cons h1 h2 =>
      cases h1
      cases h2 with
      | cons h1 h2 =>
        cases h1
        cases h2
        exact ⟨_, _, _, _, _, rfl, hb _ hm, rfl, rfl, p1, p2, _, _, rfl, rfl, hg, hs.1, hs.2.1, hs.2.2.1, hs.2.2.2⟩
theorem nEl_all (a d : Int) : (List.range 49).map (nEl a d) = (pts.map (nrm a d)).map one := by
  rw [List.map_map]
  refine List.ext_getElem? fun k => ?_
  rw [List.getElem?_map, List.getElem?_map]
  by_cases hk : k < 49
  · have hk' : k < pts.length := by rw [pts_len]; exact hk
    rw [List.getElem?_range hk, List.getElem?_eq_getElem hk']
    show some (one (nrm a d (pts.getD k (0, 0)))) = some (one (nrm a d pts[k]))
    rw [List.getD_eq_getElem?_getD, List.getElem?_eq_getElem hk']
    rfl
  · rw [List.getElem?_eq_none (by rw [List.length_range]; omega), List.getElem?_eq_none (by rw [pts_len]; omega)]
    rfl
set_option maxHeartbeats 8000000 in
theorem c_norms0 : ∀ {w : World} {s : Shared} {h₀ : Heap} {L : Addr} {m mg mb : Str → Option Value} {mean : ExcName → Option Value} {tg : Tok},
  Fr h₀ L s.heap m → (hd.heap_39 w.params).In h₀ → Top hd.view_39 (looseW hd.view_39 [Str.ofString "Whitespace"]) mean mg mb h₀ →
  codeAny (model Challenge.rw_pk0076_01.row.prog w) (roomA 500 500) (.call (.ref 125) ⟨[.int 0 tg], []⟩)
    (Ret s fun v h' => ∃ l us q tl, v = .ref l ∧ News h₀ L h' tl ∧ (l, W.listOf us.toArray q) ∈ tl ∧ DatAll tl us ((pts.map (nrm 1 1)).map one)) s := by
  k_fill
  intro w s h₀ L m mg mb mean tg F X T
  have N : News h₀ L s.heap [] := fun _ h => nomatch h
  w_on
  w_top on
  refine' enter_defC (binds := [(Str.ofString "grid", .int 0 tg)]) ?k2 ?k4 ?k3 ?k5 ?k6 ?k7 ?k8 ?k9 ?kB ?kD ?_ ?c2 ?c3 ?c4
  walk_at "M enterC"
  intro g' L' h' tk' cells' hg' hL' hl' F' N' Y' X' T'
  k_cells Y'
  simp only [List.cons_append, List.nil_append] at N'
  show wpAny _ _ _ _ _ _
  k_fold
  k_steps
  rename Fr _ _ _ _ => hF9
  rename News g' _ _ _ => hN9
  (try dsimp only at hF9); (try dsimp only at hN9)
  have hb9 : News g' L' _ [_, _] := News.perm hN9 (fun p hp => .tail _ (.tail _ (.tail _ (.tail _ hp))))
  refine Assign_nested (n0 := 7) (n1 := 7) hF9 hb9 rfl (by decide) (by decide) rfl (by with_unfolding_all rfl) (by with_unfolding_all rfl) (by decide) rfl (by decide) rfl rfl (by decide) rfl rfl ptEl ?_ ?_ ?_ ?_
  · clear hN9
    k_steps
    exact ⟨_, _, _, _, _, _, rfl, rfl, by assumption, by assumption, by assumption⟩
  · intro C D I tl ys mC oC oI h tk hC hF hN hoff
    clear hF9 hN9 hb9
    simp only [List.cons_append, List.nil_append] at hN
    show wpAny _ _ _ _ _ _
    k_steps
    exact ⟨_, _, _, _, _, _, rfl, rfl, by assumption, by assumption⟩
  · intro C D I i j t0 tl ys mC oC oI J oJ h tk hi hj hC hx hy hF hN hoff
    clear hF9 hN9 hb9
    obtain ⟨ty, hy⟩ := hy
    simp only [List.cons_append, List.nil_append] at hN
    show wpAny _ _ _ _ _ _
    k_steps
    rename (_ < _ ∧ _ < _ ∧ _ < _ ∧ _ < _ ∧ _ < _ ∧ _ < _ ∧ AllLt _ tl) => hl8
    exact epost_of (add := [_]) (base := [_, _]) (by assumption) (by assumption) hoff (List.forall_mem_cons.mpr ⟨⟨Nat.ne_of_gt hl8.1, Nat.ne_of_gt hl8.2.1, Nat.ne_of_gt hl8.2.2.1, Nat.ne_of_gt hl8.2.2.2.1⟩, fun _ h => nomatch h⟩) (DatIn.tuple (vs := [_, _]) (n := 0) (.tail _ (.tail _ (.head _))) (.cons (.int _ _) (.cons (.int _ _) .nil)))
  · intro D h tk ys tl hF hN hd
    clear hF9 hN9 hb9
    rw [pts_rows] at hd
    simp only [List.cons_append, List.nil_append] at hN hd
    have hyl : ys.toArray.size = 49 := by rw [List.size_toArray, hd.length, List.length_map, pts_len]
    show wpAny _ _ _ _ _ _
    walk1
    walk1
    refine LCp.ListComp_P (F₀ := hF) (by with_unfolding_all rfl) (by decide) rfl (by decide) rfl rfl (by decide) ?_
    walk1
    refine LCp.SrcLP.ledger (news := ((D, lst ys) :: _ :: _ :: tl) ++ []) rfl hF (by rw [List.append_nil]; exact hN) (.head _) (by rw [hyl, sizeLine_eq]; decide) ?_
    intro g2
    rw [hyl]
    refine dat_restP (nEl 1 1) nRel (fun i v hi hv => pts_src hd (fun p hp => .tail _ hp) i v (by rw [hyl]; exact hi) hv) ?_ ?_
    · rintro k v₁ v₂ tl' I oI C oC D' m₂ ys' h' tk' E' hk ⟨p1, p2, t1, t2, rfl, rfl, hp, hb1, hb2, hb3, hb4⟩ hC hx hy hF' hN' hoff hne
      clear hF hN
      simp only [List.cons_append, List.nil_append] at hN'
      show wpAny _ _ _ _ _ _
      k_fold
      k_steps
      rename (_ < _ ∧ _ < _ ∧ _ < _ ∧ _ < _ ∧ _ < _ ∧ _ < _ ∧ AllLt _ (tl ++ tl')) => hl8
      refine CompEnd.intro (by assumption) (by assumption) _ (sub_add (add := [_])) (off_add hoff (List.forall_mem_cons.mpr ⟨⟨Nat.ne_of_gt hl8.1, Nat.ne_of_gt hl8.2.1, Nat.ne_of_gt hl8.2.2.1⟩, fun _ h => nomatch h⟩)) (.inr ⟨_, .head _, rfl, _, rfl⟩) ⟨[_], rfl, ?_⟩
      unfold nEl
      rw [hp]
      exact DatIn.list (vs := [_]) (List.mem_append_right _ (List.mem_append_left _ (.head _))) (.cons (.int _ _) .nil)
    · intro ys' tl' hd'
      intro D2 h2 tk2 F2 N2 o1
      clear hF hN
      dsimp only
      k_steps
      walk_at "M ret"
      rw [← nEl_all]
      exact ⟨_, ys', _, _, rfl, news_out F N hg' N2, .head _, DatAll.mono (fun p hp => .tail _ hp) hd'⟩
set_option maxHeartbeats 8000000 in
theorem c_norms1 : ∀ {w : World} {s : Shared} {h₀ : Heap} {L : Addr} {m mg mb : Str → Option Value} {mean : ExcName → Option Value} {tg : Tok},
  Fr h₀ L s.heap m → (hd.heap_39 w.params).In h₀ → Top hd.view_39 (looseW hd.view_39 [Str.ofString "Whitespace"]) mean mg mb h₀ →
  codeAny (model Challenge.rw_pk0076_01.row.prog w) (roomA 500 500) (.call (.ref 125) ⟨[.int 1 tg], []⟩)
    (Ret s fun v h' => ∃ l us q tl, v = .ref l ∧ News h₀ L h' tl ∧ (l, W.listOf us.toArray q) ∈ tl ∧ DatAll tl us ((pts.map (nrm 0 1)).map one)) s := by
  k_fill
  intro w s h₀ L m mg mb mean tg F X T
  have N : News h₀ L s.heap [] := fun _ h => nomatch h
  w_on
  w_top on
  refine' enter_defC (binds := [(Str.ofString "grid", .int 1 tg)]) ?k2 ?k4 ?k3 ?k5 ?k6 ?k7 ?k8 ?k9 ?kB ?kD ?_ ?c2 ?c3 ?c4
  walk_at "M enterC"
  intro g' L' h' tk' cells' hg' hL' hl' F' N' Y' X' T'
  k_cells Y'
  simp only [List.cons_append, List.nil_append] at N'
  show wpAny _ _ _ _ _ _
  k_fold
  k_steps
  rename Fr _ _ _ _ => hF9
  rename News g' _ _ _ => hN9
  (try dsimp only at hF9); (try dsimp only at hN9)
  have hb9 : News g' L' _ [_, _] := News.perm hN9 (fun p hp => .tail _ (.tail _ (.tail _ (.tail _ hp))))
  refine Assign_nested (n0 := 7) (n1 := 7) hF9 hb9 rfl (by decide) (by decide) rfl (by with_unfolding_all rfl) (by with_unfolding_all rfl) (by decide) rfl (by decide) rfl rfl (by decide) rfl rfl ptEl ?_ ?_ ?_ ?_
  · clear hN9
    k_steps
    exact ⟨_, _, _, _, _, _, rfl, rfl, by assumption, by assumption, by assumption⟩
  · intro C D I tl ys mC oC oI h tk hC hF hN hoff
    clear hF9 hN9 hb9
    simp only [List.cons_append, List.nil_append] at hN
    show wpAny _ _ _ _ _ _
    k_steps
    exact ⟨_, _, _, _, _, _, rfl, rfl, by assumption, by assumption⟩
  · intro C D I i j t0 tl ys mC oC oI J oJ h tk hi hj hC hx hy hF hN hoff
    clear hF9 hN9 hb9
    obtain ⟨ty, hy⟩ := hy
    simp only [List.cons_append, List.nil_append] at hN
    show wpAny _ _ _ _ _ _
    k_steps
    rename (_ < _ ∧ _ < _ ∧ _ < _ ∧ _ < _ ∧ _ < _ ∧ _ < _ ∧ AllLt _ tl) => hl8
    exact epost_of (add := [_]) (base := [_, _]) (by assumption) (by assumption) hoff (List.forall_mem_cons.mpr ⟨⟨Nat.ne_of_gt hl8.1, Nat.ne_of_gt hl8.2.1, Nat.ne_of_gt hl8.2.2.1, Nat.ne_of_gt hl8.2.2.2.1⟩, fun _ h => nomatch h⟩) (DatIn.tuple (vs := [_, _]) (n := 0) (.tail _ (.tail _ (.head _))) (.cons (.int _ _) (.cons (.int _ _) .nil)))
  · intro D h tk ys tl hF hN hd
    clear hF9 hN9 hb9
    rw [pts_rows] at hd
    simp only [List.cons_append, List.nil_append] at hN hd
    have hyl : ys.toArray.size = 49 := by rw [List.size_toArray, hd.length, List.length_map, pts_len]
    show wpAny _ _ _ _ _ _
    walk1
    walk1
    refine LCp.ListComp_P (F₀ := hF) (by with_unfolding_all rfl) (by decide) rfl (by decide) rfl rfl (by decide) ?_
    walk1
    refine LCp.SrcLP.ledger (news := ((D, lst ys) :: _ :: _ :: tl) ++ []) rfl hF (by rw [List.append_nil]; exact hN) (.head _) (by rw [hyl, sizeLine_eq]; decide) ?_
    intro g2
    rw [hyl]
    refine dat_restP (nEl 0 1) nRel (fun i v hi hv => pts_src hd (fun p hp => .tail _ hp) i v (by rw [hyl]; exact hi) hv) ?_ ?_
    · rintro k v₁ v₂ tl' I oI C oC D' m₂ ys' h' tk' E' hk ⟨p1, p2, t1, t2, rfl, rfl, hp, hb1, hb2, hb3, hb4⟩ hC hx hy hF' hN' hoff hne
      clear hF hN
      simp only [List.cons_append, List.nil_append] at hN'
      show wpAny _ _ _ _ _ _
      k_fold
      k_steps
      rename (_ < _ ∧ _ < _ ∧ _ < _ ∧ _ < _ ∧ _ < _ ∧ _ < _ ∧ AllLt _ (tl ++ tl')) => hl8
      refine CompEnd.intro (by assumption) (by assumption) _ (sub_add (add := [_])) (off_add hoff (List.forall_mem_cons.mpr ⟨⟨Nat.ne_of_gt hl8.1, Nat.ne_of_gt hl8.2.1, Nat.ne_of_gt hl8.2.2.1⟩, fun _ h => nomatch h⟩)) (.inr ⟨_, .head _, rfl, _, rfl⟩) ⟨[_], rfl, ?_⟩
      unfold nEl
      rw [hp]
      exact DatIn.list (vs := [_]) (List.mem_append_right _ (List.mem_append_left _ (.head _))) (.cons (.int _ _) .nil)
    · intro ys' tl' hd'
      intro D2 h2 tk2 F2 N2 o1
      clear hF hN
      dsimp only
      k_steps
      walk_at "M ret"
      rw [← nEl_all]
      exact ⟨_, ys', _, _, rfl, news_out F N hg' N2, .head _, DatAll.mono (fun p hp => .tail _ hp) hd'⟩
set_option maxHeartbeats 8000000 in
theorem c_norms2 : ∀ {w : World} {s : Shared} {h₀ : Heap} {L : Addr} {m mg mb : Str → Option Value} {mean : ExcName → Option Value} {tg : Tok},
  Fr h₀ L s.heap m → (hd.heap_39 w.params).In h₀ → Top hd.view_39 (looseW hd.view_39 [Str.ofString "Whitespace"]) mean mg mb h₀ →
  codeAny (model Challenge.rw_pk0076_01.row.prog w) (roomA 500 500) (.call (.ref 125) ⟨[.int 2 tg], []⟩)
    (Ret s fun v h' => ∃ l us q tl, v = .ref l ∧ News h₀ L h' tl ∧ (l, W.listOf us.toArray q) ∈ tl ∧ DatAll tl us ((pts.map (nrm 1 2)).map one)) s := by
  k_fill
  intro w s h₀ L m mg mb mean tg F X T
  have N : News h₀ L s.heap [] := fun _ h => nomatch h
  w_on
  w_top on
  refine' enter_defC (binds := [(Str.ofString "grid", .int 2 tg)]) ?k2 ?k4 ?k3 ?k5 ?k6 ?k7 ?k8 ?k9 ?kB ?kD ?_ ?c2 ?c3 ?c4
  walk_at "M enterC"
  intro g' L' h' tk' cells' hg' hL' hl' F' N' Y' X' T'
  k_cells Y'
  simp only [List.cons_append, List.nil_append] at N'
  show wpAny _ _ _ _ _ _
  k_fold
  k_steps
  rename Fr _ _ _ _ => hF9
  rename News g' _ _ _ => hN9
  (try dsimp only at hF9); (try dsimp only at hN9)
  have hb9 : News g' L' _ [_, _] := News.perm hN9 (fun p hp => .tail _ (.tail _ (.tail _ (.tail _ hp))))
  refine Assign_nested (n0 := 7) (n1 := 7) hF9 hb9 rfl (by decide) (by decide) rfl (by with_unfolding_all rfl) (by with_unfolding_all rfl) (by decide) rfl (by decide) rfl rfl (by decide) rfl rfl ptEl ?_ ?_ ?_ ?_
  · clear hN9
    k_steps
    exact ⟨_, _, _, _, _, _, rfl, rfl, by assumption, by assumption, by assumption⟩
  · intro C D I tl ys mC oC oI h tk hC hF hN hoff
    clear hF9 hN9 hb9
    simp only [List.cons_append, List.nil_append] at hN
    show wpAny _ _ _ _ _ _
    k_steps
    exact ⟨_, _, _, _, _, _, rfl, rfl, by assumption, by assumption⟩
  · intro C D I i j t0 tl ys mC oC oI J oJ h tk hi hj hC hx hy hF hN hoff
    clear hF9 hN9 hb9
    obtain ⟨ty, hy⟩ := hy
    simp only [List.cons_append, List.nil_append] at hN
    show wpAny _ _ _ _ _ _
    k_steps
    rename (_ < _ ∧ _ < _ ∧ _ < _ ∧ _ < _ ∧ _ < _ ∧ _ < _ ∧ AllLt _ tl) => hl8
    exact epost_of (add := [_]) (base := [_, _]) (by assumption) (by assumption) hoff (List.forall_mem_cons.mpr ⟨⟨Nat.ne_of_gt hl8.1, Nat.ne_of_gt hl8.2.1, Nat.ne_of_gt hl8.2.2.1, Nat.ne_of_gt hl8.2.2.2.1⟩, fun _ h => nomatch h⟩) (DatIn.tuple (vs := [_, _]) (n := 0) (.tail _ (.tail _ (.head _))) (.cons (.int _ _) (.cons (.int _ _) .nil)))
  · intro D h tk ys tl hF hN hd
    clear hF9 hN9 hb9
    rw [pts_rows] at hd
    simp only [List.cons_append, List.nil_append] at hN hd
    have hyl : ys.toArray.size = 49 := by rw [List.size_toArray, hd.length, List.length_map, pts_len]
    show wpAny _ _ _ _ _ _
    walk1
    walk1
    refine LCp.ListComp_P (F₀ := hF) (by with_unfolding_all rfl) (by decide) rfl (by decide) rfl rfl (by decide) ?_
    walk1
    refine LCp.SrcLP.ledger (news := ((D, lst ys) :: _ :: _ :: tl) ++ []) rfl hF (by rw [List.append_nil]; exact hN) (.head _) (by rw [hyl, sizeLine_eq]; decide) ?_
    intro g2
    rw [hyl]
    refine dat_restP (nEl 1 2) nRel (fun i v hi hv => pts_src hd (fun p hp => .tail _ hp) i v (by rw [hyl]; exact hi) hv) ?_ ?_
    · rintro k v₁ v₂ tl' I oI C oC D' m₂ ys' h' tk' E' hk ⟨p1, p2, t1, t2, rfl, rfl, hp, hb1, hb2, hb3, hb4⟩ hC hx hy hF' hN' hoff hne
      clear hF hN
      simp only [List.cons_append, List.nil_append] at hN'
      show wpAny _ _ _ _ _ _
      k_fold
      k_steps
      rename (_ < _ ∧ _ < _ ∧ _ < _ ∧ _ < _ ∧ _ < _ ∧ _ < _ ∧ AllLt _ (tl ++ tl')) => hl8
      refine CompEnd.intro (by assumption) (by assumption) _ (sub_add (add := [_])) (off_add hoff (List.forall_mem_cons.mpr ⟨⟨Nat.ne_of_gt hl8.1, Nat.ne_of_gt hl8.2.1, Nat.ne_of_gt hl8.2.2.1⟩, fun _ h => nomatch h⟩)) (.inr ⟨_, .head _, rfl, _, rfl⟩) ⟨[_], rfl, ?_⟩
      unfold nEl
      rw [hp]
      exact DatIn.list (vs := [_]) (List.mem_append_right _ (List.mem_append_left _ (.head _))) (.cons (.int _ _) .nil)
    · intro ys' tl' hd'
      intro D2 h2 tk2 F2 N2 o1
      clear hF hN
      dsimp only
      k_steps
      walk_at "M ret"
      rw [← nEl_all]
      exact ⟨_, ys', _, _, rfl, news_out F N hg' N2, .head _, DatAll.mono (fun p hp => .tail _ hp) hd'⟩
end -- C8
section -- C10
open LCg LCp
theorem datAll_up {a b : List (Addr × Obj)} {vs : List Value} {ds : List Dat} (h : DatAll a vs ds) (hs : ∀ p ∈ a, p ∈ b) : DatAll b vs ds := DatAll.mono hs h
local macro_rules | `(tactic| mul_fits) => `(tactic| (rename ∀ (i : Nat) (y : Int), IntMulOk (List.getD _ i 0) y => hB9; exact hB9 _ _))
local macro_rules | `(tactic| walk_at "call ref") => `(tactic| (k_here; (try dsimp only [List.nil_append, List.cons_append]); first
  | ((with_reducible show wpAny _ _ (call (Value.ref 28) _) _ _ _); refine' use_ret (by k_asm) (by k_asm) ?h1 ?h2 ?h3 (c_add (by k_asm) (by assumption) (by assumption)) ?_)
  | ((with_reducible show wpAny _ _ (call (Value.ref 42) _) _ _ _); refine' use_ret (by k_asm) (by k_asm) ?h1 ?h2 ?h3 (c_sub (by k_asm) (by assumption) (by assumption)) ?_)
  | ((with_reducible show wpAny _ _ (call (Value.ref 35) _) _ _ _); refine' use_ret (by k_asm) (by k_asm) ?h1 ?h2 ?h3 (c_mul (by k_asm) (by assumption) (by assumption) (by mul_fits)) ?_)); (case h1 => rfl); (case h2 => exact Nat.le_of_ble_eq_true rfl); (case h3 => exact Nat.le_of_ble_eq_true rfl); intro v' h' tk' F' N' st' hv'; obtain ⟨t', hv'⟩ := hv'; subst hv'; (try k_sweep))
theorem append_head {prog : Program} {w : World} {A : Around} {E : Value → Shared → Prop} {s : Shared} {h₀ : Heap} {L d : Addr} {m : Str → Option Value} {rest : List (Addr × Obj)} {ws : List Value} {qd : Nat} {x : Value} {Q : Value → Shared → Prop}
    (F : Fr h₀ L s.heap m) (N : News h₀ L s.heap ((d, W.listOf ws.toArray qd) :: rest)) (hne : ∀ p ∈ rest, p.1 ≠ d) (hsz : ws.length ≤ 1000)
    (h : ∀ h', Fr h₀ L h' m → News h₀ L h' ((d, W.listOf (ws ++ [x]).toArray (qd + 1)) :: rest) → Q .none { s with heap := h' }) : wpAny (model prog w) A (call (.builtin "list.append") [.ref d, x]) Q E s := by
  have z := N (d, W.listOf ws.toArray qd) (.head _)
  refine append_at (hsz := by rw [List.size_toArray, sizeLine_eq]; omega) z.1 fun h' hs hd => ?_
  refine h h' (F.change hs z.2.1 z.2.2) fun p hp => ?_
  rcases List.mem_cons.mp hp with rfl | hp
  · refine ⟨hd.trans ?_, z.2⟩
    rw [List.push_toArray]
  · have y := N p (.tail _ hp)
    exact ⟨hs.extBut _ _ (hne p hp) y.1, y.2⟩
def discsTo (fd : List Int) (n : Nat) : List Int := (List.range n).map fun k => (fd.take (k + 1)).sum
theorem discs_len (fd : List Int) (n : Nat) : (discsTo fd n).length = n := by unfold discsTo; rw [List.length_map, List.length_range]
theorem discs_one {fd : List Int} (h : fd.length = 12) : fd.take 1 = discsTo fd 1 := by
  cases fd with
  | nil => cases h
  | cons a r => simp [discsTo]
theorem discs_next {fd : List Int} {i : Nat} (h : i + 1 < fd.length) : discsTo fd (i + 1) ++ [(discsTo fd (i + 1)).getD i 0 + fd.getD (i + 1) 0] = discsTo fd (i + 1 + 1) := by
  have e1 : (discsTo fd (i + 1)).getD i 0 = (fd.take (i + 1)).sum := by
    unfold discsTo
    rw [List.getD_eq_getElem?_getD, List.getElem?_map, List.getElem?_range (Nat.lt_succ_self i)]
    rfl
  have e2 : (fd.take (i + 1 + 1)).sum = (fd.take (i + 1)).sum + fd.getD (i + 1) 0 := by
    rw [List.take_add_one, List.sum_append, List.getD_eq_getElem?_getD, List.getElem?_eq_getElem h]
    simp
  rw [e1, ← e2]
  unfold discsTo
  rw [List.range_succ (n := i + 1), List.map_append]
  rfl
def discOf (ds : List Int) (z : Int) : Int := ds.getD z.toNat 0
def coupTo (fd ds : List Int) (z : Int) (n : Nat) : Int := ((List.range n).map fun (f : Nat) => fd.getD f 0 * ds.getD (z - (f : Int)).toNat 0).sum
def coupOf (fd ds : List Int) (z : Int) : Int := coupTo fd ds z (z + 1).toNat
def fdOf (nums : List Int) : List Int := (rangeKs 0 12).map (cnt nums)
def sumP (nums rows : List Int) : Int := (rows.map (discOf (discsTo (fdOf nums) 12))).sum
def sumC (nums rows : List Int) : Int := (rows.map (coupOf (fdOf nums) (discsTo (fdOf nums) 12))).sum
theorem ints_at {vs : List Value} {ns : List Int} {i : Nat} {v : Value} (h : IntsAre vs ns) (hv : vs[i]? = some v) : ∃ z t, ns[i]? = some z ∧ v = .int z t := by
  induction h generalizing i with
  | nil => cases hv
  | cons n t _ ih =>
    cases i with
    | zero => cases hv; exact ⟨n, t, rfl, rfl⟩
    | succ i => exact ih hv
theorem coup_next {fd ds : List Int} {z : Int} {j : Nat} : coupTo fd ds z j + fd.getD ((0 : Int) + (j : Int)).toNat 0 * ds.getD (z - ((0 : Int) + (j : Int))).toNat 0 = coupTo fd ds z (j + 1) := by
  unfold coupTo
  rw [List.range_succ, List.map_append, List.sum_append]
  simp
theorem cnt_fits {nums : List Int} (hn : nums.length ≤ 100) (i : Nat) (y : Int) : IntMulOk (List.getD ((rangeKs 0 12).map (cnt nums)) i 0) y := by
  have hb : 0 ≤ List.getD ((rangeKs 0 12).map (cnt nums)) i 0 ∧ List.getD ((rangeKs 0 12).map (cnt nums)) i 0 ≤ 100 := by
    rw [List.getD_eq_getElem?_getD, List.getElem?_map]
    cases (rangeKs 0 12)[i]? with
    | none => exact ⟨Int.le_refl 0, (by decide : (0 : Int) ≤ 100)⟩
    | some z =>
      show 0 ≤ cnt nums z ∧ cnt nums z ≤ 100
      unfold cnt
      have := List.length_filter_le (fun n => decide (n = z)) nums
      omega
  exact IntMulOk.of_left (intBits_le_64 (by omega) (by omega))
theorem small12 {z : Int} (h0 : 0 ≤ z) (h1 : z ≤ 11) : Builtin.Range.small 0 (z + 1) 1 = true ∧ Builtin.Range.rangeSize 0 (z + 1) 1 = ((z + 1).toNat : Int) := by
  obtain ⟨n, rfl⟩ := Int.eq_ofNat_of_zero_le h0
  have h2 : n ≤ 11 := by omega
  clear h0 h1
  match n, h2 with
  | 0, _ => decide
  | 1, _ => decide
  | 2, _ => decide
  | 3, _ => decide
  | 4, _ => decide
  | 5, _ => decide
  | 6, _ => decide
  | 7, _ => decide
  | 8, _ => decide
  | 9, _ => decide
  | 10, _ => decide
  | 11, _ => decide
  | n + 12, h => omega
local macro_rules | `(tactic| walk_at "call ref") => `(tactic| (k_here; (try dsimp only [List.nil_append, List.cons_append]); (with_reducible show wpAny _ _ (call (Value.ref 49) _) _ _ _); refine' use_ret (by k_asm) (by k_asm) ?h1 ?h2 ?h3 (c_countOf (by k_asm) (by k_asm) (by k_mem) (datAll_up (by assumption) (by walk_at "M sub")) (by k_mem) (by assumption) (by assumption) (by assumption)) ?_; (case h1 => rfl); (case h2 => exact Nat.le_of_ble_eq_true rfl); (case h3 => exact Nat.le_of_ble_eq_true rfl); intro v' h' tk' F' N' st' hv'; obtain ⟨t', hv'⟩ := hv'; subst hv'; (try k_sweep)))
local macro_rules | `(tactic| walk_at "M ps") => `(tactic| (repeat (first | exact List.forall_mem_nil _ | refine List.forall_mem_cons.mpr ⟨rfl, ?_⟩)))
local macro_rules | `(tactic| walk_at "M rest") => `(tactic| first
  | (intro z9 hz9 hps9; (have h1 : z9 ≠ Str.ofString "couples" := hps9 _ (.head _)); simp only [kstB, if_neg h1, if_neg hz9]; done)
  | (intro z9 hps9 hfg9; (have h1 : z9 ≠ Str.ofString "points" := hps9 _ (.head _)); (have h2 : z9 ≠ Str.ofString "couples" := hps9 _ (.tail _ (.head _))); (have h3 : z9 ≠ Str.ofString "row" := (fun e => by rw [e] at hfg9; cases hfg9)); (have h4 : z9 ≠ Str.ofString "far" := (fun e => by rw [e] at hfg9; cases hfg9)); simp only [kstB, if_neg h1, if_neg h2, if_neg h3, if_neg h4, hfg9, Bool.false_eq_true, if_false]; done))
set_option maxHeartbeats 8000000 in
theorem c_counted : ∀ {w : World} {s : Shared} {h₀ : Heap} {L : Addr} {news : List (Addr × Obj)} {m mg mb : Str → Option Value} {mean : ExcName → Option Value}
  {l r : Addr} {vs rvs : List Value} {nums rows : List Int} {q qr : Nat},
  Fr h₀ L s.heap m → News h₀ L s.heap news → (l, W.listOf vs.toArray q) ∈ news → DatAll news vs (nums.map one) → (r, W.listOf rvs.toArray qr) ∈ news → IntsAre rvs rows → (∀ z ∈ rows, 0 ≤ z ∧ z ≤ 11) → rows.length ≤ 100 → nums.length ≤ 100 →
  (hd.heap_39 w.params).In h₀ → Top hd.view_39 (looseW hd.view_39 [Str.ofString "Whitespace"]) mean mg mb h₀ →
  codeAny (model Challenge.rw_pk0076_01.row.prog w) (roomA 450 400) (.call (.ref 130) ⟨[.ref l, .ref r], []⟩)
    (Ret s fun v h' => ∃ l' t1 t2 q', v = .ref l' ∧ News h₀ L h' [(l', W.listOf #[.int (sumP nums rows) t1, .int (sumC nums rows) t2] q')]) s := by
  k_fill
  intro w s h₀ L news m mg mb mean l r vs rvs nums rows q qr F N₀ m1 hdat m2 hrv hrows hrl hnl X T
  have hat : ∀ {i : Nat} {v : Value}, rvs[i]? = some v → ∃ z t, rows[i]? = some z ∧ v = .int z t := fun hv => ints_at hrv hv
  have hrvl : rvs.length = rows.length := hrv.length
  have N : News h₀ L s.heap ((l, W.listOf vs.toArray q) :: (r, W.listOf rvs.toArray qr) :: news) := news_cons (news_cons N₀ m2) (.tail _ m1)
  w_on
  w_top on
  refine' enter_defC (binds := [(Str.ofString "norms", .ref l), (Str.ofString "rows", .ref r)]) ?k2 ?k4 ?k3 ?k5 ?k6 ?k7 ?k8 ?k9 ?kB ?kD ?_ ?c2 ?c3 ?c4
  walk_at "M enterC"
  intro g' L' h' tk' cells' hg' hL' hl' F' N' Y' X' T'
  k_cells Y'
  simp only [List.cons_append, List.nil_append] at N'
  show wpAny _ _ _ _ _ _
  k_fold
  walk1
  refine LCg.Assign_ListComp_U (F₀ := F') rfl (by with_unfolding_all rfl) (by with_unfolding_all rfl) (by decide) rfl (by decide) rfl rfl rfl ?_
  iterate 7 walk1
  refine LCg.CompSrc.range (by rfl) (by k_asm) (by k_asm) (by assumption) (by decide) (n := 12) (by rfl) (by exact Nat.le_of_ble_eq_true rfl) ?_
  intro g2
  refine kcf_range (cnt nums) (fun k t I oI C oC D m₂ ys h tk E' hlo hhi hC hx hF hN hoff hne hmk => ?_) ?_
  · (try clear N'); (try clear F')
    show wpAny _ _ _ _ _ _
    k_fold
    k_steps
  · intro fs hfs
    intro D h tk hF hN o1
    (try clear N'); (try clear F')
    have hfd : ((rangeKs 0 12).map (cnt nums)).length = 12 := by rw [List.length_map, rangeKs_length]
    have hfb : ∀ (i : Nat) (y : Int), IntMulOk (List.getD ((rangeKs 0 12).map (cnt nums)) i 0) y := cnt_fits hnl
    generalize hfde : (rangeKs 0 12).map (cnt nums) = fd at hfs hfd hfb
    have hfl : fs.length = 12 := by rw [hfs.length, hfd]
    show wpAny _ _ _ _ _ _
    repeat ((fail_if_success (with_reducible show wpAny _ _ (pyIter _) _ _ _)); walk1)
    rename Fr g' _ _ _ => hF1
    rename News g' _ _ _ => hN1
    rename IsRange _ _ 1 12 1 _ _ _ => hr1
    rename IntsAre _ (List.take 1 fd) => hw1
    rename (D < _ ∧ _ < _ ∧ _ < _ ∧ _ < _ ∧ AllLt _ news) => hl1
    have hlA := hl1.2.2.2.2
    have hlD := And.intro hl1.1 (And.intro hl1.2.1 (And.intro hl1.2.2.1 hl1.2.2.2.1))
    (try dsimp only at hF1); (try dsimp only at hN1)
    (try clear hF); (try clear hN)
    refine range_loop (σ := List Value × List Int × Nat) (n := 11) (fun S => (_, W.listOf S.1.toArray S.2.2) :: (D, lst fs) :: (L' + 1, _) :: (l, W.listOf vs.toArray q) :: (r, W.listOf rvs.toArray qr) :: news) (fun _ => []) (fun i S => IntsAre S.1 S.2.1 ∧ S.2.1 = discsTo fd (i + 1)) (_, fd.take 1, 0) rfl hr1 (by decide) (by rfl) hF1 hN1 rfl (fun _ h => nomatch h) ⟨hw1, discs_one hfd⟩ ?_ ?_
    · rintro ⟨ws, ds, qd⟩ i t h tk own hi hoff ⟨hws, hds⟩ hF hN
      dsimp only [kstB] at hws hds hF hN hoff
      simp only [List.cons_append] at hN
      simp only [List.map_cons] at hoff
      have hwl : ws.length = i + 1 := by rw [hws.length, hds, discs_len]
      have hdl : ds.length = i + 1 := by rw [hds, discs_len]
      clear hF1 hN1
      show wpAny _ _ _ _ _ _
      k_fold
      k_steps
      refine append_head (by assumption) (by assumption) ?_ (by omega) ?_
      · have hA := kst_ltOf hlA
        intro p hp
        rcases List.mem_cons.mp hp with rfl | hp
        · exact Nat.ne_of_lt hlD.1
        rcases List.mem_cons.mp hp with rfl | hp
        · exact Nat.ne_of_lt hlD.2.1
        rcases List.mem_cons.mp hp with rfl | hp
        · exact Nat.ne_of_lt hlD.2.2.1
        rcases List.mem_cons.mp hp with rfl | hp
        · exact Nat.ne_of_lt hlD.2.2.2
        rcases List.mem_append.mp hp with hp | hp
        · exact Nat.ne_of_lt (hA p hp)
        · exact hoff p hp _ (.head _)
      intro h9 hF9 hN9
      k_steps
      refine InvEndG.intro hF9 hN9 ⟨(_, _, _), rfl, (fun _ h => nomatch h), (fun z hz _ => if_neg hz), IntsAre.append hws (.cons _ _ .nil), ?_⟩ (by simp only [List.map_cons]; exact hoff) (fun p hp => List.mem_append_left own hp) (by walk_at "M sub")
      have e1 : ((1 : Int) + (i : Int) - 1).toNat = i := by omega
      have e2 : ((1 : Int) + (i : Int)).toNat = i + 1 := by omega
      dsimp only
      rw [e1, e2, hds]
      exact discs_next (by omega)
    · rintro ⟨ws, ds, qd⟩ u h tk ⟨hws, hds⟩ hF hN
      dsimp only [kstB] at hws hds hF hN ⊢
      have hdl : ds.length = 12 := by rw [hds, discs_len]
      have hwl : ws.length = 12 := by rw [hws.length, hdl]
      clear hF1 hN1 hr1 hw1
      repeat ((fail_if_success (with_reducible show wpAny _ _ (pyIter _) _ _ _)); walk1)
      refine For_invV g' rfl rfl ?_
      walk1
      rename Fr g' _ _ _ => hF2
      rename News g' _ _ _ => hN2
      (try dsimp only at hF2); (try dsimp only at hN2)
      refine list_loopF (l := r) (vs := rvs) (nn := qr) (σ := Int × Int × Tok × Tok) (fun _ => _) (fun S => [(Str.ofString "points", .int S.1 S.2.2.1), (Str.ofString "couples", .int S.2.1 S.2.2.2)]) [Str.ofString "row", Str.ofString "far"]
        (fun i S => S.1 = ((rows.take i).map (discOf ds)).sum ∧ S.2.1 = ((rows.take i).map (coupOf fd ds)).sum) (0, 0, _, _) rfl (fun _ => ?_) hF2 hN2 rfl (List.forall_mem_cons.mpr ⟨rfl, List.forall_mem_cons.mpr ⟨rfl, fun _ h => nomatch h⟩⟩) ⟨rfl, rfl⟩ ?_ ?_
      · k_mem
      · rintro ⟨po, co, tp, tc⟩ i v uu h tk own hv hoff ⟨hP1, hP2⟩ hF hN
        obtain ⟨z, tz, hz, rfl⟩ := hat hv
        have hzb := hrows z (List.mem_of_getElem? hz)
        obtain ⟨hz0, hz1⟩ := hzb
        dsimp only at hP1 hP2 hF hN hoff
        simp only [List.cons_append] at hN
        clear hF2 hN2
        show wpAny _ _ _ _ _ _
        k_fold
        repeat ((fail_if_success (with_reducible show wpAny _ _ (pyIter _) _ _ _)); walk1)
        rename Fr g' _ _ _ => hF3
        rename News g' _ _ _ => hN3
        rename IsRange _ _ 0 (z + 1) 1 _ _ _ => hr3
        (try dsimp only at hF3); (try dsimp only at hN3)
        refine range_loop (σ := Int × Tok) (n := (z + 1).toNat) (fun _ => _) (fun S => [(Str.ofString "couples", .int S.1 S.2)]) (fun j S => S.1 = co + coupTo fd ds z j) (co, tc) rfl hr3 (small12 hz0 hz1).1 (small12 hz0 hz1).2 hF3 hN3 rfl (List.forall_mem_cons.mpr ⟨rfl, fun _ h => nomatch h⟩) ?_ ?_ ?_
        · exact (Int.add_zero co).symm
        · rintro ⟨cx, tx⟩ j t h tk own2 hj hoff2 hP3 hF hN
          dsimp only at hP3 hF hN hoff2
          simp only [List.cons_append] at hN
          clear hF3 hN3
          show wpAny _ _ _ _ _ _
          k_fold
          k_steps
          refine InvEndG.intro (by assumption) (by assumption) ⟨(_, _), rfl, by walk_at "M ps", by walk_at "M rest", ?_⟩ hoff2 (by walk_at "M sub") (by walk_at "M sub")
          dsimp only
          rw [hP3, Int.add_assoc]
          exact congrArg (co + ·) coup_next
        · rintro ⟨cx, tx⟩ u h tk hP3 hF hN
          dsimp only at hP3 hF hN ⊢
          clear hF3 hN3
          k_steps
          refine InvEndG.intro (by assumption) (by assumption) ⟨(_, _, _, _), rfl, by walk_at "M ps", by walk_at "M rest", ?_⟩ hoff (by walk_at "M sub") (by walk_at "M sub")
          dsimp only
          rw [List.take_add_one, hz]
          simp only [Option.toList, List.map_append, List.map_cons, List.map_nil, List.sum_append, List.sum_cons, List.sum_nil, Int.add_zero]
          exact ⟨congrArg (· + discOf ds z) hP1, hP3.trans (congrArg (· + coupOf fd ds z) hP2)⟩
      · rintro ⟨po, co, tp, tc⟩ uu h tk ⟨hP1, hP2⟩ hF hN
        dsimp only at hP1 hP2 hF hN ⊢
        clear hF2 hN2
        k_steps
        walk_at "M ret"
        rename News g' _ _ _ => hNE
        rw [hrvl, List.take_length] at hP1 hP2
        subst hds hfde
        have e1 : sumP nums rows = po := hP1.symm
        have e2 : sumC nums rows = co := hP2.symm
        rw [e1, e2]
        exact ⟨_, _, _, _, rfl, news_out F N hg' (News.perm hNE (List.forall_mem_cons.mpr ⟨.head _, fun _ h => nomatch h⟩))⟩
end -- C10
section -- EL
section
variable {prog : Program} {w : World} {A : Around} {s : Shared} {K : Frag}
  {R : Result → Shared → Prop} {name qual : Str} {params : Arguments} {body : List Stmt} {scope : Scope} {dV kV doc pm cdv ct oc : Value} {an od : Option Addr} {osl : Array (Option Value)} {f : Addr} {args : Args} {binds : List (Str × Value)}
  {p : Program} {loose : List Str} {mean : ExcName → Option Value} {mg mb : Str → Option Value}
/-- entering a def with cells where no caller's frame is at hand -/
theorem enter_lawC (X₀ : K.In s.heap) (T : Top p loose mean mg mb s.heap)
    (ho : K.lookup f = some ⟨oc, od, .func (fnOf name qual params body scope dV kV doc pm an cdv ct), osl⟩) (hcd : codeIn K cdv qual = true) (hroom : A.depth < recursionLimit)
    (hbind : BindsTo s (fnOf name qual params body scope dV kV doc pm an cdv ct) args binds) (hkind : (binds.all fun y => scope.names.lookup y.1 == some .local || scope.names.lookup y.1 == some .cell) = true)
    (hnd : ((cellsFrom 0 scope.names []).map (·.1)).Nodup)
    (h : ∀ g L' h₁ tk cells, g = s.heap → L' = s.heap.objs.size → Fr g L' h₁ (bindL (envOfC qual scope L' f cdv).kindOf binds fun _ => none) → News g L' h₁ cells →
      CellsAre (bindC (envOfC qual scope L' f cdv).kindOf binds fun _ => none) (cellsFrom (L' + 1) scope.names []) cells → K.In g → Top p loose mean mg mb g →
      wpAny (model prog w) (A.deeper (envOfC qual scope L' f cdv)) (execs body (envOfC qual scope L' f cdv)) (fun fl s' => R (.ok (.ret (match fl with | .ret v => v | _ => .none))) s') (fun _ _ => False) { s with heap := h₁, toks := tk })
    (hco : scope.isCoroutine = false) (hgen : scope.isGenerator = false) (hk : scope.kind = .function) : codeAny (model prog w) A (.call (.ref f) args) R s :=
  enter_cells X₀ T.nolimit ho hcd hroom hbind hkind hnd (fun h₁ tk cells hg hn hc hA => h _ _ h₁ tk cells rfl rfl ⟨hn, hg, Nat.le_refl _⟩ hc hA X₀ T) hco hgen hk
end
end -- EL
section -- TX
def bar (k : Int) : Str := Txt.mul (Str.ofString " ") k ++ Str.ofString "\t"
def barN (k : Int) : List Nat := List.replicate k.toNat 32 ++ [9]
theorem bar_all {k : Int} (h0 : 0 ≤ k) (h1 : k ≤ 11) : (Txt.mul (Str.ofString " ") k).length ≤ 11 ∧ (bar k).length ≤ 12 ∧ (bar k).cps.toList = barN k := by
  obtain ⟨n, rfl⟩ := Int.eq_ofNat_of_zero_le h0
  have h2 : n ≤ 11 := by omega
  clear h0 h1
  match n, h2 with
  | 0, _ => decide +kernel
  | 1, _ => decide +kernel
  | 2, _ => decide +kernel
  | 3, _ => decide +kernel
  | 4, _ => decide +kernel
  | 5, _ => decide +kernel
  | 6, _ => decide +kernel
  | 7, _ => decide +kernel
  | 8, _ => decide +kernel
  | 9, _ => decide +kernel
  | 10, _ => decide +kernel
  | 11, _ => decide +kernel
  | n + 12, h => omega
theorem join_cps : ∀ (l : List Str), (Txt.join (Str.ofString "") l).cps.toList = (l.map fun a => a.cps.toList).flatten := by
  intro l
  show (Builtin.Str.glued (Str.ofString "") l).cps.toList = _
  rw [StrLaws.glued_eq_join]
  induction l with
  | nil => rfl
  | cons a r ih =>
    cases r with
    | nil => simp [Str.join]
    | cons b r =>
      show (a ++ Str.ofString "" ++ Str.join (Str.ofString "") (b :: r)).cps.toList = _
      rw [cps_toList_append, cps_toList_append, ih]
      have e : (Str.ofString "").cps.toList = [] := by decide
      rw [e, List.append_nil]
      rfl
def pre5 (ps : List Int) : List Nat := (ps.map barN).flatten
theorem line_cps {ps : List Int} (hb : ∀ p ∈ ps, 0 ≤ p ∧ p ≤ 11) : (Txt.join (Str.ofString "") (ps.map bar)).cps.toList = pre5 ps := by
  rw [join_cps, List.map_map]
  unfold pre5
  congr 1
  refine List.map_congr_left fun p hp => ?_
  exact (bar_all (hb p hp).1 (hb p hp).2).2.2
theorem pre5_len : ∀ {ps : List Int}, (∀ p ∈ ps, 0 ≤ p ∧ p ≤ 11) → (pre5 ps).length ≤ 12 * ps.length
  | [], _ => Nat.le_refl _
  | p :: r, h => by
    have ih := pre5_len (ps := r) fun q hq => h q (.tail _ hq)
    have hp := h p (.head _)
    unfold pre5 at ih ⊢
    rw [List.map_cons, List.flatten_cons, List.length_append, List.length_cons]
    have : (barN p).length = p.toNat + 1 := by unfold barN; simp
    omega
theorem line_len {ps : List Int} (h5 : ps.length = 5) (hb : ∀ p ∈ ps, 0 ≤ p ∧ p ≤ 11) : (Txt.join (Str.ofString "") (ps.map bar)).length ≤ 60 := by
  have h := pre5_len hb
  rw [← line_cps hb, h5] at h
  exact h
theorem pre5_signs {ps : List Int} : ∀ c ∈ pre5 ps, c = 32 ∨ c = 9 := by
  intro c hc
  unfold pre5 at hc
  obtain ⟨l, hl, hm⟩ := List.mem_flatten.mp hc
  obtain ⟨p, _, rfl⟩ := List.mem_map.mp hl
  rcases List.mem_append.mp hm with h | h
  · exact .inl (List.eq_of_mem_replicate h)
  · exact .inr (List.mem_singleton.mp h)
theorem line_all {ps : List Int} (hb : ∀ p ∈ ps, 0 ≤ p ∧ p ≤ 11) : (Txt.join (Str.ofString "") (ps.map bar) ++ Str.ofString "x \t").cps.toList = pre5 ps ++ 120 :: [32, 9] := by
  rw [cps_toList_append, line_cps hb]
  congr 1
theorem line_allLen {ps : List Int} (h5 : ps.length = 5) (hb : ∀ p ∈ ps, 0 ≤ p ∧ p ≤ 11) : (Txt.join (Str.ofString "") (ps.map bar) ++ Str.ofString "x \t").cps.size ≤ 200 := by
  have h := congrArg List.length (line_all hb)
  have h2 := pre5_len hb
  rw [Array.length_toList, List.length_append] at h
  simp only [List.length_cons, List.length_nil] at h
  omega
end -- TX
section -- PL
/-- a list's weighted sum -/
def wsum (f : Nat → Int) (ns : List Int) : Int := ((List.range ns.length).map fun i => f i * ns.getD i 0).sum
theorem wsum_cons (f : Nat → Int) (a : Int) (r : List Int) : wsum f (a :: r) = f 0 * a + wsum (fun i => f (i + 1)) r := by
  unfold wsum
  rw [List.length_cons, List.range_succ_eq_map, List.map_cons, List.sum_cons, List.map_map]
  rfl
theorem wsum_zeros : ∀ (k : Nat) (f : Nat → Int), wsum f (List.replicate k 0) = 0
  | 0, _ => rfl
  | k + 1, f => by
    rw [List.replicate_succ, wsum_cons, wsum_zeros k]
    omega
theorem wsum_pad (k : Nat) : ∀ (ns : List Int) (f : Nat → Int), wsum f (ns ++ List.replicate k 0) = wsum f ns
  | [], f => wsum_zeros k f
  | a :: r, f => by
    rw [List.cons_append, wsum_cons, wsum_cons, wsum_pad k r]
theorem wsum_set : ∀ (ns : List Int) (p : Nat) (f : Nat → Int), p < ns.length → wsum f (ns.set p (ns.getD p 0 + 1)) = wsum f ns + f p
  | [], p, f, h => by cases h
  | a :: r, 0, f, h => by
    simp only [List.set_cons_zero, List.getD_cons_zero, wsum_cons]
    rw [Int.mul_add, Int.mul_one]
    omega
  | a :: r, p + 1, f, h => by
    have ih := wsum_set r p (fun i => f (i + 1)) (by simpa using h)
    simp only [List.set_cons_succ, List.getD_cons_succ, wsum_cons]
    rw [ih]
    omega
def bump (ns : List Int) (p : Int) : List Int := (grow ns p).set p.toNat ((grow ns p).getD p.toNat 0 + 1)
theorem grow_size {ns : List Int} {p : Int} (h : 0 ≤ p) : ((grow ns p).length : Int) = max (ns.length : Int) (p + 1) := by
  unfold grow
  split
  · rw [List.length_append, List.length_replicate]
    omega
  · omega
theorem bump_len {ns : List Int} {p : Int} (h : 0 ≤ p) : ((bump ns p).length : Int) = max (ns.length : Int) (p + 1) := by
  unfold bump
  rw [List.length_set, grow_size h]
theorem wsum_grow (ns : List Int) (p : Int) (f : Nat → Int) : wsum f (grow ns p) = wsum f ns := by
  unfold grow
  split
  · exact wsum_pad _ _ _
  · rfl
theorem wsum_bump {ns : List Int} {p : Int} (h : 0 ≤ p) (f : Nat → Int) : wsum f (bump ns p) = wsum f ns + f p.toNat := by
  unfold bump
  rw [wsum_set, wsum_grow]
  have := grow_size (ns := ns) h
  omega
theorem fold_blanks : ∀ (k : Nat) (S : WSt), (List.replicate k 32).foldl stepW S = { S with b := S.b + k, n := S.n + k }
  | 0, S => by simp
  | k + 1, S => by
    rw [List.replicate_succ, List.foldl_cons, fold_blanks k]
    simp only [stepW, if_true]
    congr 1 <;> omega
theorem fold_bar {p : Int} (h : 0 ≤ p) (ns : List Int) (n nt : Int) : (barN p).foldl stepW ⟨ns, 0, n, nt⟩ = ⟨bump ns p, 0, n + p + 1, nt + 1⟩ := by
  unfold barN
  rw [List.foldl_append, fold_blanks]
  have e : (0 : Int) + (p.toNat : Int) = p := by omega
  have e2 : n + (p.toNat : Int) = n + p := by omega
  simp only [List.foldl_cons, List.foldl_nil, stepW]
  rw [if_neg (by decide)]
  simp only [e, e2]
  rfl
theorem fold_bars : ∀ (ps : List Int), (∀ p ∈ ps, 0 ≤ p) → ∀ (ns : List Int) (n nt : Int), ∃ n', (pre5 ps).foldl stepW ⟨ns, 0, n, nt⟩ = ⟨ps.foldl bump ns, 0, n', nt + ps.length⟩
  | [], _, ns, n, nt => ⟨n, by simp [pre5]⟩
  | p :: r, h, ns, n, nt => by
    obtain ⟨n', ih⟩ := fold_bars r (fun q hq => h q (.tail _ hq)) (bump ns p) (n + p + 1) (nt + 1)
    refine ⟨n', ?_⟩
    unfold pre5 at ih ⊢
    rw [List.map_cons, List.flatten_cons, List.foldl_append, fold_bar (h p (.head _)), ih, List.foldl_cons, List.length_cons]
    congr 1
    omega
def mxOf (ps : List Int) : Int := ps.foldl (fun l p => max l (p + 1)) 0
theorem bumps_len : ∀ (ps : List Int), (∀ p ∈ ps, 0 ≤ p) → ∀ (ns : List Int), ((ps.foldl bump ns).length : Int) = ps.foldl (fun l p => max l (p + 1)) (ns.length : Int)
  | [], _, ns => rfl
  | p :: r, h, ns => by
    rw [List.foldl_cons, List.foldl_cons, bumps_len r (fun q hq => h q (.tail _ hq)), bump_len (h p (.head _))]
theorem bumps_sum (f : Nat → Int) : ∀ (ps : List Int), (∀ p ∈ ps, 0 ≤ p) → ∀ (ns : List Int), wsum f (ps.foldl bump ns) = wsum f ns + (ps.map fun p => f p.toNat).sum
  | [], _, ns => by simp
  | p :: r, h, ns => by
    rw [List.foldl_cons, bumps_sum f r (fun q hq => h q (.tail _ hq)), wsum_bump (h p (.head _)), List.map_cons, List.sum_cons]
    omega
theorem lvl_wsum {ns : List Int} {ts : Int} (h : 1 ≤ ts) : lvl ns ts = wsum (fun i => (i : Int).fdiv ts) ns := by
  unfold wsum
  unfold lvl rangeKs
  obtain ⟨t, rfl⟩ := Int.eq_ofNat_of_zero_le (show 0 ≤ ts by omega)
  have small : ∀ i : Nat, i < t → (i : Int).fdiv (t : Int) = 0 := fun i hi => by
    rw [Int.fdiv_eq_ediv_of_nonneg _ (by omega)]
    exact Int.ediv_eq_zero_of_lt (by omega) (by omega)
  have zero : ∀ (l : List Nat), (∀ i ∈ l, i < t) → (l.map fun (i : Nat) => (i : Int).fdiv (t : Int) * ns.getD i 0).sum = 0 := by
    intro l
    induction l with
    | nil => intro _; rfl
    | cons a r ih =>
      intro hl
      rw [List.map_cons, List.sum_cons, ih fun i hi => hl i (.tail _ hi), small a (hl a (.head _))]
      omega
  by_cases hle : t ≤ ns.length
  · have e : ns.length = t + (ns.length - t) := by omega
    have e2 : ((ns.length : Int) - (t : Int)).toNat = ns.length - t := by omega
    rw [e2]
    conv => rhs; rw [e, List.range_add, List.map_append, List.sum_append, zero _ (fun i hi => List.mem_range.mp hi), Int.zero_add]
    rw [List.map_map, List.map_map]
    congr 1
  · have e2 : ((ns.length : Int) - (t : Int)).toNat = 0 := by omega
    rw [e2, zero _ (fun i hi => by have := List.mem_range.mp hi; omega)]
    rfl
/-- what the line's text leaves behind -/
def nsOf (ps : List Int) : List Int := ps.foldl bump []
def qsum (ps : List Int) (ts : Int) : Int := (ps.map fun p => p.fdiv ts).sum
theorem line_state {ps : List Int} (h5 : ps.length = 5) (hb : ∀ p ∈ ps, 0 ≤ p ∧ p ≤ 11) : ((pre5 ps).foldl stepW ⟨[], 0, 0, 0⟩).ns = nsOf ps ∧ ((pre5 ps).foldl stepW ⟨[], 0, 0, 0⟩).b = 0 ∧ ((pre5 ps).foldl stepW ⟨[], 0, 0, 0⟩).nt = 5 := by
  obtain ⟨n', e⟩ := fold_bars ps (fun p hp => (hb p hp).1) [] 0 0
  rw [e, h5]
  exact ⟨rfl, rfl, rfl⟩
theorem mxOf_le : ∀ (ps : List Int) (a : Int), (∀ p ∈ ps, 0 ≤ p ∧ p ≤ 11) → a ≤ 12 → a ≤ ps.foldl (fun l p => max l (p + 1)) a ∧ ps.foldl (fun l p => max l (p + 1)) a ≤ 12 ∧ (∀ p ∈ ps, p + 1 ≤ ps.foldl (fun l p => max l (p + 1)) a) ∧ (ps.foldl (fun l p => max l (p + 1)) a = a ∨ ∃ p ∈ ps, ps.foldl (fun l p => max l (p + 1)) a = p + 1)
  | [], a, _, ha => ⟨Int.le_refl _, ha, (fun _ h => nomatch h), .inl rfl⟩
  | p :: r, a, h, ha => by
    have hp := h p (.head _)
    obtain ⟨h1, h2, h3, h4⟩ := mxOf_le r (max a (p + 1)) (fun q hq => h q (.tail _ hq)) (by omega)
    rw [List.foldl_cons]
    refine ⟨by omega, h2, fun q hq => ?_, ?_⟩
    · rcases List.mem_cons.mp hq with rfl | hq
      · omega
      · exact h3 q hq
    · rcases h4 with h4 | ⟨q, hq, e⟩
      · rw [h4]
        by_cases c : a ≤ p + 1
        · exact .inr ⟨p, .head _, by omega⟩
        · exact .inl (by omega)
      · exact .inr ⟨q, .tail _ hq, e⟩
theorem mx_facts {ps : List Int} (h5 : ps.length = 5) (hb : ∀ p ∈ ps, 0 ≤ p ∧ p ≤ 11) : ((nsOf ps).length : Int) = mxOf ps ∧ 1 ≤ mxOf ps ∧ mxOf ps ≤ 12 ∧ (∀ p ∈ ps, p + 1 ≤ mxOf ps) ∧ ∃ p ∈ ps, mxOf ps = p + 1 := by
  obtain ⟨h1, h2, h3, h4⟩ := mxOf_le ps 0 hb (by decide)
  have hne : ∃ p, p ∈ ps := by
    cases ps with
    | nil => cases h5
    | cons a r => exact ⟨a, .head _⟩
  obtain ⟨p0, hp0⟩ := hne
  have h6 : 1 ≤ mxOf ps := by
    have := h3 p0 hp0
    have := (hb p0 hp0).1
    unfold mxOf
    omega
  refine ⟨?_, h6, h2, h3, ?_⟩
  · unfold nsOf
    rw [bumps_len ps fun p hp => (hb p hp).1]
    rfl
  · rcases h4 with h4 | h4
    · unfold mxOf at h6
      omega
    · exact h4
theorem lvl_line {ps : List Int} {ts : Int} (h : 1 ≤ ts) (hb : ∀ p ∈ ps, 0 ≤ p ∧ p ≤ 11) : lvl (nsOf ps) ts = qsum ps ts := by
  rw [lvl_wsum h]
  unfold nsOf
  rw [bumps_sum _ ps fun p hp => (hb p hp).1]
  show (0 : Int) + _ = _
  rw [Int.zero_add]
  unfold qsum
  congr 1
  refine List.map_congr_left fun p hp => ?_
  have := (hb p hp).1
  have e : ((p.toNat : Nat) : Int) = p := by omega
  simp only [e]
theorem lvl_plain {ts : Int} (h : 1 ≤ ts) : lvl [5] ts = 0 := by
  unfold lvl
  have e : (((([5] : List Int).length : Nat) : Int) - ts).toNat = 0 := by
    show ((1 : Int) - ts).toNat = 0
    omega
  rw [e]
  rfl
theorem plain_state : (([9, 9, 9, 9, 9] : List Nat).foldl stepW ⟨[], 0, 0, 0⟩).ns = [5] ∧ (([9, 9, 9, 9, 9] : List Nat).foldl stepW ⟨[], 0, 0, 0⟩).b = 0 ∧ (([9, 9, 9, 9, 9] : List Nat).foldl stepW ⟨[], 0, 0, 0⟩).nt = 5 := by decide +kernel
theorem lv_line {ps : List Int} {ts : Int} (h : 1 ≤ ts) (hb : ∀ p ∈ ps, 0 ≤ p ∧ p ≤ 11) : lv (nsOf ps) 0 5 ts = ts * (qsum ps ts + 5) := by
  unfold lv
  rw [lvl_line h hb, Int.zero_add]
theorem lv_plain {ts : Int} (h : 1 ≤ ts) : lv [5] 0 5 ts = 5 * ts := by
  unfold lv
  rw [lvl_plain h]
  omega
theorem qsum_nonneg {ts : Int} (h : 1 ≤ ts) : ∀ {ps : List Int}, (∀ p ∈ ps, 0 ≤ p ∧ p ≤ 11) → 0 ≤ qsum ps ts
  | [], _ => Int.le_refl 0
  | p :: r, hb => by
    have ih := qsum_nonneg h (ps := r) fun q hq => hb q (.tail _ hq)
    have h1 := Int.fdiv_nonneg (hb p (.head _)).1 (show 0 ≤ ts by omega)
    unfold qsum at ih ⊢
    rw [List.map_cons, List.sum_cons]
    omega
theorem qsum_zero {ts : Int} (h : 1 ≤ ts) : ∀ {ps : List Int}, (∀ p ∈ ps, 0 ≤ p ∧ p < ts) → qsum ps ts = 0
  | [], _ => rfl
  | p :: r, hb => by
    have ih := qsum_zero h (ps := r) fun q hq => hb q (.tail _ hq)
    have h1 : p.fdiv ts = 0 := by
      have := hb p (.head _)
      rw [Int.fdiv_eq_ediv_of_nonneg _ (by omega)]
      exact Int.ediv_eq_zero_of_lt (by omega) (by omega)
    unfold qsum at ih ⊢
    rw [List.map_cons, List.sum_cons, ih, h1]
    rfl
theorem qsum_pos {ts : Int} (h : 1 ≤ ts) : ∀ {ps : List Int}, (∀ p ∈ ps, 0 ≤ p ∧ p ≤ 11) → (∃ p ∈ ps, ts ≤ p) → 1 ≤ qsum ps ts
  | [], _, ⟨p, hp, _⟩ => nomatch hp
  | p :: r, hb, ⟨q, hq, hle⟩ => by
    have hr : ∀ q ∈ r, 0 ≤ q ∧ q ≤ 11 := fun q hq => hb q (.tail _ hq)
    have h0 := qsum_nonneg h hr
    have h1 := Int.fdiv_nonneg (hb p (.head _)).1 (show 0 ≤ ts by omega)
    have e : qsum (p :: r) ts = p.fdiv ts + qsum r ts := by unfold qsum; rw [List.map_cons, List.sum_cons]
    rw [e]
    rcases List.mem_cons.mp hq with rfl | hq
    · have : 1 ≤ q.fdiv ts := by
        rw [Int.fdiv_eq_ediv_of_nonneg _ (by omega)]
        exact Int.le_ediv_of_mul_le (by omega) (by omega)
      omega
    · have := qsum_pos h hr ⟨q, hq, hle⟩
      omega
def dueRow (ps : List Int) (j : Int) : Int × Int × Int := (j, (ps.map fun p => j * (p.fdiv j + 1)).sum, 5 * j)
def dueRows (ps : List Int) (n : Nat) : List (Int × Int × Int) := (rangeKs 1 n).map (dueRow ps)
theorem due_sum (j : Int) : ∀ (ps : List Int), (ps.map fun p => j * (p.fdiv j + 1)).sum = j * (qsum ps j + ps.length)
  | [] => by simp [qsum]
  | p :: r => by
    rw [List.map_cons, List.sum_cons, due_sum j r, List.length_cons]
    have e : qsum (p :: r) j = p.fdiv j + qsum r j := by unfold qsum; rw [List.map_cons, List.sum_cons]
    rw [e, ← Int.mul_add]
    congr 1
    omega
theorem dueRow_eq {ps : List Int} (h5 : ps.length = 5) (j : Int) : dueRow ps j = (j, j * (qsum ps j + 5), 5 * j) := by
  unfold dueRow
  rw [due_sum, h5]
  rfl
theorem filter_all {α : Type} {p : α → Bool} {l : List α} (h : ∀ a ∈ l, p a = true) : l.filter p = l := List.filter_eq_self.mpr h
theorem rows_there {ps : List Int} (h5 : ps.length = 5) (hb : ∀ p ∈ ps, 0 ≤ p ∧ p ≤ 11) (n : Nat) : rowsW (nsOf ps) 0 5 [5] 0 5 (rangeKs 1 n) = (dueRows ps n).map row3 := by
  have hlo : ∀ ts ∈ rangeKs 1 n, 1 ≤ ts := fun ts h => (mem_rangeKs h).1
  unfold rowsW dueRows
  rw [filter_all fun ts hts => ?_, List.map_map]
  · refine List.map_congr_left fun ts hts => ?_
    rw [lv_line (hlo ts hts) hb, lv_plain (hlo ts hts)]
    show _ = row3 (dueRow ps ts)
    rw [dueRow_eq h5]
    rfl
  · rw [lv_line (hlo ts hts) hb, lv_plain (hlo ts hts)]
    have h0 := qsum_nonneg (hlo ts hts) hb
    have h1 : 0 ≤ ts * qsum ps ts := Int.mul_nonneg (by have := hlo ts hts; omega) h0
    have e : ts * (qsum ps ts + 5) = ts * qsum ps ts + ts * 5 := Int.mul_add _ _ _
    rw [e]
    exact decide_eq_true (by omega)
theorem rangeKs_last (n : Nat) : rangeKs 1 (n + 1) = rangeKs 1 n ++ [1 + (n : Int)] := by
  unfold rangeKs
  rw [List.range_succ, List.map_append]
  rfl
theorem rows_back {ps : List Int} (h5 : ps.length = 5) (hb : ∀ p ∈ ps, 0 ≤ p ∧ p ≤ 11) {n : Nat} (hn : mxOf ps = (n : Int) + 1) : rowsW [5] 0 5 (nsOf ps) 0 5 (rangeKs 1 (n + 1)) = [row3 (dueRow ps ((n : Int) + 1))] := by
  obtain ⟨_, h1, _, h3, pm, hpm, epm⟩ := mx_facts h5 hb
  unfold rowsW
  rw [rangeKs_last, List.filter_append]
  have e1 : (rangeKs 1 n).filter (fun ts => decide (lv (nsOf ps) 0 5 ts ≤ lv [5] 0 5 ts)) = [] := by
    rw [List.filter_eq_nil_iff]
    intro ts hts
    have hlo := (mem_rangeKs hts).1
    have hhi := (mem_rangeKs hts).2
    rw [lv_line hlo hb, lv_plain hlo]
    have h0 := qsum_pos hlo hb ⟨pm, hpm, by omega⟩
    have e : ts * (qsum ps ts + 5) = ts * qsum ps ts + ts * 5 := Int.mul_add _ _ _
    have h6 : ts * 1 ≤ ts * qsum ps ts := Int.mul_le_mul_of_nonneg_left h0 (by omega)
    rw [e]
    simp only [decide_eq_true_eq]
    omega
  have hl : (1 : Int) ≤ 1 + (n : Int) := by omega
  have hz : qsum ps (1 + (n : Int)) = 0 := qsum_zero hl fun p hp => ⟨(hb p hp).1, by have := h3 p hp; omega⟩
  have e2 : [1 + (n : Int)].filter (fun ts => decide (lv (nsOf ps) 0 5 ts ≤ lv [5] 0 5 ts)) = [1 + (n : Int)] := by
    refine filter_all fun ts hts => ?_
    rw [List.mem_singleton.mp hts, lv_line hl hb, lv_plain hl, hz]
    exact decide_eq_true (by omega)
  rw [e1, e2, List.nil_append, List.map_cons, List.map_nil, lv_line hl hb, lv_plain hl]
  have e3 : (1 : Int) + (n : Int) = (n : Int) + 1 := by omega
  rw [e3] at hz ⊢
  rw [dueRow_eq h5, hz]
  unfold row3
  have e4 : 5 * ((n : Int) + 1) = ((n : Int) + 1) * (0 + 5) := by omega
  rw [e4]
/-- what one row gives to the points and to the pairs -/
def ptOne (g : Nat) (p : Int) (n : Nat) : Int := ((rangeKs 1 n).map fun j => mpOf g * (signsOf g).getD (j.fmod (signsOf g).length).toNat 0 * p.fdiv j).sum
def cpOne (g : Nat) (p : Int) (n : Nat) : Int := ((rangeKs 1 n).map fun j => if j.fmod (signsOf g).length = 0 then 0 else mcOf g * (j * p.fdiv j)).sum
def ptRow (g : Nat) (q j : Int) : Int := mpOf g * (signsOf g).getD (j.fmod (signsOf g).length).toNat 0 * q
def cpRow (g : Nat) (q j : Int) : Int := if j.fmod (signsOf g).length = 0 then 0 else mcOf g * (j * q)
theorem sum_add {α : Type} (f g : α → Int) : ∀ l : List α, (l.map fun a => f a + g a).sum = (l.map f).sum + (l.map g).sum
  | [] => rfl
  | a :: r => by simp only [List.map_cons, List.sum_cons]; rw [sum_add f g r]; omega
theorem sum_zero {α : Type} (f : α → Int) (l : List α) (h : ∀ a ∈ l, f a = 0) : (l.map f).sum = 0 := by
  induction l with
  | nil => rfl
  | cons a r ih => rw [List.map_cons, List.sum_cons, ih fun b hb => h b (.tail _ hb), h a (.head _)]; rfl
theorem step_due {ps : List Int} (h5 : ps.length = 5) (g : Nat) (pc : Int × Int) {j : Int} (hj : 1 ≤ j) : stepT g pc (dueRow ps j) = (pc.1 + ptRow g (qsum ps j) j, pc.2 + cpRow g (qsum ps j) j) := by
  rw [dueRow_eq h5]
  unfold stepT ptRow cpRow
  have e : j * (qsum ps j + 5) - 5 * j = j * qsum ps j := by
    rw [Int.mul_add]; omega
  have e2 : (j * qsum ps j).fdiv j = qsum ps j := by
    rw [Int.mul_comm]
    exact Int.mul_fdiv_cancel _ (by omega)
  simp only [e, e2]
  congr 1
  split
  · omega
  · rfl
theorem fold_due {ps : List Int} (h5 : ps.length = 5) (g : Nat) : ∀ (l : List Int) (pc : Int × Int), (∀ j ∈ l, 1 ≤ j) →
    (l.map (dueRow ps)).foldl (stepT g) pc = (pc.1 + (l.map fun j => ptRow g (qsum ps j) j).sum, pc.2 + (l.map fun j => cpRow g (qsum ps j) j).sum)
  | [], pc, _ => by simp
  | j :: r, pc, h => by
    rw [List.map_cons, List.foldl_cons, step_due h5 g pc (h j (.head _)), fold_due h5 g r _ fun i hi => h i (.tail _ hi)]
    simp only [List.map_cons, List.sum_cons]
    congr 1 <;> omega
theorem ptRow_sum (g : Nat) (j : Int) : ∀ ps : List Int, ptRow g (qsum ps j) j = (ps.map fun p => ptRow g (p.fdiv j) j).sum
  | [] => by show ptRow g 0 j = 0; unfold ptRow; omega
  | p :: r => by
    rw [List.map_cons, List.sum_cons, ← ptRow_sum g j r]
    have e : qsum (p :: r) j = p.fdiv j + qsum r j := by unfold qsum; rw [List.map_cons, List.sum_cons]
    rw [e]
    unfold ptRow
    rw [Int.mul_add]
theorem cpRow_sum (g : Nat) (j : Int) : ∀ ps : List Int, cpRow g (qsum ps j) j = (ps.map fun p => cpRow g (p.fdiv j) j).sum
  | [] => by show cpRow g 0 j = 0; unfold cpRow; split <;> simp
  | p :: r => by
    rw [List.map_cons, List.sum_cons, ← cpRow_sum g j r]
    have e : qsum (p :: r) j = p.fdiv j + qsum r j := by unfold qsum; rw [List.map_cons, List.sum_cons]
    rw [e]
    unfold cpRow
    split
    · rfl
    · rw [Int.mul_add, Int.mul_add]
theorem sum_swap {α β : Type} (f : α → β → Int) (l : List α) : ∀ m : List β, (l.map fun a => (m.map fun b => f a b).sum).sum = (m.map fun b => (l.map fun a => f a b).sum).sum
  | [] => sum_zero _ l fun _ _ => rfl
  | b :: r => by
    simp only [List.map_cons, List.sum_cons]
    rw [sum_add, sum_swap f l r]
theorem rangeKs_add (m k : Nat) : rangeKs 1 (m + k) = rangeKs 1 m ++ (List.range k).map fun i => 1 + ((m + i : Nat) : Int) := by
  unfold rangeKs
  rw [List.range_add, List.map_append, List.map_map]
  rfl
theorem upto12 {f : Int → Int → Int} {p : Int} {n : Nat} (hf : ∀ j, f 0 j = 0) (h0 : 0 ≤ p) (hn : p + 1 ≤ n) (h12 : n ≤ 12) : ((rangeKs 1 n).map fun j => f (p.fdiv j) j).sum = ((rangeKs 1 12).map fun j => f (p.fdiv j) j).sum := by
  have e : 12 = n + (12 - n) := by omega
  rw [e, rangeKs_add, List.map_append, List.sum_append, sum_zero _ ((List.range (12 - n)).map _), Int.add_zero]
  intro j hj
  obtain ⟨i, _, rfl⟩ := List.mem_map.mp hj
  have : p.fdiv (1 + ((n + i : Nat) : Int)) = 0 := by
    rw [Int.fdiv_eq_ediv_of_nonneg _ (by omega)]
    exact Int.ediv_eq_zero_of_lt (by omega) (by omega)
  rw [this, hf]
def numsOf (a d : Int) : List Int := pts.map (nrm a d)
theorem ptRow_zero (g : Nat) (j : Int) : ptRow g 0 j = 0 := by unfold ptRow; omega
theorem cpRow_zero (g : Nat) (j : Int) : cpRow g 0 j = 0 := by unfold cpRow; split <;> simp
end -- PL
section -- PM
def gridA : Nat → Int
  | 0 => 1
  | 1 => 0
  | _ => 1
def gridD : Nat → Int
  | 0 => 1
  | 1 => 1
  | _ => 2
def gnums (g : Nat) : List Int := numsOf (gridA g) (gridD g)
def spanOk (g : Nat) (p : Int) : Bool :=
  decide (discOf (discsTo (fdOf (gnums g)) 12) p = 1 + ((rangeKs 1 12).map fun j => ptRow g (p.fdiv j) j).sum) &&
  decide (coupOf (fdOf (gnums g)) (discsTo (fdOf (gnums g)) 12) p = 1 + ((rangeKs 1 12).map fun j => cpRow g (p.fdiv j) j).sum)
theorem span_all : ([0, 1, 2].all fun g => (List.range 12).all fun (n : Nat) => spanOk g (n : Int)) = true := by decide +kernel
theorem span_at {g : Nat} (hg : g ≤ 2) {p : Int} (h0 : 0 ≤ p) (h1 : p ≤ 11) :
    discOf (discsTo (fdOf (gnums g)) 12) p = 1 + ((rangeKs 1 12).map fun j => ptRow g (p.fdiv j) j).sum ∧ coupOf (fdOf (gnums g)) (discsTo (fdOf (gnums g)) 12) p = 1 + ((rangeKs 1 12).map fun j => cpRow g (p.fdiv j) j).sum := by
  have hm : g ∈ ([0, 1, 2] : List Nat) := by
    match g, hg with
    | 0, _ => decide
    | 1, _ => decide
    | 2, _ => decide
    | n + 3, h => omega
  have h := List.all_eq_true.mp (List.all_eq_true.mp span_all g hm) p.toNat (List.mem_range.mpr (by omega))
  have e : ((p.toNat : Nat) : Int) = p := by omega
  rw [e] at h
  unfold spanOk at h
  rw [Bool.and_eq_true, decide_eq_true_eq, decide_eq_true_eq] at h
  exact h
theorem sum_len (f : Int → Int) : ∀ ps : List Int, (ps.map fun p => 1 + f p).sum = ps.length + (ps.map f).sum
  | [] => rfl
  | p :: r => by
    simp only [List.map_cons, List.sum_cons, List.length_cons]
    rw [sum_len f r]
    omega
theorem told_counted {g : Nat} (hg : g ≤ 2) {ps : List Int} (h5 : ps.length = 5) (hb : ∀ p ∈ ps, 0 ≤ p ∧ p ≤ 11) {n : Nat} (hn : mxOf ps = (n : Int)) :
    (dueRows ps n).foldl (stepT g) (5, 5) = (sumP (gnums g) ps, sumC (gnums g) ps) := by
  obtain ⟨_, _, h12, h3, _⟩ := mx_facts h5 hb
  unfold dueRows
  rw [fold_due h5 g _ _ fun j hj => (mem_rangeKs hj).1]
  have e1 : ((rangeKs 1 n).map fun j => ptRow g (qsum ps j) j).sum = (ps.map fun p => ((rangeKs 1 12).map fun j => ptRow g (p.fdiv j) j).sum).sum := by
    rw [List.map_congr_left fun j _ => ptRow_sum g j ps, sum_swap]
    congr 1
    refine List.map_congr_left fun p hp => ?_
    exact upto12 (f := ptRow g) (ptRow_zero g) (hb p hp).1 (by have := h3 p hp; omega) (by omega)
  have e2 : ((rangeKs 1 n).map fun j => cpRow g (qsum ps j) j).sum = (ps.map fun p => ((rangeKs 1 12).map fun j => cpRow g (p.fdiv j) j).sum).sum := by
    rw [List.map_congr_left fun j _ => cpRow_sum g j ps, sum_swap]
    congr 1
    refine List.map_congr_left fun p hp => ?_
    exact upto12 (f := cpRow g) (cpRow_zero g) (hb p hp).1 (by have := h3 p hp; omega) (by omega)
  rw [e1, e2]
  unfold sumP sumC
  rw [List.map_congr_left fun p hp => (span_at hg (hb p hp).1 (hb p hp).2).1, List.map_congr_left (g := fun p => 1 + ((rangeKs 1 12).map fun j => cpRow g (p.fdiv j) j).sum) fun p hp => (span_at hg (hb p hp).1 (hb p hp).2).2, sum_len, sum_len, h5]
  rfl
end -- PM
section -- CC
open LCg
section
variable {prog : Program} {w : World} {A : Around} {E : Value → Shared → Prop} {R : Result → Shared → Prop} {s : Shared} {h₀ : Heap} {L C D I K : Addr} {m : Str → Option Value} {its base : List (Addr × Obj)} {cenv env : Env} {Q : Flow → Shared → Prop}
/-- a comprehension's block with cells of its own -/
theorem newEnv_cells {scope : Scope} {g : Addr} {cl : List (Str × Addr)} {q : Str} {Q : Env → Shared → Prop}
    (h : Q { scope := scope, locals := s.heap.objs.size, globals := g, cells := cellsFrom (s.heap.objs.size + 1) scope.names cl, qual := q, func := none, code := env.code, frame := env.frame, builtins := env.builtins } { s with heap := pushCells (s.heap.push { cls := .type "dict", data := .dict #[] }) scope.names }) :
    wpAny (model prog w) A (newFunctionEnv scope g cl [] q none .none (some env)) Q E s := by
  simp only [newFunctionEnv, Option.isSome_some, if_true]
  refine wpAny_bind (wpAny_alloc ?_)
  refine wpAny_bind (wpAny_layCells _ (fun name kind cells => by cases hkc : kind == NameKind.cell <;> simp [hkc]) _ _ _ _ ?_)
  rw [show ({ s with heap := s.heap.push { cls := .type "dict", data := .dict #[] } } : Shared).heap.objs.size = s.heap.objs.size + 1 from Heap.size_push ..]
  exact wpAny_bind (wpAny_pure (wpAny_pure h))

theorem cell_range {elt iter : Expr} {x : Str} {px : Pos} {scope : Scope} {pos : Pos} {n : Nat} {a : Int} (hh : A.handled = none) (hn : n ≤ 1000) (sp : CSep h₀ L C D I) (hKL : K ≠ L) (hKC : K ≠ C) (hKD : K ≠ D) (hKI : K ≠ I) (hK0 : h₀.get? K = none) (hloc : cenv.locals = C) (hxk : cenv.kindOf x = some .cell)
    (hck : cenv.scope.kind = .function) (hxc : cenv.cells.lookup x = some K) (el : Nat → Dat)
    (turn : ∀ j tl ys mC oC oI oK h tk, j < n → NsObj oC mC → (∃ t, oK.data = .cell (some (.int (a + (j : Int)) t))) → Fr h₀ L h m → News h₀ L h ((I, oI) :: (C, oC) :: (D, lst ys) :: ([(K, oK)] ++ (base ++ tl))) → Off3 I C D ([(K, oK)] ++ (base ++ tl)) →
      wpAny (model prog w) A (eval elt cenv) (EPost h₀ L m I oI C oC D ys K oK base tl (el j) s) (fun _ _ => False) { s with heap := h, toks := tk })
    {oK₀ : Obj} {mC₀ : Str → Option Value} (x₀ : CS h₀ L m C D [(K, oK₀)] base [] [] mC₀ s.heap) (hc₀ : ∃ v, oK₀.data = .cell v) (hI₀ : ∀ p ∈ base, p.1 ≠ I) (hK₀ : ∀ p ∈ base, p.1 ≠ K)
    (hst : IsRangeIter s.heap I a (n : Int) 1)
    (fin : ∀ h tk ys tl mC oK, CS h₀ L m C D [(K, oK)] base ys tl mC h → DatAll (base ++ tl) ys ((List.range n).map el) → R (.ok .next) { s with heap := h, toks := tk }) :
    codeAny (model prog w) A (.compLoop (.ListComp elt [⟨.Name x px, iter, [], 0⟩] scope pos) 0 (.ref I) (.ref D) cenv) R s := by
  subst hloc
  refine comp_one (range_walks hh a n) (fun j s' => ∃ h tk ys tl mC oK, s' = { s with heap := h, toks := tk } ∧ CS h₀ L m cenv.locals D [(K, oK)] base ys tl mC h ∧ (∃ v, oK.data = .cell v) ∧ (∀ p ∈ base ++ tl, p.1 ≠ I) ∧ DatAll (base ++ tl) ys ((List.range j).map el) ∧ ∀ p ∈ base ++ tl, p.1 ≠ K) ?_ ?_
    ⟨s.heap, s.toks, [], [], mC₀, oK₀, rfl, x₀, hc₀, by simpa using hI₀, by simpa using DatAll.nil, by simpa using hK₀⟩ (by simpa using hst)
  · rintro j s' hj ⟨h, tk, ys, tl, mC, oK, rfl, xs, hc, hI, hd, hK⟩ hS v h₁ tk₁ ⟨t, rfl⟩ hS₁ hk₁
    have x1 := xs.but sp (fun p hp => by
      rcases List.mem_cons.mp hp with rfl | hp
      · exact hKI
      · exact hI p hp) hk₁
    obtain ⟨v₀, hv₀⟩ := hc
    refine wpAny_assign_Name (wpAny_storeName_cell hck hxk hxc ⟨oK, (x1.N (K, oK) (.tail _ (.head _))).1, hv₀⟩ (fun h₂ hn₂ hs₂ => ?_))
    obtain ⟨oK', hoK', hdK'⟩ := hn₂
    have F2 := x1.F.change hs₂ hKL hK0
    have nC2 := x1.nC.sameBut hs₂ (Ne.symm hKC)
    have hI1 : h₁.get? I = some _ := hS₁
    have hI2 : h₂.get? I = some _ := hs₂.extBut _ _ (Ne.symm hKI) hI1
    obtain ⟨oC, heC, hoC⟩ := ns_obj nC2
    have hoff : Off3 I cenv.locals D ([(K, oK')] ++ (base ++ tl)) := Off3.of fun p hp => by
      rcases List.mem_cons.mp hp with rfl | hp
      · exact ⟨hKI, hKC, hKD⟩
      · exact ⟨hI p hp, (xs.off p (.tail _ hp)).1, (xs.off p (.tail _ hp)).2⟩
    have N2 : News h₀ L h₂ ((I, _) :: (cenv.locals, oC) :: (D, lst ys) :: ([(K, oK')] ++ (base ++ tl))) := List.forall_mem_cons.mpr ⟨⟨hI2, sp.IL, sp.I0⟩, List.forall_mem_cons.mpr ⟨⟨heC, sp.CL, sp.C0⟩, List.forall_mem_cons.mpr
      ⟨⟨hs₂.extBut _ _ (Ne.symm hKD) (x1.N _ (.head _)).1, sp.DL, sp.D0⟩, List.forall_mem_cons.mpr ⟨⟨hoK', hKL, hK0⟩, fun p hp => ⟨hs₂.extBut _ _ (hK p hp) (x1.N p (.tail _ (.tail _ hp))).1, (x1.N p (.tail _ (.tail _ hp))).2⟩⟩⟩⟩⟩
    refine wpAny_mono (turn j tl ys _ oC _ oK' h₂ _ hj hoC ⟨t, hdK'⟩ F2 N2 hoff) (fun v s₃ h₃ => ?_) fun _ _ f => f
    obtain ⟨h₃, tk₃, add, rfl, F₃, N₃, off₃, hv, hKa⟩ := h₃
    have zD := (N₃ (D, lst ys) (.tail _ (.tail _ (.head _)))).1
    have off3 := off₃.mem
    have hyl : ys.length ≤ 2000 := by
      have e := hd.length
      rw [List.length_map, List.length_range] at e
      omega
    refine append_at (hsz := by show ys.toArray.size ≤ sizeLine; rw [List.size_toArray, sizeLine_eq]; omega) zD fun h₄ hs₄ hD₄ => ?_
    have hI4 : h₄.get? I = some _ := hs₄.extBut _ _ sp.ID (N₃ (I, _) (.head _)).1
    refine ⟨⟨h₄, tk₃, ys ++ [v], add ++ tl, _, oK', rfl, ⟨F₃.change hs₄ sp.DL sp.D0, (hoC.ns (N₃ (cenv.locals, oC) (.tail _ (.head _))).1).sameBut hs₄ sp.CD, ?_, fun p hp => (off3 p hp).2⟩, ⟨_, hdK'⟩, fun p hp => (off3 p (.tail _ hp)).1, ?_, ?_⟩, ?_⟩
    · intro p hp
      rcases List.mem_cons.mp hp with rfl | hp
      · exact ⟨hD₄.trans (congrArg some (lst_snoc ys v)), sp.DL, sp.D0⟩
      · have z := N₃ p (.tail _ (.tail _ (.tail _ hp)))
        exact ⟨hs₄.extBut _ _ (off3 p hp).2.2 z.1, z.2⟩
    · have e : (List.range (j + 1)).map el = (List.range j).map el ++ [el j] := by rw [List.range_succ, List.map_append]; rfl
      rw [e]
      refine DatAll.append (DatAll.mono (fun p hp => ?_) hd) (DatAll.one hv)
      rcases List.mem_append.mp hp with hp | hp
      · exact List.mem_append_left _ hp
      · exact List.mem_append_right _ (List.mem_append_right _ hp)
    · intro p hp
      rcases List.mem_append.mp hp with hp | hp
      · exact hK p (List.mem_append_left _ hp)
      · rcases List.mem_append.mp hp with hp | hp
        · exact hKa p hp
        · exact hK p (List.mem_append_right _ hp)
    · exact hI4
  · rintro s' ⟨h, tk, ys, tl, mC, oK, rfl, xs, hc, hI, hd, hK⟩ h₁ tk₁ hk₁
    exact fin h₁ tk₁ ys tl mC oK (xs.but sp (fun p hp => by
      rcases List.mem_cons.mp hp with rfl | hp
      · exact hKI
      · exact hI p hp) hk₁) hd

/-- what the source of the comprehension gives: a range -/
def RPost (h₀ : Heap) (L : Addr) (m : Str → Option Value) (base : List (Addr × Obj)) (a : Int) (n : Nat) (s : Shared) (xv : Value) (s₁ : Shared) : Prop :=
  ∃ r b t1 t2 t3 h tk, xv = .ref r ∧ s₁ = { s with heap := h, toks := tk } ∧ Fr h₀ L h m ∧ News h₀ L h base ∧ IsRange h r a b 1 t1 t2 t3 ∧ Builtin.Range.small a b 1 = true ∧ Builtin.Range.rangeSize a b 1 = (n : Int)
theorem Assign_cell {elt i0 : Expr} {x pt : Str} {px pp : Pos} {scope : Scope} {cl : List (Str × Addr)} {pos spos : Pos} {n : Nat} {a : Int} (F₀ : Fr h₀ L s.heap m) (N₀ : News h₀ L s.heap base) (hh : A.handled = none) (hn : n ≤ 1000) (hLe : env.locals = L)
    (hsw : swapsWith (.ListComp elt [⟨.Name x px, i0, [], 0⟩] scope pos) (some (.Name pt pp)) spos.line env = pure true)
    (hclos : closureFor scope env = pure cl) (hcells : ∀ k, cellsFrom k scope.names cl = (x, k) :: cl) (hpush : ∀ h, pushCells h scope.names = h.push { cls := .type "cell", data := .cell none }) (hkind : scope.kind = .function)
    (hnames : ∀ z ∈ scope.names, z.2 = .local → scope.names.lookup z.1 = some .local) (hxk : (relabel scope env).names.lookup x = some .cell)
    (hpt : env.kindOf pt = some .local) (hp : (env.scope.kind == .class || (env.scope.kind == .module && env.locals != env.globals)) = false)
    (el : Nat → Dat)
    (h : wpAny (model prog w) A (eval i0 env) (RPost h₀ L m base a n s) E s)
    (turn : ∀ C D I K j tl ys mC oC oI oK h tk, j < n → NsObj oC mC → (∃ t, oK.data = .cell (some (.int (a + (j : Int)) t))) → Fr h₀ L h m → News h₀ L h ((I, oI) :: (C, oC) :: (D, lst ys) :: ([(K, oK)] ++ (base ++ tl))) → Off3 I C D ([(K, oK)] ++ (base ++ tl)) →
      wpAny (model prog w) A (eval elt (compEnvC scope ((x, K) :: cl) C env)) (EPost h₀ L m I oI C oC D ys K oK base tl (el j) s) (fun _ _ => False) { s with heap := h, toks := tk })
    (fin : ∀ D h tk ys tl, Fr h₀ L h (fun z => if z = pt then some (.ref D) else m z) → News h₀ L h ((D, lst ys) :: (base ++ tl)) → DatAll (base ++ tl) ys ((List.range n).map el) → Q .next { s with heap := h, toks := tk })
    (hs : ∀ x, foldedSetIterable i0 env x = pure x := by intro _; rfl) :
    wpAny (model prog w) A (exec (.Assign [.Name pt pp] (.ListComp elt [⟨.Name x px, i0, [], 0⟩] scope pos) spos) env) Q E s := by
  subst hLe
  refine assign_made hsw hs hclos hkind hnames (wpAny_mono h (fun xv s₁ h₁ => ?_) fun _ _ => id)
  obtain ⟨r, b, ra, rb, rc, h1, tk1, rfl, rfl, F1, N1, hr, hsm, hsz⟩ := h₁
  refine wpAny_pyIter_range hr hsm ?_
  rw [hsz]
  dsimp only
  generalize hH : h1.push { cls := .type "range_iterator", data := .fields #[rawInt a, rawInt (n : Int), rawInt 1] } = h2
  have hup : ∀ b o, h1.get? b = some o → h2.get? b = some o := fun b o e => hH ▸ Heap.get?_push_of_some _ e
  have hit : IsRangeIter h2 h1.objs.size a (n : Int) 1 := by show h2.get? h1.objs.size = some _; rw [← hH]; exact Heap.get?_push_size _ rfl
  have hs2 : h2.objs.size = h1.objs.size + 1 := by rw [← hH, Heap.size_push]
  refine wpAny_newObj_type (newEnv_cells ?_)
  dsimp only
  rw [hcells, hpush]
  generalize hH2 : h2.push { cls := .type "list", dict := none, data := .seq ([] : List Value).toArray } = H2
  have hC : H2.objs.size = h2.objs.size + 1 := by rw [← hH2, Heap.size_push]
  have hns0 := Heap.Ns.new H2 (.type "dict")
  generalize hH3 : H2.push { cls := .type "dict", data := .dict #[] } = H3 at hns0 ⊢
  have hK : H3.objs.size = H2.objs.size + 1 := by rw [← hH3, Heap.size_push]
  rw [← hK]
  generalize hH4 : H3.push { cls := .type "cell", data := .cell none } = H4
  have up2 : ∀ b o, h2.get? b = some o → H2.get? b = some o := fun b o e => hH2 ▸ Heap.get?_push_of_some _ e
  have up3 : ∀ b o, H2.get? b = some o → H3.get? b = some o := fun b o e => hH3 ▸ Heap.get?_push_of_some _ e
  have up4 : ∀ b o, H3.get? b = some o → H4.get? b = some o := fun b o e => hH4 ▸ Heap.get?_push_of_some _ e
  have old : ∀ b o, h2.get? b = some o → H4.get? b = some o := fun b o e => up4 _ _ (up3 _ _ (up2 _ _ e))
  have hacc : H4.get? h2.objs.size = some (lst []) := up4 _ _ (up3 _ _ (hH2 ▸ Heap.get?_push_size _ rfl))
  have hcel : H4.get? H3.objs.size = some { cls := .type "cell", data := .cell none } := hH4 ▸ Heap.get?_push_size _ rfl
  have hnC : H4.Ns H2.objs.size fun _ => none := hns0.keeps up4
  have F2 : Fr h₀ env.locals h2 m := F1.keeps hup
  have N2 : News h₀ env.locals h2 base := fun p hp => ⟨hup _ _ (N1 p hp).1, (N1 p hp).2⟩
  have fresh₀ : ∀ a, h2.objs.size ≤ a → h₀.get? a = none := fun a ha => by
    cases e : h₀.get? a with
    | none => rfl
    | some o' => exact absurd (Heap.lt_size (F2.keep a o' e)) (Nat.not_lt.mpr ha)
  have hLlt : env.locals < h2.objs.size := F2.ns.lt
  have hIlt : h1.objs.size < h2.objs.size := by rw [hs2]; exact Nat.lt_succ_self _
  have below : ∀ b, b < h2.objs.size → b ≠ H3.objs.size ∧ b ≠ H2.objs.size ∧ b ≠ h2.objs.size := fun b hb => by
    rw [hK, hC]
    exact ⟨Nat.ne_of_lt (Nat.lt_succ_of_lt (Nat.lt_succ_of_lt hb)), Nat.ne_of_lt (Nat.lt_succ_of_lt hb), Nat.ne_of_lt hb⟩
  have hCD : H2.objs.size ≠ h2.objs.size := by rw [hC]; exact Nat.ne_of_gt (Nat.lt_succ_self _)
  have hKC : H3.objs.size ≠ H2.objs.size := by rw [hK]; exact Nat.ne_of_gt (Nat.lt_succ_self _)
  have hKD : H3.objs.size ≠ h2.objs.size := by rw [hK, hC]; exact Nat.ne_of_gt (Nat.lt_succ_of_lt (Nat.lt_succ_self _))
  have hK0 : h₀.get? H3.objs.size = none := fresh₀ _ (by rw [hK, hC]; exact Nat.le_succ_of_le (Nat.le_succ _))
  have sp : CSep h₀ env.locals H2.objs.size h2.objs.size h1.objs.size := ⟨Ne.symm (below _ hLlt).2.1, Ne.symm (below _ hLlt).2.2, hCD, fresh₀ _ (by rw [hC]; exact Nat.le_succ _), fresh₀ _ (Nat.le_refl _), Ne.symm (Nat.ne_of_lt F1.ns.lt), (below _ hIlt).2.1, (below _ hIlt).2.2, next_is_new F1⟩
  have hKL : H3.objs.size ≠ env.locals := Ne.symm (below _ hLlt).1
  have x₀ : CS h₀ env.locals m H2.objs.size h2.objs.size [(H3.objs.size, { cls := .type "cell", data := .cell none })] base [] [] _ H4 := ⟨F2.keeps old, hnC, fun p hp => by
    rcases List.mem_cons.mp hp with rfl | hp
    · exact ⟨hacc, sp.DL, sp.D0⟩
    rcases List.mem_cons.mp hp with rfl | hp
    · exact ⟨hcel, hKL, hK0⟩
    · have hp' : p ∈ base := by simpa using hp
      exact ⟨old _ _ (N2 p hp').1, (N2 p hp').2⟩, fun p hp => by
    rcases List.mem_cons.mp hp with rfl | hp
    · exact ⟨hKC, hKD⟩
    · have hp' : p ∈ base := by simpa using hp
      exact (below _ (Heap.lt_size (N2 p hp').1)).2⟩
  have loop : ∀ s₃ : Shared, s₃ = { s with heap := H4, toks := tk1 } →
      codeAny (model prog w) A (.compLoop (.ListComp elt [⟨.Name x px, i0, [], 0⟩] scope pos) 0 (.ref h1.objs.size) (.ref h2.objs.size) (compEnvC scope ((x, H3.objs.size) :: cl) H2.objs.size env))
        (compPost (model prog w) A E (some (assign (.Name pt pp) env)) (fun _ s' => Q .next s') (.ref h2.objs.size) H2.objs.size) s₃ := by
    rintro s₃ rfl
    refine cell_range (K := H3.objs.size) hh hn sp hKL hKC hKD (Ne.symm (below _ hIlt).1) hK0 rfl hxk (by simp [compEnvC, relabel, hkind]) (by simp [compEnvC]) el (turn _ _ _ _) x₀ ⟨_, rfl⟩ (fun p hp => Nat.ne_of_lt (Heap.lt_size (N1 p hp).1)) (fun p hp => (below _ (Heap.lt_size (N2 p hp).1)).1) (old _ _ hit) ?_
    intro h' tk' ys tl mC oK xs hd
    refine wpAny_assign_Name (s := { s with heap := h', toks := tk' }) (wpAny_storeName_local hpt xs.F.ns (fun h₂ hn₂ hs₂ => ?_) hp)
    have x₂ := xs.named sp hn₂ hs₂
    exact ⟨_, x₂.nC, fun h'' hs'' => fin _ h'' _ ys tl (x₂.left sp hs'').1 (fun q hq => (x₂.left sp hs'').2 q ((List.mem_cons.mp hq).elim (fun e => e ▸ .head _) fun hq => .tail _ (.tail _ hq))) hd⟩
  exact codeAny_compStart_list (loop _ rfl) (wpAny_pyIter_rangeiter (old _ _ hit) (loop _ rfl))
end
end -- CC
section -- CM
theorem max_is {ps : List Int} {M : Int} {nm : Nat} (h4 : ∀ p ∈ ps, p + 1 ≤ mxOf ps) (h5 : ∃ p ∈ ps, mxOf ps = p + 1) (hn : mxOf ps = (nm : Int) + 1) (ha : M ∈ ps) (hb : ∀ a ∈ ps, a ≤ M) : M = (nm : Int) := by
  obtain ⟨p, hp, e⟩ := h5
  have h1 := h4 M ha
  have h2 := hb p hp
  omega
theorem range_is {nm : Nat} (h : nm ≤ 100) : Builtin.Range.small 1 ((nm : Int) + 2) 1 = true ∧ Builtin.Range.rangeSize 1 ((nm : Int) + 2) 1 = ((nm + 1 : Nat) : Int) := by
  refine ⟨small_one (by omega) (by omega) (by omega) (by omega), ?_⟩
  rw [rangeSize_nat]
  omega
theorem epost_due {h₀ h1 h' : Heap} {s : Shared} {L : Addr} {m : Str → Option Value} {base tl : List (Addr × Obj)} {J C D I D' : Addr} {oJ oC oI o2 : Obj} {ys : List Value} {a b c : Int} {ta tb tc : Tok} {tk : Nat} {R : Prop}
    (F : Fr h₀ L h' m) (N1 : News h₀ L h1 ((D', o2) :: (J, oJ) :: (C, oC) :: (D, LCg.lst ys) :: (I, oI) :: (base ++ tl)))
    (N : News h₀ L h' ((h1.objs.size, tupOf [.int a ta, .int b tb, .int c tc] 0) :: (D', o2) :: (J, oJ) :: (C, oC) :: (D, LCg.lst ys) :: (I, oI) :: (base ++ tl)))
    (off : LCg.Off3 J C D ([(I, oI)] ++ (base ++ tl))) (hne : J ≠ D' ∧ C ≠ D' ∧ D ≠ D' ∧ I ≠ D' ∧ R) :
    EPost h₀ L m J oJ C oC D ys I oI base tl (row3 (a, b, c)) s (.ref h1.objs.size) { s with heap := h', toks := tk } := by
  refine epost_of (add := [(h1.objs.size, tupOf [.int a ta, .int b tb, .int c tc] 0), (D', o2)]) F N off (List.forall_mem_cons.mpr ⟨⟨?_, ?_, ?_, ?_⟩, List.forall_mem_cons.mpr ⟨⟨hne.1.symm, hne.2.1.symm, hne.2.2.1.symm, hne.2.2.2.1.symm⟩, fun _ h => nomatch h⟩⟩) (DatIn.tuple (vs := [_, _, _]) (n := 0) (List.mem_append_right _ (List.mem_append_left _ (.head _))) (.cons (.int _ _) (.cons (.int _ _) (.cons (.int _ _) .nil))))
  · exact Nat.ne_of_gt (Heap.lt_size (N1 (J, oJ) (.tail _ (.head _))).1)
  · exact Nat.ne_of_gt (Heap.lt_size (N1 (C, oC) (.tail _ (.tail _ (.head _)))).1)
  · exact Nat.ne_of_gt (Heap.lt_size (N1 (D, LCg.lst ys) (.tail _ (.tail _ (.tail _ (.head _))))).1)
  · exact Nat.ne_of_gt (Heap.lt_size (N1 (I, oI) (.tail _ (.tail _ (.tail _ (.tail _ (.head _)))))).1)
theorem due_data (ps : List Int) (n : Nat) : (List.range n).map (fun (j : Nat) => row3 (dueRow ps (1 + (j : Int)))) = (dueRows ps n).map row3 := by
  unfold dueRows rangeKs
  rw [List.map_map, List.map_map]
  rfl
theorem datAll_drop {l : List (Addr × Obj)} : ∀ {vs : List Value} {ds : List Dat} (k : Nat), DatAll l vs ds → DatAll l (vs.drop k) (ds.drop k)
  | _, _, 0, h => h
  | _, _, _ + 1, .nil => .nil
  | _, _, k + 1, .cons _ r => datAll_drop k r
theorem last_data {l : List (Addr × Obj)} {ys : List Value} {ps : List Int} {n : Nat} (h : DatAll l ys ((dueRows ps (n + 1)).map row3)) : DatAll l (kms_pick ys (some (-1)) none) [row3 (dueRow ps ((n : Int) + 1))] := by
  have hl := h.length
  have h2 := datAll_drop n h
  unfold dueRows at h2 hl
  rw [List.length_map, List.length_map, rangeKs_length] at hl
  have e : (((rangeKs 1 (n + 1)).map (dueRow ps)).map row3).drop n = [row3 (dueRow ps ((n : Int) + 1))] := by
    rw [rangeKs_last, List.map_append, List.map_append, List.drop_append_of_le_length (by rw [List.length_map, List.length_map, rangeKs_length]; exact Nat.le_refl _), List.drop_eq_nil_of_le (by rw [List.length_map, List.length_map, rangeKs_length]; exact Nat.le_refl _), Int.add_comm]
    rfl
  rw [e] at h2
  have e2 : kms_pick ys (some (-1)) none = ys.drop n := by
    unfold kms_pick kms_lo kms_hi
    rw [hl]
    have e3 : n + 1 - (-(-1 : Int)).toNat = n := by omega
    simp only [show ((-1 : Int) < 0) from by decide, if_true, e3]
    exact List.take_of_length_le (by rw [List.length_drop]; omega)
  rw [e2]
  exact h2
theorem rows_ok (rows : List (Int × Int × Int)) : ∀ d ∈ rows.map row3, kqdOk 8 d = true := by
  intro d hd
  obtain ⟨r, _, rfl⟩ := List.mem_map.mp hd
  rfl
theorem net_is (x : Int) : x.fmod 3 = 0 ∨ x.fmod 3 = 1 ∨ x.fmod 3 = 2 := by
  have h1 := fmod_lo x (by decide : (0 : Int) < 3)
  have h2 := fmod_hi x (by decide : (0 : Int) < 3)
  omega
theorem net_of {ds : List Int} (_ : ds.length = 6) : ∃ g : Nat, g ≤ 2 ∧ (ds.getD (Int.toNat 5) 0).fmod 3 = (g : Int) := by
  rcases net_is (ds.getD (Int.toNat 5) 0) with e | e | e
  · exact ⟨0, by omega, e⟩
  · exact ⟨1, by omega, e⟩
  · exact ⟨2, by omega, e⟩
theorem sub_cons {α : Type} {a : α} {l l' : List α} (h : ∀ p ∈ l, p ∈ l') : ∀ p ∈ a :: l, p ∈ a :: l' := fun p hp => by
  rcases List.mem_cons.mp hp with rfl | hp
  · exact .head _
  · exact .tail _ (h p hp)
theorem c_told {w : World} {s : Shared} {h₀ : Heap} {L : Addr} {news : List (Addr × Obj)} {m mg mb : Str → Option Value} {mean : ExcName → Option Value}
    {l : Addr} {vs : List Value} {rows : List (Int × Int × Int)} {q : Nat} {tg : Tok} {g : Nat} (hg : g ≤ 2)
    (F : Fr h₀ L s.heap m) (N : News h₀ L s.heap news) (hm : (l, W.listOf vs.toArray q) ∈ news) (hdat : DatAll news vs (rows.map row3)) (hr : ∀ r ∈ rows, 1 ≤ r.1 ∧ r.1 ≤ 13)
    (X : (hd.heap_39 w.params).In h₀) (T : Top hd.view_39 (looseW hd.view_39 [Str.ofString "Whitespace"]) mean mg mb h₀) (hl : rows.length ≤ 100) :
    codeAny (model Challenge.rw_pk0076_01.row.prog w) (roomA 500 500) (.call (.ref 137) ⟨[.ref l, .int (g : Int) tg], []⟩)
      (Ret s fun v h' => ∃ l' t1 t2 q', v = .ref l' ∧ News h₀ L h' [(l', W.listOf #[.int (rows.foldl (stepT g) (5, 5)).1 t1, .int (rows.foldl (stepT g) (5, 5)).2 t2] q')]) s := by
  match g, hg with
  | 0, _ => exact c_told0 F N hm hdat hr X T hl
  | 1, _ => exact c_told1 F N hm hdat hr X T hl
  | 2, _ => exact c_told2 F N hm hdat hr X T hl
  | n + 3, h => omega
theorem c_norms {w : World} {s : Shared} {h₀ : Heap} {L : Addr} {m mg mb : Str → Option Value} {mean : ExcName → Option Value} {tg : Tok} {g : Nat} (hg : g ≤ 2)
    (F : Fr h₀ L s.heap m) (X : (hd.heap_39 w.params).In h₀) (T : Top hd.view_39 (looseW hd.view_39 [Str.ofString "Whitespace"]) mean mg mb h₀) :
    codeAny (model Challenge.rw_pk0076_01.row.prog w) (roomA 500 500) (.call (.ref 125) ⟨[.int (g : Int) tg], []⟩)
      (Ret s fun v h' => ∃ l us q tl, v = .ref l ∧ News h₀ L h' tl ∧ (l, W.listOf us.toArray q) ∈ tl ∧ DatAll tl us ((gnums g).map one)) s := by
  match g, hg with
  | 0, _ => exact c_norms0 F X T
  | 1, _ => exact c_norms1 F X T
  | 2, _ => exact c_norms2 F X T
  | n + 3, h => omega
theorem gnums_len (g : Nat) : (gnums g).length ≤ 100 := by
  unfold gnums numsOf
  rw [List.length_map, pts_len]
  decide
theorem due_sizes {ps : List Int} {n : Nat} (hn : n ≤ 12) : ∀ r ∈ dueRows ps n, 1 ≤ r.1 ∧ r.1 ≤ 13 := by
  intro r hr
  obtain ⟨k, hk, rfl⟩ := List.mem_map.mp hr
  have h := mem_rangeKs hk
  show 1 ≤ k ∧ k ≤ 13
  omega
theorem due_len (ps : List Int) (n : Nat) : (dueRows ps n).length = n := by unfold dueRows; rw [List.length_map, rangeKs_length]
end -- CM
section -- CL
local macro_rules | `(tactic| walk_at "M enterL") => `(tactic| ((case k3 => assumption); (case k5 => assumption); (case k6 => k_is); (case k7 => k_is); (case k8 => decide); (case k9 => exact BindsTo.of_eq rfl); (case kB => exact rfl); (case kD => decide +kernel); (case c2 => exact rfl); (case c3 => exact rfl); (case c4 => exact rfl)))
local macro_rules | `(tactic| walk_at "call ref") => `(tactic| (k_here; (try dsimp only [List.nil_append, List.cons_append]); (with_reducible show wpAny _ _ (call (Value.ref 120) _) _ _ _); refine' use_ret (by k_asm) (by k_asm) ?h1 ?h2 ?h3 (c_drawn (by k_asm) (by assumption) (by assumption) (by assumption) (by assumption) (by assumption)) ?_; (case h1 => rfl); (case h2 => exact Nat.le_of_ble_eq_true rfl); (case h3 => exact Nat.le_of_ble_eq_true rfl); intro v' h' tk' F' N' st' hv'; obtain ⟨l', us', ds', q', hv', hN', hI', hl'⟩ := hv'; subst hv'; replace N' := News.append hN' N'; simp only [List.cons_append, List.nil_append] at N'; (try clear hN'); (try k_sweep)))
theorem spans_ok {ys : List Value} {ds : List Int} (h : IntsAre ys ((rangeKs 0 5).map fun k => (ds.getD k.toNat 0).fmod 12)) : ∃ ps, IntsAre ys ps ∧ ps.length = 5 ∧ (∀ p ∈ ps, 0 ≤ p ∧ p ≤ 11) := by
  refine ⟨_, h, by rw [List.length_map, rangeKs_length], fun p hp => ?_⟩
  obtain ⟨k, _, rfl⟩ := List.mem_map.mp hp
  have h1 := fmod_lo (ds.getD k.toNat 0) (by decide : (0 : Int) < 12)
  have h2 := fmod_hi (ds.getD k.toNat 0) (by decide : (0 : Int) < 12)
  omega
local macro_rules | `(tactic| walk_at "binaryOp Mult str int") => `(tactic| (k_here; (with_reducible show wpAny _ _ (binaryOp Operator.Mult (Value.str _ _) (Value.int _ _)) _ _ _); (rename ∀ p ∈ _, 0 ≤ p ∧ p ≤ 11 => hB9); (rename (_ ∈ _) => hM9); (have hM8 := hB9 _ hM9); (refine SB.mul (mulOk_of 1 12 (by decide) (by omega) (by omega) (by decide) (by decide)) ?_); intro _ _))
set_option maxHeartbeats 8000000 in
theorem c_law : ∀ {w : World} {s : Shared} {mg mb : Str → Option Value} {mean : ExcName → Option Value}
  {sc : Addr} {vs : List Value} {ns : List Int},
  (hd.heap_39 w.params).In s.heap → Top hd.view_39 (looseW hd.view_39 [Str.ofString "Whitespace"]) mean mg mb s.heap → s.heap.IsList sc vs.toArray → IntsAre vs ns → ns.length ≤ 63 →
  codeAny (model Challenge.rw_pk0076_01.row.prog w) (roomA 400 300) (.call (.ref 142) ⟨[.ref sc], []⟩)
    (Ret s fun v h' => v = .bool true) s := by
  k_fill
  intro w s mg mb mean sc vs ns X T hsc hv hlen
  w_on
  w_top on
  refine' enter_lawC (binds := [(Str.ofString "script", .ref sc)]) ?k3 ?k5 ?k6 ?k7 ?k8 ?k9 ?kB ?kD ?_ ?c2 ?c3 ?c4
  walk_at "M enterL"
  intro g' L' h' tk' cells' hg' hL' F' N' Y' X' T'
  k_cells Y'
  (try simp only [List.cons_append, List.nil_append] at N')
  have hsc' : g'.IsList sc vs.toArray := by subst hg'; exact hsc
  show wpAny _ _ _ _ _ _
  k_fold
  repeat ((fail_if_success (rename IntsAre _ (List.map _ (rangeKs 0 5)) => hI5)); walk1)
  rename IntsAre _ (List.map _ (rangeKs 0 5)) => hI5
  with_reducible rename (_ = (List.map _ (rangeKs 0 _)).length) => hL5
  clear hL5
  obtain ⟨ps, hps, hp5, hpb⟩ := spans_ok hI5
  clear hI5
  repeat ((fail_if_success (with_reducible show wpAny _ _ (eval (Expr.ListComp _ _ _ _) _) _ _ _)); walk1)
  refine LCg.ListComp_U (F₀ := by k_asm) (by with_unfolding_all rfl) (by decide) (by rfl) (by decide) (by rfl) ?_
  walk1
  refine LCg.CompSrc.ledger rfl (by k_asm) (by k_asm) (by k_mem) (by rw [List.size_toArray, hps.length, (by assumption : ps.length = 5)]; exact Nat.le_of_ble_eq_true rfl) ?_
  intro g2
  refine kct_list bar hps (fun k t I oI C oC D m₂ ys h tk E' hk hC hx hF hN hoff hne hmk => ?_) ?_
  · show wpAny _ _ _ _ _ _
    k_fold
    k_steps
    rename ∀ p ∈ ps, 0 ≤ p ∧ p ≤ 11 => hpb
    rename k ∈ ps => hk
    have hkb := bar_all (hpb k hk).1 (hpb k hk).2
    refine SB.add ?_ (by rw [sizeLine_eq]; have e9 : (Str.ofString "\t").length = 1 := (by decide); omega)
    intro t9 k9
    refine ⟨_, _, _, rfl, by assumption, by assumption, hoff, .inr ⟨_, .head _, rfl, _, rfl⟩, rfl, _, rfl⟩
  · intro fs hfs hfl
    intro D h tk hF hN o1
    (try clear N'); (try clear F')
    show wpAny _ _ _ _ _ _
    k_steps
    refine KT.join_B 12 (News.isList (by k_asm) (by k_mem)) hfs (fun a ha => (bar_all (hpb a ha).1 (hpb a ha).2).2.1) (by rw [(by assumption : ps.length = 5)]; decide) (by decide) ?_
    intro t9 k9
    k_steps
    have hll := line_len hp5 hpb
    refine SB.add ?_ (by rw [sizeLine_eq]; have e9 : (Str.ofString "x \t").length = 3 := (by decide); omega)
    intro t8 k8
    have hla := line_all hpb
    have hls := line_allLen hp5 hpb
    generalize Txt.join (Str.ofString "") (ps.map bar) ++ Str.ofString "x \t" = txt at hla hls ⊢
    clear hll
    repeat ((fail_if_success (with_reducible show wpAny _ _ (call (Value.ref 111) _) _ _ _)); walk1)
    refine' call_cls ?k1 ?k2 ?k3 ?k4 ?k5 ?k6 ?_
    (case k1 => k_asm); (case k2 => k_asm); (case k3 => k_asm); (case k4 => k_is); (case k5 => k_is); (case k6 => k_is)
    intro x1 d1 h1 F1 N1 l1 l2
    refine codeAny_room rfl (by exact Nat.le_of_ble_eq_true rfl) (by exact Nat.le_of_ble_eq_true rfl) (c_init F1 N1 l1 l2 hls hla pre5_signs (by decide) (by decide) (by assumption) (by assumption) ?_)
    rw [(line_state hp5 hpb).1, (line_state hp5 hpb).2.1, (line_state hp5 hpb).2.2]
    intro h2 tk2 a1 c1 e1 e2 e3 e4 e5 t1 t2 t3 t4 t5 t6 t7 q1 q2 n1 sim1 vs1 F2 N2 hv1 l3 l4
    refine ⟨rfl, ?_⟩
    show wpAny _ _ _ _ _ _
    clear F1 N1
    (try clear hF); (try clear hN)
    (try dsimp only [List.cons_append, List.nil_append] at N2)
    repeat ((fail_if_success (with_reducible show wpAny _ _ (call (Value.ref 111) _) _ _ _)); walk1)
    refine' call_cls ?k1 ?k2 ?k3 ?k4 ?k5 ?k6 ?_
    (case k1 => k_asm); (case k2 => k_asm); (case k3 => k_asm); (case k4 => k_is); (case k5 => k_is); (case k6 => k_is)
    intro x2 d2 h3 F3 N3 l5 l6
    refine codeAny_room rfl (by exact Nat.le_of_ble_eq_true rfl) (by exact Nat.le_of_ble_eq_true rfl) (c_init (pre := [9, 9, 9, 9, 9]) (z := 120) (rest := []) F3 N3 l5 l6 (by decide +kernel) (by decide +kernel) (by decide) (by decide) (by decide) (by assumption) (by assumption) ?_)
    rw [plain_state.1, plain_state.2.1, plain_state.2.2]
    intro h4 tk4 a2 c2 e1' e2' e3' e4' e5' t1' t2' t3' t4' t5' t6' t7' q1' q2' n2 sim2 vs2 F4 N4 hv2 l7 l8
    refine ⟨rfl, ?_⟩
    show wpAny _ _ _ _ _ _
    clear F3 N3
    (try dsimp only [List.cons_append, List.nil_append] at N4)
    repeat ((fail_if_success (with_reducible show wpAny _ _ (call (Value.ref 108) _) _ _ _)); walk1)
    obtain ⟨hm1, hm2, hm3, hm4, hm5⟩ := mx_facts hp5 hpb
    obtain ⟨nm, hnm⟩ : ∃ nm : Nat, mxOf ps = (nm : Int) + 1 := ⟨(mxOf ps - 1).toNat, by omega⟩
    refine use_ret (by k_asm) (by k_asm) rfl (by exact Nat.le_of_ble_eq_true rfl) (by exact Nat.le_of_ble_eq_true rfl)
      (c_nlw (cnt := nm + 1) (by k_asm) (by k_asm) (by k_mem) (by k_mem) (by k_mem) (by k_mem) (by k_mem) (by k_mem) (by k_mem) (by k_mem) (by assumption) (by assumption) hv1 hv2 (by omega) (by decide) (by decide) (by decide)
        (by rw [hm1, hnm]; show _ = max (max _ 0) (max ((1 : Int) - 1) 0) + 1; omega)) ?_
    rintro v6 h6 tk6 F6 N6 st6 ⟨tl6, hT6, hD6⟩
    rw [rows_there hp5 hpb] at hD6
    cases hD6 with
    | list hm6 hA6 =>
    rename_i l6 vs6 n6
    have N7 := news_cons (News.append N6 hT6) (List.mem_append_right _ hm6)
    simp only [List.cons_append, List.nil_append] at N7
    clear N6 hT6
    repeat ((fail_if_success (with_reducible show wpAny _ _ (exec (Stmt.Assign [_] (Expr.ListComp _ _ _ _) _) _) _ _ _)); walk1)
    rename Fr g' _ _ _ => hF8
    rename News g' _ _ _ => hN8
    (try dsimp only at hF8); (try dsimp only at hN8)
    have hb8 := News.perm hN8 (List.forall_mem_cons.mpr ⟨.head _, List.forall_mem_cons.mpr ⟨.tail _ (.head _), List.forall_mem_cons.mpr ⟨.tail _ (.tail _ (.head _)), List.forall_mem_cons.mpr ⟨.tail _ (.tail _ (.tail _ (.head _))), List.forall_mem_cons.mpr ⟨.tail _ (.tail _ (.tail _ (.tail _ (.head _)))), List.forall_mem_cons.mpr ⟨.tail _ (.tail _ (.tail _ (.tail _ (.tail _ (.head _))))), List.forall_mem_cons.mpr ⟨.tail _ (.tail _ (.tail _ (.tail _ (.tail _ (.tail _ (.head _)))))), List.forall_mem_cons.mpr ⟨.tail _ (.tail _ (.tail _ (.tail _ (.tail _ (.tail _ (.tail _ (.head _))))))), List.forall_mem_cons.mpr ⟨.tail _ (.tail _ (.tail _ (.tail _ (.tail _ (.tail _ (.tail _ (.tail _ (.head _)))))))), List.forall_mem_cons.mpr ⟨.tail _ (.tail _ (.tail _ (.tail _ (.tail _ (.tail _ (.tail _ (.tail _ (.tail _ (.tail _ (.head _)))))))))), List.forall_mem_cons.mpr ⟨.tail _ (.tail _ (.tail _ (.tail _ (.tail _ (.tail _ (.tail _ (.tail _ (.tail _ (.tail _ (.tail _ (.tail _ (.head _)))))))))))), fun p hp => .tail _ (.tail _ (.tail _ (.tail _ (.tail _ (.tail _ (.tail _ (.tail _ (.tail _ (.tail _ (.tail _ (.tail _ (.tail _ (.tail _ hp)))))))))))))⟩⟩⟩⟩⟩⟩⟩⟩⟩⟩⟩)
    clear hN8
    refine Assign_cell (n := nm + 1) (a := 1) hF8 hb8 rfl (by omega) rfl (by with_unfolding_all rfl) (by with_unfolding_all rfl) (fun _ => rfl) (fun _ => rfl) rfl (by decide) (by with_unfolding_all rfl) rfl rfl (fun j => row3 (dueRow ps (1 + (j : Int)))) ?_ ?_ ?_
    · k_steps
      rename (_ ∈ ps) => hMa
      rename (∀ a ∈ ps, a ≤ _) => hMb
      have eM := max_is hm4 hm5 hnm hMa hMb
      rename IsRange _ _ 1 _ 1 _ _ _ => hr8
      rw [eM] at hr8
      exact ⟨_, _, _, _, _, _, _, rfl, rfl, by assumption, by assumption, hr8, (range_is (by omega)).1, (range_is (by omega)).2⟩
    · intro C D I K j tl ys mC oC oI oK h tk hj hC hoK hF hN hoff
      clear hF8 hb8
      obtain ⟨tj, hoK⟩ := hoK
      simp only [List.cons_append, List.nil_append] at hN
      show wpAny _ _ _ _ _ _
      k_fold
      k_steps
      rename (I ≠ _ ∧ C ≠ _ ∧ D ≠ _ ∧ K ≠ _ ∧ _) => hne8
      exact epost_due (by assumption) (by assumption) (by assumption) hoff hne8
    · intro D h tk ys tl hF hN hd
      clear hF8 hb8
      rw [due_data] at hd
      simp only [List.cons_append, List.nil_append] at hN hd
      show wpAny _ _ _ _ _ _
      repeat ((fail_if_success (with_reducible show wpAny _ _ (compareOp _ _ _) _ _ _)); walk1)
      have hs6 : ∀ p ∈ tl6, p ∈ tl6 ++ tl := fun p hp => List.mem_append_left _ hp
      refine kqd_ne hN (.tail _ (.head _)) rfl rfl hA6 (by walk_at "M sub") (.head _) rfl rfl hd (fun p hp => .tail _ hp) (rows_ok _) (rows_ok _) (by ke_room) ?_
      simp only [eq_self, decide_true, Bool.not_true]
      repeat ((fail_if_success (with_reducible show wpAny _ _ (call (Value.ref 108) _) _ _ _)); walk1)
      refine use_ret (by k_asm) (by k_asm) rfl (by exact Nat.le_of_ble_eq_true rfl) (by exact Nat.le_of_ble_eq_true rfl)
        (c_nlw (cnt := nm + 1) (by k_asm) (by k_asm) (by k_mem) (by k_mem) (by k_mem) (by k_mem) (by k_mem) (by k_mem) (by k_mem) (by k_mem) (by assumption) (by assumption) hv2 hv1 (by decide) (by omega) (by decide) (by decide)
          (by rw [hm1, hnm]; show _ = max (max ((1 : Int) - 1) 0) (max _ 0) + 1; omega)) ?_
      rintro v9 h9 tk9 F9 N9 st9 ⟨tl9, hT9, hD9⟩
      rw [rows_back hp5 hpb hnm] at hD9
      cases hD9 with
      | list hm9 hA9 =>
      rename_i l9 vs9 n9
      have N10 := news_cons (News.append N9 hT9) (List.mem_append_right _ hm9)
      simp only [List.cons_append, List.nil_append] at N10
      clear N9 hT9
      repeat ((fail_if_success (with_reducible show wpAny _ _ (subscriptTail _ _ _ _) _ _ _)); walk1)
      k_here
      refine' kms_slice_lit (its := ys.toArray) (zs := kms_pick ys (some (-1)) none) ?zF ?zN ?zl ?zp ?zq ?ze ?_ ?zs ?zt ?zz
      (case zF => k_asm); (case zN => k_asm); (case zl => exact News.isList N10 (by k_mem)); (case zp => exact IsPart.int _ _); (case zq => exact IsPart.none); (case ze => exact rfl); (case zs => with_unfolding_all rfl); (case zt => (intro _; with_unfolding_all rfl)); (case zz => (rw [List.size_toArray, hd.length, List.length_map, sizeLine_eq]; unfold dueRows; rw [List.length_map, rangeKs_length]; omega))
      intro D10 h10 F10 N11 lt10
      clear N10
      have hd10 := last_data hd
      repeat ((fail_if_success (with_reducible show wpAny _ _ (compareOp _ _ _) _ _ _)); walk1)
      refine kqd_ne N11 (.tail _ (.head _)) rfl rfl hA9 (by walk_at "M sub") (.head _) rfl rfl hd10 ?_ (rows_ok [_]) (rows_ok [_]) (by ke_room) ?_
      · refine fun p hp => .tail _ (.tail _ (.tail _ (?_ : _)))
        revert p
        (repeat (first | refine sub_cons ?_ | exact fun p hp => List.mem_append_left _ hp))
      simp only [eq_self, decide_true, Bool.not_true]
      rename (List.length _ = 6) => hds6
      obtain ⟨g, hg2, hnet⟩ := net_of hds6
      rw [hnet] at F10
      clear hF
      repeat ((fail_if_success (with_reducible show wpAny _ _ (call (Value.ref 137) _) _ _ _)); walk1)
      have hn1 : mxOf ps = ((nm + 1 : Nat) : Int) := by omega
      have hs12 : ∀ p ∈ tl6, p ∈ tl6 ++ tl ++ tl9 := fun p hp => List.mem_append_left _ (hs6 p hp)
      refine use_ret (by k_asm) (by k_asm) rfl (by exact Nat.le_of_ble_eq_true rfl) (by exact Nat.le_of_ble_eq_true rfl)
        (c_told hg2 (by k_asm) N11 (by k_mem) (DatAll.mono (fun p hp => .tail _ (.tail _ (.tail _ (.tail _ (.tail _ (.tail _ (.tail _ (.tail _ (.tail _ (.tail _ (.tail _ (.tail _ (.tail _ (.tail _ (hs12 p hp))))))))))))))) hA6) (due_sizes (by omega)) (by assumption) (by assumption) (by rw [due_len]; omega)) ?_
      rintro v12 h12 tk12 F12 N12 st12 ⟨l12, t12, t13, q12, rfl, hT12⟩
      rw [told_counted hg2 hp5 hpb hn1] at hT12
      replace N12 := News.append hT12 N12
      simp only [List.cons_append, List.nil_append] at N12
      clear N11 F10 hT12
      repeat ((fail_if_success (with_reducible show wpAny _ _ (call (Value.ref 125) _) _ _ _)); walk1)
      refine use_ret (by k_asm) (by k_asm) rfl (by exact Nat.le_of_ble_eq_true rfl) (by exact Nat.le_of_ble_eq_true rfl)
        (c_norms hg2 (by k_asm) (by assumption) (by assumption)) ?_
      rintro v14 h14 tk14 F14 N14 st14 ⟨l14, us14, q14, tl14, rfl, hT14, hm14, hA14⟩
      have hall := News.append hT14 N14
      clear N12 F12
      repeat ((fail_if_success (with_reducible show wpAny _ _ (call (Value.ref 130) _) _ _ _)); walk1)
      refine use_ret (by k_asm) (by k_asm) rfl (by exact Nat.le_of_ble_eq_true rfl) (by exact Nat.le_of_ble_eq_true rfl)
        (c_counted (by k_asm) hall (List.mem_append_left _ hm14) (DatAll.mono (fun p hp => List.mem_append_left _ hp) hA14) (List.mem_append_right _ (by k_mem)) hps hpb (by omega) (gnums_len g) (by assumption) (by assumption)) ?_
      rintro v16 h16 tk16 F16 N16 st16 ⟨l16, t16, t17, q16, rfl, hT16⟩
      replace N16 := News.append hT16 N16
      simp only [List.cons_append, List.nil_append] at N16
      clear N14 F14 hT16
      refine kqd_eq (n₁ := []) (n₂ := []) (xs := [_, _]) (ys := [_, _]) N16 (List.mem_cons_of_mem _ (List.mem_append_right _ (.head _))) rfl rfl (.cons (.int _ _) (.cons (.int _ _) .nil)) (fun _ h => nomatch h) (.head _) rfl rfl (.cons (.int _ _) (.cons (.int _ _) .nil)) (fun _ h => nomatch h)
        (List.forall_mem_cons.mpr ⟨rfl, List.forall_mem_cons.mpr ⟨rfl, fun _ h => nomatch h⟩⟩) (List.forall_mem_cons.mpr ⟨rfl, List.forall_mem_cons.mpr ⟨rfl, fun _ h => nomatch h⟩⟩) (by ke_room) ?_
      simp only [eq_self, decide_true]
      (try dsimp only)
      refine ⟨_, _, _, rfl, rfl, fun b o e => F16.keep b o ?_, rfl⟩
      rw [hg']
      exact e
end -- CL
end Mine
end
open PySem.Calls
set_option maxRecDepth 100000 in
set_option maxHeartbeats 8000000 in
theorem PySem.Challenge.cw_pk0076_01_holds : PySem.Challenge.rw_pk0076_01.Holds := by
  w_on
  refine Mine.hd ?_
  k_fill
  intro w s₀ s₁ mg mb G Y fa o pm cd doc dV kV ho hd hcd hD hmg hg args vals as hpre hlay hrd hwl hlo
  have KX := kIn_of Y
  refine Ground.open G ?_
  intro T B D TE TW
  try (refine guard_noD D (by decide +kernel) ?_; clear D)
  have e1 := mg_of KX T.g (n := Str.ofString "law") (v := .ref 142) (by kernel_rfl)
  have e2 := hmg.symm.trans e1
  clear ho hd hcd hD hmg
  wrow_args hpre hlay hrd hwl hlo
  refine enter_call ?_
  injection e2 with e3
  injection e3 with e4
  subst e4
  rename IntsAre _ _ => hints
  rename Heap.IsList _ _ _ => hlist
  rename (¬ _ < _) => hlen
  refine codeAny_mono (Mine.codeAny_room rfl (by decide +kernel) (by decide) (Mine.c_law KX T hlist hints (by omega))) (fun r s' hr => GoodW.toG ?_)
  obtain ⟨v, h', tk, rfl, rfl, st, rfl⟩ := hr
  refine ⟨.inl ⟨.bool true, .bool true, [], rfl, ?_, .bool true, ?_, ?_⟩, st, rfl, hg⟩
  · intro cls
    rfl
  · first | (with_unfolding_all rfl) | kernel_rfl
  · intro _
    exact ⟨List.nodup_nil, fun _ h => nomatch h⟩
