import PyProof.Rows.All
import Wide.All
import OpenK.AllK
import Wide.FinOn
import Lean
import PySem.Challenge.RW_un0031_01
set_option Elab.async false
section
open PySem PySem.W PyProof.Rows
namespace Mine
/-- k_head writes the heap out as the constant hd.heap_1; the rest of the head waits for UnEnd -/
local macro_rules | `(tactic| o_head $_) => `(tactic| exact False.elim (by assumption))
set_option maxRecDepth 100000 in
set_option maxHeartbeats 8000000 in
theorem hd (no : False) : PySem.Challenge.rw_un0031_01.Holds := by
  refine holds_law no.elim fun _ => ?_
  k_head
end Mine
end
section
open PySem PySem.W PyProof.Rows PySem.Calls
namespace Mine
set_option maxRecDepth 100000

/-- what every call leans on of the elder heap -/
structure Rdy (w : World) (h₀ : Heap) : Prop where
  K : (hd.heap_1 w.params).In h₀
  T : ∃ p loose mean mg mb, Top p loose mean mg mb h₀
  C : CodeHd h₀ 217 213
theorem Rdy.keeps {w : World} {h₀ g : Heap} (Y : Rdy w h₀) (st : ∀ b o, h₀.get? b = some o → g.get? b = some o) : Rdy w g :=
  let ⟨p, loose, mean, mg, mb, T⟩ := Y.T
  ⟨fun b o e => st b o (Y.K b o e), ⟨p, loose, mean, mg, mb, T.keeps st⟩, Y.C.keeps st⟩

abbrev AAt (k : Nat) : Around := { handled := none, depth := k, frames := none, guards := none, units := 4 * k }
abbrev PP : Program := Challenge.rw_un0031_01.row.prog

theorem site (k : Nat) {α : Type} {M : Model} {A : Around} {t : Sem α} {Q : α → Shared → Prop} {E : Value → Shared → Prop} {s : Shared}
    (h0 : A.handled = none) (h1 : A.depth ≤ k) (h2 : A.units ≤ 4 * k) (h : wpAny M (AAt k) t Q E s) : wpAny M A t Q E s :=
  fun Γ p hΓ => h Γ p ⟨hΓ.1.trans h0, Nat.le_trans hΓ.2.1 h1, nofun, nofun, Nat.le_trans hΓ.2.2.2.2 h2⟩
theorem siteC (k : Nat) {M : Model} {A : Around} {c : Code} {R : Result → Shared → Prop} {s : Shared}
    (h0 : A.handled = none) (h1 : A.depth ≤ k) (h2 : A.units ≤ 4 * k) (h : codeAny M (AAt k) c R s) : codeAny M A c R s :=
  fun Γ p hc hΓ => h Γ p hc ⟨hΓ.1.trans h0, Nat.le_trans hΓ.2.1 h1, nofun, nofun, Nat.le_trans hΓ.2.2.2.2 h2⟩

/-- membership by places: the first n entries of l' stand at the places is of l, the rest is l's rest behind k -/
theorem in_take {α : Type} {l l' : List α} (n k : Nat) (is : List Nat) (h : (l'.take n).map some = is.map (fun i => l[i]?)) (hd : l.drop k = l'.drop n) : ∀ p ∈ l', p ∈ l := by
  intro p hp
  rw [← List.take_append_drop n l'] at hp
  rcases List.mem_append.mp hp with hp | hp
  · have : some p ∈ is.map (fun i => l[i]?) := h ▸ List.mem_map_of_mem hp
    obtain ⟨i, _, e⟩ := List.mem_map.mp this
    exact List.mem_of_getElem? e
  · rw [← hd] at hp
    exact List.mem_of_mem_drop hp
theorem in_idx {α : Type} {l l' : List α} (is : List Nat) (h : l'.map some = is.map (fun i => l[i]?)) : ∀ p ∈ l', p ∈ l := by
  intro p hp
  have : some p ∈ is.map (fun i => l[i]?) := h ▸ List.mem_map_of_mem hp
  obtain ⟨i, _, e⟩ := List.mem_map.mp this
  exact List.mem_of_getElem? e
abbrev adrs (l : List (Addr × Obj)) : List Addr := l.map fun p => p.1
/-- a rising row of addresses: what stands at different places differs -/
def Rising : List Nat → Prop
  | a :: b :: r => a < b ∧ Rising (b :: r)
  | _ => True
theorem Rising.all : ∀ {a : Nat} {r : List Nat}, Rising (a :: r) → ∀ b ∈ r, a < b
  | a, b :: r, h, x, hx => by
    rcases List.mem_cons.mp hx with rfl | hx
    · exact h.1
    · exact Nat.lt_trans h.1 (Rising.all h.2 x hx)
theorem Rising.pair : ∀ {l : List Nat}, Rising l → l.Pairwise (· < ·)
  | [], _ => .nil
  | [_], _ => .cons (fun _ h => nomatch h) .nil
  | _ :: _ :: _, h => .cons (Rising.all h) (Rising.pair h.2)
theorem Rising.at {c : List Nat} (hc : Rising c) {i k a x : Nat} (hi : c[i]? = some a) (hx : c[k]? = some x) (h : i < k) : a < x := by
  obtain ⟨h1, rfl⟩ := List.getElem?_eq_some_iff.mp hi
  obtain ⟨h2, rfl⟩ := List.getElem?_eq_some_iff.mp hx
  exact List.pairwise_iff_getElem.mp hc.pair _ _ h1 h2 h
theorem Rising.ne {c : List Nat} (hc : Rising c) {i k a x : Nat} (hi : c[i]? = some a) (hx : c[k]? = some x) (h : i ≠ k) : a ≠ x := by
  rcases Nat.lt_or_gt_of_ne h with h | h
  · exact Nat.ne_of_lt (hc.at hi hx h)
  · exact Nat.ne_of_gt (hc.at hx hi h)
theorem at_idx {c : List Nat} {is : List Nat} {l : List (Addr × Obj)} (h : l.map (fun p => some p.1) = is.map (fun i => c[i]?)) : ∀ p ∈ l, ∃ i ∈ is, c[i]? = some p.1 := by
  intro p hp
  have : some p.1 ∈ is.map (fun i => c[i]?) := h ▸ List.mem_map_of_mem (f := fun p : Addr × Obj => some p.1) hp
  obtain ⟨i, hi, e⟩ := List.mem_map.mp this
  exact ⟨i, hi, e⟩
theorem rise_ne {c : List Nat} (hc : Rising c) (k : Nat) (is : List Nat) {l : List (Addr × Obj)} {x : Nat} (hx : c[k]? = some x) (h : l.map (fun p => some p.1) = is.map (fun i => c[i]?)) (hk : (is.all fun i => !Nat.beq i k) = true) : ∀ p ∈ l, p.1 ≠ x := by
  intro p hp
  obtain ⟨i, hi, e⟩ := at_idx h p hp
  refine hc.ne e hx fun q => ?_
  have := List.all_eq_true.mp hk i hi
  rw [q, Nat.beq_refl] at this
  cases this
theorem rise_lt {c : List Nat} (hc : Rising c) (k : Nat) (is : List Nat) {l : List (Addr × Obj)} {x : Nat} (hx : c[k]? = some x) (h : l.map (fun p => some p.1) = is.map (fun i => c[i]?)) (hk : (is.all fun i => Nat.blt i k) = true) : ∀ p ∈ l, @LT.lt Nat _ p.1 x := by
  intro p hp
  obtain ⟨i, hi, e⟩ := at_idx h p hp
  exact hc.at e hx (Nat.blt_eq ▸ List.all_eq_true.mp hk i hi)
theorem rise_gt {c : List Nat} (hc : Rising c) (k : Nat) (is : List Nat) {l : List (Addr × Obj)} {x : Nat} (hx : c[k]? = some x) (h : l.map (fun p => some p.1) = is.map (fun i => c[i]?)) (hk : (is.all fun i => Nat.blt k i) = true) : ∀ p ∈ l, @LT.lt Nat _ x p.1 := by
  intro p hp
  obtain ⟨i, hi, e⟩ := at_idx h p hp
  exact hc.at hx e (Nat.blt_eq ▸ List.all_eq_true.mp hk i hi)
theorem rise_ge {c : List Nat} (hc : Rising c) (k : Nat) (is : List Nat) {l : List (Addr × Obj)} {x : Nat} (hx : c[k]? = some x) (h : l.map (fun p => some p.1) = is.map (fun i => c[i]?)) (hk : (is.all fun i => Nat.ble k i) = true) : ∀ p ∈ l, @LE.le Nat _ x p.1 := by
  intro p hp
  obtain ⟨i, hi, e⟩ := at_idx h p hp
  rcases Nat.lt_or_eq_of_le (Nat.le_of_ble_eq_true (List.all_eq_true.mp hk i hi)) with q | q
  · exact Nat.le_of_lt (hc.at hx e q)
  · subst q; rw [hx] at e; exact Nat.le_of_eq (Option.some.inj e)
theorem rise_le {c : List Nat} (hc : Rising c) (k : Nat) (is : List Nat) {l : List (Addr × Obj)} {x : Nat} (hx : c[k]? = some x) (h : l.map (fun p => some p.1) = is.map (fun i => c[i]?)) (hk : (is.all fun i => Nat.ble i k) = true) : ∀ p ∈ l, @LE.le Nat _ p.1 x := by
  intro p hp
  obtain ⟨i, hi, e⟩ := at_idx h p hp
  rcases Nat.lt_or_eq_of_le (Nat.le_of_ble_eq_true (List.all_eq_true.mp hk i hi)) with q | q
  · exact Nat.le_of_lt (hc.at e hx q)
  · subst q; rw [hx] at e; exact Nat.le_of_eq (Option.some.inj e).symm
/-- no address of the row stands twice -/
theorem rise_nodup {c : List Nat} (hc : Rising c) (is : List Nat) {l : List (Addr × Obj)} (h : l.map (fun p => some p.1) = is.map (fun i => c[i]?)) (hn : is.Nodup) : (adrs l).Nodup := by
  rw [List.nodup_iff_pairwise_ne, List.pairwise_iff_getElem]
  intro i j hi hj hij e
  have li : i < l.length := by simpa using hi
  have lj : j < l.length := by simpa using hj
  have hl : l.length = is.length := by have := congrArg List.length h; simpa using this
  have gi : c[is[i]]? = some (l[i]).1 := by
    have := congrArg (fun x => x[i]?) h
    simp only [List.getElem?_map, List.getElem?_eq_getElem li, List.getElem?_eq_getElem (hl ▸ li), Option.map_some] at this
    exact (Option.some.inj this).symm
  have gj : c[is[j]]? = some (l[j]).1 := by
    have := congrArg (fun x => x[j]?) h
    simp only [List.getElem?_map, List.getElem?_eq_getElem lj, List.getElem?_eq_getElem (hl ▸ lj), Option.map_some] at this
    exact (Option.some.inj this).symm
  refine hc.ne gi gj (fun q => ?_) (by simpa using e)
  exact List.pairwise_iff_getElem.mp (List.nodup_iff_pairwise_ne.mp hn) i j (hl ▸ li) (hl ▸ lj) hij q
/-- the cells stand in the heap and are no part of the elder heap -/
def Cells (h₀ h : Heap) (l : List (Addr × Obj)) : Prop := ∀ p ∈ l, h.get? p.1 = some p.2 ∧ h₀.get? p.1 = none
/-- all but the named addresses stand as they stood -/
def Kept (as : List Addr) (h h' : Heap) : Prop := ∀ b o, h.get? b = some o → b ∉ as → h'.get? b = some o

theorem Cells.sub {h₀ h : Heap} {l l' : List (Addr × Obj)} (C : Cells h₀ h l) (hs : ∀ p ∈ l', p ∈ l) : Cells h₀ h l' := fun p hp => C p (hs p hp)
theorem Cells.of_news {h₀ h : Heap} {L : Addr} {l news : List (Addr × Obj)} (N : News h₀ L h news) (hs : ∀ p ∈ l, p ∈ news) : Cells h₀ h l := fun p hp => ⟨(N p (hs p hp)).1, (N p (hs p hp)).2.2⟩

/-- the heap that a call stands on: what it may change is hidden, all else is there -/
structure Inn (w : World) (h₀ sh g : Heap) (as : List Addr) : Prop where
  Y : Rdy w g
  st : ∀ b o, h₀.get? b = some o → g.get? b = some o
  up : ∀ b o, sh.get? b = some o → b ∉ as → g.get? b = some o
  dn : ∀ b o, g.get? b = some o → sh.get? b = some o
  hid : ∀ b ∈ as, g.get? b = none

/-- what a call leaves: the elder heap, all that it did not take, and its cells -/
structure Out (h₀ sh h' : Heap) (as : List Addr) (cells' : List (Addr × Obj)) : Prop where
  st : ∀ b o, h₀.get? b = some o → h'.get? b = some o
  kept : Kept as sh h'
  cells : Cells h₀ h' cells'
  fresh : ∀ p ∈ cells', p.1 ∈ as ∨ sh.get? p.1 = none

theorem Inn.out {w : World} {h₀ sh g h' : Heap} {as : List Addr} {L : Addr} {m : Str → Option Value} {cells' : List (Addr × Obj)} (I : Inn w h₀ sh g as) (F : Fr g L h' m) (N : News g L h' cells') : Out h₀ sh h' as cells' where
  st := fun b o e => F.keep b o (I.st b o e)
  kept := fun b o e hb => F.keep b o (I.up b o e hb)
  cells := fun p hp => ⟨(N p hp).1, by
    cases q : h₀.get? p.1 with
    | none => rfl
    | some o => have := (N p hp).2.2; rw [I.st _ _ q] at this; cases this⟩
  fresh := fun p hp => by
    by_cases ha : p.1 ∈ as
    · exact .inl ha
    · refine .inr ?_
      cases q : sh.get? p.1 with
      | none => rfl
      | some o => have := (N p hp).2.2; rw [I.up _ _ q ha] at this; cases this

theorem Out.sub {h₀ sh h' : Heap} {as : List Addr} {c c' : List (Addr × Obj)} (O : Out h₀ sh h' as c) (hs : ∀ p ∈ c', p ∈ c) : Out h₀ sh h' as c' :=
  ⟨O.st, O.kept, O.cells.sub hs, fun p hp => O.fresh p (hs p hp)⟩

/-- what came back as it was is no part of what the call took -/
theorem Out.shrink {h₀ sh h' : Heap} {as : List Addr} {c : List (Addr × Obj)} (O : Out h₀ sh h' as c) (as' : List Addr) (c' : List (Addr × Obj)) (hs : ∀ p ∈ c', p ∈ c)
    (ha : ∀ a ∈ as, a ∈ as' ∨ ∃ o, sh.get? a = some o ∧ (a, o) ∈ c) (hf : ∀ p ∈ c', p.1 ∈ as' ∨ p.1 ∉ as) : Out h₀ sh h' as' c' where
  st := O.st
  kept := fun b o e hb => by
    by_cases h : b ∈ as
    · rcases ha b h with q | ⟨o', e', m⟩
      · exact absurd q hb
      · rw [e'] at e; cases e; exact (O.cells _ m).1
    · exact O.kept b o e h
  cells := O.cells.sub hs
  fresh := fun p hp => (hf p hp).elim .inl fun h => (O.fresh p (hs p hp)).elim (fun q => absurd q h) .inr

theorem Out.same {h₀ sh h' : Heap} {cells : List (Addr × Obj)} (O : Out h₀ sh h' (adrs cells) cells) (C : Cells h₀ sh cells) : Out h₀ sh h' [] [] :=
  O.shrink [] [] (fun _ hp => (nomatch hp)) (fun a ha => by
    obtain ⟨p, hp, rfl⟩ := List.mem_map.mp ha
    exact .inr ⟨p.2, (C p hp).1, hp⟩) (fun _ hp => (nomatch hp))
theorem Out.upd {h₀ sh h' : Heap} {l l' : List (Addr × Obj)} (O : Out h₀ sh h' (adrs l) l') (C : Cells h₀ sh l) (as' : List Addr) (c' : List (Addr × Obj))
    (hl : ∀ p ∈ l, p.1 ∈ as' ∨ p ∈ l') (hc : ∀ p ∈ c', p ∈ l' ∧ (p.1 ∈ as' ∨ p.1 ∉ adrs l)) : Out h₀ sh h' as' c' :=
  O.shrink as' c' (fun p hp => (hc p hp).1) (fun a ha => by
    obtain ⟨p, hp, rfl⟩ := List.mem_map.mp ha
    exact (hl p hp).imp id fun q => ⟨p.2, (C p hp).1, q⟩) (fun p hp => (hc p hp).2)
theorem Out.one {h₀ sh h' : Heap} {cells : List (Addr × Obj)} {a : Addr} {o o' : Obj} (O : Out h₀ sh h' (adrs ((a, o) :: cells)) ((a, o') :: cells)) (C : Cells h₀ sh cells) : Out h₀ sh h' [a] [(a, o')] :=
  O.shrink [a] [(a, o')] (fun p hp => by rw [List.mem_singleton.mp hp]; exact .head _) (fun b hb => by
    rcases List.mem_cons.mp hb with rfl | hb
    · exact .inl (.head _)
    · obtain ⟨p, hp, rfl⟩ := List.mem_map.mp hb
      exact .inr ⟨p.2, (C p hp).1, .tail _ hp⟩) (fun p hp => .inl (by rw [List.mem_singleton.mp hp]; exact .head _))

/-- back in the caller's frame -/
theorem back {h₀ h h' : Heap} {L : Addr} {m : Str → Option Value} {news cells' : List (Addr × Obj)} {as : List Addr} (rest : List (Addr × Obj)) (F : Fr h₀ L h m) (N : News h₀ L h news) (O : Out h₀ h h' as cells')
    (hc : ∀ a ∈ as, a ∈ adrs news) (hr : ∀ p ∈ rest, p ∈ news) (hne : ∀ p ∈ rest, p.1 ∉ as) : Fr h₀ L h' m ∧ News h₀ L h' (cells' ++ rest) := by
  obtain ⟨oL, es, ep, hL, r⟩ := F.ns
  have nL : L ∉ as := fun q => by
    obtain ⟨p, hp, e⟩ := List.mem_map.mp (hc L q)
    exact (N p hp).2.1 e
  refine ⟨⟨⟨oL, es, ep, O.kept L oL hL nL, r⟩, O.st, F.above⟩, fun p hp => ?_⟩
  rcases List.mem_append.mp hp with hp | hp
  · refine ⟨(O.cells p hp).1, fun e => ?_, (O.cells p hp).2⟩
    rcases O.fresh p hp with q | q
    · exact nL (e ▸ q)
    · rw [e, hL] at q; cases q
  · exact ⟨O.kept _ _ (N p (hr p hp)).1 (hne p hp), (N p (hr p hp)).2⟩

/-- back in the caller's frame: nothing was taken -/
theorem back0 {h₀ h h' : Heap} {L : Addr} {m : Str → Option Value} {news cells' : List (Addr × Obj)} (F : Fr h₀ L h m) (N : News h₀ L h news) (O : Out h₀ h h' [] cells') : Fr h₀ L h' m ∧ News h₀ L h' (cells' ++ news) :=
  back news F N O (fun _ ha => (nomatch ha)) (fun _ hp => hp) (fun _ _ hm => (nomatch hm))
/-- back in the caller's frame: one object has turned -/
theorem backU {h₀ h h' : Heap} {L a : Addr} {o o' : Obj} {m : Str → Option Value} {news news' cells' : List (Addr × Obj)} (F : Fr h₀ L h m) (N : News h₀ L h news) (U : Upd a o o' news news') (O : Out h₀ h h' [a] ((a, o') :: cells')) : Fr h₀ L h' m ∧ News h₀ L h' (cells' ++ news') := by
  obtain ⟨pre, post, rfl, rfl, h1, h2⟩ := U.split
  obtain ⟨F', N'⟩ := back (pre ++ post) F N O (fun b hb => by rw [List.mem_singleton.mp hb]; simp) (fun p hp => by
      rcases List.mem_append.mp hp with q | q
      · exact List.mem_append_left _ q
      · exact List.mem_append_right _ (.tail _ q)) (fun p hp hm => by
      have e := List.mem_singleton.mp hm
      rcases List.mem_append.mp hp with q | q
      · exact h1 p q e
      · exact h2 p q e)
  refine ⟨F', fun p hp => N' p ?_⟩
  simp only [List.mem_append, List.mem_cons] at hp ⊢
  rcases hp with q | q | q | q
  · exact .inl (.inr q)
  · exact .inr (.inl q)
  · exact .inl (.inl q)
  · exact .inr (.inr q)

/-- entering a def without cells of its own -/
theorem enterX {w : World} {A : Around} {s : Shared} {h₀ : Heap} {cells : List (Addr × Obj)} {R : Result → Shared → Prop} {name qual : Str} {params : Arguments} {body : List Stmt} {scope : Scope}
    {dV kV doc pm cdv ct : Value} {an : Option Addr} {f : Addr} {fo : Obj} {cl : List (Str × Addr)} {args : Args} {binds : List (Str × Value)}
    (Y : Rdy w h₀) (st : ∀ b o, h₀.get? b = some o → s.heap.get? b = some o) (C : Cells h₀ s.heap cells)
    (ho : s.heap.get? f = some fo) (hd' : fo.data = .func (fnX name qual params body scope cl dV kV doc pm an cdv ct)) (hcd : s.heap.CodeRec cdv qual) (hroom : A.depth < recursionLimit)
    (hbind : BindsTo s (fnX name qual params body scope cl dV kV doc pm an cdv ct) args binds) (hloc : ∀ y ∈ binds, scope.names.lookup y.1 = some .local)
    (h : ∀ g L h₁, Inn w h₀ s.heap g (adrs cells) → Fr g L h₁ (fun y => binds.reverse.lookup y) → News g L h₁ cells → (∀ p ∈ cells, p.1 < L) → @Eq Nat L s.heap.objs.size →
      wpAny (model PP w) (A.deeper (envX qual scope L f cdv cl)) (execs body (envX qual scope L f cdv cl))
        (fun fl s' => R (.ok (.ret (match fl with | .ret v => v | _ => .none))) s')
        (fun e s' => wpAny (model PP w) (A.deeper (envX qual scope L f cdv cl)) (leaving (envX qual scope L f cdv cl) e) (fun _ s'' => R (.error e) s'') (fun e' s'' => R (.error e') s'') s')
        { s with heap := h₁, toks := s.toks + binds.length })
    (hcell : ∀ x ∈ scope.names, x.2 ≠ .cell) (hco : scope.isCoroutine = false) (hgen : scope.isGenerator = false) (hk : scope.kind = .function) :
    codeAny (model PP w) A (.call (.ref f) args) R s := by
  have nm : ∀ b o, h₀.get? b = some o → b ∉ adrs cells := fun b o e q => by
    obtain ⟨p, hp, rfl⟩ := List.mem_map.mp q
    rw [(C p hp).2] at e; cases e
  have st' : ∀ b o, h₀.get? b = some o → (hideAll s.heap (adrs cells)).get? b = some o := fun b o e => hideAll_get _ (st b o e) (nm b o e)
  have nl : s.heap.NoLimit := let ⟨_, _, _, _, _, T⟩ := Y.T; T.nolimit.keeps st
  refine codeAny_call_def (fd := fnX name qual params body scope cl dV kV doc pm an cdv ct) (body := body) (binds := binds) hroom ho hd' nl hcd rfl hbind hcell hloc (fun h₁ hns hk₁ => ?_) hco hgen hk
  exact h (hideAll s.heap (adrs cells)) s.heap.objs.size h₁ ⟨Y.keeps st', st', fun b o e hb => hideAll_get _ e hb, fun b o e => of_hideAll _ e, fun b hb => hideAll_none _ hb⟩
    ⟨hns, fun b o e => hk₁ b o (of_hideAll _ e), Nat.le_of_eq (hideAll_size _ _)⟩
    (fun p hp => ⟨hk₁ _ _ (C p hp).1, Nat.ne_of_lt (Heap.lt_size (C p hp).1), hideAll_none _ (List.mem_map_of_mem hp)⟩)
    (fun p hp => Heap.lt_size (C p hp).1) rfl

/-- the same for a def of the text -/
theorem enterP {w : World} {A : Around} {s : Shared} {h₀ : Heap} {cells : List (Addr × Obj)} {R : Result → Shared → Prop} {name qual : Str} {params : Arguments} {body : List Stmt} {scope : Scope}
    {dV kV doc pm cdv ct oc : Value} {an od : Option Addr} {osl : Array (Option Value)} {f : Addr} {args : Args} {binds : List (Str × Value)}
    (Y : Rdy w h₀) (st : ∀ b o, h₀.get? b = some o → s.heap.get? b = some o) (C : Cells h₀ s.heap cells)
    (ho : (hd.heap_1 w.params).lookup f = some ⟨oc, od, .func (fnOf name qual params body scope dV kV doc pm an cdv ct), osl⟩) (hcd : codeIn (hd.heap_1 w.params) cdv qual = true) (hroom : A.depth < recursionLimit)
    (hbind : BindsTo s (fnOf name qual params body scope dV kV doc pm an cdv ct) args binds) (hloc : ∀ y ∈ binds, scope.names.lookup y.1 = some .local)
    (h : ∀ g L h₁, Inn w h₀ s.heap g (adrs cells) → Fr g L h₁ (fun y => binds.reverse.lookup y) → News g L h₁ cells → (∀ p ∈ cells, p.1 < L) → @Eq Nat L s.heap.objs.size →
      wpAny (model PP w) (A.deeper (envOf qual scope L f cdv)) (execs body (envOf qual scope L f cdv))
        (fun fl s' => R (.ok (.ret (match fl with | .ret v => v | _ => .none))) s')
        (fun e s' => wpAny (model PP w) (A.deeper (envOf qual scope L f cdv)) (leaving (envOf qual scope L f cdv) e) (fun _ s'' => R (.error e) s'') (fun e' s'' => R (.error e') s'') s')
        { s with heap := h₁, toks := s.toks + binds.length })
    (hcell : ∀ x ∈ scope.names, x.2 ≠ .cell) (hco : scope.isCoroutine = false) (hgen : scope.isGenerator = false) (hk : scope.kind = .function) :
    codeAny (model PP w) A (.call (.ref f) args) R s :=
  have X : (hd.heap_1 w.params).In s.heap := fun b o e => st b o (Y.K b o e)
  enterX (cl := []) Y st C (X _ _ ho) rfl (codeRec_of X hcd) hroom hbind hloc h hcell hco hgen hk

/-- entering a def of the text that has cells of its own -/
theorem enterC {w : World} {A : Around} {s : Shared} {h₀ : Heap} {cells : List (Addr × Obj)} {R : Result → Shared → Prop} {name qual : Str} {params : Arguments} {body : List Stmt} {scope : Scope}
    {dV kV doc pm cdv ct oc : Value} {an od : Option Addr} {osl : Array (Option Value)} {f : Addr} {args : Args} {binds : List (Str × Value)}
    (Y : Rdy w h₀) (st : ∀ b o, h₀.get? b = some o → s.heap.get? b = some o) (C : Cells h₀ s.heap cells)
    (ho : (hd.heap_1 w.params).lookup f = some ⟨oc, od, .func (fnOf name qual params body scope dV kV doc pm an cdv ct), osl⟩) (hcd : codeIn (hd.heap_1 w.params) cdv qual = true) (hroom : A.depth < recursionLimit)
    (hbind : BindsTo s (fnOf name qual params body scope dV kV doc pm an cdv ct) args binds) (hkind : (binds.all fun y => scope.names.lookup y.1 == some .local || scope.names.lookup y.1 == some .cell) = true)
    (hnd : ((cellsFrom 0 scope.names []).map (·.1)).Nodup)
    (h : ∀ g L h₁ tk own, Inn w h₀ s.heap g (adrs cells) → Fr g L h₁ (bindL (envOfC qual scope L f cdv).kindOf binds fun _ => none) → News g L h₁ (own ++ cells) →
      CellsAre (bindC (envOfC qual scope L f cdv).kindOf binds fun _ => none) (cellsFrom (L + 1) scope.names []) own → (∀ p ∈ cells, p.1 < L) → @Eq Nat L s.heap.objs.size →
      wpAny (model PP w) (A.deeper (envOfC qual scope L f cdv)) (execs body (envOfC qual scope L f cdv))
        (fun fl s' => R (.ok (.ret (match fl with | .ret v => v | _ => .none))) s')
        (fun e s' => wpAny (model PP w) (A.deeper (envOfC qual scope L f cdv)) (leaving (envOfC qual scope L f cdv) e) (fun _ s'' => R (.error e) s'') (fun e' s'' => R (.error e') s'') s')
        { s with heap := h₁, toks := tk })
    (hco : scope.isCoroutine = false) (hgen : scope.isGenerator = false) (hk : scope.kind = .function) :
    codeAny (model PP w) A (.call (.ref f) args) R s := by
  have X : (hd.heap_1 w.params).In s.heap := fun b o e => st b o (Y.K b o e)
  have nm : ∀ b o, h₀.get? b = some o → b ∉ adrs cells := fun b o e q => by
    obtain ⟨p, hp, rfl⟩ := List.mem_map.mp q
    rw [(C p hp).2] at e; cases e
  have st' : ∀ b o, h₀.get? b = some o → (hideAll s.heap (adrs cells)).get? b = some o := fun b o e => hideAll_get _ (st b o e) (nm b o e)
  have nl : s.heap.NoLimit := let ⟨_, _, _, _, _, T⟩ := Y.T; T.nolimit.keeps st
  refine codeAny_call_function hroom (X _ _ ho) rfl hco hgen rfl (codeRec_of X hcd) (hbind _ _ _ _ ?_)
  refine wpAny_newFunctionEnv_cells hk (kindsX hkind _) fun env' he s' x => ?_
  subst he
  refine ⟨nl.keeps x.toInCall.keep, codeAny_func ?_⟩
  obtain ⟨h₁, tk, rfl, _⟩ := x.done
  have hk₁ := x.toInCall.keep
  obtain ⟨own, NC, Z⟩ := Cl.news (h₀ := s.heap) (Nat.le_refl _) fun n c hm => ⟨x.cell n c (lookup_of_mem_nodup (cellsFrom_names scope.names 0 (s.heap.objs.size + 1) [] [] rfl ▸ hnd) hm), x.above n c hm⟩
  refine h (hideAll s.heap (adrs cells)) s.heap.objs.size h₁ tk own ⟨Y.keeps st', st', fun b o e hb => hideAll_get _ e hb, fun b o e => of_hideAll _ e, fun b hb => hideAll_none _ hb⟩
    ⟨x.toInCall.ns, fun b o e => hk₁ b o (of_hideAll _ e), Nat.le_of_eq (hideAll_size _ _)⟩ (fun p hp => ?_) Z (fun p hp => Heap.lt_size (C p hp).1) rfl
  rcases List.mem_append.mp hp with hp | hp
  · refine ⟨(NC p hp).1, (NC p hp).2.1, ?_⟩
    cases q : (hideAll s.heap (adrs cells)).get? p.1 with
    | none => rfl
    | some o => have := of_hideAll _ q; rw [(NC p hp).2.2] at this; cases this
  · exact ⟨hk₁ _ _ (C p hp).1, Nat.ne_of_lt (Heap.lt_size (C p hp).1), hideAll_none _ (List.mem_map_of_mem hp)⟩
end Mine
end
section
open PySem PySem.W PyProof.Rows PySem.Calls
namespace Mine
set_option maxRecDepth 100000
theorem slot_ci_next : Slot "callable_iterator" "__next__" "callable_iterator.__next__" :=
  .of (owner := "callable_iterator") (n := "__next__") (by rw [typeLookup_type, builtinLookup_eq_fast]; kernel_rfl) (by decide +kernel) (by decide +kernel) (by decide +kernel)
    (by first | exact .inl (by decide +kernel) | exact .inr (by decide +kernel)) (by rw [isSubtype_type]; kernel_rfl)
theorem slot_ci_iter : Slot "callable_iterator" "__iter__" "callable_iterator.__iter__" :=
  .of (owner := "callable_iterator") (n := "__iter__") (by rw [typeLookup_type, builtinLookup_eq_fast]; kernel_rfl) (by decide +kernel) (by decide +kernel) (by decide +kernel)
    (by first | exact .inl (by decide +kernel) | exact .inr (by decide +kernel)) (by rw [isSubtype_type]; kernel_rfl)
theorem entry_ci_next : entryFor table "callable_iterator.__next__" = some Builtin.«callable_iterator.__next__» := entryFor_of_tree (by kernel_rfl)
theorem args_ci_next (a : Value) : argsOk "callable_iterator.__next__" ⟨[a], []⟩ := by unfold argsOk; kernel_rfl
theorem args_ci_iter (a : Value) : argsOk "callable_iterator.__iter__" ⟨[a], []⟩ := by unfold argsOk; kernel_rfl
theorem entry_ci_iter : entryFor table "callable_iterator.__iter__" = some Builtin.«dict_keyiterator.__iter__» :=
  entryFor_alias (id' := "dict_keyiterator.__iter__") (by kernel_rfl) rfl (by decide +kernel) (by kernel_rfl)

abbrev ciObj (q : Addr) (S : Str) (ts : Tok) : Obj := { cls := .type "callable_iterator", data := .fields #[.ref q, .str S ts, .bool false] }
abbrev ciDone : Obj := { cls := .type "callable_iterator", data := .fields #[.none, .none, .bool true] }

section
variable {prog : Program} {w : World} {A : Around} {E : Value → Shared → Prop} {s : Shared} {it q fn : Addr} {S : Str} {ts : Tok} {self : Value}
theorem ci_iter {Q : Value → Shared → Prop} (hit : s.heap.get? it = some (ciObj q S ts)) (h : Q (.ref it) s) : wpAny (model prog w) A (pyIter (.ref it)) Q E s := by
  have hT : s.TypeIs (.ref it) "callable_iterator" := ⟨_, hit, rfl⟩
  refine wpAny_pyIter_slot hT slot_ci_iter (wpAny_call_entry slot_ci_iter hT entry_ci_iter ?_ (args_ci_iter _))
  show wpAny _ _ (ret (.ref it)) _ _ s
  exact wpAny_pure ⟨_, rfl, "callable_iterator", _, hT, slot_ci_next.lookup, h⟩

theorem wp_borrowed {f : Value} {pos : List Value} {Q : Value → Shared → Prop}
    (hc : codeAny (model prog w) A (.call f ⟨pos, []⟩) (fun r s' => match r with | .ok (.ret v) => Q v s' | .ok _ => False | .error e => E e s') s) : wpAny (model prog w) A (callBorrowed f pos) Q E s := by
  intro Γ p hΓ
  show Sem.wp (model prog w) Γ (.call (.call f ⟨pos, []⟩) none false [borrowed] _) _ _ p s
  rw [Sem.wp_call]
  refine wpCode_mono (fun r s' h => ?_) (hc _ p rfl (hΓ.enter _ none p (by intro x; cases x)))
  cases r with
  | error e => exact h
  | ok f => cases f <;> first | exact h | exact h.elim

theorem borrows {Q : Bool → Shared → Prop} {o : Obj} {fd : FuncData} (hq : s.heap.get? q = some (methodObj (.ref fn) self)) (hf : s.heap.get? fn = some o) (hd : o.data = .func fd) (h : Q true s) : wpAny (model prog w) A (borrowsExactly (.ref q)) Q E s := by
  unfold borrowsExactly
  refine wpAny_bind (wpAny_load hq ?_)
  show wpAny _ _ (load fn >>= _) _ _ s
  refine wpAny_bind (wpAny_load hf ?_)
  rw [hd]
  exact wpAny_pure h

theorem ci_next {Q : Option Value → Shared → Prop} {o : Obj} {fd : FuncData} (hh : A.handled = none) (hit : s.heap.get? it = some (ciObj q S ts)) (hq : s.heap.get? q = some (methodObj (.ref fn) self)) (hf : s.heap.get? fn = some o) (hd : o.data = .func fd)
    (hc : codeAny (model prog w) A.in1 (.call (.ref q) ⟨[], []⟩) (fun r s' => ∃ y t, r = .ok (.ret (.str y t)) ∧ s'.heap.get? it = some (ciObj q S ts) ∧ s'.heap.get? q = some (methodObj (.ref fn) self) ∧ s'.heap.get? fn = some o ∧
      ((S == y) = false → Q (some (.str y t)) s') ∧ ((S == y) = true → ∀ h', Heap.ExtBut it s'.heap h' → h'.get? it = some ciDone → Q none { s' with heap := h' })) s) :
    wpAny (model prog w) A (pyNext (.ref it)) Q E s := by
  have hT : s.TypeIs (.ref it) "callable_iterator" := ⟨_, hit, rfl⟩
  unfold pyNext
  refine wpAny_bind (wpAny_attempt (wpAny_callSpecial?_slot (name := Str.ofString "__next__") hT slot_ci_next
    (wpAny_call_entry slot_ci_next hT entry_ci_next ?_ (args_ci_next _))))
  unfold Builtin.«callable_iterator.__next__»
  refine wpAny_bind (wpAny_of_eq (a := (Value.ref it, [])) rfl ?_)
  try dsimp only
  refine wpAny_bind (wpAny_field hit rfl (x := .bool false) rfl ?_)
  show wpAny _ _ (field (.ref it) 0 >>= _) _ _ s
  refine wpAny_bind (wpAny_field hit rfl (x := .ref q) rfl ?_)
  refine wpAny_bind (wpAny_attempt ?_)
  unfold callOutOfASlot
  refine wpAny_bind (borrows hq hf hd ?_)
  rw [if_pos rfl]
  refine wp_borrowed (codeAny_mono hc ?_)
  rintro r s' ⟨y, t, rfl, h1, h2, h3, h4, h5⟩
  dsimp only
  refine wpAny_bind (wpAny_field h1 rfl (x := .bool false) rfl ?_)
  show wpAny _ _ (field (.ref it) 1 >>= _) _ _ s'
  refine wpAny_bind (wpAny_field h1 rfl (x := .str S ts) rfl ?_)
  refine wpAny_bind (wpAny_holding (wpAny_eqBool_str ?_))
  by_cases e : S = y
  · rw [decide_eq_true e]
    show wpAny _ _ (rule _ >>= _) _ _ s'
    refine wpAny_bind (wpAny_rule ?_)
    refine wpAny_bind ?_
    show wpAny _ _ (do slotLetsGo "callable_iterator.__next__" (← field (.ref it) 0) _; setField (.ref it) 0 .none; setField (.ref it) 1 .none; setField (.ref it) 2 (.bool true)) _ _ s'
    refine wpAny_bind (wpAny_field h1 rfl (x := .ref q) rfl ?_)
    refine wpAny_bind ?_
    unfold slotLetsGo
    refine wpAny_bind (borrows h2 h3 hd ?_)
    rw [if_pos rfl]
    refine wpAny_pure ?_
    refine wpAny_bind (wpAny_setField h1 rfl (by simp) ?_)
    have g1 := Heap.get?_update_self (Obj.mapFields (·.setIfInBounds 0 Value.none)) h1 rfl
    refine wpAny_bind (wpAny_setField g1 rfl (by simp) ?_)
    have g2 := Heap.get?_update_self (Obj.mapFields (·.setIfInBounds 1 Value.none)) g1 rfl
    refine wpAny_setField g2 rfl (by simp) ?_
    show wpAny _ _ (newExc (.type "StopIteration") [] >>= _) _ _ _
    refine wpAny_bind ?_
    simp only [newExc, newTuple]
    refine wpAny_bind (wpAny_newObj_type ?_ (by size_fits))
    refine wpAny_bind (m := firstArgMember _ _) (wpAny_of_eq (a := Value.none) (by first | rfl | (simp only [firstArgMember]; rfl)) ?_)
    refine wpAny_newObj_type ?_ (by size_fits)
    simp only [raiseNew]
    refine wpAny_bind (wpAny_handled ?_)
    first | rw [show A.in1.handled = none from hh] | rw [hh]
    refine wpAny_bind (wpAny_pure (wpAny_throw ?_))
    refine wpAny_bind (wpAny_isInstance (T := "StopIteration") (b := true) ⟨_, Heap.get?_push_size _ rfl, rfl⟩ isSubtype_stop ?_)
    have g3 := Heap.get?_update_self (Obj.mapFields (·.setIfInBounds 2 (Value.bool true))) g2 rfl
    refine wpAny_pure (h5 (by simp [e]) _ ?_ (Heap.get?_push_of_some _ (Heap.get?_push_of_some _ g3)))
    exact ((((Heap.SameBut.update ..).trans (Heap.SameBut.update ..)).trans (Heap.SameBut.update ..)).extBut.push _).push _
  · rw [decide_eq_false e]
    first
    | exact wpAny_bind (wpAny_pure (wpAny_pure ⟨_, rfl, wpAny_pure (h4 (by simpa using e))⟩))
    | exact wpAny_bind (wpAny_pure ⟨_, rfl, wpAny_pure (h4 (by simpa using e))⟩)
    | exact wpAny_pure ⟨_, rfl, wpAny_pure (h4 (by simpa using e))⟩
end
end Mine
end
section
open PySem PySem.W PyProof.Rows PySem.Calls
namespace Mine
set_option maxRecDepth 100000
theorem kind_iter : builtinKind "iter" = none := by decide +kernel
theorem plain_iter : plainId "iter" = true := by decide +kernel
theorem entry_iter : entryFor table "iter" = some Builtin.«iter» := entryFor_of_tree (by kernel_rfl)
theorem args_iter2 (a b : Value) : argsOk "iter" ⟨[a, b], []⟩ := by unfold argsOk; kernel_rfl
theorem look_method_call : typeLookup (.type "method") "__call__" = pure (some (.builtin "method.__call__")) := by rw [typeLookup_type, builtinLookup_eq_fast]; kernel_rfl

section
variable {prog : Program} {w : World} {A : Around} {E : Value → Shared → Prop} {s : Shared} {q : Addr} {f self : Value} {S : Str} {ts : Tok}
theorem call_iter2 {Q : Value → Shared → Prop} (hq : s.heap.get? q = some (methodObj f self))
    (h : Q (.ref s.heap.objs.size) { s with heap := s.heap.push (ciObj q S ts) }) : wpAny (model prog w) A (call (.builtin "iter") [.ref q, .str S ts]) Q E s := by
  have hT : s.TypeIs (.ref q) "method" := ⟨_, hq, rfl⟩
  refine call_function_entry kind_iter plain_iter entry_iter (args_iter2 _ _) ?_
  unfold Builtin.«iter»
  refine wpAny_bind (wpAny_of_eq (a := [Value.ref q, Value.str S ts]) rfl ?_)
  dsimp only
  refine wpAny_bind (wpAny_specialOf hT look_method_call ?_)
  show wpAny _ _ (rule _ >>= _) _ _ _
  refine wpAny_bind (wpAny_rule ?_)
  exact wpAny_bind (wpAny_newObj_type (wpAny_pure ⟨_, rfl, h⟩))

theorem iter2_N {h₀ : Heap} {L : Addr} {m : Str → Option Value} {news : List (Addr × Obj)} {Q : Value → Shared → Prop} (F : Fr h₀ L s.heap m) (N : News h₀ L s.heap news) (hm : (q, methodObj f self) ∈ news)
    (h : ∀ it h', Fr h₀ L h' m → News h₀ L h' ((it, ciObj q S ts) :: news) → (∀ p ∈ news, p.1 < it) → Q (.ref it) { s with heap := h' }) : wpAny (model prog w) A (call (.builtin "iter") [.ref q, .str S ts]) Q E s :=
  call_iter2 (N _ hm).1 (h _ _ (F.push _) (N.push F _) fun p hp => Heap.lt_size (N p hp).1)

/-- one turn of a for -/
theorem for_turn {target : Expr} {it : Value} {body orelse : List Stmt} {env : Env} {R : Result → Shared → Prop} (ht : ∀ v, letOwnedTupleGo target it v = pure ())
    (h : wpAny (model prog w) A (pyNext it) (fun r s₁ => match r with
      | none => wpAny (model prog w) A (execs orelse env) (fun f s₃ => R (.ok f) s₃) (notedBy (model prog w) A env fun e s' => R (.error e) s') s₁
      | some v => wpAny (model prog w) A (assign target env v) (fun _ s₂ => wpAny (model prog w) A (execs body env) (fun f s₃ => match f with
          | .next | .cont => codeAny (model prog w) A (.forLoop target it body orelse env) R s₃
          | .brk => R (.ok .next) s₃
          | .ret v => R (.ok (.ret v)) s₃) (notedBy (model prog w) A env fun e s' => R (.error e) s') s₂) (notedBy (model prog w) A env fun e s' => R (.error e) s') s₁) (notedBy (model prog w) A env fun e s' => R (.error e) s') s) :
    codeAny (model prog w) A (.forLoop target it body orelse env) R s := by
  refine codeAny_of_tree ?_
  show wpAny _ A ((forTurn target it body orelse env).onRaise (fun x => do noteFrame x env; theTreesLotGoes x)) _ _ s
  refine wpAny_noted ?_
  simp only [forTurn]
  refine wpAny_bind (wpAny_standAt (wpAny_bind (wpAny_onRaise (wpAny_mono h (fun r s₁ h₁ => ?_) fun _ _ h' => wpAny_standAt h'))))
  cases r with
  | none => exact wpAny_pure ⟨rfl, codeAny_block h₁⟩
  | some v =>
    refine wpAny_bind (wpAny_of_eq (ht v) ?_)
    refine wpAny_bind (wpAny_mono h₁ (fun _ s₂ h₂ => wpAny_bind (wpAny_mono h₂ (fun f s₃ h₃ => ?_) fun _ _ h' => h')) fun _ _ h' => h')
    cases f with
    | next => exact wpAny_pure ⟨rfl, h₃⟩
    | cont => exact wpAny_pure ⟨rfl, h₃⟩
    | brk => exact wpAny_pure h₃
    | ret v => exact wpAny_pure h₃

theorem ci_over {Q : Option Value → Shared → Prop} {it : Addr} (hh : A.handled = none) (hit : s.heap.get? it = some ciDone)
    (hQ : ∀ h', Heap.ExtBut it s.heap h' → Q none { s with heap := h' }) : wpAny (model prog w) A (pyNext (.ref it)) Q E s := by
  have hT : s.TypeIs (.ref it) "callable_iterator" := ⟨_, hit, rfl⟩
  unfold pyNext
  refine wpAny_bind (wpAny_attempt (wpAny_callSpecial?_slot (name := Str.ofString "__next__") hT slot_ci_next
    (wpAny_call_entry slot_ci_next hT entry_ci_next ?_ (args_ci_next _))))
  unfold Builtin.«callable_iterator.__next__»
  refine wpAny_bind (wpAny_of_eq (a := (Value.ref it, [])) rfl ?_)
  try dsimp only
  refine wpAny_bind (wpAny_field hit rfl (x := .bool true) rfl ?_)
  show wpAny _ _ (rule _ >>= _) _ _ s
  refine wpAny_bind (wpAny_rule ?_)
  first
  | show wpAny _ _ (newExc (.type "StopIteration") [] >>= _) _ _ _
  | (refine wpAny_bind ?_; show wpAny _ _ (newExc (.type "StopIteration") [] >>= _) _ _ _)
  refine wpAny_bind ?_
  simp only [newExc, newTuple]
  refine wpAny_bind (wpAny_newObj_type ?_ (by size_fits))
  refine wpAny_bind (m := firstArgMember _ _) (wpAny_of_eq (a := Value.none) (by first | rfl | (simp only [firstArgMember]; rfl)) ?_)
  refine wpAny_newObj_type ?_ (by size_fits)
  simp only [raiseNew]
  refine wpAny_bind (wpAny_handled ?_)
  first | rw [show A.in1.handled = none from hh] | rw [hh]
  refine wpAny_bind (wpAny_pure (wpAny_throw ?_))
  refine wpAny_bind (wpAny_isInstance (T := "StopIteration") (b := true) ⟨_, Heap.get?_push_size _ rfl, rfl⟩ isSubtype_stop ?_)
  exact wpAny_pure (hQ _ (((Heap.ExtBut.refl _ _).push _).push _))
end
end Mine
end
section
open PySem PySem.W PyProof.Rows PySem.Calls
theorem Mine.off_UnLex1 {M : Model} {A : Around} {env : Env} {Q : Flow → Shared → Prop} {E : Value → Shared → Prop} {s : Shared} (h : wpAny M A (execs [] env) Q E s) : wpAny M A (execs [] env) Q E s := by
  try (walk1; fail)
  w_top off
  exact h
end
section
open PySem PySem.W PyProof.Rows PySem.Calls
namespace Mine
abbrev lexDict (w : World) (t1 t2 t3 t4 : Tok) (ln : Int) (lt : Tok) (st : Value) (wt : Tok) (pb : Addr) : List DictEntry :=
  [⟨PyData.keyHash w.params "lineno", .str "lineno" t1, .int ln lt⟩, ⟨PyData.keyHash w.params "instream", .str "instream" t2, st⟩,
   ⟨PyData.keyHash w.params "whitespace", .str "whitespace" t3, .str "\n\t\r " wt⟩, ⟨PyData.keyHash w.params "pushback", .str "pushback" t4, .ref pb⟩]

set_option maxRecDepth 100000 in
set_option maxHeartbeats 8000000 in
theorem c_push {w : World} {h₀ : Heap} {s : Shared} {x dx pb : Addr} {t1 t2 t3 t4 lt wt : Tok} {ln : Int} {st : Value} {n k : Nat} {vs : List Value} {v : Value}
   {R : Result → Shared → Prop}
   (Y : Rdy w h₀) (sy : ∀ b o, h₀.get? b = some o → s.heap.get? b = some o)
   (C : Cells h₀ s.heap [(pb, listOf vs.toArray k), (x, instObj 59 dx), (dx, dictOf (lexDict w t1 t2 t3 t4 ln lt st wt pb) n)])
   (hne1 : @Ne Nat pb x) (hne2 : @Ne Nat pb dx)
   (hz : vs.length ≤ 1000)
   (hR : ∀ h' tk, Out h₀ s.heap h' [pb] [(pb, listOf (vs ++ [v]).toArray (k + 1))] →
     R (.ok (.ret .none)) { s with heap := h', toks := tk })
   : codeAny (model PP w) (AAt 900) (.call (.ref 56) ⟨[.ref x, v], []⟩) R s := by
  refine enterP (binds := [("self", .ref x), ("token", v)]) Y sy C (by k_is) (by k_is) (by k_room) (BindsTo.of_eq rfl) (locs rfl) ?_ (by decide) rfl rfl rfl
  intro g L h₁ I F N hlt hLs
  obtain ⟨X, ⟨p, loose, mean, mg, mb, T⟩, CH⟩ := id I.Y
  show wpAny _ _ _ _ _ _
  k_fold
  k_steps
  rename Fr _ _ _ _ => F'
  rename News _ _ _ _ => N'
  simp only [List.push_toArray] at N'
  exact hR _ _ ((I.out F' N').one (C.sub (fun p hp => .tail _ hp)))

set_option maxRecDepth 100000 in
set_option maxHeartbeats 8000000 in
theorem c_init {w : World} {h₀ : Heap} {s : Shared} {x dx : Addr} {v : Value}
   {R : Result → Shared → Prop}
   (Y : Rdy w h₀) (sy : ∀ b o, h₀.get? b = some o → s.heap.get? b = some o)
   (C : Cells h₀ s.heap [(x, instObj 59 dx), (dx, dictOf [] 0)])
   (hne1 : @Ne Nat x dx)
   (hR : ∀ h' tk pb t1 t2 t3 t4 lt wt, (@LT.lt Nat _ x pb ∧ @LT.lt Nat _ dx pb) → Out h₀ s.heap h' [x, dx] [(pb, listOf [].toArray 0), (x, instObj 59 dx), (dx, dictOf (lexDict w t1 t2 t3 t4 1 lt v wt pb) 4)] →
     R (.ok (.ret .none)) { s with heap := h', toks := tk })
   : codeAny (model PP w) (AAt 900) (.call (.ref 35) ⟨[.ref x, v], []⟩) R s := by
  refine enterP (binds := [("self", .ref x), ("fp", v)]) Y sy C (by k_is) (by k_is) (by k_room) (BindsTo.of_eq rfl) (locs rfl) ?_ (by decide) rfl rfl rfl
  intro g L h₁ I F N hlt hLs
  obtain ⟨X, ⟨p, loose, mean, mg, mb, T⟩, CH⟩ := id I.Y
  k_lt hlt
  show wpAny _ _ _ _ _ _
  k_fold
  k_steps
  rename Fr _ _ _ _ => F'
  rename News _ _ _ _ => N'
  exact hR _ _ _ _ _ _ _ _ _ (by assumption) (I.out F' N')
end Mine
end
section
open PySem PySem.W PyProof.Rows PySem.Calls
theorem Mine.off_UnLex2 {M : Model} {A : Around} {env : Env} {Q : Flow → Shared → Prop} {E : Value → Shared → Prop} {s : Shared} (h : wpAny M A (execs [] env) Q E s) : wpAny M A (execs [] env) Q E s := by
  try (walk1; fail)
  w_top off
  exact h
end
section
open PySem PySem.W PyProof.Rows PySem.Calls
namespace Mine

theorem list_of_str {w : World} {A : Around} {E : Value → Shared → Prop} {s : Shared} {h₀ : Heap} {L : Addr} {m : Str → Option Value} {Q : Value → Shared → Prop} {x : Str} {t : Tok} {news : List (Addr × Obj)} (hh : A.handled = none) (F : Fr h₀ L s.heap m) (N : News h₀ L s.heap news)
    (hsz : x.length ≤ 1000)
    (hQ : ∀ l ys c h' tk, Fr h₀ L h' m → News h₀ L h' ((l, listOf (List.toArray ys) c) :: news) → (∀ p ∈ news, p.1 < l) → StrsAre ys (signs x) → Q (.ref l) { s with heap := h', toks := tk }) :
    wpAny (model PP w) A (call (.type "list") [.str x t]) Q E s := by
  refine list_strD hh F N (fun h' tk ys F' N' hk h0 hl hp hc => ?_) (by rw [sizeLine_eq]; omega)
  obtain ⟨⟨c, e⟩, hne⟩ := hp
  refine hQ _ ys c h' tk F' (fun p hp => ?_) (fun p hp => Heap.lt_size (N p hp).1) (StrsAre.ofCarried hc)
  rcases List.mem_cons.mp hp with rfl | hp
  · refine ⟨e, ?_, h0⟩
    intro e2
    have := F.ns.lt
    rw [← e2] at this
    exact absurd this (Nat.lt_irrefl _)
  · exact N' p hp

local macro_rules | `(tactic| walk_at "call type:list") => `(tactic| (k_here; (with_reducible show wpAny _ _ (call (Value.type "list") [Value.str _ _]) _ _ _); k_dflt (refine' list_of_str ?k0 ?k1 ?k2 ?k3 ?_; (case k0 => exact rfl); (case k1 => k_asm); (case k2 => k_asm); (case k3 => first | assumption | decide); k_whole); intro l' ys' c' h' tk' F' N' l1 hys'; (try k_lt l1); (try k_sweep)))

theorem pop0 {w : World} {A : Around} {E : Value → Shared → Prop} {s : Shared} {h₀ : Heap} {L D : Addr} {m : Str → Option Value} {Q : Value → Shared → Prop} {news news' : List (Addr × Obj)} {y : Value} {q : List Value} {n : Nat} {u : Tok}
    (F : Fr h₀ L s.heap m) (N : News h₀ L s.heap news) (U : Upd D (listOf (y :: q).toArray n) (listOf q.toArray (n + 1)) news news') (hz : q.length ≤ 1000)
    (h : ∀ h', Fr h₀ L h' m → News h₀ L h' news' → Q y { s with heap := h' }) : wpAny (model PP w) A (call (.builtin "list.pop") [.ref D, .int 0 u]) Q E s := by
  refine kl_popAt (p := []) (q := q) (y := y) (k := 0) F N rfl ?_ rfl U ?_ h
  · simp [seqIndex?]
  · rw [sizeLine_eq]; simp only [List.length_cons]; omega
local macro_rules | `(tactic| walk_at "call builtin:list.pop") => `(tactic| (k_here; (with_reducible show wpAny _ _ (call (Value.builtin _) [Value.ref _, Value.int 0 _]) _ _ _); k_dflt (refine' pop0 ?F ?N ?U ?z ?_; (case F => k_asm); (case N => k_asm); (case U => k_upd); (case z => assumption)); (intro h' F' N'; (try k_sweep))))

theorem make_units (a : Args) : (Code.builtin "type.__call__" a).cUnits ≤ 4 := by
  have h : (Code.builtin "type.__call__" a).frames ≤ 1 := by
    unfold Code.frames; split <;> first | (rename_i h; injection h with h1 _; exact absurd h1 (by decide)) | exact Nat.le_refl _ | (split <;> decide)
  simp only [Code.cUnits]
  omega

set_option maxRecDepth 100000 in
set_option maxHeartbeats 8000000 in
theorem s_new {w : World} {A : Around} {E : Value → Shared → Prop} {s : Shared} {h₀ : Heap} {L : Addr} {m : Str → Option Value} {Q : Value → Shared → Prop} {v : Value} {news : List (Addr × Obj)}
    (h0 : A.handled = none) (h1 : A.depth + 1 ≤ 900) (h2 : A.units + 10 ≤ 4 * 900) (F : Fr h₀ L s.heap m) (N : News h₀ L s.heap news) (Y : Rdy w h₀)
    (hQ : ∀ h' tk x dx pb t1 t2 t3 t4 lt wt, Fr h₀ L h' m → News h₀ L h' ((pb, listOf [].toArray 0) :: (x, instObj 59 dx) :: (dx, dictOf (lexDict w t1 t2 t3 t4 1 lt v wt pb) 4) :: news) → AllLt dx news → @LT.lt Nat _ dx x → @LT.lt Nat _ x pb → Q (.ref x) { s with heap := h', toks := tk }) :
    wpAny (model PP w) A (call (.ref 59) [v] []) Q E s := by
  have X := Y.K
  refine call_cls F X N (by k_is) (by k_is) (by k_is) ?_
  intro x dx h' F' N' l1 l2
  have l3 := allLt_of l1
  replace l2 := ltN l2
  have hne : @Ne Nat x dx := by omega
  have C : Cells h₀ h' [(x, instObj 59 dx), (dx, dictOf [] 0)] := Cells.of_news N' (in_idx [0, 1] rfl)
  refine siteC 900 h0 ?_ ?_ (c_init (s := { s with heap := h' }) Y (fun b o e => F'.keep b o e) C hne ?_)
  · rw [depth_under_kw]; exact h1
  · have := make_units ⟨[.ref 59, v], []⟩
    show A.units + (Code.builtin "type.__call__" ⟨[.ref 59, v], []⟩).cUnits ≤ _
    omega
  intro h2 tk2 pb t1 t2 t3 t4 lt wt hl O
  obtain ⟨F2, N2⟩ := back news F' N' O (by simp) (by intro p hp; simp [hp]) (by
    intro p hp hm
    have q1 := ltN (l1 p hp)
    simp only [List.mem_cons, List.not_mem_nil, or_false] at hm
    rcases hm with e | e
    · have e' : @Eq Nat p.1 x := e
      omega
    · have e' : @Eq Nat p.1 dx := e
      omega)
  exact ⟨rfl, hQ h2 tk2 x dx pb t1 t2 t3 t4 lt wt F2 N2 l3 l2 hl.1⟩

local macro_rules | `(tactic| walk_at "call ref") => `(tactic| (k_here; (with_reducible show wpAny _ _ (call (Value.ref 59) [_] _) _ _ _); k_dflt (refine' s_new ?k0 ?k1 ?k2 ?k3 ?k4 ?k5 ?_; (case k0 => exact rfl); (case k1 => k_units); (case k2 => k_units); (case k3 => k_asm); (case k4 => k_asm); (case k5 => k_asm); k_whole); (intro h' tk' x' d' pb' t1' t2' t3' t4' lt' wt' F' N' l1 l2 l3; (try simp only [AllLt, and_true] at l1); (try k_sweep))))


/-- what a call of the stream's read does: the first sign that is left, or the empty text -/
def NextSpec (w : World) (f c' cl lf : Addr) (of oc co : Obj) : Prop :=
  (∀ (h₀ : Heap) (s : Shared) (k : Nat) (t : Tok) (R : Result → Shared → Prop), Rdy w h₀ → (∀ b o, h₀.get? b = some o → s.heap.get? b = some o) →
    Cells h₀ s.heap [(lf, listOf [].toArray k), (f, of), (c', oc), (cl, co)] →
    (∀ h' tk u, Out h₀ s.heap h' [] [] → R (.ok (.ret (.str "" u))) { s with heap := h', toks := tk }) → codeAny (model PP w) (AAt 900) (.call (.ref f) ⟨[.int 1 t], []⟩) R s) ∧
  (∀ (h₀ : Heap) (s : Shared) (v : Value) (vs : List Value) (k : Nat) (t : Tok) (R : Result → Shared → Prop), Rdy w h₀ → (∀ b o, h₀.get? b = some o → s.heap.get? b = some o) →
    Cells h₀ s.heap [(lf, listOf (v :: vs).toArray k), (f, of), (c', oc), (cl, co)] → vs.length ≤ 1000 →
    (∀ h' tk, Out h₀ s.heap h' [lf] [(lf, listOf vs.toArray (k + 1))] → R (.ok (.ret v)) { s with heap := h', toks := tk }) → codeAny (model PP w) (AAt 900) (.call (.ref f) ⟨[.int 1 t], []⟩) R s)


structure Lx where
  (x dx pb f sx sdx lf cl c' spb : Nat)
  (t1 t2 t3 t4 wt u1 u2 u3 u4 u5 ul uw : Tok)
  (of oc co : Obj)
abbrev Lx.sdict (w : World) (r : Lx) : List DictEntry := lexDict w r.u1 r.u2 r.u3 r.u4 1 r.ul .none r.uw r.spb ++ [⟨PyData.keyHash w.params "read", .str "read" r.u5, .ref r.f⟩]
/-- the objects of one lexer: what is pushed back, its dict, what is left of its text; then what never turns -/
def Lx.own (w : World) (r : Lx) (vs : List Value) (k : Nat) (ln : Int) (lt : Tok) (ys : List Value) (c : Nat) : List (Addr × Obj) :=
  [(r.pb, listOf vs.toArray k), (r.dx, dictOf (lexDict w r.t1 r.t2 r.t3 r.t4 ln lt (.ref r.sx) r.wt r.pb) 4), (r.lf, listOf ys.toArray c), (r.x, instObj 59 r.dx), (r.f, r.of),
   (r.sx, instObj 59 r.sdx), (r.sdx, dictOf (r.sdict w) 5), (r.cl, r.co)]
abbrev tabOf (c' : Addr) : Obj := tabObj (#[] ++ #[rawInt 183, rawInt 4, .ref c'])
/-- the order in which they were made -/
def Apart (x dx pb f sx sdx lf cl c' : Nat) : Prop := 213 < c' ∧ 213 < cl ∧ cl < lf ∧ lf < sdx ∧ sdx < sx ∧ sx < f ∧ f < dx ∧ dx < x ∧ x < pb ∧ (c' < cl ∨ (sx < c' ∧ c' < f))
theorem Apart.rise {x dx pb f sx sdx lf cl c' : Nat} (h : Apart x dx pb f sx sdx lf cl c') : Rising [cl, lf, sdx, sx, f, dx, x, pb] :=
  ⟨h.2.2.1, h.2.2.2.1, h.2.2.2.2.1, h.2.2.2.2.2.1, h.2.2.2.2.2.2.1, h.2.2.2.2.2.2.2.1, h.2.2.2.2.2.2.2.2.1, trivial⟩
theorem own_nodup {w : World} {r : Lx} {vs ys : List Value} {k c : Nat} {ln : Int} {lt : Tok} (h : Apart r.x r.dx r.pb r.f r.sx r.sdx r.lf r.cl r.c') : (adrs (r.own w vs k ln lt ys c)).Nodup :=
  rise_nodup h.rise [7, 5, 1, 6, 4, 3, 2, 0] rfl (by decide)
theorem own_ge {w : World} {r : Lx} {vs ys : List Value} {k c : Nat} {ln : Int} {lt : Tok} (h : Apart r.x r.dx r.pb r.f r.sx r.sdx r.lf r.cl r.c') : ∀ p ∈ r.own w vs k ln lt ys c, @LE.le Nat _ r.cl p.1 :=
  rise_ge h.rise 0 [7, 5, 1, 6, 4, 3, 2, 0] rfl rfl rfl
theorem own_le {w : World} {r : Lx} {vs ys : List Value} {k c : Nat} {ln : Int} {lt : Tok} (h : Apart r.x r.dx r.pb r.f r.sx r.sdx r.lf r.cl r.c') : ∀ p ∈ r.own w vs k ln lt ys c, @LE.le Nat _ p.1 r.pb ∧ @Ne Nat p.1 r.c' := fun p hp =>
  ⟨rise_le h.rise 7 [7, 5, 1, 6, 4, 3, 2, 0] rfl rfl rfl p hp, by
    obtain ⟨_, _, h1, h2, h3, h4, h5, h6, h7, h8⟩ := id h
    rcases h8 with h8 | ⟨h8, h9⟩
    · exact Nat.ne_of_gt (Nat.lt_of_lt_of_le h8 (own_ge h p hp))
    · exact rise_ne (c := [r.cl, r.lf, r.sdx, r.sx, r.c', r.f, r.dx, r.x, r.pb]) ⟨h1, h2, h3, h8, h9, h5, h6, h7, trivial⟩ 4 [8, 6, 1, 7, 5, 3, 2, 0] rfl rfl rfl p hp⟩
theorem Apart.cne {x dx pb f sx sdx lf cl c' : Nat} (h : Apart x dx pb f sx sdx lf cl c') : c' ≠ pb ∧ c' ≠ dx ∧ c' ≠ lf := by
  obtain ⟨_, _, h1, h2, h3, h4, h5, h6, h7, h8⟩ := id h
  rcases h8 with h8 | ⟨h8, h9⟩
  · have R : Rising [c', cl, lf, sdx, sx, f, dx, x, pb] := ⟨h8, h.rise⟩
    exact ⟨R.ne (i := 0) (k := 8) rfl rfl (by decide), R.ne (i := 0) (k := 6) rfl rfl (by decide), R.ne (i := 0) (k := 2) rfl rfl (by decide)⟩
  · have R : Rising [cl, lf, sdx, sx, c', f, dx, x, pb] := ⟨h1, h2, h3, h8, h9, h5, h6, h7, trivial⟩
    exact ⟨R.ne (i := 4) (k := 8) rfl rfl (by decide), R.ne (i := 4) (k := 6) rfl rfl (by decide), R.ne (i := 4) (k := 1) rfl rfl (by decide)⟩
theorem not_in2 {x a b : Nat} (h1 : x ≠ a) (h2 : x ≠ b) : x ∉ [a, b] := fun h => by
  rcases List.mem_cons.mp h with e | h
  · exact h1 e
  · exact h2 (List.mem_singleton.mp h)
theorem not_in3 {x a b c : Nat} (h1 : x ≠ a) (h2 : x ≠ b) (h3 : x ≠ c) : x ∉ [a, b, c] := fun h => by
  rcases List.mem_cons.mp h with e | h
  · exact h1 e
  · exact not_in2 h2 h3 h
/-- what a word's read leaves alone -/
theorem Apart.rest2 {x dx pb f sx sdx lf cl c' : Nat} (h : Apart x dx pb f sx sdx lf cl c') {o1 o2 o3 o4 o5 o6 o7 : Obj} {l : List (Addr × Obj)} (hl : ∀ p ∈ l, p.1 ∉ [lf, dx]) :
    ∀ p ∈ (pb, o1) :: (x, o2) :: (f, o3) :: (sx, o4) :: (sdx, o5) :: (cl, o6) :: (c', o7) :: l, p.1 ∉ [lf, dx] := fun p hp => by
  rcases List.mem_append.mp (show p ∈ [(pb, o1), (x, o2), (f, o3), (sx, o4), (sdx, o5), (cl, o6)] ++ (c', o7) :: l from hp) with hp | hp
  · exact not_in2 (rise_ne h.rise 1 [7, 6, 4, 3, 2, 0] rfl rfl rfl p hp) (rise_ne h.rise 5 [7, 6, 4, 3, 2, 0] rfl rfl rfl p hp)
  · rcases List.mem_cons.mp hp with rfl | hp
    · exact not_in2 h.cne.2.2 h.cne.2.1
    · exact hl p hp
theorem Apart.rest3 {x dx pb f sx sdx lf cl c' : Nat} (h : Apart x dx pb f sx sdx lf cl c') {o2 o3 o4 o5 o6 o7 : Obj} {l : List (Addr × Obj)} (hl : ∀ p ∈ l, p.1 ∉ [pb, dx, lf]) :
    ∀ p ∈ (x, o2) :: (f, o3) :: (sx, o4) :: (sdx, o5) :: (cl, o6) :: (c', o7) :: l, p.1 ∉ [pb, dx, lf] := fun p hp => by
  rcases List.mem_append.mp (show p ∈ [(x, o2), (f, o3), (sx, o4), (sdx, o5), (cl, o6)] ++ (c', o7) :: l from hp) with hp | hp
  · exact not_in3 (rise_ne h.rise 7 [6, 4, 3, 2, 0] rfl rfl rfl p hp) (rise_ne h.rise 5 [6, 4, 3, 2, 0] rfl rfl rfl p hp) (rise_ne h.rise 1 [6, 4, 3, 2, 0] rfl rfl rfl p hp)
  · rcases List.mem_cons.mp hp with rfl | hp
    · exact not_in3 h.cne.1 h.cne.2.1 h.cne.2.2
    · exact hl p hp
/-- what lies below every cell of a lexer -/
theorem Apart.low3 {x dx pb f sx sdx lf cl c' : Nat} (h : Apart x dx pb f sx sdx lf cl c') {a : Nat} (ha : a < cl) : a ∉ [pb, dx, lf] :=
  not_in3 (Nat.ne_of_lt (Nat.lt_trans ha (h.rise.at (i := 0) (k := 7) rfl rfl (by decide)))) (Nat.ne_of_lt (Nat.lt_trans ha (h.rise.at (i := 0) (k := 5) rfl rfl (by decide)))) (Nat.ne_of_lt (Nat.lt_trans ha h.2.2.1))
theorem Apart.high3 {x dx pb f sx sdx lf cl c' : Nat} (h : Apart x dx pb f sx sdx lf cl c') {a : Nat} (ha : pb < a) : a ∉ [pb, dx, lf] :=
  not_in3 (Nat.ne_of_gt ha) (Nat.ne_of_gt (Nat.lt_trans (h.rise.at (i := 5) (k := 7) rfl rfl (by decide)) ha)) (Nat.ne_of_gt (Nat.lt_trans (h.rise.at (i := 1) (k := 7) rfl rfl (by decide)) ha))
theorem Apart.high2 {x dx pb f sx sdx lf cl c' : Nat} (h : Apart x dx pb f sx sdx lf cl c') {a : Nat} (ha : pb < a) : a ∉ [lf, dx] :=
  not_in2 (Nat.ne_of_gt (Nat.lt_trans (h.rise.at (i := 1) (k := 7) rfl rfl (by decide)) ha)) (Nat.ne_of_gt (Nat.lt_trans (h.rise.at (i := 5) (k := 7) rfl rfl (by decide)) ha))
/-- the code of the inner def -/
def CodeOk (oc : Obj) : Prop := ∃ vs t, oc.data = .fields vs ∧ vs[1]? = some (.str "_law_lexer.<locals>._law_next" t)
structure Lx.Ok (w : World) (r : Lx) : Prop where
  next : NextSpec w r.f r.c' r.cl r.lf r.of r.oc r.co
  nd : Apart r.x r.dx r.pb r.f r.sx r.sdx r.lf r.cl r.c'
  code : CodeOk r.oc
  fn : ∃ oc od fd sl, r.of = ⟨oc, od, .func fd, sl⟩

set_option maxRecDepth 100000 in
set_option maxHeartbeats 8000000 in
theorem c_lexer_first {w : World} {h₀ : Heap} {s : Shared} {txt : Str} {u : Tok}
   {R : Result → Shared → Prop}
   (Y : Rdy w h₀) (sy : ∀ b o, h₀.get? b = some o → s.heap.get? b = some o)
   (C : Cells h₀ s.heap [(213, tabObj #[])]) (hx : txt.length ≤ 1000)
   (hR : ∀ h' tk (r : Lx) lt ys c, StrsAre ys (signs txt) → r.Ok w → @LE.le Nat _ s.heap.objs.size r.cl → Out h₀ s.heap h' [213] ((213, tabOf r.c') :: (r.c', r.oc) :: r.own w [] 0 1 lt ys c) → R (.ok (.ret (.ref r.x))) { s with heap := h', toks := tk })
   : codeAny (model PP w) (AAt 850) (.call (.ref 218) ⟨[.str txt u], []⟩) R s := by
  refine enterC (binds := [("text", .str txt u)]) Y sy C (by k_is) (by k_is) (by k_room) (BindsTo.of_eq rfl) rfl (by decide +kernel) ?_ rfl rfl rfl
  intro g L h₁ tk own I F N Z hlt hLs
  obtain ⟨X, ⟨p, loose, mean, mg, mb, T⟩, CH⟩ := id I.Y
  have YY := I.Y
  k_lt hlt
  k_cells Z
  (try simp only [List.cons_append, List.nil_append] at N)
  show wpAny _ _ _ _ _ _
  k_fold
  k_steps
  rename Fr _ _ _ _ => F2
  rename News _ _ _ _ => N2
  have fin : ∀ (pb x dx f c' sx sdx lf cl spb t1 t2 t3 t4 wt u1 u2 u3 u4 u5 ul uw lt c : Nat) (of oc co o1 : Obj) (h' : Heap) (ys : List Value) (m : Str → Option Value) (tk : Nat),
      Fr g L h' m → News g L h' [(pb, listOf [].toArray 0), (x, instObj 59 dx), (dx, dictOf (lexDict w t1 t2 t3 t4 1 lt (.ref sx) wt pb) 4), (f, of), (c', oc), (spb, o1), (sx, instObj 59 sdx),
        (sdx, dictOf (lexDict w u1 u2 u3 u4 1 ul .none uw spb ++ [⟨PyData.keyHash w.params "read", .str "read" u5, .ref f⟩]) 5), (lf, listOf ys.toArray c), (cl, co), (213, tabObj (#[] ++ #[rawInt 183, rawInt 4, .ref c']))] →
      StrsAre ys (signs txt) → CodeOk oc → NextSpec w f c' cl lf of oc co → (∃ oc od fd sl, of = ⟨oc, od, .func fd, sl⟩) → Apart x dx pb f sx sdx lf cl c' → @LE.le Nat _ s.heap.objs.size cl → R (.ok (.ret (.ref x))) { s with heap := h', toks := tk } := by
    intro pb x dx f c' sx sdx lf cl spb t1 t2 t3 t4 wt u1 u2 u3 u4 u5 ul uw lt c of oc co o1 h' ys m tk F N hys hcode hnext hfn hnd hcl
    refine hR h' tk ⟨x, dx, pb, f, sx, sdx, lf, cl, c', spb, t1, t2, t3, t4, wt, u1, u2, u3, u4, u5, ul, uw, of, oc, co⟩ lt ys c hys ⟨hnext, hnd, hcode, hfn⟩ hcl ((I.out F N).sub ?_)
    exact in_idx [10, 4, 0, 2, 8, 1, 3, 6, 7, 9] rfl
  refine fin _ _ _ _ _ _ _ _ _ _ _ _ _ _ _ _ _ _ _ _ _ _ _ _ _ _ _ _ _ _ _ _ F2 N2 (by assumption) ?_ ?_ ⟨_, _, _, _, rfl⟩ ?_ (by rw [← hLs]; omega)
  · exact ⟨_, _, by assumption, by assumption⟩
  · constructor
    · intro h₀ s k t R Y sy C hR
      refine enterX (binds := [("size", .int 1 t)]) Y sy C (C (_, _) (.tail _ (.head _))).1 rfl ⟨_, _, _, _, rfl, (C (_, _) (.tail _ (.tail _ (.head _)))).1, by assumption, by assumption⟩ (by k_room) (BindsTo.of_eq rfl) (locs rfl) ?_ (by decide) rfl rfl rfl
      intro g2 L2 h₂ I2 F3 N3 hlt2 hLs2
      obtain ⟨X2, ⟨p2, loose2, mean2, mg2, mb2, T2⟩, CH2⟩ := id I2.Y
      clear F2 N2
      show wpAny _ _ _ _ _ _
      k_fold
      k_steps
      exact hR _ _ _ ((I2.out F3 N3).same C)
    · intro h₀ s v vs k t R Y sy C hz hR
      have hne : (v :: vs).length ≤ 1001 := by simp only [List.length_cons]; omega
      refine enterX (binds := [("size", .int 1 t)]) Y sy C (C (_, _) (.tail _ (.head _))).1 rfl ⟨_, _, _, _, rfl, (C (_, _) (.tail _ (.tail _ (.head _)))).1, by assumption, by assumption⟩ (by k_room) (BindsTo.of_eq rfl) (locs rfl) ?_ (by decide) rfl rfl rfl
      intro g2 L2 h₂ I2 F3 N3 hlt2 hLs2
      obtain ⟨X2, ⟨p2, loose2, mean2, mg2, mb2, T2⟩, CH2⟩ := id I2.Y
      clear F2 N2
      show wpAny _ _ _ _ _ _
      k_fold
      k_steps
      rename Fr _ _ _ _ => F4
      rename News _ _ _ _ => N4
      exact hR _ _ ((I2.out F4 N4).one (C.sub (fun p hp => .tail _ hp)))
  · refine ⟨?_, ?_, ?_, ?_, ?_, ?_, ?_, ?_, ?_, ?_⟩
    all_goals first | omega | exact .inl (by omega) | exact .inr ⟨by omega, by omega⟩

set_option maxRecDepth 100000 in
set_option maxHeartbeats 8000000 in
theorem c_lexer_hit {w : World} {c0 : Addr} {oc0 : Obj} {h₀ : Heap} {s : Shared} {txt : Str} {u : Tok}
   {R : Result → Shared → Prop}
   (Y : Rdy w h₀) (sy : ∀ b o, h₀.get? b = some o → s.heap.get? b = some o)
   (C : Cells h₀ s.heap [(213, tabOf c0), (c0, oc0)]) (hco : CodeOk oc0) (hc0 : @LT.lt Nat _ 213 c0) (hx : txt.length ≤ 1000)
   (hR : ∀ h' tk (r : Lx) lt ys c, StrsAre ys (signs txt) → r.Ok w → r.c' = c0 → r.oc = oc0 → @LE.le Nat _ s.heap.objs.size r.cl → Out h₀ s.heap h' [] (r.own w [] 0 1 lt ys c) → R (.ok (.ret (.ref r.x))) { s with heap := h', toks := tk })
   : codeAny (model PP w) (AAt 850) (.call (.ref 218) ⟨[.str txt u], []⟩) R s := by
  refine enterC (binds := [("text", .str txt u)]) Y sy C (by k_is) (by k_is) (by k_room) (BindsTo.of_eq rfl) rfl (by decide +kernel) ?_ rfl rfl rfl
  intro g L h₁ tk own I F N Z hlt hLs
  obtain ⟨vs0, t0, hd0, hv0⟩ := id hco
  replace hc0 := ltN hc0
  obtain ⟨X, ⟨p, loose, mean, mg, mb, T⟩, CH⟩ := id I.Y
  have YY := I.Y
  k_lt hlt
  k_cells Z
  (try simp only [List.cons_append, List.nil_append] at N)
  show wpAny _ _ _ _ _ _
  k_fold
  k_steps
  rename Fr _ _ _ _ => F2
  rename News _ _ _ _ => N2
  have fin : ∀ (pb x dx f sx sdx lf cl spb t1 t2 t3 t4 wt u1 u2 u3 u4 u5 ul uw lt c : Nat) (of co o1 : Obj) (h' : Heap) (ys : List Value) (m : Str → Option Value) (tk : Nat),
      Fr g L h' m → News g L h' [(pb, listOf [].toArray 0), (x, instObj 59 dx), (dx, dictOf (lexDict w t1 t2 t3 t4 1 lt (.ref sx) wt pb) 4), (f, of), (spb, o1), (sx, instObj 59 sdx),
        (sdx, dictOf (lexDict w u1 u2 u3 u4 1 ul .none uw spb ++ [⟨PyData.keyHash w.params "read", .str "read" u5, .ref f⟩]) 5), (lf, listOf ys.toArray c), (cl, co), (213, tabOf c0), (c0, oc0)] →
      StrsAre ys (signs txt) → CodeOk oc0 → NextSpec w f c0 cl lf of oc0 co → (∃ oc od fd sl, of = ⟨oc, od, .func fd, sl⟩) → Apart x dx pb f sx sdx lf cl c0 → @LE.le Nat _ s.heap.objs.size cl → R (.ok (.ret (.ref x))) { s with heap := h', toks := tk } := by
    intro pb x dx f sx sdx lf cl spb t1 t2 t3 t4 wt u1 u2 u3 u4 u5 ul uw lt c of co o1 h' ys m tk F N hys hcode hnext hfn hnd hcl
    refine hR h' tk ⟨x, dx, pb, f, sx, sdx, lf, cl, c0, spb, t1, t2, t3, t4, wt, u1, u2, u3, u4, u5, ul, uw, of, oc0, co⟩ lt ys c hys ⟨hnext, hnd, hcode, hfn⟩ rfl rfl hcl ((I.out F N).shrink _ _ ?_ ?_ ?_)
    · exact in_idx [0, 2, 7, 1, 3, 5, 6, 8] rfl
    · exact List.forall_mem_cons.mpr ⟨.inr ⟨_, (C (_, _) (.head _)).1, List.mem_of_getElem? (i := 9) rfl⟩, List.forall_mem_cons.mpr ⟨.inr ⟨_, (C (_, _) (.tail _ (.head _))).1, List.mem_of_getElem? (i := 10) rfl⟩, List.forall_mem_nil _⟩⟩
    · intro p hp
      refine .inr fun hm => ?_
      rcases List.mem_cons.mp hm with e | hm
      · exact Nat.ne_of_gt (Nat.lt_of_lt_of_le hnd.2.1 (own_ge hnd p hp)) e
      · exact (own_le hnd p hp).2 (List.mem_singleton.mp hm)
  refine fin _ _ _ _ _ _ _ _ _ _ _ _ _ _ _ _ _ _ _ _ _ _ _ _ _ _ _ _ _ _ F2 N2 (by assumption) hco ?_ ⟨_, _, _, _, rfl⟩ ?_ (by rw [← hLs]; omega)
  · constructor
    · intro h₀ s k t R Y sy C hR
      refine enterX (binds := [("size", .int 1 t)]) Y sy C (C (_, _) (.tail _ (.head _))).1 rfl ⟨_, _, _, _, rfl, (C (_, _) (.tail _ (.tail _ (.head _)))).1, by assumption, by assumption⟩ (by k_room) (BindsTo.of_eq rfl) (locs rfl) ?_ (by decide) rfl rfl rfl
      intro g2 L2 h₂ I2 F3 N3 hlt2 hLs2
      obtain ⟨X2, ⟨p2, loose2, mean2, mg2, mb2, T2⟩, CH2⟩ := id I2.Y
      clear F2 N2
      show wpAny _ _ _ _ _ _
      k_fold
      k_steps
      exact hR _ _ _ ((I2.out F3 N3).same C)
    · intro h₀ s v vs k t R Y sy C hz hR
      have hne : (v :: vs).length ≤ 1001 := by simp only [List.length_cons]; omega
      refine enterX (binds := [("size", .int 1 t)]) Y sy C (C (_, _) (.tail _ (.head _))).1 rfl ⟨_, _, _, _, rfl, (C (_, _) (.tail _ (.tail _ (.head _)))).1, by assumption, by assumption⟩ (by k_room) (BindsTo.of_eq rfl) (locs rfl) ?_ (by decide) rfl rfl rfl
      intro g2 L2 h₂ I2 F3 N3 hlt2 hLs2
      obtain ⟨X2, ⟨p2, loose2, mean2, mg2, mb2, T2⟩, CH2⟩ := id I2.Y
      clear F2 N2
      show wpAny _ _ _ _ _ _
      k_fold
      k_steps
      rename Fr _ _ _ _ => F4
      rename News _ _ _ _ => N4
      exact hR _ _ ((I2.out F4 N4).one (C.sub (fun p hp => .tail _ hp)))
  · refine ⟨?_, ?_, ?_, ?_, ?_, ?_, ?_, ?_, ?_, ?_⟩
    all_goals first | omega | exact .inl (by omega) | exact .inr ⟨by omega, by omega⟩
end Mine
end
section
open PySem PySem.W PyProof.Rows PySem.Calls
theorem Mine.off_UnLex3 {M : Model} {A : Around} {env : Env} {Q : Flow → Shared → Prop} {E : Value → Shared → Prop} {s : Shared} (h : wpAny M A (execs [] env) Q E s) : wpAny M A (execs [] env) Q E s := by
  try (walk1; fail)
  w_top off
  exact h
end
section
open PySem PySem.W PyProof.Rows PySem.Calls
namespace Mine


section
variable {w : World} {A : Around} {E : Value → Shared → Prop} {s : Shared} {h₀ : Heap} {L : Addr} {m : Str → Option Value} {Q : Value → Shared → Prop} {news news' : List (Addr × Obj)} {f c' cl lf : Addr} {of oc co : Obj} {k : Nat} {t : Tok} {v : Value} {vs : List Value}
theorem s_next_nil (h0 : A.handled = none) (h1 : A.depth ≤ 900) (h2 : A.units ≤ 4 * 900) (F : Fr h₀ L s.heap m) (N : News h₀ L s.heap news) (Y : Rdy w h₀) (S : NextSpec w f c' cl lf of oc co)
    (hs : ∀ p ∈ [(lf, listOf [].toArray k), (f, of), (c', oc), (cl, co)], p ∈ news)
    (hQ : ∀ h' tk u, Fr h₀ L h' m → News h₀ L h' news → Q (.str "" u) { s with heap := h', toks := tk }) : wpAny (model PP w) A (call (.ref f) [.int 1 t] []) Q E s := by
  refine wpAny_call (siteC 900 h0 h1 h2 (S.1 h₀ s k t _ Y (fun b o e => F.keep b o e) (Cells.of_news N hs) fun h' tk u O => ?_))
  obtain ⟨F', N'⟩ := back0 F N O
  exact hQ h' tk u F' N'
theorem s_next_cons (h0 : A.handled = none) (h1 : A.depth ≤ 900) (h2 : A.units ≤ 4 * 900) (F : Fr h₀ L s.heap m) (N : News h₀ L s.heap news) (Y : Rdy w h₀) (S : NextSpec w f c' cl lf of oc co) (hz : vs.length ≤ 1000)
    (hs : ∀ p ∈ [(lf, listOf (v :: vs).toArray k), (f, of), (c', oc), (cl, co)], p ∈ news) (U : Upd lf (listOf (v :: vs).toArray k) (listOf vs.toArray (k + 1)) news news')
    (hQ : ∀ h' tk, Fr h₀ L h' m → News h₀ L h' news' → Q v { s with heap := h', toks := tk }) : wpAny (model PP w) A (call (.ref f) [.int 1 t] []) Q E s := by
  refine wpAny_call (siteC 900 h0 h1 h2 (S.2 h₀ s v vs k t _ Y (fun b o e => F.keep b o e) (Cells.of_news N hs) hz fun h' tk O => ?_))
  obtain ⟨F', N'⟩ := backU F N U O
  exact hQ h' tk F' N'
end
local macro_rules | `(tactic| walk_at "call ref") => `(tactic| (k_here; (with_reducible show wpAny _ _ (call (Value.ref _) [Value.int 1 _] _) _ _ _); k_dflt (refine' s_next_nil ?k0 ?k1 ?k2 ?k3 ?k4 ?k5 ?k6 ?k7 ?_; (case k0 => exact rfl); (case k1 => k_units); (case k2 => k_units); (case k3 => k_asm); (case k4 => k_asm); (case k5 => k_asm); (case k6 => assumption); (case k7 => k_allIn); k_whole); (intro h' tk' u' F' N'; (try k_sweep))))
local macro_rules | `(tactic| walk_at "call ref") => `(tactic| (k_here; (with_reducible show wpAny _ _ (call (Value.ref _) [Value.int 1 _] _) _ _ _); k_dflt (refine' s_next_cons ?k0 ?k1 ?k2 ?k3 ?k4 ?k5 ?k6 ?kz ?k7 ?k8 ?_; (case k0 => exact rfl); (case k1 => k_units); (case k2 => k_units); (case k3 => k_asm); (case k4 => k_asm); (case k5 => k_asm); (case k6 => assumption); (case k7 => k_allIn); (case k8 => k_upd); (case kz => assumption); k_whole); (intro h' tk' F' N'; (try k_sweep))))

set_option maxRecDepth 100000 in
set_option maxHeartbeats 8000000 in
theorem c_read_nil {w : World} {h₀ : Heap} {s : Shared} {r : Lx} {vs : List Value} {k c : Nat} {ln : Int} {lt : Tok}
   {R : Result → Shared → Prop}
   (Y : Rdy w h₀) (sy : ∀ b o, h₀.get? b = some o → s.heap.get? b = some o)
   (C : Cells h₀ s.heap (r.own w vs k ln lt [] c ++ [(r.c', r.oc)])) (Ok : r.Ok w)
   (hR : ∀ h' tk u, Out h₀ s.heap h' [] [] → R (.ok (.ret (.str "" u))) { s with heap := h', toks := tk })
   : codeAny (model PP w) (AAt 850) (.call (.ref 42) ⟨[.ref r.x], []⟩) R s := by
  obtain ⟨x, dx, pb, f, sx, sdx, lf, cl, c', spb, t1, t2, t3, t4, wt, u1, u2, u3, u4, u5, ul, uw, of, oc, co⟩ := r
  obtain ⟨S, hnd, hcode, ⟨o1, o2, o3, o4, rfl⟩⟩ := Ok
  refine enterP (binds := [("self", .ref x)]) Y sy C (by k_is) (by k_is) (by k_room) (BindsTo.of_eq rfl) (locs rfl) ?_ (by decide) rfl rfl rfl
  intro g L h₁ I F N hlt hLs
  obtain ⟨X, ⟨p, loose, mean, mg, mb, T⟩, CH⟩ := id I.Y
  have YY := I.Y
  simp only [Lx.own, List.cons_append, List.nil_append] at N
  show wpAny _ _ _ _ _ _
  k_fold
  k_steps
  rename Fr _ _ _ _ => F2
  rename News _ _ _ _ => N2
  exact hR _ _ _ ((I.out F2 N2).same C)

set_option maxRecDepth 100000 in
set_option maxHeartbeats 8000000 in
theorem c_read_cons {w : World} {h₀ : Heap} {s : Shared} {r : Lx} {vs ys : List Value} {k c : Nat} {ln : Int} {lt : Tok} {y : Str} {t : Tok}
   {R : Result → Shared → Prop}
   (Y : Rdy w h₀) (sy : ∀ b o, h₀.get? b = some o → s.heap.get? b = some o)
   (C : Cells h₀ s.heap (r.own w vs k ln lt (.str y t :: ys) c ++ [(r.c', r.oc)])) (Ok : r.Ok w) (hz : ys.length ≤ 1000) (hy : (y == Str.ofString "\n") = false)
   (hR : ∀ h' tk, Out h₀ s.heap h' [r.lf] [(r.lf, listOf ys.toArray (c + 1))] → R (.ok (.ret (.str y t))) { s with heap := h', toks := tk })
   : codeAny (model PP w) (AAt 850) (.call (.ref 42) ⟨[.ref r.x], []⟩) R s := by
  obtain ⟨x, dx, pb, f, sx, sdx, lf, cl, c', spb, t1, t2, t3, t4, wt, u1, u2, u3, u4, u5, ul, uw, of, oc, co⟩ := r
  obtain ⟨S, hnd, hcode, ⟨o1, o2, o3, o4, rfl⟩⟩ := Ok
  refine enterP (binds := [("self", .ref x)]) Y sy C (by k_is) (by k_is) (by k_room) (BindsTo.of_eq rfl) (locs rfl) ?_ (by decide) rfl rfl rfl
  intro g L h₁ I F N hlt hLs
  clear hlt
  obtain ⟨X, ⟨p, loose, mean, mg, mb, T⟩, CH⟩ := id I.Y
  have YY := I.Y
  simp only [Lx.own, List.cons_append, List.nil_append] at N
  unfold Apart at hnd
  dsimp only at hnd hR
  show wpAny _ _ _ _ _ _
  k_fold
  k_steps
  rename Fr _ _ _ _ => F2
  rename News _ _ _ _ => N2
  exact hR _ _ ((I.out F2 N2).upd C _ _ (by repeat' first | exact List.forall_mem_nil _ | refine List.forall_mem_cons.mpr ⟨?_, ?_⟩ | exact .inl (by k_mem) | exact .inr (by k_mem)) (List.forall_mem_cons.mpr ⟨⟨by k_memK, .inl (by k_mem)⟩, List.forall_mem_nil _⟩))

set_option maxRecDepth 100000 in
set_option maxHeartbeats 8000000 in
theorem c_read_nl {w : World} {h₀ : Heap} {s : Shared} {r : Lx} {vs ys : List Value} {k c : Nat} {ln : Int} {lt : Tok} {t : Tok}
   {R : Result → Shared → Prop}
   (Y : Rdy w h₀) (sy : ∀ b o, h₀.get? b = some o → s.heap.get? b = some o)
   (C : Cells h₀ s.heap (r.own w vs k ln lt (.str "\n" t :: ys) c ++ [(r.c', r.oc)])) (Ok : r.Ok w) (hz : ys.length ≤ 1000) (hln : 0 ≤ ln ∧ ln ≤ 1000)
   (hR : ∀ h' tk lt', Out h₀ s.heap h' [r.lf, r.dx] [(r.lf, listOf ys.toArray (c + 1)), (r.dx, dictOf (lexDict w r.t1 r.t2 r.t3 r.t4 (ln + 1) lt' (.ref r.sx) r.wt r.pb) 4)] → R (.ok (.ret (.str "\n" t))) { s with heap := h', toks := tk })
   : codeAny (model PP w) (AAt 850) (.call (.ref 42) ⟨[.ref r.x], []⟩) R s := by
  obtain ⟨x, dx, pb, f, sx, sdx, lf, cl, c', spb, t1, t2, t3, t4, wt, u1, u2, u3, u4, u5, ul, uw, of, oc, co⟩ := r
  obtain ⟨S, hnd, hcode, ⟨o1, o2, o3, o4, rfl⟩⟩ := Ok
  refine enterP (binds := [("self", .ref x)]) Y sy C (by k_is) (by k_is) (by k_room) (BindsTo.of_eq rfl) (locs rfl) ?_ (by decide) rfl rfl rfl
  intro g L h₁ I F N hlt hLs
  clear hlt
  obtain ⟨X, ⟨p, loose, mean, mg, mb, T⟩, CH⟩ := id I.Y
  have YY := I.Y
  simp only [Lx.own, List.cons_append, List.nil_append] at N
  unfold Apart at hnd
  dsimp only at hnd hR
  show wpAny _ _ _ _ _ _
  k_fold
  k_steps
  rename Fr _ _ _ _ => F2
  rename News _ _ _ _ => N2
  exact hR _ _ _ ((I.out F2 N2).upd C _ _ (by repeat' first | exact List.forall_mem_nil _ | refine List.forall_mem_cons.mpr ⟨?_, ?_⟩ | exact .inl (by k_mem) | exact .inr (by k_mem)) (List.forall_mem_cons.mpr ⟨⟨by k_memK, .inl (by k_mem)⟩, List.forall_mem_cons.mpr ⟨⟨by k_memK, .inl (by k_mem)⟩, List.forall_mem_nil _⟩⟩))
end Mine
end
section
open PySem PySem.W PyProof.Rows PySem.Calls
theorem Mine.off_UnLex4 {M : Model} {A : Around} {env : Env} {Q : Flow → Shared → Prop} {E : Value → Shared → Prop} {s : Shared} (h : wpAny M A (execs [] env) Q E s) : wpAny M A (execs [] env) Q E s := by
  try (walk1; fail)
  w_top off
  exact h
end
section
open PySem PySem.W PyProof.Rows PySem.Calls
namespace Mine
local macro_rules | `(tactic| walk_at "call builtin:list.pop") => `(tactic| (k_here; (with_reducible show wpAny _ _ (call (Value.builtin _) [Value.ref _, Value.int 0 _]) _ _ _); k_dflt (refine' pop0 ?F ?N ?U ?z ?_; (case F => k_asm); (case N => k_asm); (case U => k_upd); (case z => assumption)); (intro h' F' N'; (try k_sweep))))

set_option maxRecDepth 100000 in
set_option maxHeartbeats 8000000 in
theorem c_get_pop {w : World} {h₀ : Heap} {s : Shared} {x dx pb : Addr} {t1 t2 t3 t4 lt wt : Tok} {ln : Int} {st : Value} {n k : Nat} {vs : List Value} {v : Value}
   {R : Result → Shared → Prop}
   (Y : Rdy w h₀) (sy : ∀ b o, h₀.get? b = some o → s.heap.get? b = some o)
   (C : Cells h₀ s.heap [(pb, listOf (v :: vs).toArray k), (x, instObj 59 dx), (dx, dictOf (lexDict w t1 t2 t3 t4 ln lt st wt pb) n)])
   (hne1 : @Ne Nat pb x) (hne2 : @Ne Nat pb dx)
   (hz : vs.length ≤ 1000)
   (hR : ∀ h' tk, Out h₀ s.heap h' [pb] [(pb, listOf vs.toArray (k + 1))] → R (.ok (.ret v)) { s with heap := h', toks := tk })
   : codeAny (model PP w) (AAt 800) (.call (.ref 49) ⟨[.ref x], []⟩) R s := by
  refine enterP (binds := [("self", .ref x)]) Y sy C (by k_is) (by k_is) (by k_room) (BindsTo.of_eq rfl) (locs rfl) ?_ (by decide) rfl rfl rfl
  intro g L h₁ I F N hlt hLs
  obtain ⟨X, ⟨p, loose, mean, mg, mb, T⟩, CH⟩ := id I.Y
  have hz2 : (v :: vs).length ≤ 1001 := by simp only [List.length_cons]; omega
  show wpAny _ _ _ _ _ _
  k_fold
  k_steps
  rename Fr _ _ _ _ => F'
  rename News _ _ _ _ => N'
  exact hR _ _ ((I.out F' N').one (C.sub (fun p hp => .tail _ hp)))


section
variable {w : World} {A : Around} {E : Value → Shared → Prop} {s : Shared} {h₀ : Heap} {L : Addr} {m : Str → Option Value} {Q : Option Value → Shared → Prop} {news news' news'' : List (Addr × Obj)} {r : Lx} {vs ys : List Value} {k c : Nat} {ln : Int} {lt t ts : Tok} {y : Str} {it q : Addr}

theorem fn42 {w : World} {h : Heap} (Y : Rdy w h) : ∃ o fd, h.get? 42 = some o ∧ o.data = .func fd := by
  have X := Y.K
  exact ⟨_, _, X 42 _ (by k_is), rfl⟩

theorem next_nil (h0 : A.handled = none) (h1 : A.depth ≤ 850) (h2 : A.units + 1 ≤ 4 * 850) (F : Fr h₀ L s.heap m) (N : News h₀ L s.heap news) (Y : Rdy w h₀) (Ok : r.Ok w)
    (hit : (it, ciObj q "" ts) ∈ news) (hq : (q, methodObj (.ref 42) (.ref r.x)) ∈ news) (hs : ∀ p ∈ r.own w vs k ln lt [] c ++ [(r.c', r.oc)], p ∈ news) (U : Upd it (ciObj q "" ts) ciDone news news')
    (hQ : ∀ h' tk, Fr h₀ L h' m → News h₀ L h' news' → Q none { s with heap := h', toks := tk }) : wpAny (model PP w) A (pyNext (.ref it)) Q E s := by
  obtain ⟨o, fd, ho, hd⟩ := fn42 (Y.keeps F.keep)
  refine ci_next h0 (N _ hit).1 (N _ hq).1 ho hd (method_call (N _ hq).1 (siteC 850 h0 h1 h2 (c_read_nil Y (fun b o e => F.keep b o e) (Cells.of_news N hs) Ok fun h' tk u O => ?_)))
  obtain ⟨F', N'⟩ := back0 F N O
  refine ⟨_, _, rfl, (N' _ hit).1, (N' _ hq).1, O.kept _ _ ho (fun hm => nomatch hm), fun e => absurd e (by decide), fun _ h2 hx hdn => ?_⟩
  obtain ⟨pre, post, rfl, rfl, a1, a2⟩ := U.split
  have z := N' (it, ciObj q "" ts) (by simp)
  refine hQ h2 tk ⟨?_, ?_, F'.above⟩ ?_
  · exact F'.ns.extBut hx z.2.1.symm
  · intro b ob e
    refine hx b ob (fun e2 => ?_) (F'.keep b ob e)
    rw [e2, z.2.2] at e; cases e
  · intro p hp
    rcases List.mem_append.mp hp with hp | hp
    · have z2 := N' p (by simp [hp])
      exact ⟨hx _ _ (a1 p hp) z2.1, z2.2⟩
    · rcases List.mem_cons.mp hp with rfl | hp
      · exact ⟨hdn, z.2⟩
      · have z2 := N' p (by simp [hp])
        exact ⟨hx _ _ (a2 p hp) z2.1, z2.2⟩

theorem next_cons (h0 : A.handled = none) (h1 : A.depth ≤ 850) (h2 : A.units + 1 ≤ 4 * 850) (F : Fr h₀ L s.heap m) (N : News h₀ L s.heap news) (Y : Rdy w h₀) (Ok : r.Ok w) (hz : ys.length ≤ 1000) (hy : (y == Str.ofString "\n") = false) (hy2 : ((Str.ofString "") == y) = false)
    (hit : (it, ciObj q "" ts) ∈ news) (hq : (q, methodObj (.ref 42) (.ref r.x)) ∈ news) (hs : ∀ p ∈ r.own w vs k ln lt (.str y t :: ys) c ++ [(r.c', r.oc)], p ∈ news)
    (hit' : (it, ciObj q "" ts) ∈ news') (hq' : (q, methodObj (.ref 42) (.ref r.x)) ∈ news')
    (U : Upd r.lf (listOf (.str y t :: ys).toArray c) (listOf ys.toArray (c + 1)) news news')
    (hQ : ∀ h' tk, Fr h₀ L h' m → News h₀ L h' news' → Q (some (.str y t)) { s with heap := h', toks := tk }) : wpAny (model PP w) A (pyNext (.ref it)) Q E s := by
  obtain ⟨o, fd, ho, hd⟩ := fn42 (Y.keeps F.keep)
  obtain ⟨o2, fd2, ho2, _⟩ := fn42 Y
  refine ci_next h0 (N _ hit).1 (N _ hq).1 ho hd (method_call (N _ hq).1 (siteC 850 h0 h1 h2 (c_read_cons Y (fun b o e => F.keep b o e) (Cells.of_news N hs) Ok hz hy fun h' tk O => ?_)))
  obtain ⟨F', N'⟩ := backU F N U O
  refine ⟨_, _, rfl, (N' _ hit').1, (N' _ hq').1, ?_, fun _ => hQ h' tk F' N', fun e => ?_⟩
  · have e1 := F.keep _ _ ho2
    rw [ho] at e1; cases e1
    exact F'.keep _ _ ho2
  · rw [hy2] at e; cases e

theorem next_nl (h0 : A.handled = none) (h1 : A.depth ≤ 850) (h2 : A.units + 1 ≤ 4 * 850) (F : Fr h₀ L s.heap m) (N : News h₀ L s.heap news) (Y : Rdy w h₀) (Ok : r.Ok w) (hz : ys.length ≤ 1000) (hln : 0 ≤ ln ∧ ln ≤ 1000)
    (hit : (it, ciObj q "" ts) ∈ news) (hq : (q, methodObj (.ref 42) (.ref r.x)) ∈ news) (hs : ∀ p ∈ r.own w vs k ln lt (.str "\n" t :: ys) c ++ [(r.c', r.oc)], p ∈ news)
    (rest : List (Addr × Obj)) (hr : ∀ p ∈ rest, p ∈ news) (hne : ∀ p ∈ rest, p.1 ∉ [r.lf, r.dx]) (hit' : (it, ciObj q "" ts) ∈ rest) (hq' : (q, methodObj (.ref 42) (.ref r.x)) ∈ rest)
    (hQ : ∀ h' tk lt', Fr h₀ L h' m → News h₀ L h' ((r.lf, listOf ys.toArray (c + 1)) :: (r.dx, dictOf (lexDict w r.t1 r.t2 r.t3 r.t4 (ln + 1) lt' (.ref r.sx) r.wt r.pb) 4) :: rest) → Q (some (.str "\n" t)) { s with heap := h', toks := tk }) : wpAny (model PP w) A (pyNext (.ref it)) Q E s := by
  obtain ⟨o, fd, ho, hd⟩ := fn42 (Y.keeps F.keep)
  obtain ⟨o2, fd2, ho2, _⟩ := fn42 Y
  refine ci_next h0 (N _ hit).1 (N _ hq).1 ho hd (method_call (N _ hq).1 (siteC 850 h0 h1 h2 (c_read_nl Y (fun b o e => F.keep b o e) (Cells.of_news N hs) Ok hz hln fun h' tk lt' O => ?_)))
  obtain ⟨F', N'⟩ := back rest F N O (by
    exact List.forall_mem_cons.mpr ⟨List.mem_map.mpr ⟨_, hs (r.lf, listOf (Value.str "\n" t :: ys).toArray c) (List.mem_of_getElem? (i := 2) rfl), rfl⟩,
      List.forall_mem_cons.mpr ⟨List.mem_map.mpr ⟨_, hs (r.dx, dictOf (lexDict w r.t1 r.t2 r.t3 r.t4 ln lt (.ref r.sx) r.wt r.pb) 4) (List.mem_of_getElem? (i := 1) rfl), rfl⟩, List.forall_mem_nil _⟩⟩) hr hne
  refine ⟨_, _, rfl, (N' (it, ciObj q "" ts) (.tail _ (.tail _ hit'))).1, (N' (q, methodObj (.ref 42) (.ref r.x)) (.tail _ (.tail _ hq'))).1, ?_, fun _ => hQ h' tk lt' F' N', fun e => absurd e (by decide)⟩
  have e1 := F.keep _ _ ho2
  rw [ho] at e1; cases e1
  exact F'.keep _ _ ho2
end

local macro_rules | `(tactic| walk_at "call builtin:iter") => `(tactic| (k_here; k_dflt (refine' iter2_N ?k1 ?k2 ?k3 ?_; (case k1 => k_asm); (case k2 => k_asm); (case k3 => k_mem); k_whole); (intro it' h' F' N' l1; (try k_lt l1); (try k_sweep))))
local macro_rules | `(tactic| walk_at "exec For Name Name cons nil") => `(tactic| (k_here; k_dflt (with_unfolding_all refine wpAny_For ?_)))
local macro_rules | `(tactic| walk_at "pyIter ref") => `(tactic| (k_here; k_dflt (refine' ci_iter ?a ?_; (case a => exact News.get (by k_asm) (by k_mem)); k_whole)))
set_option maxRecDepth 100000 in
set_option maxHeartbeats 8000000 in
theorem c_get_nil {w : World} {h₀ : Heap} {s : Shared} {r : Lx} {k c : Nat} {ln : Int} {lt : Tok}
   {R : Result → Shared → Prop}
   (Y : Rdy w h₀) (sy : ∀ b o, h₀.get? b = some o → s.heap.get? b = some o)
   (C : Cells h₀ s.heap (r.own w [] k ln lt [] c ++ [(r.c', r.oc)])) (Ok : r.Ok w)
   (hR : ∀ h' tk u, Out h₀ s.heap h' [] [] → R (.ok (.ret (.str "" u))) { s with heap := h', toks := tk })
   : codeAny (model PP w) (AAt 800) (.call (.ref 49) ⟨[.ref r.x], []⟩) R s := by
  obtain ⟨x, dx, pb, f, sx, sdx, lf, cl, c', spb, t1, t2, t3, t4, wt, u1, u2, u3, u4, u5, ul, uw, of, oc, co⟩ := r
  obtain ⟨S, hnd, hcode, ⟨o1, o2, o3, o4, rfl⟩⟩ := id Ok
  have hap : Apart x dx pb f sx sdx lf cl c' := hnd
  refine enterP (binds := [("self", .ref x)]) Y sy C (by k_is) (by k_is) (by k_room) (BindsTo.of_eq rfl) (locs rfl) ?_ (by decide) rfl rfl rfl
  intro g L h₁ I F N hlt hLs
  clear hlt
  obtain ⟨X, ⟨p, loose, mean, mg, mb, T⟩, CH⟩ := id I.Y
  have YY := I.Y
  simp only [Lx.own, List.cons_append, List.nil_append] at N
  unfold Apart at hnd
  dsimp only at hnd hR
  show wpAny _ _ _ _ _ _
  k_fold
  k_steps
  rename Fr _ _ _ _ => F2
  rename News _ _ _ _ => N2
  k_dflt (refine for_turn (fun _ => rfl) ?_)
  refine next_nil rfl (by k_units) (by k_units) F2 N2 YY Ok (by k_mem) (by k_mem) (by simp only [Lx.own, List.cons_append, List.nil_append]; k_allIn) (by k_upd) ?_
  intro h3 tk3 F3 N3
  clear F2 N2
  dsimp only
  k_steps
  exact hR _ _ _ ((I.out F3 N3).upd C [] [] (by repeat' first | exact List.forall_mem_nil _ | refine List.forall_mem_cons.mpr ⟨?_, ?_⟩ | exact .inl (by k_mem) | exact .inr (by k_mem)) (List.forall_mem_nil _))


/-- a sign that no lexer minds -/
structure Plain (y : Str) : Prop where
  nl : (y == Str.ofString "\n") = false
  ne : ((Str.ofString "") == y) = false
  qu : (y == Str.ofString "\"") = false
  bs : (y == Str.ofString "\\") = false
  ws : (!(Builtin.Str.occurrences (Str.ofString "\n\t\r ") y 0 (Str.ofString "\n\t\r ").length 1).isEmpty) = false
  len : y.length = 1
theorem not_in {w : World} {A : Around} {E : Value → Shared → Prop} {s : Shared} {y : Str} {u t : Tok} {Q : Value → Shared → Prop}
    (hy : (!(Builtin.Str.occurrences (Str.ofString "\n\t\r ") y 0 (Str.ofString "\n\t\r ").length 1).isEmpty) = false) (h : Q (.bool false) s) : wpAny (model PP w) A (compareOp .In (.str y u) (.str "\n\t\r " t)) Q E s := by
  refine PyProof.Rows.in_str ?_
  rw [hy]; exact h
theorem nl_in {w : World} {A : Around} {E : Value → Shared → Prop} {s : Shared} {u t : Tok} {Q : Value → Shared → Prop}
    (h : Q (.bool true) s) : wpAny (model PP w) A (compareOp .In (.str "\n" u) (.str "\n\t\r " t)) Q E s := by
  refine PyProof.Rows.in_str ?_
  have e : (!(Builtin.Str.occurrences (Str.ofString "\n\t\r ") (Str.ofString "\n") 0 (Str.ofString "\n\t\r ").length 1).isEmpty) = true := by decide +kernel
  rw [e]; exact h
local macro_rules | `(tactic| walk_at "compareOp In str str") => `(tactic| (k_here; (with_reducible show wpAny _ _ (compareOp CmpOp.In (Value.str (Str.ofString "\n") _) _) _ _ _); k_dflt (refine' nl_in ?_)))
local macro_rules | `(tactic| walk_at "compareOp In str str") => `(tactic| (k_here; k_dflt (refine' not_in ?h ?_; (case h => assumption))))


theorem Fr.of_eq {h₀ h : Heap} {L : Addr} {m m' : Str → Option Value} (F : Fr h₀ L h m) (e : ∀ z, m z = m' z) : Fr h₀ L h m' := (funext e : m = m') ▸ F
theorem norm2 {h₀ h : Heap} {L : Addr} {m : Str → Option Value} {A B : Str} {a b a' b' : Option Value} (F : Fr h₀ L h (fun z => if z = A then a else if z = B then b else if z = A then a' else if z = B then b' else m z)) :
    Fr h₀ L h (fun z => if z = A then a else if z = B then b else m z) := Fr.of_eq F (by
  intro z
  by_cases z1 : z = A
  · simp only [if_pos z1]
  · simp only [if_neg z1]
    by_cases z2 : z = B
    · simp only [if_pos z2]
    · simp only [if_neg z2])
theorem next_over {w : World} {A : Around} {E : Value → Shared → Prop} {s : Shared} {h₀ : Heap} {L : Addr} {m : Str → Option Value} {Q : Option Value → Shared → Prop} {news : List (Addr × Obj)} {it : Addr} (h0 : A.handled = none) (F : Fr h₀ L s.heap m) (N : News h₀ L s.heap ((it, ciDone) :: news))
    (hne : ∀ p ∈ news, p.1 ≠ it) (hQ : ∀ h', Fr h₀ L h' m → News h₀ L h' news → Q none { s with heap := h' }) : wpAny (model PP w) A (pyNext (.ref it)) Q E s := by
  have z := N _ (.head _)
  refine ci_over h0 z.1 fun h' hx => hQ h' ⟨F.ns.extBut hx z.2.1.symm, fun b ob e => hx b ob (fun e2 => ?_) (F.keep b ob e), F.above⟩ fun p hp => ?_
  · rw [e2, z.2.2] at e; cases e
  · have z2 := N p (.tail _ hp)
    exact ⟨hx _ _ (hne p hp) z2.1, z2.2⟩
abbrev chars (ws : List (Str × Tok)) : List Value := ws.map fun p => Value.str p.1 p.2
/-- a loop that takes plain signs and glues them to its text -/
theorem word_loop {w : World} {A : Around} {s : Shared} {g : Heap} {L it : Addr} {target : Expr} {body : List Stmt} {env : Env} {R : Result → Shared → Prop} {tail : List Value}
    (M : Str → Tok → Option Value → (Str → Option Value)) (led : List Value → Nat → List (Addr × Obj)) (ht : ∀ v, letOwnedTupleGo target (.ref it) v = pure ())
    (turn : ∀ y t tok tt u h tk ys c (Rn : Flow → Shared → Prop) (E : Value → Shared → Prop), Plain y → tok.length ≤ 1000 → Fr g L h (M tok tt u) → News g L h (led ys c) →
      (∀ h' tk' tt', Fr g L h' (M (tok ++ y) tt' (some (.str y t))) → News g L h' (led ys c) → Rn .next { s with heap := h', toks := tk' }) →
      wpAny (model PP w) A (assign target env (.str y t)) (fun _ s2 => wpAny (model PP w) A (execs body env) Rn E s2) E { s with heap := h, toks := tk })
    (next : ∀ y t tok tt u ys c h tk (Q : Option Value → Shared → Prop) (E : Value → Shared → Prop), Plain y → ys.length ≤ 1000 → Fr g L h (M tok tt u) → News g L h (led (.str y t :: ys) c) →
      (∀ h' tk', Fr g L h' (M tok tt u) → News g L h' (led ys (c + 1)) → Q (some (.str y t)) { s with heap := h', toks := tk' }) → wpAny (model PP w) A (pyNext (.ref it)) Q E { s with heap := h, toks := tk }) :
    ∀ (ws : List (Str × Tok)) (tok : Str) (tt : Tok) (u : Option Value) (c : Nat) (h : Heap) (tk : Nat), (∀ p ∈ ws, Plain p.1) → tok.length + ws.length ≤ 1000 → (chars ws ++ tail).length ≤ 1000 → Fr g L h (M tok tt u) → News g L h (led (chars ws ++ tail) c) →
      (∀ tt u c h tk, Fr g L h (M (ws.foldl (fun a p => a ++ p.1) tok) tt u) → News g L h (led tail c) → codeAny (model PP w) A (.forLoop target (.ref it) body [] env) R { s with heap := h, toks := tk }) →
      codeAny (model PP w) A (.forLoop target (.ref it) body [] env) R { s with heap := h, toks := tk }
  | [], tok, tt, u, c, h, tk, _, _, _, F, N, fin => fin tt u c h tk F N
  | (y, t) :: ws, tok, tt, u, c, h, tk, hp, hl, hz, F, N, fin => by
    have hy := hp _ (.head _)
    simp only [List.length_cons] at hl
    simp only [chars, List.map_cons, List.cons_append, List.length_cons] at hz
    refine for_turn ht (next y t tok tt u (chars ws ++ tail) c h tk _ _ hy (by simp only [chars]; omega) F N fun h1 tk1 F1 N1 => ?_)
    dsimp only
    refine turn y t tok tt u h1 tk1 (chars ws ++ tail) (c + 1) _ _ hy (by omega) F1 N1 fun h2 tk2 tt2 F2 N2 => ?_
    dsimp only
    refine word_loop M led ht turn next ws (tok ++ y) tt2 _ (c + 1) h2 tk2 (fun p hm => hp p (.tail _ hm)) ?_ (by simp only [chars]; omega) F2 N2 fin
    rw [Str.length_append, hy.len]; omega

set_option maxRecDepth 100000 in
set_option maxHeartbeats 8000000 in
theorem c_get_word {w : World} {h₀ : Heap} {s : Shared} {r : Lx} {k c : Nat} {ln : Int} {lt : Tok} {y0 : Str} {t0 : Tok} {ws : List (Str × Tok)} {tail : List Value}
   {R : Result → Shared → Prop}
   (Y : Rdy w h₀) (sy : ∀ b o, h₀.get? b = some o → s.heap.get? b = some o)
   (C : Cells h₀ s.heap (r.own w [] k ln lt (.str y0 t0 :: (chars ws ++ tail)) c ++ [(r.c', r.oc)])) (Ok : r.Ok w)
   (hz9 : (chars ws ++ tail).length ≤ 900)
   (h0 : Plain y0) (hws : ∀ p ∈ ws, Plain p.1) (hln : 0 ≤ ln ∧ ln ≤ 1000)
   (htail : (tail = [] ∧ ∀ h' tk c' u, Out h₀ s.heap h' [r.lf] [(r.lf, listOf [].toArray c')] → R (.ok (.ret (.str (ws.foldl (fun a p => a ++ p.1) (Str.ofString "" ++ y0)) u))) { s with heap := h', toks := tk }) ∨
     (∃ t rest, tail = .str "\n" t :: rest ∧ ∀ h' tk c' lt' u, Out h₀ s.heap h' [r.lf, r.dx] [(r.lf, listOf rest.toArray c'), (r.dx, dictOf (lexDict w r.t1 r.t2 r.t3 r.t4 (ln + 1) lt' (.ref r.sx) r.wt r.pb) 4)] →
       R (.ok (.ret (.str (ws.foldl (fun a p => a ++ p.1) (Str.ofString "" ++ y0)) u))) { s with heap := h', toks := tk }))
   : codeAny (model PP w) (AAt 800) (.call (.ref 49) ⟨[.ref r.x], []⟩) R s := by
  obtain ⟨h01, h02, h03, h04, h05, h06⟩ := h0
  have hz : (chars ws ++ tail).length ≤ 1000 := by omega
  obtain ⟨x, dx, pb, f, sx, sdx, lf, cl, c', spb, t1, t2, t3, t4, wt, u1, u2, u3, u4, u5, ul, uw, of, oc, co⟩ := r
  obtain ⟨S, hnd, hcode, ⟨o1, o2, o3, o4, rfl⟩⟩ := id Ok
  have hap : Apart x dx pb f sx sdx lf cl c' := hnd
  refine enterP (binds := [("self", .ref x)]) Y sy C (by k_is) (by k_is) (by k_room) (BindsTo.of_eq rfl) (locs rfl) ?_ (by decide) rfl rfl rfl
  intro g L h₁ I F N hlt hLs
  clear hlt
  obtain ⟨X, ⟨p, loose, mean, mg, mb, T⟩, CH⟩ := id I.Y
  have YY := I.Y
  simp only [Lx.own, List.cons_append, List.nil_append] at N
  unfold Apart at hnd
  dsimp only at hnd
  show wpAny _ _ _ _ _ _
  k_fold
  k_steps
  rename Fr _ _ _ _ => F2
  rename News _ _ _ _ => N2
  k_dflt (refine for_turn (fun _ => rfl) ?_)
  refine' next_cons rfl (by k_units) (by k_units) F2 N2 YY Ok hz h01 h02 (by k_mem) (by k_mem) (by simp only [Lx.own, List.cons_append, List.nil_append]; k_allIn) ?m1 ?m2 ?U ?_
  case U => k_upd
  case m1 => k_mem
  case m2 => k_mem
  intro h3 tk3 F3 N3
  clear F2 N2
  dsimp only
  k_steps
  rename Fr _ _ _ _ => F4
  rename News _ _ _ _ => N4
  have F5 := Fr.of_eq (m' := fun z => if z = Str.ofString "token" then some (Value.str (Str.ofString "" ++ y0) _) else if z = Str.ofString "ch" then some (Value.str y0 t0) else if z = Str.ofString "fiter" then some (Value.ref _) else List.lookup z [(Str.ofString "self", Value.ref x)].reverse) F4 (by
    intro z
    by_cases z1 : z = Str.ofString "token"
    · simp only [if_pos z1]; rfl
    · simp only [if_neg z1]; rfl)
  clear F4
  refine word_loop (tail := tail) (fun tok tt u z => if z = Str.ofString "token" then some (Value.str tok tt) else if z = Str.ofString "ch" then u else if z = Str.ofString "fiter" then some (Value.ref _) else List.lookup z [(Str.ofString "self", Value.ref x)].reverse)
    (fun ys c => (_, ciObj _ _ _) :: (_, methodObj _ _) :: (pb, listOf [].toArray k) :: (dx, dictOf (lexDict w t1 t2 t3 t4 ln lt (.ref sx) wt pb) 4) :: (lf, listOf (List.toArray ys) c) :: _) (fun _ => rfl) ?_ ?_ ws _ _ _ _ _ _ hws ?_ (by omega) F5 N4 ?_
  · clear F5 N4
    intro y t tok tt u h tk ys c Rn E ⟨p1, p2, p3, p4, p5, p6⟩ hl F N hgo
    k_steps
    rename Fr _ _ _ _ => F6
    rename News _ _ _ _ => N6
    exact hgo _ _ _ (norm2 F6) N6
  · clear F5 N4
    intro y t tok tt u ys c h tk Q E hy hl F N hgo
    refine' next_cons (s := { s with heap := h, toks := tk }) rfl (by k_units) (by k_units) F N YY Ok hl hy.nl hy.ne (by k_mem) (by k_mem) (by simp only [Lx.own, List.cons_append, List.nil_append]; k_allIn) ?m1 ?m2 ?U ?_
    case U => k_upd
    case m1 => k_mem
    case m2 => k_mem
    intro h2 tk2 F2 N2
    exact hgo _ _ F2 N2
  · rw [Str.length_append, h06]
    simp only [chars, List.length_append, List.length_map] at hz9
    have : (Str.ofString "").length = 0 := rfl
    omega
  · clear F5 N4
    intro tt u c h tk F N
    rcases htail with ⟨rfl, hR⟩ | ⟨t, rest, rfl, hR⟩
    · k_dflt (refine for_turn (fun _ => rfl) ?_)
      refine next_nil (s := { s with heap := h, toks := tk }) rfl (by k_units) (by k_units) F N YY Ok (by k_mem) (by k_mem) (by simp only [Lx.own, List.cons_append, List.nil_append]; k_allIn) (by k_upd) ?_
      intro h5 tk5 F5 N5
      clear F N
      dsimp only
      k_steps
      dsimp only
      k_dflt (refine for_turn (fun _ => rfl) ?_)
      refine next_over rfl F5 N5 (by k_all) ?_
      intro h6 F6 N6
      clear F5 N5
      dsimp only
      k_steps
      exact hR _ _ _ _ ((I.out F6 N6).upd C _ _ (by repeat' first | exact List.forall_mem_nil _ | refine List.forall_mem_cons.mpr ⟨?_, ?_⟩ | exact .inl (by k_mem) | exact .inr (by k_mem)) (List.forall_mem_cons.mpr ⟨⟨by k_memK, .inl (by k_mem)⟩, List.forall_mem_nil _⟩))
    · have hz2 : rest.length ≤ 1000 := by
        simp only [List.length_append, List.length_cons] at hz; omega
      k_dflt (refine for_turn (fun _ => rfl) ?_)
      refine' next_nl (s := { s with heap := h, toks := tk }) rfl (by k_units) (by k_units) F N YY Ok hz2 hln (by k_mem) (by k_mem) (by simp only [Lx.own, List.cons_append, List.nil_append]; k_allIn)
        [(_, ciObj _ _ _), (_, methodObj _ _), (pb, listOf [].toArray k), (x, instObj 59 dx), (f, ⟨o1, o2, .func o3, o4⟩), (sx, instObj 59 sdx), (sdx, dictOf _ 5), (cl, co), (c', oc)] ?r1 ?r2 (by k_mem) (by k_mem) ?_
      case r1 => k_allIn
      case r2 => exact List.forall_mem_cons.mpr ⟨hap.high2 (by dsimp only; omega), List.forall_mem_cons.mpr ⟨hap.high2 (by dsimp only; omega), hap.rest2 (List.forall_mem_nil _)⟩⟩
      intro h5 tk5 lt5 F5 N5
      clear F N
      dsimp only
      k_steps
      rename Fr _ _ _ _ => F6
      rename News _ _ _ _ => N6
      exact hR _ _ _ _ _ ((I.out F6 N6).upd C _ _ (by repeat' first | exact List.forall_mem_nil _ | refine List.forall_mem_cons.mpr ⟨?_, ?_⟩ | exact .inl (by k_mem) | exact .inr (by k_mem)) (List.forall_mem_cons.mpr ⟨⟨by k_memK, .inl (by k_mem)⟩, List.forall_mem_cons.mpr ⟨⟨by k_memK, .inl (by k_mem)⟩, List.forall_mem_nil _⟩⟩))
end Mine
end
section
open PySem PySem.W PyProof.Rows PySem.Calls
theorem Mine.off_UnRest {M : Model} {A : Around} {env : Env} {Q : Flow → Shared → Prop} {E : Value → Shared → Prop} {s : Shared} (h : wpAny M A (execs [] env) Q E s) : wpAny M A (execs [] env) Q E s := by
  try (walk1; fail)
  w_top off
  exact h
end
section
open PySem PySem.W PyProof.Rows PySem.Calls
namespace Mine

theorem while_turn {prog : Program} {w : World} {A : Around} {s : Shared} {test : Expr} {body orelse : List Stmt} {env : Env} {R : Result → Shared → Prop}
    (h : wpAny (model prog w) A (isTrue test env (eval test env)) (fun b s₂ =>
      if b = true then wpAny (model prog w) A (execs body env) (fun f s₃ => match f with
          | .next | .cont => codeAny (model prog w) A (.whileLoop test body orelse env) R s₃
          | .brk => R (.ok .next) s₃
          | .ret v => R (.ok (.ret v)) s₃) (notedBy (model prog w) A env fun e s' => R (.error e) s') s₂
      else wpAny (model prog w) A (execs orelse env) (fun f s₃ => R (.ok f) s₃) (notedBy (model prog w) A env fun e s' => R (.error e) s') s₂) (notedBy (model prog w) A env fun e s' => R (.error e) s') s) :
    codeAny (model prog w) A (.whileLoop test body orelse env) R s := by
  refine codeAny_of_tree ?_
  show wpAny _ A ((whileTurn test body orelse env).onRaise (fun x => do noteFrame x env; theTreesLotGoes x)) _ _ s
  refine wpAny_noted ?_
  simp only [whileTurn]
  refine wpAny_bind (wpAny_mono h (fun b s₂ h₂ => ?_) fun _ _ h' => h')
  cases b with
  | false =>
    simp only [Bool.false_eq_true, if_false] at h₂ ⊢
    exact wpAny_bind (wpAny_mono h₂ (fun f s₃ h₃ => wpAny_pure h₃) fun _ _ h' => h')
  | true =>
    simp only [if_true] at h₂ ⊢
    refine wpAny_bind (wpAny_mono h₂ (fun f s₃ h₃ => ?_) fun _ _ h' => h')
    cases f with
    | next => exact wpAny_pure ⟨rfl, h₃⟩
    | cont => exact wpAny_pure ⟨rfl, h₃⟩
    | brk => exact wpAny_pure h₃
    | ret v => exact wpAny_pure h₃

/-- a text that is not empty, and no long one -/
def Word (y : Str) : Prop := y ≠ Str.ofString "" ∧ y.length ≤ 1000
theorem not_adrs {d : Addr} : ∀ {l : List (Addr × Obj)}, AllLt d l → d ∉ adrs l
  | [], _, h => nomatch h
  | p :: r, ⟨h1, h2⟩, h => by
    rcases List.mem_cons.mp h with e | h
    · replace e : d = p.1 := e
      exact absurd h1 (by rw [← e]; exact Nat.lt_irrefl _)
    · exact not_adrs h2 h
/-- «while word: words.append(word); word = lexer.get_token()», whatever the lexer's state is -/
theorem rest_loop {w : World} {A : Around} {s : Shared} {g : Heap} {L : Addr} {test : Expr} {body : List Stmt} {env : Env} {R : Result → Shared → Prop} {σ : Type}
    (M : Value → (Str → Option Value)) (led : List Value → Nat → σ → List (Addr × Obj)) (Good : List Str → σ → Prop)
    (turn : ∀ y t done n st ws h tk (Rn Rf : Flow → Shared → Prop) (E : Value → Shared → Prop), Word y → Good ws st → done.length ≤ 1000 → Fr g L h (M (.str y t)) → News g L h (led done n st) →
      (∀ u st' h' tk', ws = [] → Good [] st' → Fr g L h' (M (.str "" u)) → News g L h' (led (done ++ [.str y t]) (n + 1) st') → Rn .next { s with heap := h', toks := tk' }) →
      (∀ y' t' ws' st' h' tk', ws = y' :: ws' → Good ws' st' → Fr g L h' (M (.str y' t')) → News g L h' (led (done ++ [.str y t]) (n + 1) st') → Rn .next { s with heap := h', toks := tk' }) →
      wpAny (model PP w) A (isTrue test env (eval test env)) (fun b s₂ => if b = true then wpAny (model PP w) A (execs body env) Rn E s₂ else wpAny (model PP w) A (execs [] env) Rf E s₂) E { s with heap := h, toks := tk })
    (stop : ∀ u done n st h tk (Rn Rf : Flow → Shared → Prop) (E : Value → Shared → Prop), Good [] st → Fr g L h (M (.str "" u)) → News g L h (led done n st) →
      (∀ h' tk', Fr g L h' (M (.str "" u)) → News g L h' (led done n st) → Rf .next { s with heap := h', toks := tk' }) →
      wpAny (model PP w) A (isTrue test env (eval test env)) (fun b s₂ => if b = true then wpAny (model PP w) A (execs body env) Rn E s₂ else wpAny (model PP w) A (execs [] env) Rf E s₂) E { s with heap := h, toks := tk }) :
    ∀ (ws : List Str) (y : Str) (t : Tok) (done : List Value) (n : Nat) (st : σ) (h : Heap) (tk : Nat), (∀ y' ∈ y :: ws, Word y') → Good ws st → done.length + ws.length ≤ 1000 → Fr g L h (M (.str y t)) → News g L h (led done n st) →
      (∀ vs u n st h tk, StrsAre vs (y :: ws) → Good [] st → Fr g L h (M (.str "" u)) → News g L h (led (done ++ vs) n st) → R (.ok .next) { s with heap := h, toks := tk }) →
      codeAny (model PP w) A (.whileLoop test body [] env) R { s with heap := h, toks := tk }
  | [], y, t, done, n, st, h, tk, hne, hg, hl, F, N, fin => by
    refine while_turn (turn y t done n st [] h tk _ _ _ (hne y (.head _)) hg (by omega) F N (fun u st' h' tk' _ hg' F' N' => ?_) (fun y' t' ws' st' h' tk' e => (nomatch e)))
    dsimp only
    refine while_turn (stop u _ _ st' h' tk' _ _ _ hg' F' N' fun h2 tk2 F2 N2 => ?_)
    exact fin [.str y t] u _ st' h2 tk2 (.cons _ _ .nil) hg' F2 N2
  | y₂ :: ws, y, t, done, n, st, h, tk, hne, hg, hl, F, N, fin => by
    simp only [List.length_cons] at hl
    refine while_turn (turn y t done n st (y₂ :: ws) h tk _ _ _ (hne y (.head _)) hg (by omega) F N (fun u st' h' tk' e => (nomatch e)) (fun y' t' ws' st' h' tk' e hg' F' N' => ?_))
    cases e
    dsimp only
    refine rest_loop M led Good turn stop ws y₂ t' _ _ st' h' tk' (fun a ha => hne a (.tail _ ha)) hg' (by simp only [List.length_append, List.length_cons, List.length_nil]; omega) F' N' fun vs u n st h tk hv hg2 F2 N2 => ?_
    rw [List.append_assoc] at N2
    exact fin (.str y t :: vs) u n st h tk (.cons _ _ hv) hg2 F2 N2

section
variable {w : World} {A : Around} {E : Value → Shared → Prop} {s : Shared} {h₀ : Heap} {L : Addr} {m : Str → Option Value} {Q : Value → Shared → Prop} {news news' : List (Addr × Obj)}
theorem norm1 {h₀ h : Heap} {L : Addr} {m : Str → Option Value} {A : Str} {a a' : Option Value} (F : Fr h₀ L h (fun z => if z = A then a else if z = A then a' else m z)) :
    Fr h₀ L h (fun z => if z = A then a else m z) := Fr.of_eq F (by
  intro z
  by_cases z1 : z = A
  · simp only [if_pos z1]
  · simp only [if_neg z1])
theorem truthy_ne {w : World} {A : Around} {E : Value → Shared → Prop} {s : Shared} {y : Str} {t : Tok} {Q : Bool → Shared → Prop} (hy : Word y) (h : ∀ tk, Q true { s with toks := tk }) : wpAny (model PP w) A (truthy (.str y t)) Q E s := by
  obtain ⟨hy, hl⟩ := hy
  refine PySem.P.truthy_str (by omega) ?_
  have e : ((y.length : Int) != 0) = true := by
    rw [bne_iff_ne]
    intro e
    refine hy ?_
    have e' : y.length = 0 := by omega
    obtain ⟨c⟩ := y
    have : c = #[] := Array.eq_empty_of_size_eq_zero e'
    rw [this]; rfl
  rw [e]
  exact h _
theorem s_get_pop {x dx pb : Addr} {t1 t2 t3 t4 lt wt : Tok} {ln : Int} {st : Value} {n k : Nat} {vs : List Value} {v : Value}
    (h0 : A.handled = none) (h1 : A.depth ≤ 800) (h2 : A.units ≤ 4 * 800) (F : Fr h₀ L s.heap m) (N : News h₀ L s.heap news) (Y : Rdy w h₀) (hz : vs.length ≤ 1000)
    (hs : ∀ p ∈ [(pb, listOf (v :: vs).toArray k), (x, instObj 59 dx), (dx, dictOf (lexDict w t1 t2 t3 t4 ln lt st wt pb) n)], p ∈ news) (U : Upd pb (listOf (v :: vs).toArray k) (listOf vs.toArray (k + 1)) news news')
    (hne1 : @Ne Nat pb x) (hne2 : @Ne Nat pb dx)
    (hQ : ∀ h' tk, Fr h₀ L h' m → News h₀ L h' news' → Q v { s with heap := h', toks := tk }) : wpAny (model PP w) A (call (.ref 49) [.ref x] []) Q E s := by
  refine wpAny_call (siteC 800 h0 h1 h2 (c_get_pop Y (fun b o e => F.keep b o e) (Cells.of_news N hs) hne1 hne2 hz fun h' tk O => ?_))
  obtain ⟨F', N'⟩ := backU F N U O
  exact hQ h' tk F' N'
theorem s_get_nil {r : Lx} {x : Addr} {k c : Nat} {ln : Int} {lt : Tok}
    (h0 : A.handled = none) (h1 : A.depth ≤ 800) (h2 : A.units ≤ 4 * 800) (F : Fr h₀ L s.heap m) (N : News h₀ L s.heap news) (Y : Rdy w h₀) (Ok : r.Ok w) (hx : r.x = x)
    (hs : ∀ p ∈ r.own w [] k ln lt [] c ++ [(r.c', r.oc)], p ∈ news)
    (hQ : ∀ h' tk u, Fr h₀ L h' m → News h₀ L h' news → Q (.str "" u) { s with heap := h', toks := tk }) : wpAny (model PP w) A (call (.ref 49) [.ref x] []) Q E s := by
  subst hx
  refine wpAny_call (siteC 800 h0 h1 h2 (c_get_nil Y (fun b o e => F.keep b o e) (Cells.of_news N hs) Ok fun h' tk u O => ?_))
  obtain ⟨F', N'⟩ := back0 F N O
  exact hQ h' tk u F' N'
end

section
local macro_rules | `(tactic| walk_at "call ref") => `(tactic| (k_here; (with_reducible show wpAny _ _ (call (Value.ref 49) _ _) _ _ _); k_dflt (refine' s_get_nil ?k0 ?k1 ?k2 ?k3 ?k4 ?k5 ?k6 ?kx ?k7 ?_; (case k0 => exact rfl); (case k1 => k_units); (case k2 => k_units); (case k3 => k_asm); (case k4 => k_asm); (case k5 => k_asm); (case k6 => assumption); (case kx => exact rfl); (case k7 => (simp only [Lx.own, List.cons_append, List.nil_append]; k_allIn)); k_whole); (intro h' tk' u' F' N'; (try k_sweep))))
local macro_rules | `(tactic| walk_at "call ref") => `(tactic| (k_here; (with_reducible show wpAny _ _ (call (Value.ref 49) _ _) _ _ _); k_dflt (refine' s_get_pop ?k0 ?k1 ?k2 ?k3 ?k4 ?k5 ?kz ?k6 ?k7 ?k8 ?k9 ?_; (case k0 => exact rfl); (case k1 => k_units); (case k2 => k_units); (case k3 => k_asm); (case k4 => k_asm); (case k5 => k_asm); (case k6 => k_allIn); (case k7 => k_upd); (case k8 => omega); (case k9 => omega); (case kz => assumption); k_whole); (intro h' tk' F' N'; (try k_sweep))))
local macro_rules | `(tactic| walk_at "truthy str") => `(tactic| (k_here; k_dflt (refine' truthy_ne ?a ?_; (case a => assumption)); (intro tk'; try dsimp only)))
local macro_rules | `(tactic| walk_at "exec While") => `(tactic| (k_here; k_dflt (with_unfolding_all refine wpAny_While ?_)))

set_option maxRecDepth 100000 in
set_option maxHeartbeats 8000000 in
theorem c_rest_pop {w : World} {h₀ : Heap} {s : Shared} {r : Lx} {vs : List Value} {ss : List Str} {y : Str} {t : Tok} {k c : Nat} {ln : Int} {lt : Tok}
   {R : Result → Shared → Prop}
   (Y : Rdy w h₀) (sy : ∀ b o, h₀.get? b = some o → s.heap.get? b = some o)
   (C : Cells h₀ s.heap (r.own w (.str y t :: vs) k ln lt [] c ++ [(r.c', r.oc)])) (Ok : r.Ok w) (hss : StrsAre vs ss) (hne : ∀ a ∈ y :: ss, Word a) (hl : ss.length ≤ 500)
   (hR : ∀ h' tk wl vs' n k', StrsAre vs' (y :: ss) → s.heap.get? wl = none → Out h₀ s.heap h' [r.pb] [(r.pb, listOf [].toArray k'), (wl, listOf vs'.toArray n)] → R (.ok (.ret (.ref wl))) { s with heap := h', toks := tk })
   : codeAny (model PP w) (AAt 750) (.call (.ref 225) ⟨[.ref r.x], []⟩) R s := by
  obtain ⟨x, dx, pb, f, sx, sdx, lf, cl, c', spb, t1, t2, t3, t4, wt, u1, u2, u3, u4, u5, ul, uw, of, oc, co⟩ := r
  obtain ⟨S, hnd, hcode, ⟨o1, o2, o3, o4, rfl⟩⟩ := id Ok
  refine enterP (binds := [("lexer", .ref x)]) Y sy C (by k_is) (by k_is) (by k_room) (BindsTo.of_eq rfl) (locs rfl) ?_ (by decide) rfl rfl rfl
  intro g L h₁ I F N hlt hLs
  simp only [Lx.own, List.cons_append, List.nil_append] at N hlt
  k_lt hlt
  obtain ⟨X, ⟨p, loose, mean, mg, mb, T⟩, CH⟩ := id I.Y
  have YY := I.Y
  unfold Apart at hnd
  dsimp only at hnd hR
  have hz : vs.length ≤ 1000 := by have := hss.len_eq; omega
  show wpAny _ _ _ _ _ _
  k_fold
  k_steps
  rename Fr _ _ _ _ => F2
  rename News _ _ _ _ => N2
  refine rest_loop (σ := List Value × Nat) (fun v z => if z = Str.ofString "word" then some v else if z = Str.ofString "words" then some (Value.ref _) else List.lookup z [(Str.ofString "lexer", Value.ref x)].reverse)
    (fun done n st => (_, listOf (List.toArray done) n) :: (pb, listOf (List.toArray st.1) st.2) :: _) (fun ws st => StrsAre st.1 ws ∧ ws.length ≤ 500) ?_ ?_ ss y t _ _ (_, _) _ _ hne ⟨hss, hl⟩ (by simp only [List.length_nil]; omega) F2 N2 ?_
  · clear F2 N2
    intro y t done n st ws h tk Rn Rf E hy ⟨hst, hl⟩ hd F N h1 h2
    obtain ⟨vs, k⟩ := st
    dsimp only at hst N h1 h2
    cases hst with
    | nil =>
      k_steps
      rename Fr _ _ _ _ => F3
      rename News _ _ _ _ => N3
      simp only [List.push_toArray] at N3
      exact h1 _ ([], k) _ _ rfl ⟨.nil, Nat.zero_le _⟩ (norm1 F3) N3
    | @cons y' t' vs' ws' hst =>
      have hz : vs'.length ≤ 1000 := by have := hst.len_eq; simp only [List.length_cons] at hl; omega
      k_steps
      rename Fr _ _ _ _ => F3
      rename News _ _ _ _ => N3
      simp only [List.push_toArray] at N3
      exact h2 y' t' ws' (vs', k + 1) _ _ rfl ⟨hst, by simp only [List.length_cons] at hl; omega⟩ (norm1 F3) N3
  · clear F2 N2
    intro u done n st h tk Rn Rf E _ F N h1
    k_steps
    exact h1 _ _ F N
  · clear F2 N2
    intro vs u n st h tk hv ⟨hst, _⟩ F N
    dsimp only
    obtain ⟨vs0, k0⟩ := st
    cases hst
    k_steps
    have ho := (I.out F N).upd C [pb] [(pb, listOf [].toArray k0), (_, listOf (List.toArray vs) n)] (by repeat' first | exact List.forall_mem_nil _ | refine List.forall_mem_cons.mpr ⟨?_, ?_⟩ | exact .inl (by k_mem) | exact .inr (by k_mem)) (List.forall_mem_cons.mpr ⟨⟨by k_memK, .inl (by k_mem)⟩, List.forall_mem_cons.mpr ⟨⟨by k_memK, .inr (not_adrs (by simp only [Lx.own, AllLt, List.cons_append, List.nil_append, and_true]; omega))⟩, List.forall_mem_nil _⟩⟩)
    refine hR _ _ _ _ _ _ hv ?_ ho
    refine (ho.fresh _ (.tail _ (.head _))).resolve_left (fun hm => ?_)
    have e := List.mem_singleton.mp hm
    replace e : @Eq Nat _ _ := e
    dsimp only at e
    omega
end
end Mine
end
section
open PySem PySem.W PyProof.Rows PySem.Calls
theorem Mine.off_UnRest2 {M : Model} {A : Around} {env : Env} {Q : Flow → Shared → Prop} {E : Value → Shared → Prop} {s : Shared} (h : wpAny M A (execs [] env) Q E s) : wpAny M A (execs [] env) Q E s := by
  try (walk1; fail)
  w_top off
  exact h
end
section
open PySem PySem.W PyProof.Rows PySem.Calls
namespace Mine

/-- the word that plain signs make -/
def wordOf (y0 : Str) (ws : List (Str × Tok)) : Str := ws.foldl (fun a p => a ++ p.1) (Str.ofString "" ++ y0)
/-- the signs of a text of words, a newline between them -/
inductive Text : List Str → List Value → Prop
  | one (y0 : Str) (t0 : Tok) (ws : List (Str × Tok)) : Plain y0 → (∀ p ∈ ws, Plain p.1) → Text [wordOf y0 ws] (.str y0 t0 :: (chars ws ++ []))
  | more (y0 : Str) (t0 : Tok) (ws : List (Str × Tok)) (t : Tok) (a : Str) (rest : List Str) (ys : List Value) : Plain y0 → (∀ p ∈ ws, Plain p.1) → Text (a :: rest) ys → Text (wordOf y0 ws :: a :: rest) (.str y0 t0 :: (chars ws ++ .str "\n" t :: ys))

theorem News.of_sub {h₀ h : Heap} {L : Addr} {l l' : List (Addr × Obj)} (N : News h₀ L h l) (hs : ∀ p ∈ l', p ∈ l) : News h₀ L h l' := fun p hp => N p (hs p hp)

section
variable {w : World} {A : Around} {E : Value → Shared → Prop} {s : Shared} {h₀ : Heap} {L : Addr} {m : Str → Option Value} {Q : Value → Shared → Prop} {news news' : List (Addr × Obj)}
theorem s_get_end {r : Lx} {x : Addr} {k c : Nat} {ln : Int} {lt : Tok} {y0 : Str} {t0 : Tok} {ws : List (Str × Tok)} (rest : List (Addr × Obj))
    (h0 : A.handled = none) (h1 : A.depth ≤ 800) (h2 : A.units ≤ 4 * 800) (F : Fr h₀ L s.heap m) (N : News h₀ L s.heap news) (Y : Rdy w h₀) (Ok : r.Ok w) (hx : r.x = x) (hy : Plain y0) (hws : ∀ p ∈ ws, Plain p.1) (hz : (chars ws ++ []).length ≤ 900) (hln : 0 ≤ ln ∧ ln ≤ 1000)
    (hs : ∀ p ∈ r.own w [] k ln lt (.str y0 t0 :: (chars ws ++ [])) c ++ [(r.c', r.oc)], p ∈ news) (hr : ∀ p ∈ rest, p ∈ news) (hne : ∀ p ∈ rest, p.1 ∉ [r.lf])
    (hQ : ∀ h' tk c' u, Fr h₀ L h' m → News h₀ L h' ((r.lf, listOf [].toArray c') :: rest) → Q (.str (wordOf y0 ws) u) { s with heap := h', toks := tk }) : wpAny (model PP w) A (call (.ref 49) [.ref x] []) Q E s := by
  subst hx
  refine wpAny_call (siteC 800 h0 h1 h2 (c_get_word Y (fun b o e => F.keep b o e) (Cells.of_news N hs) Ok hz hy hws hln (.inl ⟨rfl, fun h' tk c' u O => ?_⟩)))
  obtain ⟨F', N'⟩ := back rest F N O (by
    intro a ha
    rw [List.mem_singleton.mp ha]
    exact List.mem_map.mpr ⟨_, hs (r.lf, listOf (Value.str y0 t0 :: (chars ws ++ [])).toArray c) (List.mem_of_getElem? (i := 2) rfl), rfl⟩) hr hne
  exact hQ h' tk c' u F' N'
theorem s_get_nl {r : Lx} {x : Addr} {k c : Nat} {ln : Int} {lt t : Tok} {y0 : Str} {t0 : Tok} {ws : List (Str × Tok)} {ys : List Value} (rest : List (Addr × Obj))
    (h0 : A.handled = none) (h1 : A.depth ≤ 800) (h2 : A.units ≤ 4 * 800) (F : Fr h₀ L s.heap m) (N : News h₀ L s.heap news) (Y : Rdy w h₀) (Ok : r.Ok w) (hx : r.x = x) (hy : Plain y0) (hws : ∀ p ∈ ws, Plain p.1) (hz : (chars ws ++ .str "\n" t :: ys).length ≤ 900) (hln : 0 ≤ ln ∧ ln ≤ 1000)
    (hs : ∀ p ∈ r.own w [] k ln lt (.str y0 t0 :: (chars ws ++ .str "\n" t :: ys)) c ++ [(r.c', r.oc)], p ∈ news) (hr : ∀ p ∈ rest, p ∈ news) (hne : ∀ p ∈ rest, p.1 ∉ [r.lf, r.dx])
    (hQ : ∀ h' tk c' lt' u, Fr h₀ L h' m → News h₀ L h' ((r.lf, listOf ys.toArray c') :: (r.dx, dictOf (lexDict w r.t1 r.t2 r.t3 r.t4 (ln + 1) lt' (.ref r.sx) r.wt r.pb) 4) :: rest) → Q (.str (wordOf y0 ws) u) { s with heap := h', toks := tk }) : wpAny (model PP w) A (call (.ref 49) [.ref x] []) Q E s := by
  subst hx
  refine wpAny_call (siteC 800 h0 h1 h2 (c_get_word Y (fun b o e => F.keep b o e) (Cells.of_news N hs) Ok hz hy hws hln (.inr ⟨t, ys, rfl, fun h' tk c' lt' u O => ?_⟩)))
  obtain ⟨F', N'⟩ := back rest F N O (by
    exact List.forall_mem_cons.mpr ⟨List.mem_map.mpr ⟨_, hs (r.lf, listOf (Value.str y0 t0 :: (chars ws ++ .str "\n" t :: ys)).toArray c) (List.mem_of_getElem? (i := 2) rfl), rfl⟩,
      List.forall_mem_cons.mpr ⟨List.mem_map.mpr ⟨_, hs (r.dx, dictOf (lexDict w r.t1 r.t2 r.t3 r.t4 ln lt (.ref r.sx) r.wt r.pb) 4) (List.mem_of_getElem? (i := 1) rfl), rfl⟩, List.forall_mem_nil _⟩⟩) hr hne
  exact hQ h' tk c' lt' u F' N'

def TextS : List Str → List Value → Prop
  | [], ys => ys = []
  | a :: r, ys => Text (a :: r) ys
theorem s_get_text {r : Lx} {x : Addr} {k c : Nat} {ln : Int} {lt : Tok} {a : Str} {ss : List Str} {ys : List Value} (rest : List (Addr × Obj))
    (h0 : A.handled = none) (h1 : A.depth ≤ 800) (h2 : A.units ≤ 4 * 800) (F : Fr h₀ L s.heap m) (N : News h₀ L s.heap news) (Y : Rdy w h₀) (Ok : r.Ok w) (hx : r.x = x) (ht : Text (a :: ss) ys) (hz : ys.length ≤ 900) (hln : 0 ≤ ln ∧ ln + ss.length ≤ 1000)
    (hs : ∀ p ∈ r.own w [] k ln lt ys c ++ [(r.c', r.oc)], p ∈ news) (hr : ∀ p ∈ rest, p ∈ news) (hne : ∀ p ∈ rest, p.1 ∉ [r.lf, r.dx])
    (hQ : ∀ h' tk c' (ln' : Int) lt' ys' u, TextS ss ys' → ys'.length ≤ 900 → (0 ≤ ln' ∧ ln' + (ss.length - 1 : Nat) ≤ 1000) → Fr h₀ L h' m → News h₀ L h' ((r.lf, listOf ys'.toArray c') :: (r.dx, dictOf (lexDict w r.t1 r.t2 r.t3 r.t4 ln' lt' (.ref r.sx) r.wt r.pb) 4) :: rest) → Q (.str a u) { s with heap := h', toks := tk }) :
    wpAny (model PP w) A (call (.ref 49) [.ref x] []) Q E s := by
  have hap : Apart r.x r.dx r.pb r.f r.sx r.sdx r.lf r.cl r.c' := Ok.nd
  unfold Apart at hap
  cases ht with
  | one y0 t0 ws hy hws =>
    refine s_get_end ((r.dx, dictOf (lexDict w r.t1 r.t2 r.t3 r.t4 ln lt (.ref r.sx) r.wt r.pb) 4) :: rest) h0 h1 h2 F N Y Ok hx hy hws (by simp only [List.length_cons] at hz; omega) ⟨hln.1, by omega⟩ hs ?_ ?_ fun h' tk c' u F' N' => ?_
    · intro p hp
      rcases List.mem_cons.mp hp with rfl | hp
      · exact hs _ (List.mem_of_getElem? (i := 1) rfl)
      · exact hr p hp
    · intro p hp hm
      have e := List.mem_singleton.mp hm
      rcases List.mem_cons.mp hp with rfl | hp
      · replace e : @Eq Nat r.dx r.lf := e
        omega
      · exact hne p hp (by rw [e]; exact .head _)
    · exact hQ h' tk c' ln lt [] u rfl (by simp) ⟨hln.1, by simp only [List.length_nil] at hln ⊢; omega⟩ F' N'
  | more y0 t0 ws t b rest' ys hy hws ht =>
    simp only [List.length_cons, List.length_append] at hz
    refine s_get_nl rest h0 h1 h2 F N Y Ok hx hy hws (by simp only [List.length_cons, List.length_append]; omega) ⟨hln.1, by omega⟩ hs hr hne fun h' tk c' lt' u F' N' => ?_
    refine hQ h' tk c' (ln + 1) lt' ys u ht (by omega) ⟨by omega, ?_⟩ F' N'
    simp only [List.length_cons] at hln ⊢
    omega
end

section
local macro_rules | `(tactic| walk_at "call ref") => `(tactic| (k_here; (with_reducible show wpAny _ _ (call (Value.ref 49) _ _) _ _ _); fail))
local macro_rules | `(tactic| walk_at "exec While") => `(tactic| (k_here; k_dflt (with_unfolding_all refine wpAny_While ?_)))
local macro_rules | `(tactic| walk_at "truthy str") => `(tactic| (k_here; k_dflt (refine' truthy_ne ?a ?_; (case a => assumption)); (intro tk'; try dsimp only)))

set_option maxRecDepth 100000 in
set_option maxHeartbeats 8000000 in
theorem c_rest_text {w : World} {h₀ : Heap} {s : Shared} {r : Lx} {ss : List Str} {y : Str} {ys : List Value} {k c : Nat} {ln : Int} {lt : Tok}
   {R : Result → Shared → Prop}
   (Y : Rdy w h₀) (sy : ∀ b o, h₀.get? b = some o → s.heap.get? b = some o)
   (C : Cells h₀ s.heap (r.own w [] k ln lt ys c ++ [(r.c', r.oc)])) (Ok : r.Ok w) (hys : Text (y :: ss) ys) (hyl : ys.length ≤ 900) (hne : ∀ a ∈ y :: ss, Word a) (hl : ss.length ≤ 500) (hln : ln = 1)
   (hR : ∀ h' tk wl vs' n k' ln' lt' c', StrsAre vs' (y :: ss) → s.heap.get? wl = none → Out h₀ s.heap h' [r.pb, r.dx, r.lf] [(r.pb, listOf [].toArray k'), (wl, listOf vs'.toArray n), (r.dx, dictOf (lexDict w r.t1 r.t2 r.t3 r.t4 ln' lt' (.ref r.sx) r.wt r.pb) 4), (r.lf, listOf [].toArray c')] → R (.ok (.ret (.ref wl))) { s with heap := h', toks := tk })
   : codeAny (model PP w) (AAt 750) (.call (.ref 225) ⟨[.ref r.x], []⟩) R s := by
  obtain ⟨x, dx, pb, f, sx, sdx, lf, cl, c', spb, t1, t2, t3, t4, wt, u1, u2, u3, u4, u5, ul, uw, of, oc, co⟩ := r
  obtain ⟨S, hnd, hcode, ⟨o1, o2, o3, o4, rfl⟩⟩ := id Ok
  refine enterP (binds := [("lexer", .ref x)]) Y sy C (by k_is) (by k_is) (by k_room) (BindsTo.of_eq rfl) (locs rfl) ?_ (by decide) rfl rfl rfl
  intro g L h₁ I F N hlt hLs
  simp only [Lx.own, List.cons_append, List.nil_append] at N hlt
  k_lt hlt
  obtain ⟨X, ⟨p, loose, mean, mg, mb, T⟩, CH⟩ := id I.Y
  have YY := I.Y
  have hap : Apart x dx pb f sx sdx lf cl c' := hnd
  unfold Apart at hnd
  dsimp only at hnd hR
  show wpAny _ _ _ _ _ _
  k_fold
  k_steps
  rename_i tk0 wl hp1 l1 hp2 F2 N2
  refine s_get_text (x := x) (ln := ln) [(wl, listOf [].toArray 0), (pb, listOf [].toArray k), (x, instObj 59 dx), (f, ⟨o1, o2, .func o3, o4⟩), (sx, instObj 59 sdx), (sdx, dictOf _ 5), (cl, co), (c', oc)] rfl (by k_units) (by k_units) F2 N2 YY Ok rfl hys hyl ⟨by omega, by omega⟩ (by simp only [Lx.own, List.cons_append, List.nil_append]; k_allIn) (by k_allIn) ?_ ?_
  · exact List.forall_mem_cons.mpr ⟨hap.high2 (by dsimp only; omega), hap.rest2 (List.forall_mem_nil _)⟩
  intro h3 tk3 c3 ln3 lt3 ys3 u3 ht3 hl3 hln3 F3 N3
  clear F2 N2
  dsimp only at N3 ⊢
  k_steps
  rename Fr _ _ _ _ => F4
  rename News _ _ _ _ => N4
  refine rest_loop (σ := List Value × Nat × Int × Tok) (fun v z => if z = Str.ofString "word" then some v else if z = Str.ofString "words" then some (Value.ref wl) else List.lookup z [(Str.ofString "lexer", Value.ref x)].reverse)
    (fun done n st => (lf, listOf (List.toArray st.1) st.2.1) :: (dx, dictOf (lexDict w t1 t2 t3 t4 st.2.2.1 st.2.2.2 (.ref sx) wt pb) 4) :: (wl, listOf (List.toArray done) n) :: (pb, listOf [].toArray k) :: (x, instObj 59 dx) :: (f, ⟨o1, o2, .func o3, o4⟩) :: (sx, instObj 59 sdx) :: _)
    (fun ws st => TextS ws st.1 ∧ st.1.length ≤ 900 ∧ 0 ≤ st.2.2.1 ∧ st.2.2.1 + (ws.length - 1 : Nat) ≤ 1000 ∧ ws.length ≤ 500) ?_ ?_ ss y _ _ _ (ys3, c3, ln3, lt3) _ _ hne ⟨ht3, hl3, hln3.1, hln3.2, hl⟩ (by simp only [List.length_nil]; omega) F4 N4 ?_
  · clear F4 N4
    intro y t done n st ws h tk Rn Rf E hy ⟨hst, hq1, hq2, hq3, hq4⟩ hd F N h1 h2
    obtain ⟨ys, c, ln, lt⟩ := st
    dsimp only at hst hq1 hq2 hq3 N h1 h2
    k_steps
    rename_i tk0 hp1 F3 N3
    simp only [List.push_toArray] at N3
    cases ws with
    | nil =>
      cases hst
      refine s_get_nil rfl (by k_units) (by k_units) F3 N3 YY Ok rfl (by simp only [Lx.own, List.cons_append, List.nil_append]; k_allIn) ?_
      intro h5 tk5 u5 F5 N5
      clear F3 N3
      dsimp only
      k_steps
      rename Fr _ _ _ _ => F6
      rename News _ _ _ _ => N6
      exact h1 _ ([], c, ln, lt) _ _ rfl ⟨rfl, Nat.zero_le _, hq2, hq3, Nat.zero_le _⟩ (norm1 F6) N6
    | cons a ws =>
      simp only [List.length_cons] at hq3 hq4
      refine s_get_text (x := x) (ln := ln) [(wl, listOf (done ++ [Value.str y t]).toArray (n + 1)), (pb, listOf [].toArray k), (x, instObj 59 dx), (f, ⟨o1, o2, .func o3, o4⟩), (sx, instObj 59 sdx), (sdx, dictOf _ 5), (cl, co), (c', oc)] rfl (by k_units) (by k_units) F3 N3 YY Ok rfl hst hq1 ⟨by omega, by omega⟩ (by simp only [Lx.own, List.cons_append, List.nil_append]; k_allIn) (by k_allIn) ?_ ?_
      · exact List.forall_mem_cons.mpr ⟨hap.high2 (by dsimp only; omega), hap.rest2 (List.forall_mem_nil _)⟩
      intro h5 tk5 c5 ln5 lt5 ys5 u5 ht5 hl5 hln5 F5 N5
      clear F3 N3
      dsimp only at N5 ⊢
      k_steps
      rename Fr _ _ _ _ => F6
      rename News _ _ _ _ => N6
      exact h2 a _ ws (ys5, c5, ln5, lt5) _ _ rfl ⟨ht5, hl5, hln5.1, hln5.2, by omega⟩ (norm1 F6) N6
  · clear F4 N4
    intro u done n st h tk Rn Rf E _ F N h1
    k_steps
    exact h1 _ _ F N
  · clear F4 N4
    intro vs u n st h tk hv ⟨hst, _⟩ F N
    obtain ⟨ys0, c0, ln0, lt0⟩ := st
    dsimp only at hst N ⊢
    cases hst
    k_steps
    have ho := (I.out F N).upd C [pb, dx, lf] [(pb, listOf [].toArray k), (wl, listOf (List.toArray vs) n), (dx, dictOf (lexDict w t1 t2 t3 t4 ln0 lt0 (.ref sx) wt pb) 4), (lf, listOf [].toArray c0)] (by repeat' first | exact List.forall_mem_nil _ | refine List.forall_mem_cons.mpr ⟨?_, ?_⟩ | exact .inl (by k_mem) | exact .inr (by k_mem))
      (List.forall_mem_cons.mpr ⟨⟨by k_memK, .inl (by k_mem)⟩, List.forall_mem_cons.mpr ⟨⟨by k_memK, .inr (not_adrs (by simp only [Lx.own, AllLt, List.cons_append, List.nil_append, and_true]; omega))⟩, List.forall_mem_cons.mpr ⟨⟨by k_memK, .inl (by k_mem)⟩, List.forall_mem_cons.mpr ⟨⟨by k_memK, .inl (by k_mem)⟩, List.forall_mem_nil _⟩⟩⟩⟩)
    refine hR _ _ _ _ _ _ _ _ _ hv ?_ ho
    refine (ho.fresh _ (.tail _ (.head _))).resolve_left (fun hm => ?_)
    exact hap.high3 (by dsimp only; omega) hm
end
end Mine
end
section
open PySem PySem.W PyProof.Rows PySem.Calls
namespace Mine
set_option maxRecDepth 100000
abbrev SK (w : World) := PySem.strKind PP w
/-- a list iterator that stands at place i -/
def IsIt (o : Obj) (l : Addr) (i : Nat) : Prop := o.cls = .type "list_iterator" ∧ o.data = .fields #[.ref l, .int i 0]
theorem IsIt.first {l : Addr} : IsIt { cls := .type "list_iterator", data := .fields #[.ref l, .int 0 0] } l 0 := ⟨rfl, rfl⟩
section
variable {w : World} {A : Around} {E : Value → Shared → Prop} {s : Shared} {h₀ : Heap} {L : Addr} {m : Str → Option Value} {news : List (Addr × Obj)}
theorem isList_of {l : Addr} {items : Array Value} {n : Nat} (N : News h₀ L s.heap news) (hl : (l, listOf items n) ∈ news) : s.heap.IsList l items := ⟨_, (N _ hl).1, rfl, n, rfl⟩
theorem iter_list {l : Addr} {items : Array Value} {n : Nat} {Q : Value → Shared → Prop} (F : Fr h₀ L s.heap m) (N : News h₀ L s.heap news) (hl : (l, listOf items n) ∈ news)
    (h : ∀ it h' oi, IsIt oi l 0 → Fr h₀ L h' m → News h₀ L h' ((it, oi) :: news) → (∀ p ∈ news, p.1 < it) → Q (.ref it) { s with heap := h' }) : wpAny (model PP w) A (pyIter (.ref l)) Q E s :=
  wpAny_pyIter_list (isList_of N hl) (h _ _ _ IsIt.first (F.push _) (N.push F _) fun p hp => Heap.lt_size (N p hp).1)
theorem next_item {l it : Addr} {i : Nat} {oi : Obj} {items : Array Value} {n : Nat} {x : Value} {Q : Option Value → Shared → Prop} (hoi : IsIt oi l i) (F : Fr h₀ L s.heap m) (N : News h₀ L s.heap ((it, oi) :: news)) (hne : ∀ p ∈ news, p.1 ≠ it)
    (hl : (l, listOf items n) ∈ news) (hx : items[i]? = some x)
    (h : ∀ h' oi', IsIt oi' l (i + 1) → Fr h₀ L h' m → News h₀ L h' ((it, oi') :: news) → Q (some x) { s with heap := h' }) : wpAny (model PP w) A (pyNext (.ref it)) Q E s := by
  have z := N _ (.head _)
  refine wpAny_pyNext_list_item ⟨oi, z.1, hoi.1, hoi.2⟩ (isList_of N (.tail _ hl)) hx fun h' ⟨o', ho, hc, hd⟩ hs => ?_
  refine h h' o' ⟨hc, hd⟩ (F.change hs z.2.1 z.2.2) fun p hp => ?_
  rcases List.mem_cons.mp hp with rfl | hp
  · exact ⟨ho, z.2⟩
  · have z2 := N p (.tail _ hp)
    exact ⟨(hs.2 _ (hne p hp)).trans z2.1, z2.2⟩
theorem next_end {l it : Addr} {i : Nat} {oi : Obj} {items : Array Value} {n : Nat} {Q : Option Value → Shared → Prop} (hoi : IsIt oi l i) (h0 : A.handled = none) (F : Fr h₀ L s.heap m) (N : News h₀ L s.heap ((it, oi) :: news)) (hne : ∀ p ∈ news, p.1 ≠ it)
    (hl : (l, listOf items n) ∈ news) (hx : items[i]? = none)
    (h : ∀ h', Fr h₀ L h' m → News h₀ L h' news → Q none { s with heap := h' }) : wpAny (model PP w) A (pyNext (.ref it)) Q E s := by
  have z := N _ (.head _)
  refine wpAny_pyNext_list_end h0 ⟨oi, z.1, hoi.1, hoi.2⟩ (isList_of N (.tail _ hl)) hx fun h' hx => h h' ⟨F.ns.extBut hx z.2.1.symm, fun b ob e => hx b ob (fun e2 => ?_) (F.keep b ob e), F.above⟩ fun p hp => ?_
  · rw [e2, z.2.2] at e; cases e
  · have z2 := N p (.tail _ hp)
    exact ⟨hx _ _ (hne p hp) z2.1, z2.2⟩

theorem strs_of_keys {kvs : List (Str × Value)} : ∀ {vs : List Value} {ks : List Str}, vs.length = ks.length → (∀ (j : Nat) (v : Value), vs[j]? = some v → ∃ k, ks[j]? = some k ∧ ∃ t, v = Value.str k t) → StrsAre vs ks
  | [], [], _, _ => .nil
  | v :: vs, k :: ks, hl, h => by
    obtain ⟨k', e, t, rfl⟩ := h 0 v rfl
    cases e
    refine .cons _ _ (strs_of_keys (kvs := kvs) (by simpa using hl) fun j v hj => ?_)
    have := h (j + 1) v (by simpa using hj)
    simpa using this

theorem isStr_inv {k : Str} {v : Value} (hk : (SK w).is k v = true) : ∃ t, v = Value.str k t := by
  change Value.isStrOf k v = true at hk
  unfold Value.isStrOf at hk
  split at hk
  · rename_i y t
    have : y = k := by simpa using hk
    exact ⟨t, by rw [this]⟩
  · cases hk
theorem sorted_dict {d : Addr} {o : Obj} {kvs : List (Str × Value)} {Q : Value → Shared → Prop} (h0 : A.handled = none) (F : Fr h₀ L s.heap m) (N : News h₀ L s.heap news) (hp : (d, o) ∈ news) (hd : o.IsDictOf (SK w) kvs) (lo : (d == sysModules) = false) (hn : kvs.length < 64)
    (h : ∀ D h' tk vs ss e, Fr h₀ L h' m → News h₀ L h' ((D, listOf (List.toArray vs) e) :: news) → (∀ q ∈ news, q.1 < D) → StrsAre vs ss → ss.Perm (kvs.map (·.1)) → sortedS ss = true → Q (.ref D) { s with heap := h', toks := tk }) :
    wpAny (model PP w) A (call (.builtin "sorted") [.ref d]) Q E s := by
  have hD := kda_dict N hp hd
  obtain ⟨ep, hat⟩ := hD.dictAt
  refine kdu_sorted (kdl_dict (knd := SK w) (kvs := kvs) (ep := ep) lo) h0 F N hat (by rw [sizeLine_eq]; omega) fun D h' tk vs F' N' l1 hl hv => ?_
  have hS : StrsAre vs (kvs.map (·.1)) := by
    refine strs_of_keys (kvs := kvs) (by simpa using hl) fun j v hj => ?_
    obtain ⟨k, x, e, hk⟩ := hv j v hj
    refine ⟨k, by simp [e], ?_⟩
    exact isStr_inv hk
  have z := N' _ (.head _)
  refine wpAny_call_entry PyProof.Rows.slot_list_sort ⟨_, z.1, rfl⟩ PyProof.Rows.entry_list_sort (list_sort_treeK (n := 0) (vs := vs) PyProof.Rows.strKind_oneLt z.1 hS.keysOf (fun v₁ v₂ rest e => keyKind_strs (by rw [← e]; exact hS)) (by omega) fun st' a1 a2 => ⟨.none, rfl, ?_⟩) (PyProof.Rows.args_list_sort _)
  obtain ⟨ss, b1, b2, b3⟩ := sorted_out_str hS a1 a2
  obtain ⟨c, hc⟩ := sortedHeap_at (vs := vs) (out := (arrOf st').map (·.2)) z.1
  have F4 : Fr h₀ L (sortedHeap h' D vs ((arrOf st').map (·.2))) m :=
    (((F'.change (Heap.SameBut.update h' D (Obj.mapSeq fun _ => #[])) z.2.1 z.2.2).push (seqObj "tuple" vs.toArray 0)).push (seqObj "list" #[] 0)).change (Heap.SameBut.update _ D (Obj.mapSeq fun _ => (arrOf st').map (·.2))) z.2.1 z.2.2
  refine h D _ tk _ ss c F4 (fun p hq => ?_) l1 b1 b2 b3
  rcases List.mem_cons.mp hq with rfl | hq
  · refine ⟨?_, z.2⟩
    rw [Array.toArray_toList]
    exact hc
  · have y := N' p (.tail _ hq)
    exact ⟨(sortedHeap_old (Nat.ne_of_lt (l1 p hq)) (Heap.lt_size y.1)).trans y.1, y.2⟩
end
end Mine
end
section
open PySem PySem.W PyProof.Rows PySem.Calls
open PySem.AutoSeq1 (wpAny_loadPart')
namespace Mine
set_option maxRecDepth 100000
theorem meets_enumerate_newT (l : Addr) (items : Array Value) (n : Nat) (dct : Option Addr) (sl : Array (Option Value)) :
    Meets (Builtin.«enumerate.__new__» ⟨[.type "enumerate", .ref l], []⟩) (fun _ R s => s.heap.get? l = some { cls := .type "tuple", dict := dct, data := .seq items n, slots := sl } ∧
      R (.ok (.ret (.ref (s.heap.push { cls := .type "tuple_iterator", data := .fields #[.ref l, .int 0 0] }).objs.size)))
        { s with heap := (s.heap.push { cls := .type "tuple_iterator", data := .fields #[.ref l, .int 0 0] }).push { cls := .type "enumerate", data := .fields #[.none, .bool false, .ref s.heap.objs.size, rawInt 0, .none, .none] } }) :=
  .of_wp fun prog w A R s h => by
    obtain ⟨hp, g, d, tk, os⟩ := s; obtain ⟨hl, h⟩ := h
    have hsub := sub_enumerate
    have hL : Heap.IsTuple (Shared.heap ⟨hp, g, d, tk, os⟩) l items := ⟨_, hl, rfl, n, rfl⟩
    wp_walk using wpAny_loadPart' hl
    refine wpAny_stack_any fun st => wpAny_pure ?_
    split
    · rename_i c _ _ _ _ _
      cases (c == Value.type "enumerate")
      · wp_walk using wpAny_loadPart' hl, wpAny_pyIter_tuple hL
        exact ⟨_, rfl, h⟩
      · wp_walk using wpAny_loadPart' hl, wpAny_pyIter_tuple hL
        exact ⟨_, rfl, h⟩
    · wp_walk using wpAny_loadPart' hl, wpAny_pyIter_tuple hL
      exact ⟨_, rfl, h⟩
section
variable {prog : Program} {w : World} {A : Around} {E : Value → Shared → Prop} {s : Shared}
theorem call_enumerate_tuple {l : Addr} {items : Array Value} {Q : Value → Shared → Prop} (hL : s.heap.IsTuple l items)
    (h : ∀ h', IsEnum h' (s.heap.objs.size + 1) s.heap.objs.size 0 .none → h'.IsTupleIter s.heap.objs.size l 0 → h'.objs.size = s.heap.objs.size + 2 →
      (∀ b o, s.heap.get? b = some o → h'.get? b = some o) → Q (.ref (s.heap.objs.size + 1)) { s with heap := h' }) :
    wpAny (model prog w) A (call (.type "enumerate") [.ref l]) Q E s := by
  obtain ⟨⟨c, dct, dt, sl⟩, hl, hc, n, hd⟩ := hL
  replace hc : c = .type "tuple" := hc
  replace hd : dt = .seq items n := hd
  subst hc hd
  refine callType_new F.called_enumerate (by decide) (F.typeCall_enumerate_1 _) (F.newCall_enumerate_1 _) (fun obj => F.args_object_init_2 obj _) F.entry_enumerate_new
    (meets_enumerate_newT l items n dct sl) ⟨hl, ?_⟩
  have hz : (s.heap.push { cls := .type "tuple_iterator", data := .fields #[.ref l, .int 0 0] }).objs.size = s.heap.objs.size + 1 := Heap.size_push ..
  show _ ∧ _
  rw [hz]
  have he : IsEnum ((s.heap.push { cls := .type "tuple_iterator", data := .fields #[.ref l, .int 0 0] }).push
      { cls := .type "enumerate", data := .fields #[.none, .bool false, .ref s.heap.objs.size, rawInt 0, .none, .none] }) (s.heap.objs.size + 1) s.heap.objs.size 0 .none := by
    have := Heap.get?_push_size (s.heap.push { cls := .type "tuple_iterator", data := .fields #[.ref l, .int 0 0] })
      (o := { cls := .type "enumerate", data := .fields #[.none, .bool false, .ref s.heap.objs.size, rawInt 0, .none, .none] }) rfl
    rw [hz] at this; exact this
  refine ⟨⟨_, he, rfl⟩, h _ he ⟨_, Heap.get?_push_of_some _ (Heap.get?_push_size _ rfl), rfl, rfl⟩ (by rw [Heap.size_push, hz]) fun b o x => Heap.get?_push_of_some _ (Heap.get?_push_of_some _ x)⟩

/-- one turn of a for whose iterator owns its tuple -/
theorem for_turnG {target : Expr} {it : Value} {body orelse : List Stmt} {env : Env} {R : Result → Shared → Prop}
    (h : wpAny (model prog w) A (pyNext it) (fun r s₁ => match r with
      | none => wpAny (model prog w) A (execs orelse env) (fun f s₃ => R (.ok f) s₃) (notedBy (model prog w) A env fun e s' => R (.error e) s') s₁
      | some v => wpAny (model prog w) A (letOwnedTupleGo target it v) (fun _ s₁' => wpAny (model prog w) A (assign target env v) (fun _ s₂ => wpAny (model prog w) A (execs body env) (fun f s₃ => match f with
          | .next | .cont => codeAny (model prog w) A (.forLoop target it body orelse env) R s₃
          | .brk => R (.ok .next) s₃
          | .ret v => R (.ok (.ret v)) s₃) (notedBy (model prog w) A env fun e s' => R (.error e) s') s₂) (notedBy (model prog w) A env fun e s' => R (.error e) s') s₁') (notedBy (model prog w) A env fun e s' => R (.error e) s') s₁) (notedBy (model prog w) A env fun e s' => R (.error e) s') s) :
    codeAny (model prog w) A (.forLoop target it body orelse env) R s := by
  refine codeAny_of_tree ?_
  show wpAny _ A ((forTurn target it body orelse env).onRaise (fun x => do noteFrame x env; theTreesLotGoes x)) _ _ s
  refine wpAny_noted ?_
  simp only [forTurn]
  refine wpAny_bind (wpAny_standAt (wpAny_bind (wpAny_onRaise (wpAny_mono h (fun r s₁ h₁ => ?_) fun _ _ h' => wpAny_standAt h'))))
  cases r with
  | none => exact wpAny_pure ⟨rfl, codeAny_block h₁⟩
  | some v =>
    refine wpAny_bind (wpAny_mono h₁ (fun _ s₁' h₁ => ?_) fun _ _ h' => h')
    refine wpAny_bind (wpAny_mono h₁ (fun _ s₂ h₂ => wpAny_bind (wpAny_mono h₂ (fun f s₃ h₃ => ?_) fun _ _ h' => h')) fun _ _ h' => h')
    cases f with
    | next => exact wpAny_pure ⟨rfl, h₃⟩
    | cont => exact wpAny_pure ⟨rfl, h₃⟩
    | brk => exact wpAny_pure h₃
    | ret v => exact wpAny_pure h₃

theorem nextOf_tuple_item {it t : Addr} {i : Nat} {items} {x : Value} {Q : Value → Shared → Prop} (hit : s.heap.IsTupleIter it t i)
    (hl : s.heap.IsTuple t items) (hx : items[i]? = some x)
    (hQ : ∀ h', h'.IsTupleIter it t (i + 1) → Heap.SameBut it s.heap h' → Q x { s with heap := h' }) :
    wpAny (model prog w) A (Builtin.SmallTypes.nextOf (.ref it)) Q E s := by
  obtain ⟨o, ho, hc, hd⟩ := id hit
  obtain ⟨ol, hol, _, nl, hdl⟩ := hl
  unfold Builtin.SmallTypes.nextOf
  refine wpAny_bind (wpAny_callSpecial?_slot (name := Str.ofString "__next__") hit.typeIs F.slot_tuple_iterator_next
    (wpAny_call_entry F.slot_tuple_iterator_next hit.typeIs F.entry_tuple_iterator_next ?_ (F.args_tuple_iterator_next_1 _)))
  show wpAny _ _ (field (.ref it) 0 >>= _) _ _ s
  refine wpAny_bind (wpAny_field ho hd (x := .ref t) rfl ?_)
  show wpAny _ _ (if (Value.ref t == Value.none) = true then _ else _) _ _ s
  rw [if_neg (show ¬ ((Value.ref t == Value.none) = true) from Bool.false_ne_true)]
  show wpAny _ _ (field (.ref it) 1 >>= _) _ _ s
  refine wpAny_bind (wpAny_field ho hd (x := .int i 0) rfl ?_)
  show wpAny _ _ (seqItems? (.ref t) >>= _) _ _ s
  refine wpAny_bind (wpAny_seqItems hol hdl ?_)
  simp only [Int.toNat_natCast, hx]
  refine wpAny_bind (wpAny_setField ho hd (by simp) (wpAny_pure ⟨x, rfl, wpAny_pure (hQ _ ?_ (Heap.SameBut.update ..))⟩))
  exact ⟨_, Heap.get?_update_self _ ho (Obj.isFreed_of_fields (Obj.data_mapFields hd _)), (Obj.cls_mapFields ..).trans hc, by
    rw [Obj.data_mapFields hd]; simp [rawInt]⟩

theorem nextOf_tuple_end {it t : Addr} {i : Nat} {items} {Q : Value → Shared → Prop} (hh : A.handled = none)
    (hit : s.heap.IsTupleIter it t i) (hl : s.heap.IsTuple t items) (hx : items[i]? = none)
    (hE : ∀ h' e, Heap.ExtBut it s.heap h' → (∃ o, h'.get? e = some o ∧ o.cls = .type "StopIteration") → E (.ref e) { s with heap := h' }) :
    wpAny (model prog w) A (Builtin.SmallTypes.nextOf (.ref it)) Q E s := by
  obtain ⟨o, ho, hc, hd⟩ := id hit
  obtain ⟨ol, hol, _, nl, hdl⟩ := hl
  unfold Builtin.SmallTypes.nextOf
  refine wpAny_bind (wpAny_callSpecial?_slot (name := Str.ofString "__next__") hit.typeIs F.slot_tuple_iterator_next
    (wpAny_call_entry F.slot_tuple_iterator_next hit.typeIs F.entry_tuple_iterator_next ?_ (F.args_tuple_iterator_next_1 _)))
  show wpAny _ _ (field (.ref it) 0 >>= _) _ _ s
  refine wpAny_bind (wpAny_field ho hd (x := .ref t) rfl ?_)
  show wpAny _ _ (if (Value.ref t == Value.none) = true then _ else _) _ _ s
  rw [if_neg (show ¬ ((Value.ref t == Value.none) = true) from Bool.false_ne_true)]
  show wpAny _ _ (field (.ref it) 1 >>= _) _ _ s
  refine wpAny_bind (wpAny_field ho hd (x := .int i 0) rfl ?_)
  show wpAny _ _ (seqItems? (.ref t) >>= _) _ _ s
  refine wpAny_bind (wpAny_seqItems hol hdl ?_)
  simp only [Int.toNat_natCast, hx]
  refine wpAny_bind (wpAny_rule (wpAny_bind (wpAny_setField ho hd (by simp) ?_)))
  show wpAny _ _ (newExc (.type "StopIteration") [] >>= _) _ _ _
  refine wpAny_bind ?_
  simp only [newExc, newTuple]
  refine wpAny_bind (wpAny_newObj_type ?_ (by size_fits))
  refine wpAny_bind (m := firstArgMember _ _) (wpAny_of_eq (a := Value.none) (by first | rfl | (simp only [firstArgMember]; rfl)) ?_)
  refine wpAny_newObj_type ?_ (by size_fits)
  simp only [raiseNew]
  refine wpAny_bind (wpAny_handled ?_)
  first | rw [show A.in1.handled = none from hh] | rw [hh]
  refine wpAny_bind (wpAny_pure (wpAny_throw ?_))
  exact hE _ _ (((Heap.SameBut.update ..).extBut.push _).push _) ⟨_, Heap.get?_push_size _ rfl, rfl⟩
end
end Mine
end
section
open PySem PySem.W PyProof.Rows PySem.Calls
namespace Mine
set_option maxRecDepth 100000
section
variable {prog : Program} {w : World} {A : Around} {E : Value → Shared → Prop} {s : Shared}
/-- enumerate's next, whatever it goes over -/
theorem enum_next {e it : Addr} {i : Int} {x old : Value} {Q : Value → Shared → Prop} (P : Heap → Prop) (he : IsEnum s.heap e it i old) (hne : e ≠ it)
    (hnext : ∀ (Q' : Value → Shared → Prop), (∀ h₁, P h₁ → Heap.SameBut it s.heap h₁ → Q' x { s with heap := h₁ }) → wpAny (model prog w) A (Builtin.SmallTypes.nextOf (.ref it)) Q' E s)
    (hP : ∀ h h', P h → Heap.ExtBut e h h' → P h')
    (hQ : ∀ h', IsEnumOut h' e it (i + 1) x s.heap.objs.size → P h' → h'.get? s.heap.objs.size = some { cls := .type "tuple", data := .seq #[.int i s.toks, x] } →
      (∀ b o, b ≠ e → b ≠ it → s.heap.get? b = some o → h'.get? b = some o) → Q (.ref s.heap.objs.size) { s with heap := h', toks := s.toks + 1 }) :
    wpAny (model prog w) A (Builtin.«enumerate.__next__» ⟨[.ref e], []⟩) (fun fin s' => ∃ v, fin = .done (.ret v) ∧ Q v s') E s := by
  have hel : e < s.heap.objs.size := Heap.lt_size he
  show wpAny _ _ (field (.ref e) 2 >>= _) _ _ _
  refine wpAny_bind (wpAny_field he rfl (x := .ref it) rfl ?_)
  refine wpAny_bind (hnext _ fun h₁ p₁ s₁ => ?_)
  have he₁ : IsEnum h₁ e it i old := (s₁.2 e hne).trans he
  show wpAny _ _ (field (.ref e) 3 >>= _) _ _ { s with heap := h₁ }
  refine wpAny_bind (wpAny_field he₁ rfl (x := rawInt i) rfl ?_)
  show wpAny _ _ (field (.ref e) 4 >>= _) _ _ { s with heap := h₁ }
  refine wpAny_bind (wpAny_field he₁ rfl (x := .none) rfl ?_)
  show wpAny _ _ (mkInt i >>= _) _ _ { s with heap := h₁ }
  refine wpAny_bind (wpAny_mkInt ?_)
  show wpAny _ _ (setField (.ref e) 3 (rawInt (i + 1)) >>= _) _ _ { s with heap := h₁, toks := s.toks + 1 }
  refine wpAny_bind (wpAny_setField_rec he₁ (by simp) fun h₂ he₂ s₂ => ?_)
  replace he₂ : IsEnum h₂ e it (i + 1) old := he₂
  show wpAny _ _ (setField (.ref e) 4 .none >>= _) _ _ { s with heap := h₂, toks := s.toks + 1 }
  refine wpAny_bind (wpAny_setField_rec he₂ (by simp) fun h₃ he₃ s₃ => ?_)
  replace he₃ : IsEnum h₃ e it (i + 1) old := he₃
  show wpAny _ _ (newTuple [.int i s.toks, x] >>= _) _ _ { s with heap := h₃, toks := s.toks + 1 }
  have sz : h₃.objs.size = s.heap.objs.size := by rw [s₃.1, s₂.1, s₁.1]
  refine wpAny_bind (wpAny_newTuple ?_)
  have x13 : Heap.ExtBut e h₁ h₃ := fun b o hb q => s₃.extBut b o hb (s₂.extBut b o hb q)
  obtain ⟨h₄, e₄⟩ : ∃ h₄, h₄ = h₃.push { cls := .type "tuple", data := .seq #[.int i s.toks, x] } := ⟨_, rfl⟩
  have t₄ : h₄.get? s.heap.objs.size = some { cls := .type "tuple", data := .seq #[.int i s.toks, x] } := by rw [e₄, ← sz]; exact Heap.get?_push_size _ rfl
  have x34 : ∀ b o, h₃.get? b = some o → h₄.get? b = some o := fun b o q => by rw [e₄]; exact Heap.get?_push_of_some _ q
  have he₄ : IsEnum h₄ e it (i + 1) old := x34 _ _ he₃
  show wpAny _ _ (Builtin.SmallTypes.ownedTupleIsFree (.ref e) >>= _) _ _ { s with heap := h₃.push { cls := .type "tuple", data := .seq #[.int i s.toks, x] }, toks := s.toks + 1 }
  rw [sz, ← e₄]
  refine wpAny_bind ?_
  unfold Builtin.SmallTypes.ownedTupleIsFree
  refine wpAny_bind (wpAny_field he₄ rfl (x := .none) rfl (wpAny_pure ?_))
  simp only [if_true]
  refine wpAny_bind (wpAny_rule ?_)
  refine wpAny_bind (wpAny_field he₄ rfl (x := old) rfl ?_)
  refine wpAny_bind (wpAny_setField_rec he₄ (by simp) fun h₅ he₅ s₅ => ?_)
  replace he₅ : IsEnum h₅ e it (i + 1) x := he₅
  show wpAny _ _ (Builtin.SmallTypes.ownedTupleHandOut (.ref e) (.ref s.heap.objs.size) >>= _) _ _ { s with heap := h₅, toks := s.toks + 1 }
  refine wpAny_bind ?_
  unfold Builtin.SmallTypes.ownedTupleHandOut
  refine wpAny_bind (wpAny_setField_rec he₅ (by simp) fun h₆ he₆ s₆ => ?_)
  replace he₆ : IsEnumOut h₆ e it (i + 1) x s.heap.objs.size := he₆
  refine wpAny_setField_rec he₆ (by simp) fun h₇ he₇ s₇ => ?_
  replace he₇ : IsEnumOut h₇ e it (i + 1) x s.heap.objs.size := he₇
  have x47 : Heap.ExtBut e h₄ h₇ := fun b o hb q => s₇.extBut b o hb (s₆.extBut b o hb (s₅.extBut b o hb q))
  have x17 : Heap.ExtBut e h₁ h₇ := fun b o hb q => x47 b o hb (x34 b o (x13 b o hb q))
  exact wpAny_bind (wpAny_letGo (wpAny_pure ⟨_, rfl, hQ h₇ he₇ (hP _ _ p₁ x17) (x47 _ _ (Nat.ne_of_gt hel) t₄) fun b o hb hb2 q => x17 b o hb (s₁.extBut b o hb2 q)⟩))
end

/-- the object of an enumerate that stands before i -/
abbrev enObj (it : Addr) (i : Int) (old : Value) : Obj := { cls := .type "enumerate", dict := none, data := .fields #[.none, .bool false, .ref it, rawInt i, .none, old], slots := #[] }
abbrev enOut (it : Addr) (i : Int) (item : Value) (a : Addr) : Obj := { cls := .type "enumerate", dict := none, data := .fields #[rawInt a, .bool false, .ref it, rawInt i, .none, item], slots := #[] }
abbrev pairObj (i : Int) (t : Tok) (x : Value) : Obj := { cls := .type "tuple", data := .seq #[.int i t, x] }
def IsTt (o : Obj) (l : Addr) (i : Nat) : Prop := o.cls = .type "tuple_iterator" ∧ o.data = .fields #[.ref l, .int i 0]
section
variable {w : World} {A : Around} {E : Value → Shared → Prop} {s : Shared} {h₀ : Heap} {L : Addr} {m : Str → Option Value} {news : List (Addr × Obj)}
theorem en_tuple {t : Addr} {items : Array Value} {Q : Value → Shared → Prop} (F : Fr h₀ L s.heap m) (N : News h₀ L s.heap news) (ht : s.heap.IsTuple t items)
    (h : ∀ e it h' oi, IsTt oi t 0 → Fr h₀ L h' m → News h₀ L h' ((e, enObj it 0 .none) :: (it, oi) :: news) → (∀ p ∈ news, p.1 < it) → @LT.lt Nat _ it e → Q (.ref e) { s with heap := h' }) : wpAny (model PP w) A (call (.type "enumerate") [.ref t]) Q E s := by
  refine call_enumerate_tuple ht fun h' hE ⟨oi, ho, hc, hd⟩ hz hk => ?_
  refine h _ _ h' oi ⟨hc, hd⟩ (F.keeps hk) (fun p hp => ?_) (fun p hp => Heap.lt_size (N p hp).1) (Nat.lt_succ_self _)
  have hL : L < s.heap.objs.size := F.ns.lt
  rcases List.mem_cons.mp hp with rfl | hp
  · exact ⟨hE, Nat.ne_of_gt (Nat.lt_succ_of_lt hL), Heap.get?_none_of_le (Nat.le_trans F.above (Nat.le_succ_of_le (Nat.le_of_lt hL)))⟩
  · rcases List.mem_cons.mp hp with rfl | hp
    · exact ⟨ho, Nat.ne_of_gt hL, Heap.get?_none_of_le (Nat.le_trans F.above (Nat.le_of_lt hL))⟩
    · exact ⟨hk _ _ (N p hp).1, (N p hp).2⟩
theorem en_iter {e it : Addr} {i : Int} {old : Value} {Q : Value → Shared → Prop} (N : News h₀ L s.heap news) (hm : (e, enObj it i old) ∈ news) (h : Q (.ref e) s) : wpAny (model PP w) A (pyIter (.ref e)) Q E s :=
  wpAny_pyIter_enum (N _ hm).1 h
theorem en_next_tuple {e it t : Addr} {i : Nat} {old x : Value} {oi : Obj} {items : Array Value} {Q : Option Value → Shared → Prop} (hoi : IsTt oi t i) (F : Fr h₀ L s.heap m) (N : News h₀ L s.heap ((e, enObj it i old) :: (it, oi) :: news)) (hne : @Ne Nat e it) (hn1 : ∀ p ∈ news, p.1 ≠ e) (hn2 : ∀ p ∈ news, p.1 ≠ it)
    (ht : h₀.IsTuple t items) (hx : items[i]? = some x)
    (h : ∀ T h' oi' tk tk', IsTt oi' t (i + 1) → Fr h₀ L h' m → News h₀ L h' ((T, pairObj i tk x) :: (e, enOut it ((i : Int) + 1) x T) :: (it, oi') :: news) → (∀ p ∈ news, p.1 < T) → @LT.lt Nat _ e T → @LT.lt Nat _ it T → Q (some (.ref T)) { s with heap := h', toks := tk' }) : wpAny (model PP w) A (pyNext (.ref e)) Q E s := by
  have ze := N _ (.head _)
  have zi := N _ (.tail _ (.head _))
  have hT : s.TypeIs (.ref e) "enumerate" := ⟨_, ze.1, rfl⟩
  have hne2 : e ≠ it := hne
  obtain ⟨ot, hot, hct, nt, hdt⟩ := ht
  have ht2 : s.heap.IsTuple t items := ⟨ot, F.keep _ _ hot, hct, nt, hdt⟩
  have hL : L < s.heap.objs.size := F.ns.lt
  unfold pyNext
  refine wpAny_bind (wpAny_attempt (wpAny_callSpecial?_slot (name := Str.ofString "__next__") hT PySem.F.slot_enumerate_next
    (wpAny_call_entry PySem.F.slot_enumerate_next hT PySem.F.entry_enumerate_next
      (enum_next (fun h => h.IsTupleIter it t (i + 1)) ze.1 hne2 (fun Q' hq => nextOf_tuple_item ⟨oi, zi.1, hoi.1, hoi.2⟩ ht2 hx fun h' a b => hq h' a b) (fun h h' a b => a.extBut b (Ne.symm hne2)) fun h' hO ⟨oi', ho, hc, hd⟩ hP hk => wpAny_pure ?_) (PySem.F.args_enumerate_next_1 _))))
  have nL : L ≠ e := fun q => ze.2.1 q.symm
  have nL2 : L ≠ it := fun q => zi.2.1 q.symm
  refine h _ h' oi' s.toks _ ⟨hc, hd⟩ ?_ (fun p hp => ?_) (fun p hp => Heap.lt_size (N p (.tail _ (.tail _ hp))).1) (Heap.lt_size ze.1) (Heap.lt_size zi.1)
  · obtain ⟨oL, es, ep, hoL, r⟩ := F.ns
    refine ⟨⟨oL, es, ep, hk L oL nL nL2 hoL, r⟩, fun b o q => hk b o (fun e1 => ?_) (fun e1 => ?_) (F.keep b o q), F.above⟩
    · rw [e1, ze.2.2] at q; cases q
    · rw [e1, zi.2.2] at q; cases q
  · rcases List.mem_cons.mp hp with rfl | hp
    · exact ⟨hP, Nat.ne_of_gt hL, Heap.get?_none_of_le (Nat.le_trans F.above (Nat.le_of_lt hL))⟩
    · rcases List.mem_cons.mp hp with rfl | hp
      · exact ⟨hO, ze.2⟩
      · rcases List.mem_cons.mp hp with rfl | hp
        · exact ⟨ho, zi.2⟩
        · have z := N p (.tail _ (.tail _ hp))
          exact ⟨hk _ _ (hn1 p hp) (hn2 p hp) z.1, z.2⟩
theorem en_go {e it T : Addr} {i : Int} {x : Value} {elts : List Expr} {k : Nat} {pos : Pos} {Q : Unit → Shared → Prop} (F : Fr h₀ L s.heap m) (N : News h₀ L s.heap ((e, enOut it i x T) :: news)) (hn1 : ∀ p ∈ news, p.1 ≠ e)
    (h : ∀ h', Fr h₀ L h' m → News h₀ L h' ((e, enObj it i x) :: news) → Q () { s with heap := h' }) : wpAny (model PP w) A (letOwnedTupleGo (.Tuple elts k pos) (.ref e) (.ref T)) Q E s := by
  have ze := N _ (.head _)
  refine wpAny_letOwnedTupleGo_enum ze.1 fun h' he hs => h h' (F.change hs ze.2.1 ze.2.2) fun p hp => ?_
  rcases List.mem_cons.mp hp with rfl | hp
  · exact ⟨he, ze.2⟩
  · have z := N p (.tail _ hp)
    exact ⟨(hs.2 _ (hn1 p hp)).trans z.1, z.2⟩
theorem en_end_tuple {e it t : Addr} {i : Nat} {old : Value} {oi : Obj} {items : Array Value} {Q : Option Value → Shared → Prop} (h0 : A.handled = none) (hoi : IsTt oi t i) (F : Fr h₀ L s.heap m) (N : News h₀ L s.heap ((e, enObj it i old) :: (it, oi) :: news)) (hn2 : ∀ p ∈ news, p.1 ≠ it)
    (ht : h₀.IsTuple t items) (hx : items[i]? = none) (h : ∀ h', Fr h₀ L h' m → News h₀ L h' news → Q none { s with heap := h' }) : wpAny (model PP w) A (pyNext (.ref e)) Q E s := by
  have ze := N _ (.head _)
  have zi := N _ (.tail _ (.head _))
  have hT : s.TypeIs (.ref e) "enumerate" := ⟨_, ze.1, rfl⟩
  obtain ⟨ot, hot, hct, nt, hdt⟩ := ht
  have ht2 : s.heap.IsTuple t items := ⟨ot, F.keep _ _ hot, hct, nt, hdt⟩
  unfold pyNext
  refine wpAny_bind (wpAny_attempt (wpAny_callSpecial?_slot (name := Str.ofString "__next__") hT PySem.F.slot_enumerate_next
    (wpAny_call_entry PySem.F.slot_enumerate_next hT PySem.F.entry_enumerate_next ?_ (PySem.F.args_enumerate_next_1 _))))
  show wpAny _ _ (field (.ref e) 2 >>= _) _ _ _
  refine wpAny_bind (wpAny_field ze.1 rfl (x := .ref it) rfl ?_)
  refine wpAny_bind (nextOf_tuple_end h0 ⟨oi, zi.1, hoi.1, hoi.2⟩ ht2 hx fun h' x hx he' => ?_)
  obtain ⟨o, ho, hc⟩ := he'
  refine wpAny_bind (wpAny_isInstance (T := "StopIteration") (b := true) ⟨o, ho, hc⟩ isSubtype_stop ?_)
  refine wpAny_pure (h h' ⟨F.ns.extBut hx zi.2.1.symm, fun b ob e => hx b ob (fun e2 => ?_) (F.keep b ob e), F.above⟩ fun p hp => ?_)
  · rw [e2, zi.2.2] at e; cases e
  · have z2 := N p (.tail _ (.tail _ hp))
    exact ⟨hx _ _ (hn2 p hp) z2.1, z2.2⟩

theorem en_turn {e it t : Addr} {i : Nat} {old x : Value} {oi : Obj} {items : Array Value} {elts : List Expr} {k : Nat} {pos : Pos} {body orelse : List Stmt} {env : Env} {R : Result → Shared → Prop}
    (hoi : IsTt oi t i) (F : Fr h₀ L s.heap m) (N : News h₀ L s.heap ((e, enObj it i old) :: (it, oi) :: news)) (hne : @Ne Nat e it) (hn1 : ∀ p ∈ news, p.1 ≠ e) (hn2 : ∀ p ∈ news, p.1 ≠ it)
    (ht : h₀.IsTuple t items) (hx : items[i]? = some x)
    (h : ∀ T h' oi' tk tk', IsTt oi' t (i + 1) → Fr h₀ L h' m → News h₀ L h' ((T, pairObj i tk x) :: (e, enObj it ((i + 1 : Nat) : Int) x) :: (it, oi') :: news) → (∀ p ∈ news, p.1 < T) → @LT.lt Nat _ e T → @LT.lt Nat _ it T →
      wpAny (model PP w) A (assign (.Tuple elts k pos) env (.ref T)) (fun _ s₂ => wpAny (model PP w) A (execs body env) (fun f s₃ => match f with
          | .next | .cont => codeAny (model PP w) A (.forLoop (.Tuple elts k pos) (.ref e) body orelse env) R s₃
          | .brk => R (.ok .next) s₃
          | .ret v => R (.ok (.ret v)) s₃) (notedBy (model PP w) A env fun e s' => R (.error e) s') s₂) (notedBy (model PP w) A env fun e s' => R (.error e) s') { s with heap := h', toks := tk' }) :
    codeAny (model PP w) A (.forLoop (.Tuple elts k pos) (.ref e) body orelse env) R s := by
  refine for_turnG (en_next_tuple hoi F N hne hn1 hn2 ht hx fun T h1 oi1 tk1 tk1' hoi1 F1 N1 l1 l2 l3 => ?_)
  dsimp only
  have ne1 : T ≠ e := Nat.ne_of_gt l2
  refine en_go (it := it) (i := (i : Int) + 1) (x := x) (news := (T, pairObj i tk1 x) :: (it, oi1) :: news) (s := { s with heap := h1, toks := tk1' }) F1 (News.of_sub N1 fun p hp => ?_) (fun p hp => ?_) fun h2 F2 N2 => ?_
  · simp only [List.mem_cons] at hp ⊢
    rcases hp with hp | hp | hp | hp
    · exact .inr (.inl hp)
    · exact .inl hp
    · exact .inr (.inr (.inl hp))
    · exact .inr (.inr (.inr hp))
  · rcases List.mem_cons.mp hp with rfl | hp
    · exact ne1
    · rcases List.mem_cons.mp hp with rfl | hp
      · exact Ne.symm hne
      · exact hn1 p hp
  · refine h T h2 oi1 tk1 tk1' hoi1 F2 (News.of_sub N2 fun p hp => ?_) l1 l2 l3
    simp only [List.mem_cons] at hp ⊢
    rcases hp with hp | hp | hp | hp
    · exact .inr (.inl hp)
    · exact .inl hp
    · exact .inr (.inr (.inl hp))
    · exact .inr (.inr (.inr hp))
end
end Mine
end
section
open PySem PySem.W PyProof.Rows PySem.Calls
namespace Mine
set_option maxRecDepth 100000
theorem IsTt.first {t : Addr} : IsTt { cls := .type "tuple_iterator", data := .fields #[.ref t, .int 0 0] } t 0 := ⟨rfl, rfl⟩
section
variable {w : World} {A : Around} {E : Value → Shared → Prop} {s : Shared} {h₀ : Heap} {L : Addr} {m : Str → Option Value} {news : List (Addr × Obj)}
theorem tt_iter {t : Addr} {items : Array Value} {Q : Value → Shared → Prop} (F : Fr h₀ L s.heap m) (N : News h₀ L s.heap news) (ht : s.heap.IsTuple t items)
    (h : ∀ it h' oi, IsTt oi t 0 → Fr h₀ L h' m → News h₀ L h' ((it, oi) :: news) → (∀ p ∈ news, p.1 < it) → Q (.ref it) { s with heap := h' }) : wpAny (model PP w) A (pyIter (.ref t)) Q E s :=
  wpAny_pyIter_tuple ht (h _ _ _ IsTt.first (F.push _) (N.push F _) fun p hp => Heap.lt_size (N p hp).1)
theorem tt_turn {it t : Addr} {i : Nat} {x : Value} {oi : Obj} {items : Array Value} {target : Expr} {body orelse : List Stmt} {env : Env} {R : Result → Shared → Prop}
    (hoi : IsTt oi t i) (F : Fr h₀ L s.heap m) (N : News h₀ L s.heap ((it, oi) :: news)) (hn2 : ∀ p ∈ news, p.1 ≠ it) (ht : s.heap.IsTuple t items) (hx : items[i]? = some x)
    (h : ∀ h' oi', IsTt oi' t (i + 1) → Fr h₀ L h' m → News h₀ L h' ((it, oi') :: news) →
      wpAny (model PP w) A (assign target env x) (fun _ s₂ => wpAny (model PP w) A (execs body env) (fun f s₃ => match f with
          | .next | .cont => codeAny (model PP w) A (.forLoop target (.ref it) body orelse env) R s₃
          | .brk => R (.ok .next) s₃
          | .ret v => R (.ok (.ret v)) s₃) (notedBy (model PP w) A env fun e s' => R (.error e) s') s₂) (notedBy (model PP w) A env fun e s' => R (.error e) s') { s with heap := h' }) :
    codeAny (model PP w) A (.forLoop target (.ref it) body orelse env) R s := by
  have z := N _ (.head _)
  refine for_turnG (wpAny_pyNext_tuple_item ⟨oi, z.1, hoi.1, hoi.2⟩ ht hx fun h' ⟨o', ho, hc, hd⟩ hs => ?_)
  dsimp only
  refine letGo_tupleiter (s' := { s with heap := h' }) ⟨o', ho, hc, hd⟩ ?_
  refine h h' o' ⟨hc, hd⟩ (F.change hs z.2.1 z.2.2) fun p hp => ?_
  rcases List.mem_cons.mp hp with rfl | hp
  · exact ⟨ho, z.2⟩
  · have z2 := N p (.tail _ hp)
    exact ⟨(hs.2 _ (hn2 p hp)).trans z2.1, z2.2⟩
theorem tt_end {it t : Addr} {i : Nat} {oi : Obj} {items : Array Value} {target : Expr} {body orelse : List Stmt} {env : Env} {R : Result → Shared → Prop} (h0 : A.handled = none)
    (hoi : IsTt oi t i) (F : Fr h₀ L s.heap m) (N : News h₀ L s.heap ((it, oi) :: news)) (hn2 : ∀ p ∈ news, p.1 ≠ it) (ht : s.heap.IsTuple t items) (hx : items[i]? = none)
    (h : ∀ h', Fr h₀ L h' m → News h₀ L h' news → wpAny (model PP w) A (execs orelse env) (fun f s₃ => R (.ok f) s₃) (notedBy (model PP w) A env fun e s' => R (.error e) s') { s with heap := h' }) :
    codeAny (model PP w) A (.forLoop target (.ref it) body orelse env) R s := by
  have z := N _ (.head _)
  refine for_turnG (wpAny_pyNext_tuple_end h0 ⟨oi, z.1, hoi.1, hoi.2⟩ ht hx fun h' hx => ?_)
  dsimp only
  refine h h' ⟨F.ns.extBut hx z.2.1.symm, fun b ob e => hx b ob (fun e2 => ?_) (F.keep b ob e), F.above⟩ fun p hp => ?_
  · rw [e2, z.2.2] at e; cases e
  · have z2 := N p (.tail _ hp)
    exact ⟨hx _ _ (hn2 p hp) z2.1, z2.2⟩
end
/-- a for over the places and the things of a tuple -/
theorem for_en {σ : Type} {w : World} {A : Around} {s : Shared} {g : Heap} {L it e t : Addr} {elts : List Expr} {ek : Nat} {pos : Pos} {body : List Stmt} {env : Env} {R : Result → Shared → Prop} {items : Array Value}
    (M : σ → Str → Option Value) (led : σ → List (Addr × Obj)) (Good : Nat → σ → Prop) (h0 : A.handled = none) (hit : @LT.lt Nat _ it e) (ht : g.IsTuple t items) (low : ∀ i st, Good i st → ∀ p ∈ led st, p.1 < it)
    (turn : ∀ i x st T oi h tk tk1 (Rn : Flow → Shared → Prop) (E : Value → Shared → Prop), items[i]? = some x → Good i st → Fr g L h (M st) → News g L h ((T, pairObj i tk x) :: (e, enObj it ((i + 1 : Nat) : Int) x) :: (it, oi) :: led st) →
      (∀ p ∈ led st, p.1 < it) → @LT.lt Nat _ e T →
      (∀ st' h' tk', Good (i + 1) st' → Fr g L h' (M st') → News g L h' ((e, enObj it ((i + 1 : Nat) : Int) x) :: (it, oi) :: led st') → Rn .next { s with heap := h', toks := tk' }) →
      wpAny (model PP w) A (assign (.Tuple elts ek pos) env (.ref T)) (fun _ s2 => wpAny (model PP w) A (execs body env) Rn E s2) E { s with heap := h, toks := tk1 })
    (fin : ∀ st h tk, Good items.size st → Fr g L h (M st) → News g L h (led st) → R (.ok .next) { s with heap := h, toks := tk }) :
    ∀ (k i : Nat) (st : σ) (old : Value) (oi : Obj) (h : Heap) (tk : Nat), k + i = items.size → IsTt oi t i → Good i st → Fr g L h (M st) → News g L h ((e, enObj it i old) :: (it, oi) :: led st) →
      codeAny (model PP w) A (.forLoop (.Tuple elts ek pos) (.ref e) body [] env) R { s with heap := h, toks := tk }
  | 0, i, st, old, oi, h, tk, hk, hoi, hg, F, N => by
    refine for_turnG (en_end_tuple (s := { s with heap := h, toks := tk }) h0 hoi F N (fun p hp => Nat.ne_of_lt (low i st hg p hp)) ht (by rw [Array.getElem?_eq_none]; omega) fun h' F' N' => ?_)
    dsimp only
    refine wpAny_execs_nil ?_
    exact fin st h' tk (by rw [← hk, Nat.zero_add]; exact hg) F' N'
  | k + 1, i, st, old, oi, h, tk, hk, hoi, hg, F, N => by
    have hi : i < items.size := by omega
    refine en_turn (s := { s with heap := h, toks := tk }) (x := items[i]) hoi F N (Nat.ne_of_gt hit) (fun p hp => Nat.ne_of_lt (Nat.lt_trans (low i st hg p hp) hit)) (fun p hp => Nat.ne_of_lt (low i st hg p hp)) ht (Array.getElem?_eq_getElem hi) fun T h' oi' tk1 tk2 hoi' F' N' l1 l2 l3 => ?_
    dsimp only
    refine turn i items[i] st T oi' h' tk1 tk2 _ _ (Array.getElem?_eq_getElem hi) hg F' N' (low i st hg) l2 fun st2 h2 tk3 hg2 F2 N2 => ?_
    dsimp only
    exact for_en M led Good h0 hit ht low turn fin k (i + 1) st2 _ oi' h2 tk3 (by omega) hoi' hg2 F2 N2
/-- a for over a tuple, with break and else -/
theorem for_tt {σ : Type} {w : World} {A : Around} {s : Shared} {g : Heap} {L it t : Addr} {target : Expr} {body orelse : List Stmt} {env : Env} {R : Result → Shared → Prop} {items : Array Value}
    (M : σ → Str → Option Value) (led : σ → List (Addr × Obj)) (Good : Nat → σ → Prop) (Brk : σ → Prop) (h0 : A.handled = none) (ht : g.IsTuple t items) (ne : ∀ i st, Good i st → ∀ p ∈ led st, p.1 ≠ it)
    (turn : ∀ i x st oi h tk (Rn : Flow → Shared → Prop) (E : Value → Shared → Prop), items[i]? = some x → Good i st → Fr g L h (M st) → News g L h ((it, oi) :: led st) →
      (∀ st' h' tk', Good (i + 1) st' → Fr g L h' (M st') → News g L h' ((it, oi) :: led st') → Rn .next { s with heap := h', toks := tk' }) →
      (∀ st' h' tk', Brk st' → Fr g L h' (M st') → News g L h' ((it, oi) :: led st') → Rn .brk { s with heap := h', toks := tk' }) →
      wpAny (model PP w) A (assign target env x) (fun _ s2 => wpAny (model PP w) A (execs body env) Rn E s2) E { s with heap := h, toks := tk })
    (brk : ∀ st oi h tk, Brk st → Fr g L h (M st) → News g L h ((it, oi) :: led st) → R (.ok .next) { s with heap := h, toks := tk })
    (fin : ∀ st h tk (E : Value → Shared → Prop), Good items.size st → Fr g L h (M st) → News g L h (led st) → wpAny (model PP w) A (execs orelse env) (fun f s₃ => R (.ok f) s₃) E { s with heap := h, toks := tk }) :
    ∀ (k i : Nat) (st : σ) (oi : Obj) (h : Heap) (tk : Nat), k + i = items.size → IsTt oi t i → Good i st → Fr g L h (M st) → News g L h ((it, oi) :: led st) →
      codeAny (model PP w) A (.forLoop target (.ref it) body orelse env) R { s with heap := h, toks := tk }
  | 0, i, st, oi, h, tk, hk, hoi, hg, F, N => by
    obtain ⟨ot, hot, hct, nt, hdt⟩ := id ht
    refine tt_end (s := { s with heap := h, toks := tk }) h0 hoi F N (ne i st hg) ⟨ot, F.keep _ _ hot, hct, nt, hdt⟩ (by rw [Array.getElem?_eq_none]; omega) fun h' F' N' => ?_
    exact fin st h' tk _ (by rw [← hk, Nat.zero_add]; exact hg) F' N'
  | k + 1, i, st, oi, h, tk, hk, hoi, hg, F, N => by
    have hi : i < items.size := by omega
    obtain ⟨ot, hot, hct, nt, hdt⟩ := id ht
    refine tt_turn (s := { s with heap := h, toks := tk }) (x := items[i]) hoi F N (ne i st hg) ⟨ot, F.keep _ _ hot, hct, nt, hdt⟩ (Array.getElem?_eq_getElem hi) fun h' oi' hoi' F' N' => ?_
    refine turn i items[i] st oi' h' tk _ _ (Array.getElem?_eq_getElem hi) hg F' N' (fun st2 h2 tk3 hg2 F2 N2 => ?_) (fun st2 h2 tk3 hg2 F2 N2 => ?_)
    · dsimp only
      exact for_tt M led Good Brk h0 ht ne turn brk fin k (i + 1) st2 oi' h2 tk3 (by omega) hoi' hg2 F2 N2
    · exact brk st2 oi' h2 tk3 hg2 F2 N2
end Mine
end
section
open PySem PySem.W PyProof.Rows PySem.Calls
theorem Mine.off_UnIfmt {M : Model} {A : Around} {env : Env} {Q : Flow → Shared → Prop} {E : Value → Shared → Prop} {s : Shared} (h : wpAny M A (execs [] env) Q E s) : wpAny M A (execs [] env) Q E s := by
  try (walk1; fail)
  w_top off
  exact h
end
section
open PySem PySem.W PyProof.Rows PySem.Calls
namespace Mine
set_option maxRecDepth 100000 in
set_option maxHeartbeats 2000000 in
theorem c_ifmt {w : World} {h₀ : Heap} {s : Shared} {v : Int} {t : Tok}
   {R : Result → Shared → Prop}
   (Y : Rdy w h₀) (sy : ∀ b o, h₀.get? b = some o → s.heap.get? b = some o)
   (hv : 0 ≤ v ∧ v < 65536)
   (hR : ∀ h' tk u, Out h₀ s.heap h' [] [] → R (.ok (.ret (.int (Builtin.bitAnd v 61440) u))) { s with heap := h', toks := tk })
   : codeAny (model PP w) (AAt 900) (.call (.ref 171) ⟨[.int v t], []⟩) R s := by
  refine enterP (binds := [("mode", .int v t)]) (cells := []) Y sy (fun _ h => nomatch h) (by k_is) (by k_is) (by k_room) (BindsTo.of_eq rfl) (locs rfl) ?_ (by decide) rfl rfl rfl
  intro g L h₁ I F N hlt hLs
  clear hlt
  obtain ⟨X, ⟨p, loose, mean, mg, mb, T⟩, CH⟩ := id I.Y
  have YY := I.Y
  show wpAny _ _ _ _ _ _
  k_fold
  k_steps
  exact hR _ _ _ (I.out F N)
end Mine
end
section
open PySem PySem.W PyProof.Rows PySem.Calls
theorem Mine.off_UnMode {M : Model} {A : Around} {env : Env} {Q : Flow → Shared → Prop} {E : Value → Shared → Prop} {s : Shared} (h : wpAny M A (execs [] env) Q E s) : wpAny M A (execs [] env) Q E s := by
  try (walk1; fail)
  w_top off
  exact h
end
section
open PySem PySem.W PyProof.Rows PySem.Calls
namespace Mine
/-- the first entry of a table that the mode meets -/
def tabC (v : Int) (d : Str) : List (Int × Int × Str) → Str
  | [] => d
  | (m, b, c) :: r => if Builtin.bitAnd v m = b then c else tabC v d r
theorem tabC_hit {v : Int} {d : Str} {m b : Int} {c : Str} {r : List (Int × Int × Str)} (h : Builtin.bitAnd v m = b) : tabC v d ((m, b, c) :: r) = c := if_pos h
theorem tabC_miss {v : Int} {d : Str} {m b : Int} {c : Str} {r : List (Int × Int × Str)} (h : Builtin.bitAnd v m ≠ b) : tabC v d ((m, b, c) :: r) = tabC v d r := if_neg h
theorem News.tail' {h₀ h : Heap} {L : Addr} {q : Addr × Obj} {l : List (Addr × Obj)} (N : News h₀ L h (q :: l)) : News h₀ L h l := fun p hp => N p (.tail _ hp)
theorem tup_keep {h h' : Heap} {a : Addr} {items : Array Value} (x : h.IsTuple a items) (k : ∀ b o, h.get? b = some o → h'.get? b = some o) : h'.IsTuple a items :=
  let ⟨o, ho, r⟩ := x; ⟨o, k _ _ ho, r⟩
/-- an entry: its address, bit and sign -/
structure Ent where
  (a : Addr) (bit : Int) (tb : Tok) (ch : Str) (tc : Tok)
abbrev Ent.row (i : Nat) (e : Ent) : Int × Int × Str := (if i = 0 then 61440 else e.bit, e.bit, e.ch)
def tabs : List (List (Int × Int × Str)) :=
  [[(61440, 40960, "l"), (61440, 49152, "s"), (61440, 32768, "-"), (61440, 24576, "b"), (61440, 16384, "d"), (61440, 8192, "c"), (61440, 4096, "p")],
   [(256, 256, "r")], [(128, 128, "w")], [(2112, 2112, "s"), (2048, 2048, "S"), (64, 64, "x")], [(32, 32, "r")], [(16, 16, "w")], [(1032, 1032, "s"), (1024, 1024, "S"), (8, 8, "x")],
   [(4, 4, "r")], [(2, 2, "w")], [(513, 513, "t"), (512, 512, "T"), (1, 1, "x")]]
def modeChar (v : Int) (i : Nat) : Str := tabC v (if i = 0 then "?" else "-") (tabs.getD i [])
theorem tabC_len {v : Int} {d : Str} (hd : d.length = 1) : ∀ {l : List (Int × Int × Str)}, (∀ e ∈ l, e.2.2.length = 1) → (tabC v d l).length = 1
  | [], _ => hd
  | (m, b, c) :: r, h => by
    unfold tabC
    split
    · exact h _ (.head _)
    · exact tabC_len hd fun e he => h e (.tail _ he)
theorem modeChar_len (v : Int) (i : Nat) : (modeChar v i).length = 1 := by
  unfold modeChar
  refine tabC_len (by split <;> rfl) ?_
  by_cases hi : i < 10
  · exact (by decide +kernel : ∀ i < 10, ∀ e ∈ tabs.getD i [], e.2.2.length = 1) i hi
  · have hn : tabs[i]? = none := List.getElem?_eq_none (by show 10 ≤ i; omega)
    simp [List.getD, hn]
theorem strs_push' {vs : List Value} {ss : List Str} {y : Str} {t : Tok} (h : StrsAre vs ss) : StrsAre (vs ++ [.str y t]) (ss ++ [y]) := by
  induction h with
  | nil => exact .cons _ _ .nil
  | cons x u _ ih => exact .cons _ _ ih
theorem strs_snoc {v : Int} {i : Nat} {vs : List Value} {S : Str} {t : Tok} (h : StrsAre vs ((List.range i).map (modeChar v))) (e : S = modeChar v i) : StrsAre (vs ++ [.str S t]) ((List.range (i + 1)).map (modeChar v)) := by
  rw [List.range_succ, List.map_append, e]
  exact strs_push' h
theorem four (z : Str) : z = Str.ofString "char" ∨ z = Str.ofString "bit" ∨ z = Str.ofString "table" ∨ z = Str.ofString "index" ∨ (z ≠ Str.ofString "char" ∧ z ≠ Str.ofString "bit" ∧ z ≠ Str.ofString "table" ∧ z ≠ Str.ofString "index") := by
  by_cases z1 : z = Str.ofString "char"
  · exact .inl z1
  · by_cases z2 : z = Str.ofString "bit"
    · exact .inr (.inl z2)
    · by_cases z3 : z = Str.ofString "table"
      · exact .inr (.inr (.inl z3))
      · by_cases z4 : z = Str.ofString "index"
        · exact .inr (.inr (.inr (.inl z4)))
        · exact .inr (.inr (.inr (.inr ⟨z1, z2, z3, z4⟩)))
theorem s_ifmt {w : World} {A : Around} {E : Value → Shared → Prop} {s : Shared} {h₀ : Heap} {L : Addr} {m : Str → Option Value} {Q : Value → Shared → Prop} {news : List (Addr × Obj)} {v : Int} {t : Tok}
    (h0 : A.handled = none) (h1 : A.depth ≤ 900) (h2 : A.units ≤ 4 * 900) (F : Fr h₀ L s.heap m) (N : News h₀ L s.heap news) (Y : Rdy w h₀) (hv : 0 ≤ v ∧ v < 65536)
    (hQ : ∀ h' tk u, Fr h₀ L h' m → News h₀ L h' news → Q (.int (Builtin.bitAnd v 61440) u) { s with heap := h', toks := tk }) : wpAny (model PP w) A (call (.ref 171) [.int v t] []) Q E s := by
  refine wpAny_call (siteC 900 h0 h1 h2 (c_ifmt Y (fun b o e => F.keep b o e) hv fun h' tk u O => ?_))
  obtain ⟨F', N'⟩ := back0 F N O
  exact hQ h' tk u F' N'
section
local macro_rules | `(tactic| walk_at "call ref") => `(tactic| (k_here; (with_reducible show wpAny _ _ (call (Value.ref 171) _ _) _ _ _); k_dflt (refine' s_ifmt ?k0 ?k1 ?k2 ?k3 ?k4 ?k5 ?k6 ?_; (case k0 => exact rfl); (case k1 => k_units); (case k2 => k_units); (case k3 => k_asm); (case k4 => k_asm); (case k5 => k_asm); (case k6 => assumption); k_whole); (intro h' tk' u' F' N'; (try k_sweep))))
local macro_rules | `(tactic| walk_at "exec For Tuple Call cons nil") => `(tactic| (k_here; k_dflt (with_unfolding_all refine wpAny_For ?_)))
local macro_rules | `(tactic| walk_at "exec For Tuple Name cons cons") => `(tactic| (k_here; k_dflt (with_unfolding_all refine wpAny_For ?_)))
set_option maxRecDepth 100000 in
set_option maxHeartbeats 2000000 in
theorem c_mode {w : World} {h₀ : Heap} {s : Shared} {v : Int} {t : Tok}
   {R : Result → Shared → Prop}
   (Y : Rdy w h₀) (sy : ∀ b o, h₀.get? b = some o → s.heap.get? b = some o)
   (hv : 0 ≤ v ∧ v < 65536)
   (hR : ∀ h' tk u, Out h₀ s.heap h' [] [] → R (.ok (.ret (.str (Txt.join "" ((List.range 10).map (modeChar v))) u))) { s with heap := h', toks := tk })
   : codeAny (model PP w) (AAt 800) (.call (.ref 211) ⟨[.int v t], []⟩) R s := by
  refine enterP (binds := [("mode", .int v t)]) (cells := []) Y sy (fun _ h => nomatch h) (by k_is) (by k_is) (by k_room) (BindsTo.of_eq rfl) (locs rfl) ?_ (by decide) rfl rfl rfl
  intro g L h₁ I F N hlt hLs
  clear hlt
  obtain ⟨X, ⟨p, loose, mean, mg, mb, T⟩, CH⟩ := id I.Y
  have YY := I.Y
  show wpAny _ _ _ _ _ _
  k_fold
  k_steps
  rename Fr _ _ _ _ => F2
  rename News _ _ _ _ => N2
  rename_i pl _ _ h2
  have X204 : g.IsTuple 204 _ := ⟨_, X 204 _ (by k_is), rfl, _, rfl⟩
  refine en_tuple F2 N2 ⟨_, F2.keep _ _ (X 204 _ (by k_is)), rfl, _, rfl⟩ ?_
  intro e it h3 oi hoi F3 N3 l1 l2
  clear F2 N2
  k_lt l1
  try dsimp only
  refine en_iter N3 (.head _) ?_
  try dsimp only
  have F4 := Fr.of_eq (m' := fun z => if z = Str.ofString "char" then none else if z = Str.ofString "bit" then none else if z = Str.ofString "table" then none else if z = Str.ofString "index" then none else if z = Str.ofString "perm" then some (.ref pl) else List.lookup z [(Str.ofString "mode", Value.int v t)].reverse) F3 (by
    intro z
    by_cases z1 : z = Str.ofString "char"
    · subst z1; rfl
    · by_cases z2 : z = Str.ofString "bit"
      · subst z2; rfl
      · by_cases z3 : z = Str.ofString "table"
        · subst z3; rfl
        · by_cases z4 : z = Str.ofString "index"
          · subst z4; rfl
          · simp only [if_neg z1, if_neg z2, if_neg z3, if_neg z4])
  clear F3
  refine for_en (σ := (List Value × Nat) × Option Value × Option Value × Option Value × Option Value) (items := #[.ref 179, .ref 181, .ref 183, .ref 187, .ref 189, .ref 191, .ref 195, .ref 197, .ref 199, .ref 203])
    (fun st z => if z = Str.ofString "char" then st.2.1 else if z = Str.ofString "bit" then st.2.2.1 else if z = Str.ofString "table" then st.2.2.2.1 else if z = Str.ofString "index" then st.2.2.2.2 else if z = Str.ofString "perm" then some (.ref pl) else List.lookup z [(Str.ofString "mode", Value.int v t)].reverse)
    (fun st => [(pl, listOf st.1.1.toArray st.1.2)]) (fun i st => StrsAre st.1.1 ((List.range i).map (modeChar v)) ∧ st.1.1.length = i) rfl l2 X204 (fun i st _ p hp => by rw [List.mem_singleton.mp hp]; exact l1) ?_ ?_ 10 0 (([], 0), none, none, none, none) .none oi h3 _ rfl hoi ⟨.nil, rfl⟩ F4 N3
  · clear F4 N3 hoi oi
    rintro i x ⟨⟨perm, n⟩, co, bo, tb, ix⟩ T2 oi h tkx tk1 Rn E hx ⟨hg, hgl⟩ F N low l3 hgo
    dsimp only at hg hgl F N hgo low
    have hi : i < 10 := by
      have := (Array.getElem?_eq_some_iff.mp hx).1
      simpa using this
    have low2 := ltN (low _ (.head _))
    have hz : perm.length ≤ 20 := by omega
    have fin : ∀ (S : Str) (u : Tok) (c b : Option Value) (h' : Heap) (tk' : Nat), S = modeChar v i →
        Fr g L h' (fun z => if z = Str.ofString "char" then c else if z = Str.ofString "bit" then b else if z = Str.ofString "table" then some x else if z = Str.ofString "index" then some (.int i tkx) else if z = Str.ofString "perm" then some (.ref pl) else List.lookup z [(Str.ofString "mode", Value.int v t)].reverse) →
        News g L h' [(T2, pairObj i tkx x), (e, enObj it ((i + 1 : Nat) : Int) x), (it, oi), (pl, listOf (perm.toArray.push (.str S u)) (n + 1))] → Rn .next { s with heap := h', toks := tk' } := by
      intro S u c b h' tk' hS F N
      refine hgo ((perm ++ [.str S u], n + 1), c, b, some x, some (.int i tkx)) h' tk' ⟨strs_snoc hg hS, by simp [hgl]⟩ F ?_
      rw [List.push_toArray] at N; exact News.tail' N
    clear hgo
    obtain ⟨ta, es, rfl, hta, hes, hrows⟩ : ∃ (ta : Addr) (es : List Ent), x = .ref ta ∧ g.IsTuple ta (es.map fun q => Value.ref q.a).toArray ∧ (∀ q ∈ es, g.IsTuple q.a #[.int q.bit q.tb, .str q.ch q.tc]) ∧ modeChar v i = tabC v (if i = 0 then "?" else "-") (es.map (Ent.row i)) := by
      clear fin F N low low2 l3 hg hgl
      rcases (by omega : i = 0 ∨ i = 1 ∨ i = 2 ∨ i = 3 ∨ i = 4 ∨ i = 5 ∨ i = 6 ∨ i = 7 ∨ i = 8 ∨ i = 9) with rfl | rfl | rfl | rfl | rfl | rfl | rfl | rfl | rfl | rfl
      · exact ⟨179, [⟨172, 40960, 415, "l", 443⟩, ⟨173, 49152, 417, "s", 444⟩, ⟨174, 32768, 411, "-", 445⟩, ⟨175, 24576, 409, "b", 446⟩, ⟨176, 16384, 405, "d", 447⟩, ⟨177, 8192, 407, "c", 448⟩, ⟨178, 4096, 413, "p", 449⟩], (Option.some.inj hx).symm, ⟨_, X 179 _ (by k_is), rfl, _, rfl⟩, List.forall_mem_cons.mpr ⟨⟨_, X 172 _ (by k_is), rfl, _, rfl⟩, List.forall_mem_cons.mpr ⟨⟨_, X 173 _ (by k_is), rfl, _, rfl⟩, List.forall_mem_cons.mpr ⟨⟨_, X 174 _ (by k_is), rfl, _, rfl⟩, List.forall_mem_cons.mpr ⟨⟨_, X 175 _ (by k_is), rfl, _, rfl⟩, List.forall_mem_cons.mpr ⟨⟨_, X 176 _ (by k_is), rfl, _, rfl⟩, List.forall_mem_cons.mpr ⟨⟨_, X 177 _ (by k_is), rfl, _, rfl⟩, List.forall_mem_cons.mpr ⟨⟨_, X 178 _ (by k_is), rfl, _, rfl⟩, List.forall_mem_nil _⟩⟩⟩⟩⟩⟩⟩, rfl⟩
      · exact ⟨181, [⟨180, 256, 425, "r", 450⟩], (Option.some.inj hx).symm, ⟨_, X 181 _ (by k_is), rfl, _, rfl⟩, List.forall_mem_cons.mpr ⟨⟨_, X 180 _ (by k_is), rfl, _, rfl⟩, List.forall_mem_nil _⟩, rfl⟩
      · exact ⟨183, [⟨182, 128, 427, "w", 451⟩], (Option.some.inj hx).symm, ⟨_, X 183 _ (by k_is), rfl, _, rfl⟩, List.forall_mem_cons.mpr ⟨⟨_, X 182 _ (by k_is), rfl, _, rfl⟩, List.forall_mem_nil _⟩, rfl⟩
      · exact ⟨187, [⟨184, 2112, 452, "s", 453⟩, ⟨185, 2048, 419, "S", 454⟩, ⟨186, 64, 429, "x", 455⟩], (Option.some.inj hx).symm, ⟨_, X 187 _ (by k_is), rfl, _, rfl⟩, List.forall_mem_cons.mpr ⟨⟨_, X 184 _ (by k_is), rfl, _, rfl⟩, List.forall_mem_cons.mpr ⟨⟨_, X 185 _ (by k_is), rfl, _, rfl⟩, List.forall_mem_cons.mpr ⟨⟨_, X 186 _ (by k_is), rfl, _, rfl⟩, List.forall_mem_nil _⟩⟩⟩, rfl⟩
      · exact ⟨189, [⟨188, 32, 431, "r", 456⟩], (Option.some.inj hx).symm, ⟨_, X 189 _ (by k_is), rfl, _, rfl⟩, List.forall_mem_cons.mpr ⟨⟨_, X 188 _ (by k_is), rfl, _, rfl⟩, List.forall_mem_nil _⟩, rfl⟩
      · exact ⟨191, [⟨190, 16, 433, "w", 457⟩], (Option.some.inj hx).symm, ⟨_, X 191 _ (by k_is), rfl, _, rfl⟩, List.forall_mem_cons.mpr ⟨⟨_, X 190 _ (by k_is), rfl, _, rfl⟩, List.forall_mem_nil _⟩, rfl⟩
      · exact ⟨195, [⟨192, 1032, 458, "s", 459⟩, ⟨193, 1024, 421, "S", 460⟩, ⟨194, 8, 435, "x", 461⟩], (Option.some.inj hx).symm, ⟨_, X 195 _ (by k_is), rfl, _, rfl⟩, List.forall_mem_cons.mpr ⟨⟨_, X 192 _ (by k_is), rfl, _, rfl⟩, List.forall_mem_cons.mpr ⟨⟨_, X 193 _ (by k_is), rfl, _, rfl⟩, List.forall_mem_cons.mpr ⟨⟨_, X 194 _ (by k_is), rfl, _, rfl⟩, List.forall_mem_nil _⟩⟩⟩, rfl⟩
      · exact ⟨197, [⟨196, 4, 437, "r", 462⟩], (Option.some.inj hx).symm, ⟨_, X 197 _ (by k_is), rfl, _, rfl⟩, List.forall_mem_cons.mpr ⟨⟨_, X 196 _ (by k_is), rfl, _, rfl⟩, List.forall_mem_nil _⟩, rfl⟩
      · exact ⟨199, [⟨198, 2, 439, "w", 463⟩], (Option.some.inj hx).symm, ⟨_, X 199 _ (by k_is), rfl, _, rfl⟩, List.forall_mem_cons.mpr ⟨⟨_, X 198 _ (by k_is), rfl, _, rfl⟩, List.forall_mem_nil _⟩, rfl⟩
      · exact ⟨203, [⟨200, 513, 464, "t", 465⟩, ⟨201, 512, 423, "T", 466⟩, ⟨202, 1, 441, "x", 467⟩], (Option.some.inj hx).symm, ⟨_, X 203 _ (by k_is), rfl, _, rfl⟩, List.forall_mem_cons.mpr ⟨⟨_, X 200 _ (by k_is), rfl, _, rfl⟩, List.forall_mem_cons.mpr ⟨⟨_, X 201 _ (by k_is), rfl, _, rfl⟩, List.forall_mem_cons.mpr ⟨⟨_, X 202 _ (by k_is), rfl, _, rfl⟩, List.forall_mem_nil _⟩⟩⟩, rfl⟩
    k_steps
    rename Fr _ _ _ _ => F1
    rename News _ _ _ _ => N1
    refine tt_iter F1 N1 (tup_keep hta F1.keep) ?_
    intro jt h1 oj hoj F2 N2 lj
    clear F1 N1
    k_lt lj
    try dsimp only
    have F3 := Fr.of_eq (m' := fun z => if z = Str.ofString "char" then co else if z = Str.ofString "bit" then bo else if z = Str.ofString "table" then some (.ref ta) else if z = Str.ofString "index" then some (.int i tkx) else if z = Str.ofString "perm" then some (.ref pl) else List.lookup z [(Str.ofString "mode", Value.int v t)].reverse) F2 (fun z => by
      rcases four z with rfl | rfl | rfl | rfl | ⟨z1, z2, z3, z4⟩ <;> first | rfl | simp only [if_neg z1, if_neg z2, if_neg z3, if_neg z4])
    clear F2
    refine for_tt (σ := Option Value × Option Value × List Value × Nat) (items := (es.map fun q => Value.ref q.a).toArray)
      (fun st z => if z = Str.ofString "char" then st.1 else if z = Str.ofString "bit" then st.2.1 else if z = Str.ofString "table" then some (.ref ta) else if z = Str.ofString "index" then some (.int i tkx) else if z = Str.ofString "perm" then some (.ref pl) else List.lookup z [(Str.ofString "mode", Value.int v t)].reverse)
      (fun st => [(T2, pairObj i tkx (.ref ta)), (e, enObj it ((i + 1 : Nat) : Int) (.ref ta)), (it, oi), (pl, listOf st.2.2.1.toArray st.2.2.2)])
      (fun j st => st.2.2 = (perm, n) ∧ modeChar v i = tabC v (if i = 0 then "?" else "-") ((es.drop j).map (Ent.row i)))
      (fun st => ∃ u, st.2.2 = (perm ++ [.str (modeChar v i) u], n + 1)) rfl hta ?_ ?_ ?_ ?_ es.length 0 (co, bo, perm, n) oj h1 _ (by simp) hoj ⟨rfl, hrows⟩ F3 N2
    · intro _ st _ p hp
      simp only [List.mem_cons, List.not_mem_nil, or_false] at hp
      rcases hp with rfl | rfl | rfl | rfl <;> (refine neN ?_; dsimp only; omega)
    · clear F3 N2 hoj oj
      rintro j x ⟨c, b, pm, n2⟩ oj h tk1 Rn E hx ⟨hst, hj⟩ F N go1 go2
      dsimp only at hst hj F N go1 go2
      cases hst
      obtain ⟨q, hq, rfl⟩ : ∃ q, es[j]? = some q ∧ Value.ref q.a = x := by simpa using hx
      have hqt : IsTup h q.a #[.int q.bit q.tb, .str q.ch q.tc] := tup_keep (hes q (List.mem_of_getElem? hq)) F.keep
      have hdr : es.drop j = q :: es.drop (j + 1) := by
        obtain ⟨hlt, he⟩ := List.getElem?_eq_some_iff.mp hq
        rw [List.drop_eq_getElem_cons hlt, he]
      rw [hdr, List.map_cons] at hj
      have hit1 : Builtin.bitAnd v (if i = 0 then 61440 else q.bit) = q.bit → modeChar v i = q.ch := fun e => hj.trans (tabC_hit e)
      have miss1 : Builtin.bitAnd v (if i = 0 then 61440 else q.bit) ≠ q.bit → modeChar v i = tabC v (if i = 0 then "?" else "-") ((es.drop (j + 1)).map (Ent.row i)) := fun e => hj.trans (tabC_miss e)
      clear hj hdr
      k_steps
      · rename Builtin.bitAnd v _ = _ => hb
        have hi0 : i = 0 := by omega
        rw [if_pos hi0] at hit1
        refine go2 (some (.str q.ch q.tc), some (.int q.bit q.tb), perm ++ [.str q.ch q.tc], n + 1) _ _ ⟨q.tc, by rw [hit1 hb]⟩ (norm2 ‹Fr _ _ _ _›) ?_
        rename News _ _ _ _ => N9
        rw [List.push_toArray] at N9
        exact N9
      · rename Builtin.bitAnd v _ ≠ _ => hb
        have hi0 : i = 0 := by omega
        rw [if_pos hi0] at miss1
        exact go1 (some (.str q.ch q.tc), some (.int q.bit q.tb), perm, n) _ _ ⟨rfl, miss1 hb⟩ (norm2 ‹Fr _ _ _ _›) ‹News _ _ _ _›
      · rename Builtin.bitAnd v _ = _ => hb
        have hi0 : ¬ i = 0 := by omega
        rw [if_neg hi0] at hit1
        refine go2 (some (.str q.ch q.tc), some (.int q.bit q.tb), perm ++ [.str q.ch q.tc], n + 1) _ _ ⟨q.tc, by rw [hit1 hb]⟩ (norm2 ‹Fr _ _ _ _›) ?_
        rename News _ _ _ _ => N9
        rw [List.push_toArray] at N9
        exact N9
      · rename Builtin.bitAnd v _ ≠ _ => hb
        have hi0 : ¬ i = 0 := by omega
        rw [if_neg hi0] at miss1
        exact go1 (some (.str q.ch q.tc), some (.int q.bit q.tb), perm, n) _ _ ⟨rfl, miss1 hb⟩ (norm2 ‹Fr _ _ _ _›) ‹News _ _ _ _›
    · clear F3 N2
      rintro ⟨c, b, pm, n2⟩ oj h tk1 ⟨u, hu⟩ F N
      dsimp only at hu F N
      cases hu
      dsimp only
      k_steps
      exact fin _ u c b _ _ rfl ‹Fr _ _ _ _› (by rename News _ _ _ _ => N9; rw [List.push_toArray]; exact News.tail' N9)
    · clear F3 N2
      rintro ⟨c, b, pm, n2⟩ h tk1 E2 ⟨hst, hj⟩ F N
      dsimp only at hst hj F N
      cases hst
      have hd : modeChar v i = if i = 0 then Str.ofString "?" else Str.ofString "-" := by
        rw [hj, show es.drop ((es.map fun q => Value.ref q.a).toArray.size) = [] from List.drop_eq_nil_of_le (by simp)]; rfl
      dsimp only
      k_steps
      · have hi0 : i = 0 := by omega
        rw [if_pos hi0] at hd
        exact fin _ _ c b _ _ hd.symm ‹Fr _ _ _ _› ‹News _ _ _ _›
      · have hi0 : ¬ i = 0 := by omega
        rw [if_neg hi0] at hd
        exact fin _ _ c b _ _ hd.symm ‹Fr _ _ _ _› ‹News _ _ _ _›
  · clear F4 N3 hoi oi
    rintro ⟨⟨perm, n⟩, co, bo, tb, ix⟩ h tk ⟨hS, hl⟩ F N
    dsimp only at hS hl F N ⊢
    k_steps
    have hw : (((List.range 10).map (modeChar v)).map (·.length)).sum + ((List.range 10).map (modeChar v)).length ≤ 1048576 := by
      simp only [List.map_map, Function.comp_def, modeChar_len, List.length_map]
      decide
    rename Fr _ _ _ _ => F9
    rename News _ _ _ _ => N9
    refine join_listW (isList_of N9 (.head _)) (by simpa using hS) (by decide) hw fun u k => ?_
    exact hR _ _ _ ((I.out F9 N9).sub (fun _ h => nomatch h))
end
end Mine
end
section
open PySem PySem.W PyProof.Rows PySem.Calls
namespace Mine
set_option maxRecDepth 100000
/-- a for over a list of tuples -/
theorem for_listT {σ : Type} {w : World} {A : Around} {s : Shared} {g : Heap} {L it l : Addr} {elts : List Expr} {ek : Nat} {pos : Pos} {body : List Stmt} {env : Env} {R : Result → Shared → Prop} {items : List Addr} {n : Nat}
    (M : σ → Str → Option Value) (led : σ → List (Addr × Obj)) (Good : Nat → σ → Prop) (h0 : A.handled = none)
    (mem : ∀ i st, Good i st → (l, listOf (items.map Value.ref).toArray n) ∈ led st) (ne : ∀ i st, Good i st → ∀ p ∈ led st, p.1 ≠ it)
    (turn : ∀ i a st oi h tk (Rn : Flow → Shared → Prop) (E : Value → Shared → Prop), items[i]? = some a → Good i st → Fr g L h (M st) → News g L h ((it, oi) :: led st) →
      (∀ st' h' tk', Good (i + 1) st' → Fr g L h' (M st') → News g L h' ((it, oi) :: led st') → Rn .next { s with heap := h', toks := tk' }) →
      wpAny (model PP w) A (assign (.Tuple elts ek pos) env (.ref a)) (fun _ s2 => wpAny (model PP w) A (execs body env) Rn E s2) E { s with heap := h, toks := tk })
    (fin : ∀ st h tk, Good items.length st → Fr g L h (M st) → News g L h (led st) → R (.ok .next) { s with heap := h, toks := tk }) :
    ∀ (k i : Nat) (st : σ) (oi : Obj) (h : Heap) (tk : Nat), k + i = items.length → IsIt oi l i → Good i st → Fr g L h (M st) → News g L h ((it, oi) :: led st) →
      codeAny (model PP w) A (.forLoop (.Tuple elts ek pos) (.ref it) body [] env) R { s with heap := h, toks := tk }
  | 0, i, st, oi, h, tk, hk, hoi, hg, F, N => by
    refine for_turnG (next_end (s := { s with heap := h, toks := tk }) hoi h0 F N (ne i st hg) (mem i st hg) (by simp; omega) fun h' F' N' => ?_)
    dsimp only
    refine wpAny_execs_nil ?_
    exact fin st h' tk (by rw [← hk, Nat.zero_add]; exact hg) F' N'
  | k + 1, i, st, oi, h, tk, hk, hoi, hg, F, N => by
    obtain ⟨a, ha⟩ : ∃ a, items[i]? = some a := ⟨_, List.getElem?_eq_getElem (by omega)⟩
    refine for_turnG (next_item (s := { s with heap := h, toks := tk }) hoi F N (ne i st hg) (mem i st hg) (x := .ref a) (by simp [ha]) fun h' oi' hoi' F' N' => ?_)
    dsimp only
    refine wpAny_letOwnedTupleGo_listiter (s := { s with heap := h', toks := tk }) ⟨oi', (N' _ (.head _)).1, hoi'.1, hoi'.2⟩ ?_
    refine turn i a st oi' h' tk _ _ ha hg F' N' fun st2 h2 tk2 hg2 F2 N2 => ?_
    dsimp only
    exact for_listT M led Good h0 mem ne turn fin k (i + 1) st2 oi' h2 tk2 (by omega) hoi' hg2 F2 N2
end Mine
end
section
open PySem PySem.W PyProof.Rows PySem.Calls
theorem Mine.off_UnRow {M : Model} {A : Around} {env : Env} {Q : Flow → Shared → Prop} {E : Value → Shared → Prop} {s : Shared} (h : wpAny M A (execs [] env) Q E s) : wpAny M A (execs [] env) Q E s := by
  try (walk1; fail)
  w_top off
  exact h
end
section
open PySem PySem.W PyProof.Rows PySem.Calls
namespace Mine
/-- the figure of three bits at a place -/
def fig (v p : Int) : Int := Builtin.bitAnd (v.fdiv (2 ^ p.toNat)) 7
def rowLast (v p : Int) (c0 c1 c2 : Str) : Str :=
  if Builtin.bitAnd (v.fdiv (2 ^ (9 + Int.fdiv p 3).toNat)) 1 ≠ 0 then (if Builtin.bitAnd (fig v p) 1 ≠ 0 then c1 else c2) else (if Builtin.bitAnd (fig v p) 1 ≠ 0 then c0 else Str.ofString "-")
def rowPiece (v p : Int) (c0 c1 c2 : Str) : Str :=
  Txt.item (Str.ofString "-r") ((fig v p).fdiv (2 ^ Int.toNat 2)) ++ Txt.item (Str.ofString "-w") (Builtin.bitAnd ((fig v p).fdiv (2 ^ Int.toNat 1)) 1) ++ rowLast v p c0 c1 c2
def row0 (k : Int) : Str := Txt.item (Str.ofString "-dl") k
def row1 (k v : Int) : Str := row0 k ++ rowPiece v 6 (Str.ofString "x") (Str.ofString "s") (Str.ofString "S")
def row2 (k v : Int) : Str := row1 k v ++ rowPiece v 3 (Str.ofString "x") (Str.ofString "s") (Str.ofString "S")
/-- the row of ten signs by the law's own table -/
def rowOf (k v : Int) : Str := row2 k v ++ rowPiece v 0 (Str.ofString "x") (Str.ofString "t") (Str.ofString "T")
def rowTo (k v : Int) : Nat → Str
  | 0 => row0 k
  | 1 => row1 k v
  | 2 => row2 k v
  | _ => rowOf k v
theorem six (z : Str) : z = Str.ofString "last" ∨ z = Str.ofString "extra" ∨ z = Str.ofString "figure" ∨ z = Str.ofString "letters" ∨ z = Str.ofString "place" ∨ z = Str.ofString "row" ∨ (¬ z = Str.ofString "last" ∧ ¬ z = Str.ofString "extra" ∧ ¬ z = Str.ofString "figure" ∧ ¬ z = Str.ofString "letters" ∧ ¬ z = Str.ofString "place" ∧ ¬ z = Str.ofString "row") := by
  by_cases h1 : z = Str.ofString "last" <;> by_cases h2 : z = Str.ofString "extra" <;> by_cases h3 : z = Str.ofString "figure" <;> by_cases h4 : z = Str.ofString "letters" <;> by_cases h5 : z = Str.ofString "place" <;> by_cases h6 : z = Str.ofString "row" <;> simp [h1, h2, h3, h4, h5, h6]
theorem normR {g h : Heap} {L : Addr} {a b c d e f a' b' c' d' e' f' : Option Value} {base : Str → Option Value}
    (F : Fr g L h (fun y => if y = Str.ofString "row" then a else if y = Str.ofString "last" then b else if y = Str.ofString "extra" then c else if y = Str.ofString "figure" then d else if y = Str.ofString "letters" then e else if y = Str.ofString "place" then f else
      if y = Str.ofString "last" then b' else if y = Str.ofString "extra" then c' else if y = Str.ofString "figure" then d' else if y = Str.ofString "letters" then e' else if y = Str.ofString "place" then f' else if y = Str.ofString "row" then a' else base y)) :
    Fr g L h (fun z => if z = Str.ofString "last" then b else if z = Str.ofString "extra" then c else if z = Str.ofString "figure" then d else if z = Str.ofString "letters" then e else if z = Str.ofString "place" then f else if z = Str.ofString "row" then a else base z) :=
  Fr.of_eq F fun z => by
    rcases six z with rfl | rfl | rfl | rfl | rfl | rfl | ⟨z1, z2, z3, z4, z5, z6⟩ <;> first | rfl | simp only [if_neg z1, if_neg z2, if_neg z3, if_neg z4, if_neg z5, if_neg z6]
theorem normS {g h : Heap} {L : Addr} {a : Option Value} {base : Str → Option Value} (F : Fr g L h (fun z => if z = Str.ofString "row" then a else base z)) (hb : base (Str.ofString "last") = none ∧ base (Str.ofString "extra") = none ∧ base (Str.ofString "figure") = none ∧ base (Str.ofString "letters") = none ∧ base (Str.ofString "place") = none) :
    Fr g L h (fun z => if z = Str.ofString "last" then none else if z = Str.ofString "extra" then none else if z = Str.ofString "figure" then none else if z = Str.ofString "letters" then none else if z = Str.ofString "place" then none else if z = Str.ofString "row" then a else base z) :=
  Fr.of_eq F fun z => by
    rcases six z with rfl | rfl | rfl | rfl | rfl | rfl | ⟨z1, z2, z3, z4, z5, z6⟩
    · exact hb.1
    · exact hb.2.1
    · exact hb.2.2.1
    · exact hb.2.2.2.1
    · exact hb.2.2.2.2
    · rfl
    · simp only [if_neg z1, if_neg z2, if_neg z3, if_neg z4, if_neg z5, if_neg z6]
theorem item_len (s : Str) (i : Int) : (Txt.item s i).length = 1 := rfl
theorem rowPiece_len (v p : Int) {c0 c1 c2 : Str} (h0 : c0.length = 1) (h1 : c1.length = 1) (h2 : c2.length = 1) : (rowPiece v p c0 c1 c2).length = 3 := by
  unfold rowPiece rowLast
  rw [Str.length_append, Str.length_append, item_len, item_len]
  split <;> split <;> first | rw [h0] | rw [h1] | rw [h2] | rfl
theorem rowTo_len (k v : Int) : ∀ i, (rowTo k v i).length ≤ 10
  | 0 => by show (row0 k).length ≤ 10; simp [row0, item_len]
  | 1 => by show (row0 k ++ rowPiece v 6 _ _ _).length ≤ 10; rw [Str.length_append, rowPiece_len _ _ rfl rfl rfl]; simp [row0, item_len]
  | 2 => by show (row0 k ++ rowPiece v 6 _ _ _ ++ rowPiece v 3 _ _ _).length ≤ 10; rw [Str.length_append, Str.length_append, rowPiece_len _ _ rfl rfl rfl, rowPiece_len _ _ rfl rfl rfl]; simp [row0, item_len]
  | _ + 3 => by show (row0 k ++ rowPiece v 6 _ _ _ ++ rowPiece v 3 _ _ _ ++ rowPiece v 0 _ _ _).length ≤ 10; rw [Str.length_append, Str.length_append, Str.length_append, rowPiece_len _ _ rfl rfl rfl, rowPiece_len _ _ rfl rfl rfl, rowPiece_len _ _ rfl rfl rfl]; simp [row0, item_len]
theorem bit01 (x : Int) : 0 ≤ Builtin.bitAnd x 1 ∧ Builtin.bitAnd x 1 < 2 := by rw [bitAnd_m1]; omega
theorem fdiv_nat {v p : Int} (hv : 0 ≤ v) : v.fdiv (2 ^ p.toNat) = ((v.toNat / 2 ^ p.toNat : Nat) : Int) := by
  obtain ⟨n, rfl⟩ := Int.eq_ofNat_of_zero_le hv
  rw [Int.fdiv_eq_ediv_of_nonneg _ (Int.pow_nonneg (by decide))]
  show (n : Int) / 2 ^ p.toNat = ((n / 2 ^ p.toNat : Nat) : Int)
  rw [Int.natCast_ediv, Int.natCast_pow]
  rfl
theorem fig_nat {v p : Int} (hv : 0 ≤ v) : fig v p = ((v.toNat / 2 ^ p.toNat % 8 : Nat) : Int) := by
  unfold fig
  rw [fdiv_nat hv, bitAnd_pp (Int.natCast_nonneg _) (by decide)]
  congr 1
  show (v.toNat / 2 ^ p.toNat) &&& (2 ^ 3 - 1) = _
  rw [Nat.and_two_pow_sub_one_eq_mod]
theorem fig_lt {v p : Int} (hv : 0 ≤ v) : 0 ≤ fig v p ∧ fig v p < 8 := by
  rw [fig_nat hv]; omega
theorem fig_r (v p : Int) (hv : 0 ≤ v) : 0 ≤ (fig v p).fdiv (2 ^ Int.toNat 2) ∧ (fig v p).fdiv (2 ^ Int.toNat 2) < 2 := by
  have := fig_lt (p := p) hv
  rw [Int.fdiv_eq_ediv_of_nonneg _ (by decide)]
  show 0 ≤ fig v p / 4 ∧ fig v p / 4 < 2
  omega
section
local macro_rules | `(tactic| walk_at "exec For Tuple List cons nil") => `(tactic| (k_here; k_dflt (with_unfolding_all refine wpAny_For ?_)))
local macro_rules | `(tactic| walk_at "pyIter ref") => `(tactic| (k_here; k_dflt (refine' iter_list ?a ?b ?c ?_; (case a => k_asm); (case b => k_asm); (case c => k_mem); k_whole); (intro it' h' oi' hoi' F' N' l1)))
set_option maxRecDepth 100000 in
set_option maxHeartbeats 2000000 in
theorem c_row {w : World} {h₀ : Heap} {s : Shared} {k v : Int} {t u : Tok}
   {R : Result → Shared → Prop}
   (Y : Rdy w h₀) (sy : ∀ b o, h₀.get? b = some o → s.heap.get? b = some o)
   (hk : 0 ≤ k ∧ k < 3) (hv : 0 ≤ v ∧ v < 4096)
   (hR : ∀ h' tk u, Out h₀ s.heap h' [] [] → R (.ok (.ret (.str (rowOf k v) u))) { s with heap := h', toks := tk })
   : codeAny (model PP w) (AAt 800) (.call (.ref 239) ⟨[.int k t, .int v u], []⟩) R s := by
  refine enterP (binds := [("kind", .int k t), ("rights", .int v u)]) (cells := []) Y sy (fun _ h => nomatch h) (by k_is) (by k_is) (by k_room) (BindsTo.of_eq rfl) (locs rfl) ?_ (by decide) rfl rfl rfl
  intro g L h₁ I F N hlt hLs
  clear hlt
  obtain ⟨X, ⟨p, loose, mean, mg, mb, T⟩, CH⟩ := id I.Y
  have YY := I.Y
  show wpAny _ _ _ _ _ _
  k_fold
  k_steps
  rename Fr g L _ _ => F2
  rename News g L _ _ => N2
  rename IsIt _ _ _ => hoi
  rename_i a1 _ _ a2 _ c1 a3 _ c2 pl _ _ _ c3 it h2 oi low
  k_lt low
  obtain ⟨t1, u1, t2, u2, t3, u3, N3⟩ : ∃ t1 u1 t2 u2 t3 u3, News g L h2 [(it, oi), (pl, listOf #[.ref a1, .ref a2, .ref a3] 0), (a3, { cls := .type "tuple", data := .seq #[.int 0 t3, .str (Str.ofString "xtT") u3] }), (a2, { cls := .type "tuple", data := .seq #[.int 3 t2, .str (Str.ofString "xsS") u2] }), (a1, { cls := .type "tuple", data := .seq #[.int 6 t1, .str (Str.ofString "xsS") u1] })] := ⟨_, _, _, _, _, _, N2⟩
  clear N2
  obtain ⟨u0, F3⟩ : ∃ u0, Fr g L h2 (fun z => if z = Str.ofString "row" then some (.str (Txt.item (Str.ofString "-dl") k) u0) else List.lookup z [(Str.ofString "kind", Value.int k t), (Str.ofString "rights", Value.int v u)].reverse) := ⟨_, F2⟩
  clear F2
  refine for_listT (g := g) (L := L) (items := [a1, a2, a3]) (n := 0) (σ := (Str × Tok) × Option Value × Option Value × Option Value × Option Value × Option Value)
    (fun st z => if z = Str.ofString "last" then st.2.1 else if z = Str.ofString "extra" then st.2.2.1 else if z = Str.ofString "figure" then st.2.2.2.1 else if z = Str.ofString "letters" then st.2.2.2.2.1 else if z = Str.ofString "place" then st.2.2.2.2.2 else if z = Str.ofString "row" then some (.str st.1.1 st.1.2) else List.lookup z [(Str.ofString "kind", Value.int k t), (Str.ofString "rights", Value.int v u)].reverse)
    (fun st => [(pl, listOf #[.ref a1, .ref a2, .ref a3] 0), (a3, { cls := .type "tuple", data := .seq #[.int 0 t3, .str (Str.ofString "xtT") u3] }), (a2, { cls := .type "tuple", data := .seq #[.int 3 t2, .str (Str.ofString "xsS") u2] }), (a1, { cls := .type "tuple", data := .seq #[.int 6 t1, .str (Str.ofString "xsS") u1] })]) (fun i st => st.1.1 = rowTo k v i) rfl (fun i st _ => .head _) (fun i st _ p hp => ?_) ?_ ?_ 3 0 ((Txt.item (Str.ofString "-dl") k, u0), none, none, none, none, none) oi h2 _ rfl hoi rfl ?_ N3
  · simp only [List.mem_cons, List.not_mem_nil, or_false] at hp
    rcases hp with rfl | rfl | rfl | rfl <;> (refine neN ?_; dsimp only; omega)
  · clear N3 F3 hoi
    rintro i a ⟨⟨S, su⟩, la, ex, fi, le, pla⟩ oi h tk Rn E hi hS F N next
    dsimp only at hS F N next
    have hi3 : i < 3 := by
      have := (List.getElem?_eq_some_iff.mp hi).1
      simpa using this
    have hz : S.length ≤ 20 := by rw [hS]; exact Nat.le_trans (rowTo_len k v i) (by decide)
    rcases (by omega : i = 0 ∨ i = 1 ∨ i = 2) with rfl | rfl | rfl
    · cases hi
      have hA : 0 ≤ (Builtin.bitAnd (v.fdiv (2 ^ Int.toNat 6)) 7).fdiv (2 ^ Int.toNat 2) ∧ (Builtin.bitAnd (v.fdiv (2 ^ Int.toNat 6)) 7).fdiv (2 ^ Int.toNat 2) < 2 := fig_r v 6 hv.1
      have hB : 0 ≤ Builtin.bitAnd ((Builtin.bitAnd (v.fdiv (2 ^ Int.toNat 6)) 7).fdiv (2 ^ Int.toNat 1)) 1 ∧ Builtin.bitAnd ((Builtin.bitAnd (v.fdiv (2 ^ Int.toNat 6)) 7).fdiv (2 ^ Int.toNat 1)) 1 < 2 := bit01 _
      k_steps
      all_goals
        rename Fr g L _ _ => F9
        rename News g L _ _ => N9
        first | (rename Builtin.bitAnd (Int.fdiv v _) 1 ≠ 0 => e1) | (rename Builtin.bitAnd (Int.fdiv v _) 1 = 0 => e1)
        first | (rename Builtin.bitAnd (Builtin.bitAnd (Int.fdiv v _) 7) 1 ≠ 0 => e2) | (rename Builtin.bitAnd (Builtin.bitAnd (Int.fdiv v _) 7) 1 = 0 => e2)
        refine next ((_, _), some (.str _ _), some (.int _ _), some (.int _ _), some (.str _ _), some (.int _ _)) _ _ ?_ (normR F9) N9
        rw [hS]
        show _ = row0 k ++ rowPiece v 6 _ _ _
        simp only [rowPiece, rowLast, fig, e1, e2, ne_eq, not_true_eq_false, not_false_eq_true, if_true, if_false]
        rfl
    · cases hi
      have hA : 0 ≤ (Builtin.bitAnd (v.fdiv (2 ^ Int.toNat 3)) 7).fdiv (2 ^ Int.toNat 2) ∧ (Builtin.bitAnd (v.fdiv (2 ^ Int.toNat 3)) 7).fdiv (2 ^ Int.toNat 2) < 2 := fig_r v 3 hv.1
      have hB : 0 ≤ Builtin.bitAnd ((Builtin.bitAnd (v.fdiv (2 ^ Int.toNat 3)) 7).fdiv (2 ^ Int.toNat 1)) 1 ∧ Builtin.bitAnd ((Builtin.bitAnd (v.fdiv (2 ^ Int.toNat 3)) 7).fdiv (2 ^ Int.toNat 1)) 1 < 2 := bit01 _
      k_steps
      all_goals
        rename Fr g L _ _ => F9
        rename News g L _ _ => N9
        first | (rename Builtin.bitAnd (Int.fdiv v _) 1 ≠ 0 => e1) | (rename Builtin.bitAnd (Int.fdiv v _) 1 = 0 => e1)
        first | (rename Builtin.bitAnd (Builtin.bitAnd (Int.fdiv v _) 7) 1 ≠ 0 => e2) | (rename Builtin.bitAnd (Builtin.bitAnd (Int.fdiv v _) 7) 1 = 0 => e2)
        refine next ((_, _), some (.str _ _), some (.int _ _), some (.int _ _), some (.str _ _), some (.int _ _)) _ _ ?_ (normR F9) N9
        rw [hS]
        show _ = row1 k v ++ rowPiece v 3 _ _ _
        simp only [rowPiece, rowLast, fig, e1, e2, ne_eq, not_true_eq_false, not_false_eq_true, if_true, if_false]
        rfl
    · cases hi
      have hA : 0 ≤ (Builtin.bitAnd (v.fdiv (2 ^ Int.toNat 0)) 7).fdiv (2 ^ Int.toNat 2) ∧ (Builtin.bitAnd (v.fdiv (2 ^ Int.toNat 0)) 7).fdiv (2 ^ Int.toNat 2) < 2 := fig_r v 0 hv.1
      have hB : 0 ≤ Builtin.bitAnd ((Builtin.bitAnd (v.fdiv (2 ^ Int.toNat 0)) 7).fdiv (2 ^ Int.toNat 1)) 1 ∧ Builtin.bitAnd ((Builtin.bitAnd (v.fdiv (2 ^ Int.toNat 0)) 7).fdiv (2 ^ Int.toNat 1)) 1 < 2 := bit01 _
      k_steps
      all_goals
        rename Fr g L _ _ => F9
        rename News g L _ _ => N9
        first | (rename Builtin.bitAnd (Int.fdiv v _) 1 ≠ 0 => e1) | (rename Builtin.bitAnd (Int.fdiv v _) 1 = 0 => e1)
        first | (rename Builtin.bitAnd (Builtin.bitAnd (Int.fdiv v _) 7) 1 ≠ 0 => e2) | (rename Builtin.bitAnd (Builtin.bitAnd (Int.fdiv v _) 7) 1 = 0 => e2)
        refine next ((_, _), some (.str _ _), some (.int _ _), some (.int _ _), some (.str _ _), some (.int _ _)) _ _ ?_ (normR F9) N9
        rw [hS]
        show _ = row2 k v ++ rowPiece v 0 _ _ _
        simp only [rowPiece, rowLast, fig, e1, e2, ne_eq, not_true_eq_false, not_false_eq_true, if_true, if_false]
        rfl
  · clear N3 F3 hoi
    rintro ⟨⟨S, su⟩, la, ex, fi, le, pla⟩ h tk hS F N
    dsimp only at hS F N ⊢
    k_steps
    rename Fr g L _ _ => F9
    rename News g L _ _ => N9
    rw [hS]
    exact hR _ _ _ ((I.out F9 N9).sub (fun _ h => nomatch h))
  · exact normS F3 ⟨rfl, rfl, rfl, rfl, rfl⟩
end
end Mine
end
section
open PySem PySem.W PyProof.Rows PySem.Calls
namespace Mine
set_option maxRecDepth 100000
theorem high {q r j : Nat} (hj : j < 12) : (4096 * q + r) / 2 ^ j % 2 = r / 2 ^ j % 2 := by
  have e : 4096 * q = 2 ^ j * (2 * (2 ^ (11 - j) * q)) := by
    have h12 : j + 1 + (11 - j) = 12 := by omega
    rw [← Nat.mul_assoc, ← Nat.mul_assoc, ← Nat.pow_succ, ← Nat.pow_add, h12]
  rw [e, Nat.mul_add_div (Nat.two_pow_pos j), Nat.mul_add_mod]
theorem and_pow (x j : Nat) : x &&& 2 ^ j = (x / 2 ^ j % 2) * 2 ^ j := by
  have hb : x.testBit j = decide (x / 2 ^ j % 2 = 1) := Nat.testBit_eq_decide_div_mod_eq
  rcases (by omega : x / 2 ^ j % 2 = 0 ∨ x / 2 ^ j % 2 = 1) with h | h
  · rw [h] at hb ⊢
    have hb : x.testBit j = false := hb
    rw [Nat.zero_mul]
    refine Nat.eq_of_testBit_eq fun i => ?_
    rw [Nat.testBit_and, Nat.testBit_two_pow, Nat.zero_testBit]
    by_cases e : j = i
    · subst e; rw [hb]; rfl
    · rw [decide_eq_false e, Bool.and_false]
  · rw [h] at hb ⊢
    have hb : x.testBit j = true := hb
    rw [Nat.one_mul]
    refine Nat.eq_of_testBit_eq fun i => ?_
    rw [Nat.testBit_and, Nat.testBit_two_pow]
    by_cases e : j = i
    · subst e; rw [hb]; simp
    · rw [decide_eq_false e, Bool.and_false]
theorem bit_iff {q r j : Nat} (hj : j < 12) : Builtin.bitAnd ((4096 * q + r : Nat) : Int) ((2 ^ j : Nat) : Int) = ((2 ^ j : Nat) : Int) ↔ r / 2 ^ j % 2 = 1 := by
  rw [bitAnd_pp (Int.natCast_nonneg _) (Int.natCast_nonneg _), Int.toNat_natCast, Int.toNat_natCast, Int.natCast_inj, and_pow, high hj]
  have hp : 0 < 2 ^ j := Nat.two_pow_pos j
  rcases (by omega : r / 2 ^ j % 2 = 0 ∨ r / 2 ^ j % 2 = 1) with h | h
  · rw [h]; simp; omega
  · rw [h]; simp
theorem bits_iff {q r a b : Nat} (ha : a < 12) (hb : b < 12) (hab : a < b) : Builtin.bitAnd ((4096 * q + r : Nat) : Int) ((2 ^ a ||| 2 ^ b : Nat) : Int) = ((2 ^ a ||| 2 ^ b : Nat) : Int) ↔ r / 2 ^ a % 2 = 1 ∧ r / 2 ^ b % 2 = 1 := by
  rw [bitAnd_pp (Int.natCast_nonneg _) (Int.natCast_nonneg _), Int.toNat_natCast, Int.toNat_natCast, Int.natCast_inj, Nat.and_or_distrib_left, and_pow, and_pow, high ha, high hb]
  have hne : a ≠ b := Nat.ne_of_lt hab
  have key : ∀ x y : Nat, x < 2 → y < 2 → (x * 2 ^ a ||| y * 2 ^ b = 2 ^ a ||| 2 ^ b ↔ x = 1 ∧ y = 1) := by
    intro x y hx hy
    refine ⟨fun h => ?_, fun ⟨h1, h2⟩ => by rw [h1, h2, Nat.one_mul, Nat.one_mul]⟩
    have ta := congrArg (Nat.testBit · a) h
    have tb := congrArg (Nat.testBit · b) h
    simp only [Nat.testBit_or, Nat.testBit_two_pow] at ta tb
    rcases (by omega : x = 0 ∨ x = 1) with rfl | rfl <;> rcases (by omega : y = 0 ∨ y = 1) with rfl | rfl
    · simp [Nat.zero_testBit] at ta
    · simp [Nat.zero_testBit, Nat.testBit_two_pow, hne.symm, hne] at ta
    · simp [Nat.zero_testBit, Nat.testBit_two_pow, hne.symm, hne] at tb
    · exact ⟨rfl, rfl⟩
  exact key _ _ (Nat.mod_lt _ (by decide)) (Nat.mod_lt _ (by decide))
theorem join_ten (x0 x1 x2 x3 x4 x5 x6 x7 x8 x9 : Str) : Txt.join "" [x0, x1, x2, x3, x4, x5, x6, x7, x8, x9] = x0 ++ (x1 ++ x2 ++ x3) ++ (x4 ++ x5 ++ x6) ++ (x7 ++ x8 ++ x9) := by
  show Builtin.Str.glued "" _ = _
  rw [StrLaws.glued_eq_join]
  simp only [Str.join]
  have he : ∀ x : Str, x ++ Str.ofString "" = x := fun x => by
    show (⟨x.cps ++ #[]⟩ : Str) = x
    rw [Array.append_empty]
  have ha : ∀ a b c : Str, a ++ b ++ c = a ++ (b ++ c) := fun a b c => by
    show (⟨a.cps ++ b.cps ++ c.cps⟩ : Str) = ⟨a.cps ++ (b.cps ++ c.cps)⟩
    rw [Array.append_assoc]
  simp only [he, ha]
/-- one of a triple's signs -/
def sg (b : Bool) (c : Str) : Str := if b then c else Str.ofString "-"
def bt (r j : Nat) : Bool := decide (r / 2 ^ j % 2 = 1)
def sg3 (x e : Bool) (c0 c1 c2 : Str) : Str := if x && e then c1 else if e then c2 else if x then c0 else Str.ofString "-"
theorem item_r {b : Nat} (hb : b < 2) : Txt.item (Str.ofString "-r") (b : Int) = sg (decide (b = 1)) (Str.ofString "r") := by
  rcases (by omega : b = 0 ∨ b = 1) with rfl | rfl <;> decide +kernel
theorem item_w {b : Nat} (hb : b < 2) : Txt.item (Str.ofString "-w") (b : Int) = sg (decide (b = 1)) (Str.ofString "w") := by
  rcases (by omega : b = 0 ∨ b = 1) with rfl | rfl <;> decide +kernel
theorem piece_eq (r p : Nat) (hp : p = 6 ∨ p = 3 ∨ p = 0) (c0 c1 c2 : Str) : rowPiece (r : Int) (p : Int) c0 c1 c2 = sg (bt r (p + 2)) (Str.ofString "r") ++ sg (bt r (p + 1)) (Str.ofString "w") ++ sg3 (bt r p) (bt r (9 + p / 3)) c0 c1 c2 := by
  have h0 : (0 : Int) ≤ (r : Int) := Int.natCast_nonneg _
  have f : fig (r : Int) (p : Int) = ((r / 2 ^ p % 8 : Nat) : Int) := by
    rw [fig_nat h0, Int.toNat_natCast, Int.toNat_natCast]
  have e1 : (fig (r : Int) (p : Int)).fdiv (2 ^ Int.toNat 2) = ((r / 2 ^ (p + 2) % 2 : Nat) : Int) := by
    rw [f, show ((2 : Int) ^ Int.toNat 2) = 4 from rfl, Int.fdiv_eq_ediv_of_nonneg _ (by decide)]
    rw [← show r / 2 ^ p % 8 / 4 = r / 2 ^ (p + 2) % 2 from by rw [show (8 : Nat) = 4 * 2 from rfl, Nat.mod_mul_right_div_self, Nat.div_div_eq_div_mul, Nat.pow_add]]
    rfl
  have e2 : Builtin.bitAnd ((fig (r : Int) (p : Int)).fdiv (2 ^ Int.toNat 1)) 1 = ((r / 2 ^ (p + 1) % 2 : Nat) : Int) := by
    rw [bitAnd_m1, f, show ((2 : Int) ^ Int.toNat 1) = 2 from rfl, Int.fdiv_eq_ediv_of_nonneg _ (by decide)]
    rw [← show r / 2 ^ p % 8 / 2 % 2 = r / 2 ^ (p + 1) % 2 from by rw [show (8 : Nat) = 2 * 4 from rfl, Nat.mod_mul_right_div_self, Nat.div_div_eq_div_mul, Nat.pow_add, Nat.mod_mod_of_dvd _ (by decide)]]
    rfl
  have e3 : Builtin.bitAnd (fig (r : Int) (p : Int)) 1 = ((r / 2 ^ p % 2 : Nat) : Int) := by
    rw [bitAnd_m1, f]
    rw [← show r / 2 ^ p % 8 % 2 = r / 2 ^ p % 2 from Nat.mod_mod_of_dvd _ (by decide)]
    rfl
  have e4 : Builtin.bitAnd ((r : Int).fdiv (2 ^ (9 + Int.fdiv (p : Int) 3).toNat)) 1 = ((r / 2 ^ (9 + p / 3) % 2 : Nat) : Int) := by
    rw [bitAnd_m1, Int.fdiv_eq_ediv_of_nonneg _ (Int.pow_nonneg (by decide))]
    rcases hp with rfl | rfl | rfl
    · rw [show ((2 : Int) ^ (9 + Int.fdiv ((6 : Nat) : Int) 3).toNat) = 2048 from rfl]; rfl
    · rw [show ((2 : Int) ^ (9 + Int.fdiv ((3 : Nat) : Int) 3).toNat) = 1024 from rfl]; rfl
    · rw [show ((2 : Int) ^ (9 + Int.fdiv ((0 : Nat) : Int) 3).toNat) = 512 from rfl]; rfl
  unfold rowPiece rowLast
  rw [e1, e2, e3, e4, item_r (Nat.mod_lt _ (by decide)), item_w (Nat.mod_lt _ (by decide))]
  unfold sg3 bt
  congr 1
  rcases (by omega : r / 2 ^ p % 2 = 0 ∨ r / 2 ^ p % 2 = 1) with h1 | h1 <;> rcases (by omega : r / 2 ^ (9 + p / 3) % 2 = 0 ∨ r / 2 ^ (9 + p / 3) % 2 = 1) with h2 | h2 <;> simp [h1, h2]
theorem one_bit {q r j : Nat} (hj : j < 12) (c : Str) : tabC ((4096 * q + r : Nat) : Int) (Str.ofString "-") [(((2 ^ j : Nat) : Int), ((2 ^ j : Nat) : Int), c)] = sg (bt r j) c := by
  unfold sg bt
  by_cases h : r / 2 ^ j % 2 = 1
  · rw [tabC_hit ((bit_iff hj).mpr h), decide_eq_true h]; rfl
  · rw [tabC_miss (fun e => h ((bit_iff hj).mp e)), decide_eq_false h]; rfl
theorem three_bits {q r a b : Nat} (ha : a < 12) (hb : b < 12) (hab : a < b) (c0 c1 c2 : Str) :
    tabC ((4096 * q + r : Nat) : Int) (Str.ofString "-") [(((2 ^ a ||| 2 ^ b : Nat) : Int), ((2 ^ a ||| 2 ^ b : Nat) : Int), c1), (((2 ^ b : Nat) : Int), ((2 ^ b : Nat) : Int), c2), (((2 ^ a : Nat) : Int), ((2 ^ a : Nat) : Int), c0)] = sg3 (bt r a) (bt r b) c0 c1 c2 := by
  unfold sg3 bt
  by_cases h1 : r / 2 ^ a % 2 = 1 <;> by_cases h2 : r / 2 ^ b % 2 = 1
  · rw [tabC_hit ((bits_iff ha hb hab).mpr ⟨h1, h2⟩)]; simp [h1, h2]
  · rw [tabC_miss (fun e => h2 ((bits_iff ha hb hab).mp e).2), tabC_miss (fun e => h2 ((bit_iff hb).mp e)), tabC_hit ((bit_iff ha).mpr h1)]; simp [h1, h2]
  · rw [tabC_miss (fun e => h1 ((bits_iff ha hb hab).mp e).1), tabC_hit ((bit_iff hb).mpr h2)]; simp [h1, h2]
  · rw [tabC_miss (fun e => h1 ((bits_iff ha hb hab).mp e).1), tabC_miss (fun e => h2 ((bit_iff hb).mp e)), tabC_miss (fun e => h1 ((bit_iff ha).mp e))]; simp [h1, h2, tabC]
theorem high_and {q r : Nat} (hr : r < 4096) (hq : q &&& 15 = q) : (4096 * q + r) &&& 61440 = 4096 * q := by
  refine Nat.eq_of_testBit_eq fun j => ?_
  have t1 : (4096 * q + r).testBit j = if j < 12 then r.testBit j else q.testBit (j - 12) := Nat.testBit_two_pow_mul_add (i := 12) q hr j
  have t2 : (61440 : Nat).testBit j = if j < 12 then (0 : Nat).testBit j else (15 : Nat).testBit (j - 12) := Nat.testBit_two_pow_mul_add (i := 12) 15 (b := 0) (by decide) j
  have t3 : (4096 * q).testBit j = if j < 12 then (0 : Nat).testBit j else q.testBit (j - 12) := Nat.testBit_two_pow_mul_add (i := 12) q (b := 0) (by decide) j
  rw [Nat.testBit_and, t1, t2, t3]
  by_cases h : j < 12
  · simp [h]
  · rw [if_neg h, if_neg h, if_neg h, ← Nat.testBit_and, hq]
theorem row_nat (q k r : Nat) (hr : r < 4096) (hq : (q = 8 ∧ k = 0) ∨ (q = 4 ∧ k = 1) ∨ (q = 10 ∧ k = 2)) : Txt.join "" ((List.range 10).map (modeChar ((4096 * q + r : Nat) : Int))) = rowOf (k : Int) (r : Int) := by
  have hk : modeChar ((4096 * q + r : Nat) : Int) 0 = Txt.item (Str.ofString "-dl") (k : Int) := by
    unfold modeChar
    rw [if_pos rfl]
    show tabC _ _ [(61440, 40960, "l"), (61440, 49152, "s"), (61440, 32768, "-"), (61440, 24576, "b"), (61440, 16384, "d"), (61440, 8192, "c"), (61440, 4096, "p")] = _
    have hv : Builtin.bitAnd ((4096 * q + r : Nat) : Int) 61440 = ((4096 * q : Nat) : Int) := by
      rw [bitAnd_pp (Int.natCast_nonneg _) (by decide), Int.toNat_natCast, Int.natCast_inj]
      rcases hq with ⟨rfl, rfl⟩ | ⟨rfl, rfl⟩ | ⟨rfl, rfl⟩
      · exact high_and hr rfl
      · exact high_and hr rfl
      · exact high_and hr rfl
    unfold tabC tabC tabC tabC tabC tabC tabC tabC
    rw [hv]
    rcases hq with ⟨rfl, rfl⟩ | ⟨rfl, rfl⟩ | ⟨rfl, rfl⟩ <;> decide +kernel
  have hl : (List.range 10).map (modeChar ((4096 * q + r : Nat) : Int)) = [modeChar ((4096 * q + r : Nat) : Int) 0, modeChar ((4096 * q + r : Nat) : Int) 1, modeChar ((4096 * q + r : Nat) : Int) 2, modeChar ((4096 * q + r : Nat) : Int) 3, modeChar ((4096 * q + r : Nat) : Int) 4,
    modeChar ((4096 * q + r : Nat) : Int) 5, modeChar ((4096 * q + r : Nat) : Int) 6, modeChar ((4096 * q + r : Nat) : Int) 7, modeChar ((4096 * q + r : Nat) : Int) 8, modeChar ((4096 * q + r : Nat) : Int) 9] := rfl
  rw [hl, join_ten, hk]
  unfold rowOf row2 row1 row0
  have p6 := piece_eq r 6 (.inl rfl) (Str.ofString "x") (Str.ofString "s") (Str.ofString "S")
  have p3 := piece_eq r 3 (.inr (.inl rfl)) (Str.ofString "x") (Str.ofString "s") (Str.ofString "S")
  have p0 := piece_eq r 0 (.inr (.inr rfl)) (Str.ofString "x") (Str.ofString "t") (Str.ofString "T")
  have q6 : rowPiece (r : Int) 6 (Str.ofString "x") (Str.ofString "s") (Str.ofString "S") = _ := p6
  have q3 : rowPiece (r : Int) 3 (Str.ofString "x") (Str.ofString "s") (Str.ofString "S") = _ := p3
  have q0 : rowPiece (r : Int) 0 (Str.ofString "x") (Str.ofString "t") (Str.ofString "T") = _ := p0
  rw [q6, q3, q0]
  have m1 : modeChar ((4096 * q + r : Nat) : Int) 1 = sg (bt r 8) (Str.ofString "r") := one_bit (j := 8) (by decide) _
  have m2 : modeChar ((4096 * q + r : Nat) : Int) 2 = sg (bt r 7) (Str.ofString "w") := one_bit (j := 7) (by decide) _
  have m3 : modeChar ((4096 * q + r : Nat) : Int) 3 = sg3 (bt r 6) (bt r 11) (Str.ofString "x") (Str.ofString "s") (Str.ofString "S") := three_bits (a := 6) (b := 11) (by decide) (by decide) (by decide) _ _ _
  have m4 : modeChar ((4096 * q + r : Nat) : Int) 4 = sg (bt r 5) (Str.ofString "r") := one_bit (j := 5) (by decide) _
  have m5 : modeChar ((4096 * q + r : Nat) : Int) 5 = sg (bt r 4) (Str.ofString "w") := one_bit (j := 4) (by decide) _
  have m6 : modeChar ((4096 * q + r : Nat) : Int) 6 = sg3 (bt r 3) (bt r 10) (Str.ofString "x") (Str.ofString "s") (Str.ofString "S") := three_bits (a := 3) (b := 10) (by decide) (by decide) (by decide) _ _ _
  have m7 : modeChar ((4096 * q + r : Nat) : Int) 7 = sg (bt r 2) (Str.ofString "r") := one_bit (j := 2) (by decide) _
  have m8 : modeChar ((4096 * q + r : Nat) : Int) 8 = sg (bt r 1) (Str.ofString "w") := one_bit (j := 1) (by decide) _
  have m9 : modeChar ((4096 * q + r : Nat) : Int) 9 = sg3 (bt r 0) (bt r 9) (Str.ofString "x") (Str.ofString "t") (Str.ofString "T") := three_bits (a := 0) (b := 9) (by decide) (by decide) (by decide) _ _ _
  rw [m1, m2, m3, m4, m5, m6, m7, m8, m9]
end Mine
end
section
open PySem PySem.W PyProof.Rows PySem.Calls
open PySem.AutoSeq1 (wpAny_loadPart')
open PySem.MeetsSeq PySem.MeetsSeq3
namespace Mine
set_option maxRecDepth 100000
/-- how two values stand to each other, whatever the state -/
def LtGives (x y : Value) (b : Bool) : Prop := ∀ (prog : Program) (w : World) (A : Around) (E : Value → Shared → Prop) (s : Shared) (Q : Value → Shared → Prop), Q (.bool b) s → wpAny (model prog w) A (richCompare .Lt x y) Q E s
theorem LtGives.str (a b : Str) (t u : Tok) : LtGives (.str a t) (.str b u) (decide (a.cps.toList < b.cps.toList)) := fun prog w A E s Q h => by
  show wpAny (model prog w) A (compareOp .Lt (.str a t) (.str b u)) Q E s
  exact lt_str h
theorem LtGives.int (a b : Int) (t u : Tok) : LtGives (.int a t) (.int b u) (decide (a < b)) := fun prog w A E s Q h => by
  show wpAny (model prog w) A (compareOp .Lt (.int a t) (.int b u)) Q E s
  exact PyProof.Rows.lt_int h
/-- the first place at which two rows part decides -/
def lexB (e lt : Nat → Bool) : Nat → Nat → Bool
  | 0, _ => false
  | k + 1, i => if e i then lexB e lt k (i + 1) else lt i
theorem lt_loop (l b : Addr) (items items2 : Array Value) (n n2 : Nat) (hsz : items.size = items2.size) (e lt : Nat → Bool)
    (he : ∀ j (h1 : j < items.size) (h2 : j < items2.size), EqGives items[j] items2[j] (e j)) (hl' : ∀ j (h1 : j < items.size) (h2 : j < items2.size), e j = false → LtGives items[j] items2[j] (lt j)) (k : Nat) :
    ∀ i : Nat, items.size - i = k → Meets (Builtin.«list.__eq__.loop» ⟨[.ref l, .ref b, rawInt i, rawInt 0], []⟩)
      (fun _ R s => s.heap.get? l = some { cls := .type "list", dict := none, data := .seq items n, slots := #[] } ∧ s.heap.get? b = some { cls := .type "list", dict := none, data := .seq items2 n2, slots := #[] } ∧
        R (.ok (.ret (.bool (lexB e lt k i)))) s) := by
  induction k with
  | zero =>
    intro i hk prog w A R s h
    obtain ⟨hp, g, d, tk, os⟩ := s; obtain ⟨hl, hb, h⟩ := h
    wp_walk using wpAny_loadPart' hl, wpAny_loadPart' hb
    have hi1 : items[((i : Nat) : Int).toNat]? = none := by simp; omega
    have hi2 : items2[((i : Nat) : Int).toNat]? = none := by simp; omega
    rw [hi1, hi2]
    wp_walk using wpAny_loadPart' hl, wpAny_loadPart' hb
    show R (.ok (.ret (.bool (decide (items.size < items2.size))))) _
    rw [hsz]
    simpa [lexB] using h
  | succ k ih =>
    intro i hk prog w A R s h
    obtain ⟨hp, g, d, tk, os⟩ := s; obtain ⟨hl, hb, h⟩ := h
    wp_walk using wpAny_loadPart' hl, wpAny_loadPart' hb
    have hlt : i < items.size := by omega
    have hlt2 : i < items2.size := by omega
    have hi1 : items[((i : Nat) : Int).toNat]? = some items[i] := by simp [hlt]
    have hi2 : items2[((i : Nat) : Int).toNat]? = some items2[i] := by simp [hlt2]
    have hc : ((i : Int) + 1) = ((i + 1 : Nat) : Int) := by push_cast; rfl
    rw [hi1, hi2]
    refine wpAny_bind (he i hlt hlt2 prog w _ _ _ _ ?_)
    cases hb' : e i with
    | true =>
      wp_walk
      rw [hc]
      have h2 : R (.ok (.ret (.bool (lexB e lt k (i + 1))))) ⟨hp, g, d, tk, os⟩ := by
        have : lexB e lt (k + 1) i = lexB e lt k (i + 1) := by rw [lexB, hb', if_pos rfl]
        rw [← this]; exact h
      exact ⟨plainId_quiet plain_eq_loop _, codeAny_builtin entry_eq_loop (by
        rw [Around.under_plainId plain_eq_loop _]
        exact ih (i + 1) (by omega) prog w A R _ ⟨hl, hb, h2⟩)⟩
    | false =>
      wp_walk using wpAny_loadPart' hl, wpAny_loadPart' hb
      rw [hi1, hi2]
      have h2 : R (.ok (.ret (.bool (lt i)))) ⟨hp, g, d, tk, os⟩ := by
        have : lexB e lt (k + 1) i = lt i := by rw [lexB, hb', if_neg Bool.false_ne_true]
        rw [← this]; exact h
      refine wpAny_bind (hl' i hlt hlt2 hb' prog w _ _ _ _ ?_)
      wp_walk
      exact h2

theorem list_lt (l b : Addr) (items items2 : Array Value) (n n2 : Nat) (hsz : items.size = items2.size) (e lt : Nat → Bool)
    (he : ∀ j (h1 : j < items.size) (h2 : j < items2.size), EqGives items[j] items2[j] (e j)) (hl' : ∀ j (h1 : j < items.size) (h2 : j < items2.size), e j = false → LtGives items[j] items2[j] (lt j)) :
    Meets (Builtin.«list.__lt__» ⟨[.ref l, .ref b], []⟩)
      (fun _ R s => s.heap.get? l = some { cls := .type "list", dict := none, data := .seq items n, slots := #[] } ∧ s.heap.get? b = some { cls := .type "list", dict := none, data := .seq items2 n2, slots := #[] } ∧
        R (.ok (.ret (.bool (lexB e lt items.size 0)))) s) := by
  intro prog w A R s h
  obtain ⟨hp, g, d, tk, os⟩ := s; obtain ⟨hl, hb, h⟩ := h
  have f3 := AutoSeq1.sub_list_list
  wp_walk using wpAny_loadPart' hl, wpAny_loadPart' hb
  exact ⟨plainId_quiet plain_eq_loop _, codeAny_builtin entry_eq_loop (by
    rw [Around.under_plainId plain_eq_loop _]
    exact lt_loop l b items items2 n n2 hsz e lt he hl' _ 0 rfl prog w A R _ ⟨hl, hb, by simpa using h⟩)⟩
end Mine
end
section
open PySem PySem.W PyProof.Rows PySem.Calls
namespace Mine
set_option maxRecDepth 100000
section
variable {prog : Program} {w : World} {A : Around} {E : Value → Shared → Prop} {s : Shared}
theorem keyLt_lists {l b : Addr} {items items2 : Array Value} {n n2 : Nat} {e lt : Nat → Bool} {Q : Bool → Shared → Prop} (hu : A.units < cLine) (hl : s.heap.get? l = some (listOf items n)) (hb : s.heap.get? b = some (listOf items2 n2)) (hsz : items.size = items2.size)
    (he : ∀ j (h1 : j < items.size) (h2 : j < items2.size), MeetsSeq.EqGives items[j] items2[j] (e j)) (hl' : ∀ j (h1 : j < items.size) (h2 : j < items2.size), e j = false → LtGives items[j] items2[j] (lt j))
    (h : Q (lexB e lt items.size 0) s) : wpAny (model prog w) A (keyLt' oneType' (.ref l) (.ref b)) Q E s := by
  have hT : s.TypeIs (.ref l) "list" := ⟨_, hl, rfl⟩
  rw [keyLt'_oneType, oneLt'_eq]
  simp only [if_true]
  refine wpAny_bind (wpAny_cRoomFor hu ?_)
  refine wpAny_bind (wpAny_callSpecialIfBound?_slot hT PySem.F.slot_list_lt (call_meets PySem.F.slot_list_lt hT PySem.F.entry_list_lt (PySem.F.args_list_lt_2 _ _) (list_lt l b items items2 n n2 hsz e lt he hl') ⟨hl, hb, ?_⟩))
  exact wpAny_truthy_bool h
end
/-- the sort, asked: with the answers of an order -/
def runK {α : Type} (lt : Nat → Nat → Bool) : KasT α → Option α
  | .ret a => some a
  | .ask i j k => if i < 6 ∧ j < 6 then runK lt (k (lt i j)) else none
theorem kasWp_run {α : Type} {cmp : Nat → Nat → (Bool → Shared → Prop) → Shared → Prop} {lt : Nat → Nat → Bool} {Inv : Shared → Prop} (hc : ∀ i j, i < 6 → j < 6 → ∀ C s, Inv s → (∀ s', Inv s' → C (lt i j) s') → cmp i j C s) :
    ∀ (t : KasT α) (a : α) (Q : α → Shared → Prop) (s : Shared), runK lt t = some a → Inv s → (∀ s', Inv s' → Q a s') → t.kasWp cmp Q s
  | .ret b, a, Q, s, h, hi, hq => by
    cases (show some b = some a from h)
    exact hq s hi
  | .ask i j k, a, Q, s, h, hi, hq => by
    have h : (if i < 6 ∧ j < 6 then runK lt (k (lt i j)) else none) = some a := h
    by_cases hij : i < 6 ∧ j < 6
    · rw [if_pos hij] at h
      exact hc i j hij.1 hij.2 _ s hi fun s' hi' => kasWp_run hc (k (lt i j)) a Q s' h hi' hq
    · rw [if_neg hij] at h; cases h
/-- by the ranks of six things -/
def ltR (r : List Nat) (i j : Nat) : Bool := decide (r.getD i 0 < r.getD j 0)
def okRun (r : List Nat) : Bool := match runK (ltR r) (kas_sort 6) with
  | some p => p.toList.map (fun i => r.getD i 0) == [0, 1, 2, 3, 4, 5] && p.toList.all (fun i => decide (i < 6))
  | none => false
def okAfter (a : Nat) : Bool := (List.range 6).all fun b => b == a || (List.range 6).all fun c => c == a || c == b || (List.range 6).all fun d => d == a || d == b || d == c || (List.range 6).all fun e => e == a || e == b || e == c || e == d || (List.range 6).all fun f =>
  f == a || f == b || f == c || f == d || f == e || okRun [a, b, c, d, e, f]
theorem ok0 : okAfter 0 = true := by decide +kernel
theorem ok1 : okAfter 1 = true := by decide +kernel
theorem ok2 : okAfter 2 = true := by decide +kernel
theorem ok3 : okAfter 3 = true := by decide +kernel
theorem ok4 : okAfter 4 = true := by decide +kernel
theorem ok5 : okAfter 5 = true := by decide +kernel
theorem ok_all {a b c d e f : Nat} (hn : [a, b, c, d, e, f].Nodup) (hl : ∀ x ∈ [a, b, c, d, e, f], x < 6) : okRun [a, b, c, d, e, f] = true := by
  have ha : okAfter a = true := by
    have := hl a (.head _)
    rcases (by omega : a = 0 ∨ a = 1 ∨ a = 2 ∨ a = 3 ∨ a = 4 ∨ a = 5) with rfl | rfl | rfl | rfl | rfl | rfl
    · exact ok0
    · exact ok1
    · exact ok2
    · exact ok3
    · exact ok4
    · exact ok5
  simp only [List.nodup_cons, List.mem_cons, List.not_mem_nil, or_false, not_or] at hn
  obtain ⟨⟨h1, h2, h3, h4, h5⟩, ⟨h6, h7, h8, h9⟩, ⟨h10, h11, h12⟩, ⟨h13, h14⟩, h15, _⟩ := hn
  have hb := List.all_eq_true.mp ha b (List.mem_range.mpr (hl b (by simp)))
  simp only [Bool.or_eq_true, beq_iff_eq] at hb
  have hb := (hb.resolve_left (fun e => h1 e.symm))
  have hc := List.all_eq_true.mp hb c (List.mem_range.mpr (hl c (by simp)))
  simp only [Bool.or_eq_true, beq_iff_eq] at hc
  have hc := hc.resolve_left (fun e => e.elim (fun e => h2 e.symm) (fun e => h6 e.symm))
  have hd := List.all_eq_true.mp hc d (List.mem_range.mpr (hl d (by simp)))
  simp only [Bool.or_eq_true, beq_iff_eq] at hd
  have hd := hd.resolve_left (fun e => e.elim (fun e => e.elim (fun e => h3 e.symm) (fun e => h7 e.symm)) (fun e => h10 e.symm))
  have he := List.all_eq_true.mp hd e (List.mem_range.mpr (hl e (by simp)))
  simp only [Bool.or_eq_true, beq_iff_eq] at he
  have he := he.resolve_left (fun e => e.elim (fun e => e.elim (fun e => e.elim (fun e => h4 e.symm) (fun e => h8 e.symm)) (fun e => h11 e.symm)) (fun e => h13 e.symm))
  have hf := List.all_eq_true.mp he f (List.mem_range.mpr (hl f (by simp)))
  simp only [Bool.or_eq_true, beq_iff_eq] at hf
  exact hf.resolve_left (fun e => e.elim (fun e => e.elim (fun e => e.elim (fun e => e.elim (fun e => h5 e.symm) (fun e => h9 e.symm)) (fun e => h12 e.symm)) (fun e => h14 e.symm)) (fun e => h15 e.symm))
end Mine
end
section
open PySem PySem.W PyProof.Rows PySem.Calls
namespace Mine
set_option maxRecDepth 100000
theorem runK_congr {α : Type} {lt lt' : Nat → Nat → Bool} (h : ∀ i j, i < 6 → j < 6 → lt i j = lt' i j) : ∀ t : KasT α, runK lt t = runK lt' t
  | .ret _ => rfl
  | .ask i j k => by
    show (if i < 6 ∧ j < 6 then runK lt (k (lt i j)) else none) = (if i < 6 ∧ j < 6 then runK lt' (k (lt' i j)) else none)
    by_cases hij : i < 6 ∧ j < 6
    · rw [if_pos hij, if_pos hij, h i j hij.1 hij.2]
      exact runK_congr h _
    · rw [if_neg hij, if_neg hij]
/-- a strict order of six things -/
structure Ord6 (lt : Nat → Nat → Bool) : Prop where
  irr : ∀ i, i < 6 → lt i i = false
  trans : ∀ i j k, i < 6 → j < 6 → k < 6 → lt i j = true → lt j k = true → lt i k = true
  tot : ∀ i j, i < 6 → j < 6 → i ≠ j → lt i j = true ∨ lt j i = true
def rank (lt : Nat → Nat → Bool) (i : Nat) : Nat := ((List.range 6).filter fun j => lt j i).length
theorem filter_le {α : Type} {p q : α → Bool} : ∀ {l : List α}, (∀ a ∈ l, p a = true → q a = true) → (l.filter p).length ≤ (l.filter q).length
  | [], _ => Nat.le_refl _
  | a :: l, h => by
    have ih := filter_le (l := l) fun b hb => h b (.tail _ hb)
    cases hp : p a with
    | true =>
      have hq := h a (.head _) hp
      rw [List.filter_cons_of_pos hp, List.filter_cons_of_pos hq]
      exact Nat.succ_le_succ ih
    | false =>
      rw [List.filter_cons_of_neg (by simp [hp])]
      cases hq : q a with
      | true => rw [List.filter_cons_of_pos hq]; exact Nat.le_succ_of_le ih
      | false => rw [List.filter_cons_of_neg (by simp [hq])]; exact ih
theorem filter_lt {α : Type} {p q : α → Bool} : ∀ {l : List α}, (∀ a ∈ l, p a = true → q a = true) → (∃ a ∈ l, p a = false ∧ q a = true) → (l.filter p).length < (l.filter q).length
  | [], _, ⟨_, h, _⟩ => nomatch h
  | a :: l, h, ⟨b, hb, h1, h2⟩ => by
    have hl : ∀ b ∈ l, p b = true → q b = true := fun b hb => h b (.tail _ hb)
    rcases List.mem_cons.mp hb with rfl | hb
    · rw [List.filter_cons_of_neg (by simp [h1]), List.filter_cons_of_pos h2]
      exact Nat.lt_succ_of_le (filter_le hl)
    · have ih := filter_lt (l := l) hl ⟨b, hb, h1, h2⟩
      cases hp : p a with
      | true =>
        have hq := h a (.head _) hp
        rw [List.filter_cons_of_pos hp, List.filter_cons_of_pos hq]
        exact Nat.succ_lt_succ ih
      | false =>
        rw [List.filter_cons_of_neg (by simp [hp])]
        cases hq : q a with
        | true => rw [List.filter_cons_of_pos hq]; exact Nat.lt_succ_of_lt ih
        | false => rw [List.filter_cons_of_neg (by simp [hq])]; exact ih
variable {lt : Nat → Nat → Bool}
theorem Ord6.rank_lt (O : Ord6 lt) {i j : Nat} (hi : i < 6) (hj : j < 6) (h : lt i j = true) : rank lt i < rank lt j :=
  filter_lt (fun k hk hki => O.trans k i j (List.mem_range.mp hk) hi hj hki h) ⟨i, List.mem_range.mpr hi, O.irr i hi, h⟩
theorem Ord6.rank_iff (O : Ord6 lt) {i j : Nat} (hi : i < 6) (hj : j < 6) : lt i j = decide (rank lt i < rank lt j) := by
  cases h : lt i j with
  | true => exact (decide_eq_true (O.rank_lt hi hj h)).symm
  | false =>
    refine (decide_eq_false fun hr => ?_).symm
    by_cases e : i = j
    · subst e; exact Nat.lt_irrefl _ hr
    · rcases O.tot i j hi hj e with h' | h'
      · rw [h] at h'; cases h'
      · exact Nat.lt_asymm hr (O.rank_lt hj hi h')
theorem Ord6.rank_inj (O : Ord6 lt) {i j : Nat} (hi : i < 6) (hj : j < 6) (h : rank lt i = rank lt j) : i = j := by
  by_cases e : i = j
  · exact e
  · rcases O.tot i j hi hj e with h' | h'
    · have := O.rank_lt hi hj h'; omega
    · have := O.rank_lt hj hi h'; omega
theorem Ord6.rank_six (O : Ord6 lt) {i : Nat} (hi : i < 6) : rank lt i < 6 := by
  have : rank lt i < ((List.range 6).filter fun _ => true).length := filter_lt (fun _ _ _ => rfl) ⟨i, List.mem_range.mpr hi, O.irr i hi, rfl⟩
  have e : ((List.range 6).filter fun _ => true).length = 6 := rfl
  omega
def ranks (lt : Nat → Nat → Bool) : List Nat := [rank lt 0, rank lt 1, rank lt 2, rank lt 3, rank lt 4, rank lt 5]
theorem ranks_at {i : Nat} (hi : i < 6) : (ranks lt).getD i 0 = rank lt i := by
  rcases (by omega : i = 0 ∨ i = 1 ∨ i = 2 ∨ i = 3 ∨ i = 4 ∨ i = 5) with rfl | rfl | rfl | rfl | rfl | rfl <;> rfl
theorem Ord6.sort (O : Ord6 lt) : ∃ p : Array Nat, runK lt (kas_sort 6) = some p ∧ (∀ i, i ∈ p.toList ↔ i < 6) ∧ p.toList.Pairwise (fun i j => lt i j = true) := by
  have hne : ∀ i j, i < 6 → j < 6 → i ≠ j → rank lt i ≠ rank lt j := fun i j hi hj h e => h (O.rank_inj hi hj e)
  have hok : okRun (ranks lt) = true := by
    refine ok_all ?_ ?_
    · simp only [List.nodup_cons, List.mem_cons, List.not_mem_nil, or_false, not_or]
      refine ⟨⟨?_, ?_, ?_, ?_, ?_⟩, ⟨?_, ?_, ?_, ?_⟩, ⟨?_, ?_, ?_⟩, ⟨?_, ?_⟩, ?_, ?_⟩
      all_goals first | exact hne _ _ (by decide) (by decide) (by decide) | simp
    · intro x hx
      simp only [List.mem_cons, List.not_mem_nil, or_false] at hx
      rcases hx with rfl | rfl | rfl | rfl | rfl | rfl <;> exact O.rank_six (by decide)
  have hcg : ∀ i j, i < 6 → j < 6 → lt i j = ltR (ranks lt) i j := fun i j hi hj => by
    unfold ltR
    rw [ranks_at hi, ranks_at hj]
    exact O.rank_iff hi hj
  unfold okRun at hok
  rw [runK_congr hcg]
  cases hr : runK (ltR (ranks lt)) (kas_sort 6) with
  | none => rw [hr] at hok; cases hok
  | some p =>
    rw [hr] at hok
    simp only [Bool.and_eq_true, beq_iff_eq, List.all_eq_true, decide_eq_true_eq] at hok
    obtain ⟨h1, h2⟩ := hok
    refine ⟨p, rfl, fun i => ⟨h2 i, fun hi => ?_⟩, ?_⟩
    · have : rank lt i ∈ p.toList.map fun i => (ranks lt).getD i 0 := by
        rw [h1]
        have := O.rank_six hi
        simp only [List.mem_cons, List.not_mem_nil, or_false]
        omega
      obtain ⟨j, hj, e⟩ := List.mem_map.mp this
      rw [ranks_at (h2 j hj)] at e
      exact (O.rank_inj (h2 j hj) hi e) ▸ hj
    · have hp : (p.toList.map fun i => (ranks lt).getD i 0).Pairwise (· < ·) := by rw [h1]; decide
      rw [List.pairwise_map] at hp
      refine hp.imp_of_mem fun {i j} hi hj h => ?_
      rw [ranks_at (h2 i hi), ranks_at (h2 j hj)] at h
      rw [O.rank_iff (h2 i hi) (h2 j hj)]
      exact decide_eq_true h
/-- two lists of the same things in one strict order are one list -/
theorem Ord6.uniq (O : Ord6 lt) : ∀ {l l' : List Nat}, (∀ i ∈ l, i < 6) → (∀ i, i ∈ l ↔ i ∈ l') → l.Pairwise (fun i j => lt i j = true) → l'.Pairwise (fun i j => lt i j = true) → l = l'
  | [], l', _, hm, _, _ => by
    cases l' with
    | nil => rfl
    | cons b t => exact absurd ((hm b).mpr (.head _)) (by simp)
  | a :: t, l', hs, hm, h1, h2 => by
    cases l' with
    | nil => exact absurd ((hm a).mp (.head _)) (by simp)
    | cons b t' =>
      have ha6 := hs a (.head _)
      have hb6 := hs b ((hm b).mpr (.head _))
      obtain ⟨h1a, h1t⟩ := List.pairwise_cons.mp h1
      obtain ⟨h2b, h2t⟩ := List.pairwise_cons.mp h2
      have e : a = b := by
        rcases List.mem_cons.mp ((hm a).mp (.head _)) with e | e
        · exact e
        · rcases List.mem_cons.mp ((hm b).mpr (.head _)) with e' | e'
          · exact e'.symm
          · have := O.trans a b a ha6 hb6 ha6 (h1a b e') (h2b a e)
            rw [O.irr a ha6] at this; cases this
      subst e
      congr 1
      refine O.uniq (fun i hi => hs i (.tail _ hi)) (fun i => ⟨fun hi => ?_, fun hi => ?_⟩) h1t h2t
      · rcases List.mem_cons.mp ((hm i).mp (.tail _ hi)) with rfl | h
        · have := h1a i hi; rw [O.irr i ha6] at this; cases this
        · exact h
      · rcases List.mem_cons.mp ((hm i).mpr (.tail _ hi)) with rfl | h
        · have := h2b i hi; rw [O.irr i ha6] at this; cases this
        · exact h
end Mine
end
section
open PySem PySem.W PyProof.Rows PySem.Calls
namespace Mine
set_option maxRecDepth 100000
theorem kind_issn : builtinKind "issubclass.nested" = none := by decide +kernel
theorem plain_issn : plainId "issubclass.nested" = true := by decide +kernel
theorem args_issn (a b c : Value) : argsOk "issubclass.nested" ⟨[a, b, c], []⟩ := by unfold argsOk; kernel_rfl
section
variable {prog : Program} {w : World} {A : Around} {E : Value → Shared → Prop} {s : Shared}
theorem issn_str {k : Value} {dep : Int} {tk : Tok} {Q : Fin → Shared → Prop} (hk : k = .int dep tk) (hq : Q (.done (.ret (.bool true))) s) :
    wpAny (model prog w) A (Builtin.«issubclass.nested» ⟨[.type "str", .type "str", k], []⟩) Q E s := by
  subst hk
  have hm := F.isi_meta_str
  have hself := F.sub_str_str
  repeat (any_goals (first | assumption | (rw [if_pos hm]) | (rw [hself]) | wp_step))
theorem meets_issn (dep : Int) (tk : Tok) : Meets (Builtin.«issubclass.nested» ⟨[.type "str", .type "str", .int dep tk], []⟩) (fun _ R s => R (.ok (.ret (.bool true))) s) :=
  fun _ _ _ _ _ hs => issn_str rfl hs

theorem issn_tuple {tp : Addr} {c : Value} {n : Nat} {tk : Tok} {Q : Fin → Shared → Prop}
    (htp : s.heap.get? tp = some { cls := .type "tuple", data := .seq #[.type "str", c] n })
    (hq : Q (.done (.ret (.bool true))) s) : wpAny (model prog w) A (Builtin.«issubclass.nested» ⟨[.type "str", .ref tp, .int 0 tk], []⟩) Q E s := by
  obtain ⟨h, g, d, t, os⟩ := s
  have hT2 : (⟨h, g, d, t, os⟩ : Shared).TypeIs (.ref tp) "tuple" := ⟨_, htp, rfl⟩
  have f1 := F.isi_sub_tuple
  repeat (any_goals (first | assumption | (refine wpAny_bind (call_function_meets kind_issn plain_issn F.entry_issubclass_nested (args_issn _ _ _) (meets_issn _ _) ?_); dsimp only [wants]) | wp_step))
  all_goals trace_state

theorem meets_iss (tp : Addr) (c : Value) (n : Nat) : Meets (Builtin.«issubclass» ⟨[.type "str", .ref tp], []⟩) (fun _ R s => s.heap.get? tp = some { cls := .type "tuple", data := .seq #[.type "str", c] n } ∧ R (.ok (.ret (.bool true))) s) :=
  fun _ _ _ _ _ hs => issubclass_outer (issn_tuple hs.1 hs.2)
theorem call_iss {tp : Addr} {c : Value} {n : Nat} {Q : Value → Shared → Prop} (htp : s.heap.get? tp = some { cls := .type "tuple", data := .seq #[.type "str", c] n }) (h : Q (.bool true) s) :
    wpAny (model prog w) A (call (.builtin "issubclass") [.type "str", .ref tp]) Q E s :=
  call_issubclass (meets_iss tp c n) ⟨htp, h⟩
end
end Mine
end
section
open PySem PySem.W PyProof.Rows PySem.Calls
theorem Mine.off_UnPath {M : Model} {A : Around} {env : Env} {Q : Flow → Shared → Prop} {E : Value → Shared → Prop} {s : Shared} (h : wpAny M A (execs [] env) Q E s) : wpAny M A (execs [] env) Q E s := by
  try (walk1; fail)
  w_top off
  exact h
end
section
open PySem PySem.W PyProof.Rows PySem.Calls
namespace Mine
section
local macro_rules | `(tactic| walk_at "call builtin:issubclass") => `(tactic| (k_here; k_dflt (refine' call_iss (News.get ?N ?m) ?_; (case N => k_asm); (case m => k_mem); k_whole)))
set_option maxRecDepth 100000 in
set_option maxHeartbeats 2000000 in
theorem c_fspath {w : World} {h₀ : Heap} {s : Shared} {p : Str} {t : Tok}
   {R : Result → Shared → Prop}
   (Y : Rdy w h₀) (sy : ∀ b o, h₀.get? b = some o → s.heap.get? b = some o)
   (hR : ∀ h' tk, Out h₀ s.heap h' [] [] → R (.ok (.ret (.str p t))) { s with heap := h', toks := tk })
   : codeAny (model PP w) (AAt 900) (.call (.ref 136) ⟨[.str p t], []⟩) R s := by
  refine enterP (binds := [("path", .str p t)]) (cells := []) Y sy (fun _ h => nomatch h) (by k_is) (by k_is) (by k_room) (BindsTo.of_eq rfl) (locs rfl) ?_ (by decide) rfl rfl rfl
  intro g L h₁ I F N hlt hLs
  clear hlt
  obtain ⟨X, ⟨p, loose, mean, mg, mb, T⟩, CH⟩ := id I.Y
  have YY := I.Y
  show wpAny _ _ _ _ _ _
  k_fold
  k_steps
  rename Fr g L _ _ => F9
  rename News g L _ _ => N9
  exact hR _ _ ((I.out F9 N9).sub (fun _ h => nomatch h))

set_option maxRecDepth 100000 in
set_option maxHeartbeats 2000000 in
theorem c_sep {w : World} {h₀ : Heap} {s : Shared} {p : Str} {t : Tok}
   {R : Result → Shared → Prop}
   (Y : Rdy w h₀) (sy : ∀ b o, h₀.get? b = some o → s.heap.get? b = some o)
   (hR : ∀ h' tk u, Out h₀ s.heap h' [] [] → R (.ok (.ret (.str (Str.ofString "/") u))) { s with heap := h', toks := tk })
   : codeAny (model PP w) (AAt 900) (.call (.ref 150) ⟨[.str p t], []⟩) R s := by
  refine enterP (binds := [("path", .str p t)]) (cells := []) Y sy (fun _ h => nomatch h) (by k_is) (by k_is) (by k_room) (BindsTo.of_eq rfl) (locs rfl) ?_ (by decide) rfl rfl rfl
  intro g L h₁ I F N hlt hLs
  clear hlt
  obtain ⟨X, ⟨p, loose, mean, mg, mb, T⟩, CH⟩ := id I.Y
  have YY := I.Y
  show wpAny _ _ _ _ _ _
  k_fold
  k_steps
  rename Fr g L _ _ => F9
  rename News g L _ _ => N9
  exact hR _ _ _ ((I.out F9 N9).sub (fun _ h => nomatch h))

theorem s_fspath {w : World} {A : Around} {E : Value → Shared → Prop} {s : Shared} {h₀ : Heap} {L : Addr} {m : Str → Option Value} {news : List (Addr × Obj)} {p : Str} {t : Tok} {Q : Value → Shared → Prop}
    (h0 : A.handled = none) (h1 : A.depth ≤ 900) (h2 : A.units ≤ 4 * 900) (F : Fr h₀ L s.heap m) (N : News h₀ L s.heap news) (Y : Rdy w h₀)
    (hQ : ∀ h' tk, Fr h₀ L h' m → News h₀ L h' news → Q (.str p t) { s with heap := h', toks := tk }) : wpAny (model PP w) A (call (.ref 136) [.str p t] []) Q E s := by
  refine wpAny_call (siteC 900 h0 h1 h2 (c_fspath Y (fun b o e => F.keep b o e) fun h' tk O => ?_))
  obtain ⟨F', N'⟩ := back0 F N O
  exact hQ h' tk F' N'
theorem s_sep {w : World} {A : Around} {E : Value → Shared → Prop} {s : Shared} {h₀ : Heap} {L : Addr} {m : Str → Option Value} {news : List (Addr × Obj)} {p : Str} {t : Tok} {Q : Value → Shared → Prop}
    (h0 : A.handled = none) (h1 : A.depth ≤ 900) (h2 : A.units ≤ 4 * 900) (F : Fr h₀ L s.heap m) (N : News h₀ L s.heap news) (Y : Rdy w h₀)
    (hQ : ∀ h' tk u, Fr h₀ L h' m → News h₀ L h' news → Q (.str (Str.ofString "/") u) { s with heap := h', toks := tk }) : wpAny (model PP w) A (call (.ref 150) [.str p t] []) Q E s := by
  refine wpAny_call (siteC 900 h0 h1 h2 (c_sep Y (fun b o e => F.keep b o e) fun h' tk u O => ?_))
  obtain ⟨F', N'⟩ := back0 F N O
  exact hQ h' tk u F' N'
end
end Mine
end
section
open PySem PySem.W PyProof.Rows PySem.Calls
namespace Mine
set_option maxRecDepth 100000
theorem wp_alloc1 {α : Type} {K : Frag} {M : Model} {A : Around} {E : Value → Shared → Prop} {Q : α → Shared → Prop} {s : Shared} {o : Obj} {r : α}
    (X : K.In s.heap) (q : Q r { s with heap := s.heap.push o }) :
    ∀ (t : Sem α) (g : Addr → Option α), peek1 K ⟨M.prog, M.w.params⟩ t = some (o, g) → g s.heap.objs.size = some r → wpAny M A t Q E s := by
  intro t
  induction t with
  | rule _ k ih => intro g e hg Γ p hΓ; exact ih () g e hg Γ p hΓ
  | point _ k ih => intro g e hg Γ p hΓ; exact ih () g e hg Γ p hΓ
  | ask k ih => intro g e hg Γ p hΓ; exact ih _ g e hg Γ p hΓ
  | load a _ k ih =>
    intro g e hg Γ p hΓ
    simp only [peek1] at e
    split at e
    · rename_i ob ho; exact ⟨ob, X _ _ ho, ih ob g e hg Γ p hΓ⟩
    · cases e
  | alloc ob k _ =>
    intro g e hg
    have e : some (ob, fun D => peek K ⟨M.prog, M.w.params⟩ (k D)) = some (o, g) := e
    obtain ⟨e1, e2⟩ := Prod.mk.inj (Option.some.inj e)
    subst e1
    subst e2
    show wpAny M A (alloc ob >>= k) Q E s
    refine wpAny_bind (wpAny_alloc ?_)
    exact (Looks.of_peek (M := M) (h := s.heap.push ob) (X.keeps fun b x hb => Heap.get?_push_of_some _ hb) hg).here (s := { s with heap := s.heap.push ob }) q
  | _ => intro g e; cases e

/-- entering a def of the text that gathers the rest of its arguments -/
theorem enterR {w : World} {A : Around} {s : Shared} {h₀ : Heap} {cells : List (Addr × Obj)} {R : Result → Shared → Prop} {name qual : Str} {params : Arguments} {body : List Stmt} {scope : Scope}
    {dV kV doc pm cdv ct oc : Value} {an od : Option Addr} {osl : Array (Option Value)} {f : Addr} {args : Args} {tup : Obj} {g₁ : Addr → Option (List (Str × Value))} {binds : Addr → List (Str × Value)}
    (Y : Rdy w h₀) (st : ∀ b o, h₀.get? b = some o → s.heap.get? b = some o) (C : Cells h₀ s.heap cells)
    (ho : (hd.heap_1 w.params).lookup f = some ⟨oc, od, .func (fnOf name qual params body scope dV kV doc pm an cdv ct), osl⟩) (hcd : codeIn (hd.heap_1 w.params) cdv qual = true) (hroom : A.depth < recursionLimit)
    (hp : peek1 (hd.heap_1 w.params) ⟨PP, w.params⟩ (bindArgs (fnOf name qual params body scope dV kV doc pm an cdv ct) args) = some (tup, g₁)) (hf : tup.isFreed = false)
    (hg : ∀ D, g₁ D = some (binds D)) (hloc : ∀ D, ∀ y ∈ binds D, scope.names.lookup y.1 = some .local)
    (h : ∀ D g L h₁, Inn w h₀ s.heap g (adrs cells) → Fr g L h₁ (fun y => (binds D).reverse.lookup y) → News g L h₁ ((D, tup) :: cells) → (∀ p ∈ cells, p.1 < D) → D < L →
      wpAny (model PP w) (A.deeper (envOf qual scope L f cdv)) (execs body (envOf qual scope L f cdv))
        (fun fl s' => R (.ok (.ret (match fl with | .ret v => v | _ => .none))) s')
        (fun e s' => wpAny (model PP w) (A.deeper (envOf qual scope L f cdv)) (leaving (envOf qual scope L f cdv) e) (fun _ s'' => R (.error e) s'') (fun e' s'' => R (.error e') s'') s')
        { s with heap := h₁, toks := s.toks + (binds D).length })
    (hcell : ∀ x ∈ scope.names, x.2 ≠ .cell) (hco : scope.isCoroutine = false) (hgen : scope.isGenerator = false) (hk : scope.kind = .function) :
    codeAny (model PP w) A (.call (.ref f) args) R s := by
  have X : (hd.heap_1 w.params).In s.heap := fun b o e => st b o (Y.K b o e)
  have nl : s.heap.NoLimit := let ⟨_, _, _, _, _, T⟩ := Y.T; T.nolimit.keeps st
  have nm : ∀ b o, h₀.get? b = some o → b ∉ adrs cells := fun b o e q => by
    obtain ⟨p, hp, rfl⟩ := List.mem_map.mp q
    rw [(C p hp).2] at e; cases e
  refine codeAny_call_function (fd := fnOf name qual params body scope dV kV doc pm an cdv ct) (body := body) hroom (X _ _ ho) rfl hco hgen rfl (codeRec_of X hcd) ?_
  refine wp_alloc1 (M := model PP w) (o := tup) (r := binds s.heap.objs.size) X ?_ _ g₁ hp (hg _)
  have up : ∀ b o, s.heap.get? b = some o → (s.heap.push tup).get? b = some o := fun b o e => Heap.get?_push_of_some _ e
  have hsz : (s.heap.push tup).objs.size = s.heap.objs.size + 1 := Heap.size_push ..
  have hDo : (s.heap.push tup).get? s.heap.objs.size = some tup := Heap.get?_push_size _ hf
  have hDn : s.heap.get? s.heap.objs.size = none := by
    cases e : s.heap.get? s.heap.objs.size with
    | none => rfl
    | some o' => exact absurd (Heap.lt_size e) (Nat.lt_irrefl _)
  have back : ∀ b o, (s.heap.push tup).get? b = some o → b ≠ s.heap.objs.size → s.heap.get? b = some o := fun b o e hb => by
    rwa [Heap.get?_push_ne _ _ _ hb] at e
  refine wpAny_newFunctionEnv hcell (hloc _) (fun h₁ hns hsb => ⟨(nl.keeps up).fresh _ hsb, codeAny_func ?_⟩) hk
  have hk₁ : ∀ b o, (s.heap.push tup).get? b = some o → h₁.get? b = some o := fun b o e => hsb.extBut b o (Nat.ne_of_lt (Heap.lt_size e)) (Heap.get?_push_of_some _ e)
  have st' : ∀ b o, h₀.get? b = some o → (hideAll (s.heap.push tup) (s.heap.objs.size :: adrs cells)).get? b = some o := fun b o e => hideAll_get _ (up b o (st b o e)) (fun q => by
    rcases List.mem_cons.mp q with rfl | q
    · rw [st _ _ e] at hDn; cases hDn
    · exact nm b o e q)
  refine h s.heap.objs.size (hideAll (s.heap.push tup) (s.heap.objs.size :: adrs cells)) (s.heap.push tup).objs.size h₁
    ⟨Y.keeps st', st', fun b o e hb => hideAll_get _ (up b o e) (fun q => by
      rcases List.mem_cons.mp q with rfl | q
      · rw [e] at hDn; cases hDn
      · exact hb q), fun b o e => back b o (of_hideAll _ e) (fun q => by rw [q, hideAll_none _ (.head _)] at e; cases e), fun b hb => hideAll_none _ (.tail _ hb)⟩
    ⟨hns, fun b o e => hk₁ b o (of_hideAll _ e), Nat.le_of_eq (hideAll_size _ _)⟩ (fun p hp => ?_) (fun p hp => Heap.lt_size (C p hp).1) (by rw [hsz]; exact Nat.lt_succ_self _)
  rcases List.mem_cons.mp hp with rfl | hp
  · exact ⟨hk₁ _ _ hDo, Nat.ne_of_lt (by rw [hsz]; exact Nat.lt_succ_self _), hideAll_none _ (.head _)⟩
  · exact ⟨hk₁ _ _ (up _ _ (C p hp).1), Nat.ne_of_lt (Heap.lt_size (up _ _ (C p hp).1)), hideAll_none _ (.tail _ (List.mem_map_of_mem hp))⟩
end Mine
end
section
open PySem PySem.W PyProof.Rows PySem.Calls
theorem Mine.off_UnDirn {M : Model} {A : Around} {env : Env} {Q : Flow → Shared → Prop} {E : Value → Shared → Prop} {s : Shared} (h : wpAny M A (execs [] env) Q E s) : wpAny M A (execs [] env) Q E s := by
  try (walk1; fail)
  w_top off
  exact h
end
section
open PySem PySem.W PyProof.Rows PySem.Calls
namespace Mine
section
local macro_rules | `(tactic| walk_at "call ref") => `(tactic| (k_here; (with_reducible show wpAny _ _ (call (Value.ref 136) _ _) _ _ _); k_dflt (refine' s_fspath ?k0 ?k1 ?k2 ?k3 ?k4 ?k5 ?_; (case k0 => exact rfl); (case k1 => k_units); (case k2 => k_units); (case k3 => k_asm); (case k4 => k_asm); (case k5 => k_asm); k_whole); (intro h' tk' F' N'; (try k_sweep))))
local macro_rules | `(tactic| walk_at "call ref") => `(tactic| (k_here; (with_reducible show wpAny _ _ (call (Value.ref 150) _ _) _ _ _); k_dflt (refine' s_sep ?k0 ?k1 ?k2 ?k3 ?k4 ?k5 ?_; (case k0 => exact rfl); (case k1 => k_units); (case k2 => k_units); (case k3 => k_asm); (case k4 => k_asm); (case k5 => k_asm); k_whole); (intro h' tk' u' F' N'; (try k_sweep))))
set_option maxRecDepth 100000 in
set_option maxHeartbeats 2000000 in
theorem c_dirname {w : World} {h₀ : Heap} {s : Shared} {q : Str} {t : Tok}
   {R : Result → Shared → Prop}
   (Y : Rdy w h₀) (sy : ∀ b o, h₀.get? b = some o → s.heap.get? b = some o)
   (hq : q.length ≤ 10) {H D : Str} (e1 : Txt.slice q none (some (Txt.rfind q (Str.ofString "/") + 1)) = H) (e2 : H.length ≠ 0) (e3 : (H != Txt.mul (Str.ofString "/") H.length) = true) (e4 : Txt.rstripChars H (Str.ofString "/") = D)
   (hR : ∀ h' tk u, Out h₀ s.heap h' [] [] → R (.ok (.ret (.str D u))) { s with heap := h', toks := tk })
   : codeAny (model PP w) (AAt 800) (.call (.ref 164) ⟨[.str q t], []⟩) R s := by
  refine enterP (binds := [("p", .str q t)]) (cells := []) Y sy (fun _ h => nomatch h) (by k_is) (by k_is) (by k_room) (BindsTo.of_eq rfl) (locs rfl) ?_ (by decide) rfl rfl rfl
  intro g L h₁ I F N hlt hLs
  clear hlt
  obtain ⟨X, ⟨p, loose, mean, mg, mb, T⟩, CH⟩ := id I.Y
  have YY := I.Y
  show wpAny _ _ _ _ _ _
  k_fold
  k_steps
  · rename Fr g _ _ _ => F9
    rename News g _ _ _ => N9
    dsimp only [qk]
    rw [e1, e4]
    exact hR _ _ _ ((I.out F9 N9).sub (fun _ h => nomatch h))
  · rename (_ != _) = false => e5
    rw [e1, e3] at e5
    cases e5
  · rename _ = (0 : Int) => e5
    rw [e1] at e5
    omega
end
end Mine
end
section
open PySem PySem.W PyProof.Rows PySem.Calls
theorem Mine.off_UnJoin {M : Model} {A : Around} {env : Env} {Q : Flow → Shared → Prop} {E : Value → Shared → Prop} {s : Shared} (h : wpAny M A (execs [] env) Q E s) : wpAny M A (execs [] env) Q E s := by
  try (walk1; fail)
  w_top off
  exact h
end
section
open PySem PySem.W PyProof.Rows PySem.Calls
namespace Mine
section
local macro_rules | `(tactic| walk_at "call ref") => `(tactic| (k_here; (with_reducible show wpAny _ _ (call (Value.ref 136) _ _) _ _ _); k_dflt (refine' s_fspath ?k0 ?k1 ?k2 ?k3 ?k4 ?k5 ?_; (case k0 => exact rfl); (case k1 => k_units); (case k2 => k_units); (case k3 => k_asm); (case k4 => k_asm); (case k5 => k_asm); k_whole); (intro h' tk' F' N'; (try k_sweep))))
local macro_rules | `(tactic| walk_at "call ref") => `(tactic| (k_here; (with_reducible show wpAny _ _ (call (Value.ref 150) _ _) _ _ _); k_dflt (refine' s_sep ?k0 ?k1 ?k2 ?k3 ?k4 ?k5 ?_; (case k0 => exact rfl); (case k1 => k_units); (case k2 => k_units); (case k3 => k_asm); (case k4 => k_asm); (case k5 => k_asm); k_whole); (intro h' tk' u' F' N'; (try k_sweep))))
set_option maxRecDepth 100000 in
set_option maxHeartbeats 2000000 in
theorem c_join {w : World} {h₀ : Heap} {s : Shared} {a b : Str} {t u : Tok}
   {R : Result → Shared → Prop}
   (Y : Rdy w h₀) (sy : ∀ b o, h₀.get? b = some o → s.heap.get? b = some o)
   (ha : a.length ≤ 10 ∧ 0 < a.length) (hb : b.length ≤ 10) (hs : Txt.startswith b (Str.ofString "/") = false) (he : Txt.endswith a (Str.ofString "/") = false)
   (hR : ∀ h' tk u, Out h₀ s.heap h' [] [] → R (.ok (.ret (.str (a ++ (Str.ofString "/" ++ b)) u))) { s with heap := h', toks := tk })
   : codeAny (model PP w) (AAt 800) (.call (.ref 157) ⟨[.str a t, .str b u], []⟩) R s := by
  refine enterR (binds := fun D => [("a", .str a t), ("p", .ref D)]) (cells := []) Y sy (fun _ h => nomatch h) (by k_is) (by k_is) (by k_room) rfl rfl (fun _ => rfl) (fun _ => locs rfl) ?_ (by decide) rfl rfl rfl
  intro D g L h₁ I F N _ hlt
  obtain ⟨X, ⟨p, loose, mean, mg, mb, T⟩, CH⟩ := id I.Y
  have YY := I.Y
  show wpAny _ _ _ _ _ _
  k_fold
  k_steps
  · rename Fr g _ _ _ => F9
    rename News g _ _ _ => N9
    dsimp only [qk]
    exact hR _ _ _ ((I.out F9 N9).sub (fun _ h => nomatch h))
  · omega
end
end Mine
end
section
open PySem PySem.W PyProof.Rows PySem.Calls PyProof.Rows.LCg
namespace Mine
set_option maxRecDepth 100000
section
variable {w : World} {A : Around} {E : Value → Shared → Prop} {s : Shared} {g : Heap} {L : Addr} {m : Str → Option Value} {env : Env}

theorem but_fr {h h' : Heap} {wr : List Addr} (F : Fr g L h m) (hk : ∀ b o, b ∉ wr → h.get? b = some o → h'.get? b = some o) (hL : L ∉ wr) (hg : ∀ b ∈ wr, g.get? b = none) : Fr g L h' m :=
  ⟨F.ns.at' fun o e => hk L o hL e, fun b o e => hk b o (fun hm => by rw [hg b hm] at e; cases e) (F.keep b o e), F.above⟩
theorem but_news {h h' : Heap} {wr : List Addr} {news : List (Addr × Obj)} (N : News g L h news) (hk : ∀ b o, b ∉ wr → h.get? b = some o → h'.get? b = some o) (off : ∀ p ∈ news, p.1 ∉ wr) : News g L h' news :=
  fun p hp => ⟨hk _ _ (off p hp) (N p hp).1, (N p hp).2⟩

/-- one turn of a list block, and what it has to bring -/
def StepL (w : World) (A : Around) (g : Heap) (L : Addr) (m : Str → Option Value) (cenv : Env) (target elt : Expr) (n : Nat) (P : Nat → Value → Heap → Prop) (Z : List (Addr × Obj)) (G : List Value → List (Addr × Obj) → Prop) (s : Shared) (C D : Addr) : Prop :=
  ∀ i v ys X oC own h tk m' (Q : Value → Shared → Prop) (E' : Value → Shared → Prop), i < n → ys.length = i → P i v h → NsObj oC m' → G ys X → (∀ p ∈ own, p.1 < C) → (∀ p ∈ X, C < p.1) → (∀ p ∈ Z, p.1 < D) → D < C → Fr g L h m →
    News g L h ((C, oC) :: (D, lst ys) :: (own ++ X ++ Z)) →
    (∀ h' tk' X' oC' m'' y, Fr g L h' m → News g L h' ((C, oC') :: (D, lst ys) :: (own ++ X' ++ Z)) → NsObj oC' m'' → G (ys ++ [y]) X' → (∀ p ∈ X', C < p.1) → Q y { s with heap := h', toks := tk' }) →
    wpAny (model PP w) A (assign target cenv v) (fun _ s₂ => wpAny (model PP w) A (eval elt cenv) Q E' s₂) E' { s with heap := h, toks := tk }

theorem compL_loop {target elt iter : Expr} {scope : Scope} {pos : Pos} {cenv : Env} {I C D : Addr} {fp wr : List Addr} {n : Nat} {P Md : Nat → Value → Heap → Prop} {St : Nat → Heap → Prop} {Z : List (Addr × Obj)} {G : List Value → List (Addr × Obj) → Prop} {R : Result → Shared → Prop}
    (W : KTurns PP w A target I fp wr n P Md St) (hsz : n ≤ sizeLine) (hfp : ∀ b ∈ fp, b < C) (hDC : D < C) (hDf : D ∉ fp) (hwr : ∀ b ∈ wr, g.get? b = none) (hLf : L ∉ fp)
    (hZ : ∀ p ∈ Z, p.1 ∉ wr) (hZD : ∀ p ∈ Z, p.1 < D) {oC : Obj} {m' : Str → Option Value} (hst : St 0 s.heap) (F : Fr g L s.heap m) (N : News g L s.heap ((C, oC) :: (D, lst []) :: Z)) (hC : NsObj oC m') (hG : G [] [])
    (step : StepL w A g L m cenv target elt n P Z G s C D)
    (hR : ∀ h tk ys X oC m', ys.length = n → G ys X → (∀ p ∈ X, C < p.1) → Fr g L h m → News g L h ((C, oC) :: (D, lst ys) :: (X ++ Z)) → NsObj oC m' → R (.ok .next) { s with heap := h, toks := tk }) :
    codeAny (model PP w) A (.compLoop (.ListComp elt [⟨target, iter, [], 0⟩] scope pos) 0 (.ref I) (.ref D) cenv) R s := by
  have hLw : L ∉ wr := fun h => hLf (W.sub _ h)
  have hwC : ∀ b ∈ wr, b < C := fun b hb => hfp b (W.sub _ hb)
  refine kcp_loop
    (fun k s' => ∃ h' tk i ys X oC m', s' = { s with heap := h', toks := tk } ∧ i ≤ n ∧ k = n + 1 - i ∧ ys.length = i ∧ St i h' ∧ Fr g L h' m ∧ News g L h' ((C, oC) :: (D, lst ys) :: (X ++ Z)) ∧ NsObj oC m' ∧ G ys X ∧ ∀ p ∈ X, C < p.1) ?_ (n + 1)
    ⟨s.heap, s.toks, 0, [], [], oC, m', rfl, Nat.zero_le _, rfl, rfl, hst, F, N, hC, hG, fun _ h => nomatch h⟩
  rintro k s' ⟨h', tk, i, ys, X, oC, m', rfl, hi, rfl, hyl, hst', F', N', hC', hG', hX'⟩
  have offw : ∀ p ∈ (C, oC) :: (D, lst ys) :: (X ++ Z), p.1 ∉ wr := fun p hp hm => by
    rcases List.mem_cons.mp hp with rfl | hp
    · exact Nat.lt_irrefl _ (hwC _ hm)
    rcases List.mem_cons.mp hp with rfl | hp
    · exact hDf (W.sub _ hm)
    rcases List.mem_append.mp hp with hp | hp
    · exact Nat.lt_asymm (hX' p hp) (hwC _ hm)
    · exact hZ p hp hm
  by_cases hlt : i < n
  · refine W.item i _ _ _ hlt hst' fun v h₂ tk₂ hMd hk₂ => ?_
    refine W.go i v _ _ _ hMd fun h₃ hP hst₃ hk₃ => ?_
    have hk : ∀ b o, b ∉ wr → h'.get? b = some o → h₃.get? b = some o := fun b o hb e => hk₃ b o hb (hk₂ b o hb e)
    have F₃ := but_fr F' hk hLw hwr
    have N₃ := but_news N' hk offw
    have No : News g L h₃ (PyProof.Rows.ownOf g fp h₃) := news_ownOf hLf
    have hown : ∀ p ∈ PyProof.Rows.ownOf g fp h₃, p.1 < C := fun p hp => hfp _ (ownOf_sub p hp)
    refine wpAny_mono (step i v ys X oC (PyProof.Rows.ownOf g fp h₃) h₃ tk₂ m' (fun y s₄ => ∃ h₄ tk₄ X' oC' m'', s₄ = { s with heap := h₄, toks := tk₄ } ∧ Fr g L h₄ m ∧ News g L h₄ ((C, oC') :: (D, lst ys) :: (PyProof.Rows.ownOf g fp h₃ ++ X' ++ Z)) ∧ NsObj oC' m'' ∧ G (ys ++ [y]) X' ∧ ∀ p ∈ X', C < p.1) _ hlt hyl hP hC' hG' hown hX' hZD hDC F₃ ?_ ?_)
      (fun _ s₂ h₂ => wpAny_mono h₂ (fun y s₄ h₄ => ?_) fun _ _ e => e) fun _ _ e => e
    · intro p hp
      simp only [List.mem_cons, List.mem_append] at hp
      rcases hp with hp | hp | (hp | hp) | hp
      · exact N₃ p (by simp [hp])
      · exact N₃ p (by simp [hp])
      · exact No p hp
      · exact N₃ p (by simp [hp])
      · exact N₃ p (by simp [hp])
    · intro h₄ tk₄ X' oC' m'' y F₄ N₄ hC₄ hG₄ hX₄
      exact ⟨h₄, tk₄, X', oC', m'', rfl, F₄, N₄, hC₄, hG₄, hX₄⟩
    · obtain ⟨h₄, tk₄, X', oC', m'', rfl, F₄, N₄, hC₄, hG₄, hX₄⟩ := h₄
      have hst₄ : St (i + 1) h₄ := W.frame _ _ _ hst₃ fun b hb o e => by
        cases hn : g.get? b with
        | some o₀ =>
          have : o₀ = o := by have q := F₃.keep b o₀ hn; rw [e] at q; exact (Option.some.inj q).symm
          exact this ▸ F₄.keep b o₀ hn
        | none => exact (N₄ _ (List.mem_cons_of_mem _ (List.mem_cons_of_mem _ (List.mem_append_left _ (List.mem_append_left _ (mem_ownOf hb hn e)))))).1
      have zD := N₄ (D, lst ys) (by simp)
      refine append_at (hsz := by show ys.toArray.size ≤ sizeLine; rw [List.size_toArray, hyl]; exact Nat.le_trans hi hsz) zD.1 fun h₅ hs₅ hD₅ => ?_
      refine ⟨n + 1 - (i + 1), by omega, h₅, tk₄, i + 1, ys ++ [y], X', oC', m'', rfl, hlt, rfl, by rw [List.length_append, List.length_singleton, hyl],
        W.frame _ _ _ hst₄ fun b hb o e => hs₅.extBut b o (fun q => hDf (q ▸ hb)) e, F₄.change hs₅ zD.2.1 zD.2.2, fun p hp => ?_, hC₄, hG₄, hX₄⟩
      simp only [List.mem_cons, List.mem_append] at hp
      rcases hp with rfl | rfl | hp | hp
      · have z := N₄ (C, oC') (by simp)
        exact ⟨hs₅.extBut _ _ (Nat.ne_of_gt hDC) z.1, z.2⟩
      · exact ⟨hD₅.trans (congrArg some (lst_snoc ys y)), zD.2⟩
      · have z := N₄ p (by simp [hp])
        exact ⟨hs₅.extBut _ _ (Nat.ne_of_gt (Nat.lt_trans hDC (hX₄ p hp))) z.1, z.2⟩
      · have z := N₄ p (by simp [hp])
        exact ⟨hs₅.extBut _ _ (Nat.ne_of_lt (hZD p hp)) z.1, z.2⟩
  · obtain rfl : i = n := Nat.le_antisymm hi (Nat.not_lt.mp hlt)
    refine W.done _ _ _ hst' fun h₂ tk₂ hk₂ => ?_
    exact hR h₂ tk₂ ys X oC m' hyl hG' hX' (but_fr F' hk₂ hLw hwr) (but_news N' hk₂ offw) hC'

/-- where a block draws from -/
def SrcL (w : World) (A : Around) (g : Heap) (L : Addr) (m : Str → Option Value) (env : Env) (target elt : Expr) (scope : Scope) (cl : List (Str × Addr)) (Fin : Shared → Addr → List Value → List (Addr × Obj) → List (Addr × Obj) → Prop) (it : Value) (s₂ : Shared) : Prop :=
  ∃ I fp wr n P Md St Z G, it = .ref I ∧ KTurns PP w A target I fp wr n P Md St ∧ (∀ (s' : Shared) (Q : Value → Shared → Prop) E, St 0 s'.heap → Q (.ref I) s' → wpAny (model PP w) A (pyIter (.ref I)) Q E s') ∧ n ≤ sizeLine ∧ St 0 s₂.heap ∧ (∀ b ∈ fp, b < s₂.heap.objs.size) ∧
    (∀ b ∈ wr, g.get? b = none) ∧ L ∉ fp ∧ (∀ p ∈ Z, p.1 ∉ wr) ∧ Fr g L s₂.heap m ∧ News g L s₂.heap Z ∧ G [] [] ∧ (∀ h tk C D, StepL w A g L m (compEnvC scope cl C env) target elt n P Z G { s₂ with heap := h, toks := tk } C D) ∧ ∀ D ys X, G ys X → ys.length = n → Fin s₂ D ys X Z

theorem compL_block {target elt iter : Expr} {scope : Scope} {cl : List (Str × Addr)} {pos : Pos} {s₂ : Shared} {I : Addr} {fp wr : List Addr} {n : Nat} {P Md : Nat → Value → Heap → Prop} {St : Nat → Heap → Prop} {Z : List (Addr × Obj)} {G : List Value → List (Addr × Obj) → Prop}
    {RR : Value → Addr → Result → Shared → Prop}
    (W : KTurns PP w A target I fp wr n P Md St) (self : ∀ (s' : Shared) (Q : Value → Shared → Prop) E, St 0 s'.heap → Q (.ref I) s' → wpAny (model PP w) A (pyIter (.ref I)) Q E s') (hsz : n ≤ sizeLine) (hst : St 0 s₂.heap) (hfp : ∀ b ∈ fp, b < s₂.heap.objs.size)
    (hwr : ∀ b ∈ wr, g.get? b = none) (hLf : L ∉ fp) (hZ : ∀ p ∈ Z, p.1 ∉ wr) (F : Fr g L s₂.heap m) (N : News g L s₂.heap Z) (hG : G [] [])
    (hcell : ∀ y ∈ scope.names, y.2 ≠ .cell) (hkind : scope.kind = .function)
    (step : ∀ h tk C D, StepL w A g L m (compEnvC scope cl C env) target elt n P Z G { s₂ with heap := h, toks := tk } C D)
    (hRR : ∀ D C h tk ys X m', ys.length = n → G ys X → Fr g L h m → News g L h ((D, lst ys) :: (X ++ Z)) → h.Ns C m' → g.get? C = none → C ≠ L → D < C → (∀ p ∈ X, C < p.1) → (∀ p ∈ Z, p.1 < D) → RR (.ref D) C (.ok .next) { s₂ with heap := h, toks := tk }) :
    wpAny (model PP w) A (newList []) (fun acc s₃ => wpAny (model PP w) A (newFunctionEnv scope env.globals cl [] env.qual none .none (some env)) (fun cenv s₄ =>
      codeAny (model PP w) A (.compStart (.ListComp elt [⟨target, iter, [], 0⟩] scope pos) 0 (.ref I) acc { cenv with scope := relabel scope env }) (RR acc cenv.locals) s₄) E s₃) E s₂ := by
  refine wpAny_newObj_type (wpAny_newFunctionEnv hcell (by intro y hy; simp at hy) (fun h₁ hns₁ hsb₁ => ?_) hkind)
  dsimp only at hns₁ hsb₁ ⊢
  generalize hH2 : s₂.heap.push { cls := .type "list", dict := none, data := .seq ([] : List Value).toArray } = H2 at hns₁ hsb₁ ⊢
  have hC : H2.objs.size = s₂.heap.objs.size + 1 := by rw [← hH2, Heap.size_push]
  have hDC : s₂.heap.objs.size < H2.objs.size := by rw [hC]; exact Nat.lt_succ_self _
  have below : ∀ b, b < s₂.heap.objs.size → b ≠ H2.objs.size := fun b hb => Nat.ne_of_lt (Nat.lt_trans hb hDC)
  have old : ∀ b o, s₂.heap.get? b = some o → h₁.get? b = some o := fun b o e => hsb₁.extBut b o (below b (Heap.lt_size e)) (Heap.get?_push_of_some _ (hH2 ▸ Heap.get?_push_of_some _ e))
  have hacc : h₁.get? s₂.heap.objs.size = some (lst []) := hsb₁.extBut _ _ (Nat.ne_of_lt hDC) (Heap.get?_push_of_some _ (hH2 ▸ Heap.get?_push_size _ rfl))
  have hst₁ : St 0 h₁ := W.frame _ _ _ hst fun b _ o e => old b o e
  have fresh₀ : ∀ a, s₂.heap.objs.size ≤ a → g.get? a = none := fun a ha => by
    cases e : g.get? a with
    | none => rfl
    | some o' => exact absurd (Heap.lt_size (F.keep a o' e)) (Nat.not_lt.mpr ha)
  have hLlt : L < s₂.heap.objs.size := F.ns.lt
  obtain ⟨oC, heC, hoC⟩ := ns_obj hns₁
  have N₁ : News g L h₁ ((H2.objs.size, oC) :: (s₂.heap.objs.size, lst []) :: Z) := fun p hp => by
    rcases List.mem_cons.mp hp with rfl | hp
    · exact ⟨heC, Ne.symm (below L hLlt), fresh₀ _ (Nat.le_of_lt hDC)⟩
    rcases List.mem_cons.mp hp with rfl | hp
    · exact ⟨hacc, Ne.symm (Nat.ne_of_lt hLlt), fresh₀ _ (Nat.le_refl _)⟩
    · exact ⟨old _ _ (N p hp).1, (N p hp).2⟩
  have loop : ∀ s₃ : Shared, s₃ = { s₂ with heap := h₁, toks := s₂.toks + ([] : List (Str × Value)).length } →
      codeAny (model PP w) A (.compLoop (.ListComp elt [⟨target, iter, [], 0⟩] scope pos) 0 (.ref I) (.ref s₂.heap.objs.size) (compEnvC scope cl H2.objs.size env))
        (RR (.ref s₂.heap.objs.size) H2.objs.size) s₃ := by
    rintro s₃ rfl
    refine compL_loop (m' := _) (oC := oC) (C := H2.objs.size) (D := s₂.heap.objs.size) (G := G) (Z := Z) W hsz (fun b hb => Nat.lt_trans (hfp b hb) hDC) hDC (fun h => Nat.lt_irrefl _ (hfp _ h)) hwr hLf hZ (fun p hp => Heap.lt_size (N p hp).1) hst₁ (F.keeps old) N₁ hoC hG (step _ _ _ _) ?_
    intro h tk ys X oC m' hyl hG' hX' F' N' hC'
    exact hRR _ _ h tk ys X m' hyl hG' F' (fun p hp => N' p (List.mem_cons_of_mem _ hp)) (hC'.ns (N' _ (.head _)).1) (N' _ (.head _)).2.2 (N' _ (.head _)).2.1 hDC hX' (fun p hp => Heap.lt_size (N p hp).1)
  exact codeAny_compStart_list (loop _ rfl) (self _ _ _ hst₁ (loop _ rfl))

theorem compL_E {target elt iter : Expr} {scope : Scope} {cl : List (Str × Addr)} {pos : Pos} {Q : Value → Shared → Prop} (_F₀ : Fr g L s.heap m)
    (hclos : closureFor scope env = pure cl) (hcell : ∀ y ∈ scope.names, y.2 ≠ .cell) (hkind : scope.kind = .function)
    (hnames : ∀ y ∈ scope.names, y.2 = .local → scope.names.lookup y.1 = some .local)
    (h : wpAny (model PP w) A (eval iter env) (fun xv s₁ => wpAny (model PP w) A (pyIter xv) (SrcL w A g L m env target elt scope cl (fun s₂ _ ys X Z => ∀ D h tk, Fr g L h m → News g L h ((D, lst ys) :: (X ++ Z)) → (∀ p ∈ Z, p.1 < D) → (∀ p ∈ X, D < p.1) → Q (.ref D) { s₂ with heap := h, toks := tk })) E s₁) E s)
    (hs : ∀ x, foldedSetIterable iter env x = pure x := by intro _; rfl) :
    wpAny (model PP w) A (eval (.ListComp elt [⟨target, iter, [], 0⟩] scope pos) env) Q E s := by
  rw [eval_ListComp]
  refine wpAny_comprehension_free (use := none) rfl hs hclos hkind hnames (wpAny_mono h (fun xv s₁ h₁ => wpAny_mono h₁ (fun it s₂ h₂ => ?_) fun _ _ e => e) fun _ _ e => e)
  obtain ⟨I, fp, wr, n, P, Md, St, Z, G, rfl, W, self, hsz, hst, hfp, hwr, hLf, hZ, F, N, hG, step, fin⟩ := h₂
  refine compL_block W self hsz hst hfp hwr hLf hZ F N hG hcell hkind step ?_
  intro D C h tk ys X m' hyl hG' F' N' hn hC₀ hCL hDC hX hZD
  refine ⟨m', hn, fun h'' hs'' => fin D ys X hG' hyl D h'' tk (F'.change hs'' hCL hC₀) (fun p hp => ?_) hZD (fun p hp => Nat.lt_trans hDC (hX p hp))⟩
  refine ⟨hs''.extBut _ _ ?_ (N' p hp).1, (N' p hp).2⟩
  rcases List.mem_cons.mp hp with rfl | hp
  · exact Nat.ne_of_lt hDC
  rcases List.mem_append.mp hp with hp | hp
  · exact Nat.ne_of_gt (hX p hp)
  · exact Nat.ne_of_lt (Nat.lt_trans (hZD p hp) hDC)

theorem compL_A {target elt iter : Expr} {y : Str} {py : Pos} {scope : Scope} {cl : List (Str × Addr)} {pos spos : Pos} {Q : Flow → Shared → Prop} (_F₀ : Fr g L s.heap m) (hLe : env.locals = L)
    (hsw : swapsWith (.ListComp elt [⟨target, iter, [], 0⟩] scope pos) (some (.Name y py)) spos.line env = pure true)
    (hclos : closureFor scope env = pure cl) (hcell : ∀ y ∈ scope.names, y.2 ≠ .cell) (hkind : scope.kind = .function)
    (hnames : ∀ y ∈ scope.names, y.2 = .local → scope.names.lookup y.1 = some .local)
    (hy : env.kindOf y = some .local) (hp : (env.scope.kind == .class || (env.scope.kind == .module && env.locals != env.globals)) = false)
    (h : wpAny (model PP w) A (eval iter env) (fun xv s₁ => wpAny (model PP w) A (pyIter xv) (SrcL w A g L m env target elt scope cl (fun s₂ _ ys X Z => ∀ D h tk, Fr g L h (fun z => if z = y then some (.ref D) else m z) → News g L h ((D, lst ys) :: (X ++ Z)) → (∀ p ∈ Z, p.1 < D) → (∀ p ∈ X, D < p.1) → Q .next { s₂ with heap := h, toks := tk })) E s₁) E s)
    (hs : ∀ x, foldedSetIterable iter env x = pure x := by intro _; rfl) :
    wpAny (model PP w) A (exec (.Assign [.Name y py] (.ListComp elt [⟨target, iter, [], 0⟩] scope pos) spos) env) Q E s := by
  subst hLe
  rw [exec_Assign_Name_used _ _ _ _ hsw]
  refine wpAny_bind (wpAny_standAt (wpAny_bind ?_))
  show wpAny _ A (do let _ ← comprehension (.ListComp elt [⟨target, iter, [], 0⟩] scope pos) scope env _ (newList []) false (eval iter env) (some (assign (.Name y py) env))) _ _ s
  refine wpAny_bind (wpAny_mono (wpAny_comprehension_free (use := some (assign (.Name y py) env)) (Q := fun _ s' => Q .next s') rfl hs hclos hkind hnames
    (wpAny_mono h (fun xv s₁ h₁ => wpAny_mono h₁ (fun it s₂ h₂ => ?_) fun _ _ e => e) fun _ _ e => e)) (fun _ s' hq => wpAny_pure (wpAny_pure hq)) fun _ _ e => e)
  obtain ⟨I, fp, wr, n, P, Md, St, Z, G, rfl, W, self, hsz, hst, hfp, hwr, hLf, hZ, F, N, hG, step, fin⟩ := h₂
  refine compL_block W self hsz hst hfp hwr hLf hZ F N hG hcell hkind step ?_
  intro D C h' tk ys X m' hyl hG' F' N' hn hC₀ hCL hDC hX hZD
  show wpAny _ A (assign (.Name y py) env (.ref D)) _ _ _
  refine wpAny_assign_Name (wpAny_storeName_local hy F'.ns (fun h₂ hn₂ hs₂ => ?_) hp)
  have hL₀ : g.get? env.locals = none := Heap.get?_none_of_le F'.above
  have F₂ : Fr g env.locals h₂ (fun z => if z = y then some (.ref D) else m z) := ⟨hn₂, fun b o e => hs₂.extBut b o (fun q => by rw [q, hL₀] at e; cases e) (F'.keep b o e), F'.above⟩
  refine ⟨m', hn.sameBut hs₂ hCL, fun h'' hs'' => fin D ys X hG' hyl D h'' _ (F₂.change hs'' hCL hC₀) (fun p hp => ?_) hZD (fun p hp => Nat.lt_trans hDC (hX p hp))⟩
  have z : h₂.get? p.1 = some p.2 := hs₂.extBut _ _ (N' p hp).2.1 (N' p hp).1
  refine ⟨hs''.extBut _ _ ?_ z, (N' p hp).2⟩
  rcases List.mem_cons.mp hp with rfl | hp
  · exact Nat.ne_of_lt hDC
  rcases List.mem_append.mp hp with hp | hp
  · exact Nat.ne_of_gt (hX p hp)
  · exact Nat.ne_of_lt (Nat.lt_trans (hZD p hp) hDC)
end
end Mine
end
section
open PySem PySem.W PyProof.Rows PySem.Calls PyProof.Rows.LCg
namespace Mine
set_option maxRecDepth 100000
section
variable {w : World} {A : Around} {E : Value → Shared → Prop} {s : Shared} {g : Heap} {L : Addr} {m : Str → Option Value} {env : Env}

/-- the loop of a dict's block, whatever it draws from -/
theorem dcomp_loop {kx vx target iter : Expr} {scope : Scope} {pos : Pos} {it : Value} {D : Addr} {env : Env} {R : Result → Shared → Prop} (I : Nat → Shared → Prop)
    (turn : ∀ n s, I n s → wpAny (model PP w) A (pyNext it) (fun r s₁ => match r with
      | none => R (.ok .next) s₁
      | some v => wpAny (model PP w) A (letOwnedTupleGo target it v) (fun _ s₀ => wpAny (model PP w) A (assign target env v) (fun _ s₂ =>
          wpAny (model PP w) A (eval kx env) (fun kv s₄ => wpAny (model PP w) A (eval vx env) (fun vv s₅ =>
            wpAny (model PP w) A (dictSet D kv vv) (fun _ s₆ => ∃ m, m < n ∧ I m s₆) (notedBy (model PP w) A env fun e s' => R (.error e) s') s₅) (notedBy (model PP w) A env fun e s' => R (.error e) s') s₄) (notedBy (model PP w) A env fun e s' => R (.error e) s') s₂)
          (notedBy (model PP w) A env fun e s' => R (.error e) s') s₀) (notedBy (model PP w) A env fun e s' => R (.error e) s') s₁) (notedBy (model PP w) A env fun e s' => R (.error e) s') s)
    (n : Nat) (h : I n s) : codeAny (model PP w) A (.compLoop (.DictComp kx vx [⟨target, iter, [], 0⟩] scope pos) 0 it (.ref D) env) R s := by
  refine codeAny_loop rfl I (fun n s hI => ?_) n h
  show wpAny _ A ((compTurn (.DictComp kx vx [⟨target, iter, [], 0⟩] scope pos) 0 it (.ref D) env).onRaise (fun x => do noteFrame x env; theTreesLotGoes x)) _ _ s
  refine wpAny_noted ?_
  rw [compTurn_dict]
  refine wpAny_bind (wpAny_standAt (wpAny_bind (wpAny_mono (turn n s hI) (fun r s₁ h₁ => ?_) fun _ _ h' => h')))
  cases r with
  | none => exact wpAny_pure h₁
  | some v =>
    refine wpAny_bind (wpAny_mono h₁ (fun _ s₀ h₀' => ?_) fun _ _ h' => h')
    refine wpAny_bind (wpAny_mono h₀' (fun _ s₂ h₂ => ?_) fun _ _ h' => h')
    refine wpAny_bind (wpAny_tests_nil ?_)
    exact wpAny_bind (wpAny_bind (wpAny_mono h₂ (fun kv s₄ h₄ => wpAny_bind (wpAny_holding (wpAny_mono h₄ (fun vv s₅ h₅ => wpAny_bind (wpAny_standAt (wpAny_holding (wpAny_mono h₅ (fun _ s₆ h₆ => wpAny_pure ⟨rfl, h₆⟩) fun _ _ h' => h')))) fun _ _ h' => h'))) fun _ _ h' => h'))

/-- one turn of a dict block, and what it has to bring -/
def StepD (w : World) (A : Around) (g : Heap) (L : Addr) (m : Str → Option Value) (cenv : Env) (target kx vx : Expr) (n : Nat) (P : Nat → Value → Heap → Prop) (Z : List (Addr × Obj)) (G : Nat → List (Str × Value) → Prop) (s : Shared) (C D : Addr) : Prop :=
  ∀ i v kvs oC od own h tk m' (Q : Value → Value → Shared → Prop) (E' : Value → Shared → Prop), i < n → P i v h → NsObj oC m' → G i kvs → (∀ p ∈ own, p.1 < C) → (∀ p ∈ Z, p.1 < D) → D < C → Fr g L h m →
    News g L h ((C, oC) :: (D, od) :: (own ++ Z)) →
    (∀ h' tk' oC' m'' S u y, Fr g L h' m → News g L h' ((C, oC') :: (D, od) :: (own ++ Z)) → NsObj oC' m'' → G (i + 1) (stored kvs S y) → Q (.str S u) y { s with heap := h', toks := tk' }) →
    wpAny (model PP w) A (assign target cenv v) (fun _ s₂ => wpAny (model PP w) A (eval kx cenv) (fun kv s₃ => wpAny (model PP w) A (eval vx cenv) (fun vv s₄ => Q kv vv s₄) E' s₃) E' s₂) E' { s with heap := h, toks := tk }

theorem compD_loop {target kx vx iter : Expr} {scope : Scope} {pos : Pos} {cenv : Env} {I C D : Addr} {fp wr : List Addr} {n : Nat} {P Md : Nat → Value → Heap → Prop} {St : Nat → Heap → Prop} {Z : List (Addr × Obj)} {G : Nat → List (Str × Value) → Prop} {R : Result → Shared → Prop}
    (W : KTurns PP w A target I fp wr n P Md St) (hsz : n ≤ sizeLine) (hfp : ∀ b ∈ fp, b < C) (hDC : D < C) (hDf : D ∉ fp) (hwr : ∀ b ∈ wr, g.get? b = none) (hLf : L ∉ fp)
    (hZ : ∀ p ∈ Z, p.1 ∉ wr) (hZD : ∀ p ∈ Z, p.1 < D) {oC od : Obj} {m' : Str → Option Value} (hst : St 0 s.heap) (F : Fr g L s.heap m) (N : News g L s.heap ((C, oC) :: (D, od) :: Z)) (hC : NsObj oC m') (hod : od.IsDictOf (SK w) []) (hG : G 0 [])
    (step : StepD w A g L m cenv target kx vx n P Z G s C D)
    (hR : ∀ h tk kvs oC od m', G n kvs → kvs.length ≤ n → od.IsDictOf (SK w) kvs → Fr g L h m → News g L h ((C, oC) :: (D, od) :: Z) → NsObj oC m' → R (.ok .next) { s with heap := h, toks := tk }) :
    codeAny (model PP w) A (.compLoop (.DictComp kx vx [⟨target, iter, [], 0⟩] scope pos) 0 (.ref I) (.ref D) cenv) R s := by
  have hLw : L ∉ wr := fun h => hLf (W.sub _ h)
  have hwC : ∀ b ∈ wr, b < C := fun b hb => hfp b (W.sub _ hb)
  refine dcomp_loop
    (fun k s' => ∃ h' tk i kvs oC od m', s' = { s with heap := h', toks := tk } ∧ i ≤ n ∧ k = n + 1 - i ∧ kvs.length ≤ i ∧ St i h' ∧ Fr g L h' m ∧ News g L h' ((C, oC) :: (D, od) :: Z) ∧ NsObj oC m' ∧ od.IsDictOf (SK w) kvs ∧ G i kvs) ?_ (n + 1)
    ⟨s.heap, s.toks, 0, [], oC, od, m', rfl, Nat.zero_le _, rfl, Nat.le_refl _, hst, F, N, hC, hod, hG⟩
  rintro k s' ⟨h', tk, i, kvs, oC, od, m', rfl, hi, rfl, hyl, hst', F', N', hC', hod', hG'⟩
  have offw : ∀ p ∈ (C, oC) :: (D, od) :: Z, p.1 ∉ wr := fun p hp hm => by
    rcases List.mem_cons.mp hp with rfl | hp
    · exact Nat.lt_irrefl _ (hwC _ hm)
    rcases List.mem_cons.mp hp with rfl | hp
    · exact hDf (W.sub _ hm)
    · exact hZ p hp hm
  by_cases hlt : i < n
  · refine W.item i _ _ _ hlt hst' fun v h₂ tk₂ hMd hk₂ => ?_
    refine W.go i v _ _ _ hMd fun h₃ hP hst₃ hk₃ => ?_
    have hk : ∀ b o, b ∉ wr → h'.get? b = some o → h₃.get? b = some o := fun b o hb e => hk₃ b o hb (hk₂ b o hb e)
    have F₃ := but_fr F' hk hLw hwr
    have N₃ := but_news N' hk offw
    have No : News g L h₃ (PyProof.Rows.ownOf g fp h₃) := news_ownOf hLf
    have hown : ∀ p ∈ PyProof.Rows.ownOf g fp h₃, p.1 < C := fun p hp => hfp _ (ownOf_sub p hp)
    refine wpAny_mono (step i v kvs oC od (PyProof.Rows.ownOf g fp h₃) h₃ tk₂ m' (fun kv y s₄ => ∃ h₄ tk₄ oC' m'' S u, kv = .str S u ∧ s₄ = { s with heap := h₄, toks := tk₄ } ∧ Fr g L h₄ m ∧ News g L h₄ ((C, oC') :: (D, od) :: (PyProof.Rows.ownOf g fp h₃ ++ Z)) ∧ NsObj oC' m'' ∧ G (i + 1) (stored kvs S y)) _ hlt hP hC' hG' hown hZD hDC F₃ ?_ ?_)
      (fun _ s₂ h₂ => wpAny_mono h₂ (fun kv s₃ h₃ => wpAny_mono h₃ (fun y s₄ h₄ => ?_) fun _ _ e => e) fun _ _ e => e) fun _ _ e => e
    · intro p hp
      simp only [List.mem_cons, List.mem_append] at hp
      rcases hp with hp | hp | hp | hp
      · exact N₃ p (by simp [hp])
      · exact N₃ p (by simp [hp])
      · exact No p hp
      · exact N₃ p (by simp [hp])
    · intro h₄ tk₄ oC' m'' S u y F₄ N₄ hC₄ hG₄
      exact ⟨h₄, tk₄, oC', m'', S, u, rfl, rfl, F₄, N₄, hC₄, hG₄⟩
    · obtain ⟨h₄, tk₄, oC', m'', S, u, rfl, rfl, F₄, N₄, hC₄, hG₄⟩ := h₄
      have hst₄ : St (i + 1) h₄ := W.frame _ _ _ hst₃ fun b hb o e => by
        cases hn : g.get? b with
        | some o₀ =>
          have : o₀ = o := by have q := F₃.keep b o₀ hn; rw [e] at q; exact (Option.some.inj q).symm
          exact this ▸ F₄.keep b o₀ hn
        | none => exact (N₄ _ (List.mem_cons_of_mem _ (List.mem_cons_of_mem _ (List.mem_append_left _ (mem_ownOf hb hn e))))).1
      have zD := N₄ (D, od) (by simp)
      refine wpAny_dictSet_pairs (knd := SK w) (kvs := kvs) (k := S) (hsz := Nat.le_trans (Nat.le_trans hyl hi) hsz) (PySem.strKind_is _ _ S u) (Heap.dictOf_iff.mpr ⟨od, zD.1, hod'⟩) fun h₅ hl₅ hs₅ => ?_
      obtain ⟨od', ho', hd'⟩ := Heap.dictOf_iff.mp hl₅
      refine ⟨n + 1 - (i + 1), by omega, h₅, _, i + 1, stored kvs S y, oC', od', m'', rfl, hlt, rfl, ?_,
        W.frame _ _ _ hst₄ fun b hb o e => hs₅.extBut b o (fun q => hDf (q ▸ hb)) e, F₄.change hs₅ zD.2.1 zD.2.2, fun p hp => ?_, hC₄, hd', hG₄⟩
      · have := stored_length_le kvs S y
        omega
      · simp only [List.mem_cons] at hp
        rcases hp with rfl | rfl | hp
        · have z := N₄ (C, oC') (by simp)
          exact ⟨hs₅.extBut _ _ (Nat.ne_of_gt hDC) z.1, z.2⟩
        · exact ⟨ho', zD.2⟩
        · have z := N₄ p (by simp [hp])
          exact ⟨hs₅.extBut _ _ (Nat.ne_of_lt (hZD p hp)) z.1, z.2⟩
  · obtain rfl : i = n := Nat.le_antisymm hi (Nat.not_lt.mp hlt)
    refine W.done _ _ _ hst' fun h₂ tk₂ hk₂ => ?_
    exact hR h₂ tk₂ kvs oC od m' hG' hyl hod' (but_fr F' hk₂ hLw hwr) (but_news N' hk₂ offw) hC'

def SrcD (w : World) (A : Around) (g : Heap) (L : Addr) (m : Str → Option Value) (env : Env) (target kx vx : Expr) (scope : Scope) (cl : List (Str × Addr)) (Fin : Shared → List (Str × Value) → List (Addr × Obj) → Prop) (it : Value) (s₂ : Shared) : Prop :=
  ∃ I fp wr n P Md St Z G, it = .ref I ∧ KTurns PP w A target I fp wr n P Md St ∧ (∀ (s' : Shared) (Q : Value → Shared → Prop) E, St 0 s'.heap → Q (.ref I) s' → wpAny (model PP w) A (pyIter (.ref I)) Q E s') ∧ n ≤ sizeLine ∧ St 0 s₂.heap ∧ (∀ b ∈ fp, b < s₂.heap.objs.size) ∧
    (∀ b ∈ wr, g.get? b = none) ∧ L ∉ fp ∧ (∀ p ∈ Z, p.1 ∉ wr) ∧ Fr g L s₂.heap m ∧ News g L s₂.heap Z ∧ G 0 [] ∧ (∀ h tk C D, StepD w A g L m (compEnvC scope cl C env) target kx vx n P Z G { s₂ with heap := h, toks := tk } C D) ∧ ∀ kvs, G n kvs → kvs.length ≤ n → Fin s₂ kvs Z

theorem compD_block {target kx vx iter : Expr} {scope : Scope} {cl : List (Str × Addr)} {pos : Pos} {s₂ : Shared} {I : Addr} {fp wr : List Addr} {n : Nat} {P Md : Nat → Value → Heap → Prop} {St : Nat → Heap → Prop} {Z : List (Addr × Obj)} {G : Nat → List (Str × Value) → Prop}
    {RR : Value → Addr → Result → Shared → Prop}
    (W : KTurns PP w A target I fp wr n P Md St) (self : ∀ (s' : Shared) (Q : Value → Shared → Prop) E, St 0 s'.heap → Q (.ref I) s' → wpAny (model PP w) A (pyIter (.ref I)) Q E s') (hsz : n ≤ sizeLine) (hst : St 0 s₂.heap) (hfp : ∀ b ∈ fp, b < s₂.heap.objs.size)
    (hwr : ∀ b ∈ wr, g.get? b = none) (hLf : L ∉ fp) (hZ : ∀ p ∈ Z, p.1 ∉ wr) (F : Fr g L s₂.heap m) (N : News g L s₂.heap Z) (hG : G 0 [])
    (hcell : ∀ y ∈ scope.names, y.2 ≠ .cell) (hkind : scope.kind = .function)
    (step : ∀ h tk C D, StepD w A g L m (compEnvC scope cl C env) target kx vx n P Z G { s₂ with heap := h, toks := tk } C D)
    (hRR : ∀ D C h tk kvs od m', G n kvs → kvs.length ≤ n → od.IsDictOf (SK w) kvs → Fr g L h m → News g L h ((D, od) :: Z) → h.Ns C m' → g.get? C = none → C ≠ L → D < C → (∀ p ∈ Z, p.1 < D) → RR (.ref D) C (.ok .next) { s₂ with heap := h, toks := tk }) :
    wpAny (model PP w) A newDict (fun acc s₃ => wpAny (model PP w) A (newFunctionEnv scope env.globals cl [] env.qual none .none (some env)) (fun cenv s₄ =>
      codeAny (model PP w) A (.compStart (.DictComp kx vx [⟨target, iter, [], 0⟩] scope pos) 0 (.ref I) acc { cenv with scope := relabel scope env }) (RR acc cenv.locals) s₄) E s₃) E s₂ := by
  refine wpAny_newObj_type (wpAny_newFunctionEnv hcell (by intro y hy; simp at hy) (fun h₁ hns₁ hsb₁ => ?_) hkind)
  dsimp only at hns₁ hsb₁ ⊢
  have hnew : (s₂.heap.push { cls := .type "dict", dict := none, data := .dict #[] }).DictOf (SK w) s₂.heap.objs.size [] := Heap.DictOf.new s₂.heap
  generalize hH2 : s₂.heap.push { cls := .type "dict", dict := none, data := .dict #[] } = H2 at hns₁ hsb₁ hnew ⊢
  have hC : H2.objs.size = s₂.heap.objs.size + 1 := by rw [← hH2, Heap.size_push]
  have hDC : s₂.heap.objs.size < H2.objs.size := by rw [hC]; exact Nat.lt_succ_self _
  have below : ∀ b, b < s₂.heap.objs.size → b ≠ H2.objs.size := fun b hb => Nat.ne_of_lt (Nat.lt_trans hb hDC)
  have old : ∀ b o, s₂.heap.get? b = some o → h₁.get? b = some o := fun b o e => hsb₁.extBut b o (below b (Heap.lt_size e)) (Heap.get?_push_of_some _ (hH2 ▸ Heap.get?_push_of_some _ e))
  obtain ⟨od, hod, hd⟩ := Heap.dictOf_iff.mp hnew
  have hacc : h₁.get? s₂.heap.objs.size = some od := hsb₁.extBut _ _ (Nat.ne_of_lt hDC) (Heap.get?_push_of_some _ hod)
  have hst₁ : St 0 h₁ := W.frame _ _ _ hst fun b _ o e => old b o e
  have fresh₀ : ∀ a, s₂.heap.objs.size ≤ a → g.get? a = none := fun a ha => by
    cases e : g.get? a with
    | none => rfl
    | some o' => exact absurd (Heap.lt_size (F.keep a o' e)) (Nat.not_lt.mpr ha)
  have hLlt : L < s₂.heap.objs.size := F.ns.lt
  obtain ⟨oC, heC, hoC⟩ := ns_obj hns₁
  have N₁ : News g L h₁ ((H2.objs.size, oC) :: (s₂.heap.objs.size, od) :: Z) := fun p hp => by
    rcases List.mem_cons.mp hp with rfl | hp
    · exact ⟨heC, Ne.symm (below L hLlt), fresh₀ _ (Nat.le_of_lt hDC)⟩
    rcases List.mem_cons.mp hp with rfl | hp
    · exact ⟨hacc, Ne.symm (Nat.ne_of_lt hLlt), fresh₀ _ (Nat.le_refl _)⟩
    · exact ⟨old _ _ (N p hp).1, (N p hp).2⟩
  have loop : ∀ s₃ : Shared, s₃ = { s₂ with heap := h₁, toks := s₂.toks + ([] : List (Str × Value)).length } →
      codeAny (model PP w) A (.compLoop (.DictComp kx vx [⟨target, iter, [], 0⟩] scope pos) 0 (.ref I) (.ref s₂.heap.objs.size) (compEnvC scope cl H2.objs.size env))
        (RR (.ref s₂.heap.objs.size) H2.objs.size) s₃ := by
    rintro s₃ rfl
    refine compD_loop (m' := _) (oC := oC) (od := od) (C := H2.objs.size) (D := s₂.heap.objs.size) (G := G) (Z := Z) W hsz (fun b hb => Nat.lt_trans (hfp b hb) hDC) hDC (fun h => Nat.lt_irrefl _ (hfp _ h)) hwr hLf hZ (fun p hp => Heap.lt_size (N p hp).1) hst₁ (F.keeps old) N₁ hoC hd hG (step _ _ _ _) ?_
    intro h tk kvs oC od m' hG' hkl hd' F' N' hC'
    exact hRR _ _ h tk kvs od m' hG' hkl hd' F' (fun p hp => N' p (List.mem_cons_of_mem _ hp)) (hC'.ns (N' _ (.head _)).1) (N' _ (.head _)).2.2 (N' _ (.head _)).2.1 hDC (fun p hp => Heap.lt_size (N p hp).1)
  exact codeAny_compStart_dict (loop _ rfl) (self _ _ _ hst₁ (loop _ rfl))

theorem compD_E {target kx vx iter : Expr} {scope : Scope} {cl : List (Str × Addr)} {pos : Pos} {Q : Value → Shared → Prop} (_F₀ : Fr g L s.heap m)
    (hclos : closureFor scope env = pure cl) (hcell : ∀ y ∈ scope.names, y.2 ≠ .cell) (hkind : scope.kind = .function)
    (hnames : ∀ y ∈ scope.names, y.2 = .local → scope.names.lookup y.1 = some .local)
    (h : wpAny (model PP w) A (eval iter env) (fun xv s₁ => wpAny (model PP w) A (pyIter xv) (SrcD w A g L m env target kx vx scope cl (fun s₂ kvs Z => ∀ D od h tk, od.IsDictOf (SK w) kvs → Fr g L h m → News g L h ((D, od) :: Z) → (∀ p ∈ Z, p.1 < D) → Q (.ref D) { s₂ with heap := h, toks := tk })) E s₁) E s)
    (hs : ∀ x, foldedSetIterable iter env x = pure x := by intro _; rfl) :
    wpAny (model PP w) A (eval (.DictComp kx vx [⟨target, iter, [], 0⟩] scope pos) env) Q E s := by
  rw [arm_eval_DictComp]
  refine wpAny_comprehension_free (use := none) rfl hs hclos hkind hnames (wpAny_mono h (fun xv s₁ h₁ => wpAny_mono h₁ (fun it s₂ h₂ => ?_) fun _ _ e => e) fun _ _ e => e)
  obtain ⟨I, fp, wr, n, P, Md, St, Z, G, rfl, W, self, hsz, hst, hfp, hwr, hLf, hZ, F, N, hG, step, fin⟩ := h₂
  refine compD_block W self hsz hst hfp hwr hLf hZ F N hG hcell hkind step ?_
  intro D C h tk kvs od m' hG' hkl hd' F' N' hn hC₀ hCL hDC hZD
  refine ⟨m', hn, fun h'' hs'' => fin kvs hG' hkl D od h'' tk hd' (F'.change hs'' hCL hC₀) (fun p hp => ?_) hZD⟩
  refine ⟨hs''.extBut _ _ ?_ (N' p hp).1, (N' p hp).2⟩
  rcases List.mem_cons.mp hp with rfl | hp
  · exact Nat.ne_of_lt hDC
  · exact Nat.ne_of_lt (Nat.lt_trans (hZD p hp) hDC)

theorem compD_A {target kx vx iter : Expr} {y : Str} {py : Pos} {scope : Scope} {cl : List (Str × Addr)} {pos spos : Pos} {Q : Flow → Shared → Prop} (_F₀ : Fr g L s.heap m)
    (hsw : swapsWith (.DictComp kx vx [⟨target, iter, [], 0⟩] scope pos) (some (.Name y py)) spos.line env = pure true)
    (hclos : closureFor scope env = pure cl) (hcell : ∀ y ∈ scope.names, y.2 ≠ .cell) (hkind : scope.kind = .function)
    (hnames : ∀ y ∈ scope.names, y.2 = .local → scope.names.lookup y.1 = some .local)
    (h : wpAny (model PP w) A (eval iter env) (fun xv s₁ => wpAny (model PP w) A (pyIter xv) (SrcD w A g L m env target kx vx scope cl (fun s₂ kvs Z => ∀ D od h tk, od.IsDictOf (SK w) kvs → Fr g L h m → News g L h ((D, od) :: Z) → (∀ p ∈ Z, p.1 < D) →
      wpAny (model PP w) A (assign (.Name y py) env (.ref D)) (fun _ s₃ => ∃ h₃ tk₃, s₃ = { s₂ with heap := h₃, toks := tk₃ } ∧ (∀ p : Addr × Obj, (p = (D, od) ∨ D < p.1) → h.get? p.1 = some p.2 → h₃.get? p.1 = some p.2) ∧ ∀ h₄ C, D < C → g.get? C = none → C ≠ L → Heap.SameBut C h₃ h₄ → Q .next { s₂ with heap := h₄, toks := tk₃ }) E { s₂ with heap := h, toks := tk })) E s₁) E s)
    (hs : ∀ x, foldedSetIterable iter env x = pure x := by intro _; rfl) :
    wpAny (model PP w) A (exec (.Assign [.Name y py] (.DictComp kx vx [⟨target, iter, [], 0⟩] scope pos) spos) env) Q E s := by
  rw [exec_Assign_Name_used _ _ _ _ hsw]
  refine wpAny_bind (wpAny_standAt (wpAny_bind ?_))
  show wpAny _ A (do let _ ← comprehension (.DictComp kx vx [⟨target, iter, [], 0⟩] scope pos) scope env _ newDict false (eval iter env) (some (assign (.Name y py) env))) _ _ s
  refine wpAny_bind (wpAny_mono (wpAny_comprehension_free (use := some (assign (.Name y py) env)) (Q := fun _ s' => Q .next s') rfl hs hclos hkind hnames
    (wpAny_mono h (fun xv s₁ h₁ => wpAny_mono h₁ (fun it s₂ h₂ => ?_) fun _ _ e => e) fun _ _ e => e)) (fun _ s' hq => wpAny_pure (wpAny_pure hq)) fun _ _ e => e)
  obtain ⟨I, fp, wr, n, P, Md, St, Z, G, rfl, W, self, hsz, hst, hfp, hwr, hLf, hZ, F, N, hG, step, fin⟩ := h₂
  refine compD_block W self hsz hst hfp hwr hLf hZ F N hG hcell hkind step ?_
  intro D C h' tk kvs od m' hG' hkl hd' F' N' hn hC₀ hCL hDC hZD
  show wpAny _ A (assign (.Name y py) env (.ref D)) _ _ _
  obtain ⟨oC, heC, hoC⟩ := ns_obj hn
  refine wpAny_mono (fin kvs hG' hkl D od h' tk hd' F' N' hZD) (fun _ s₃ h₃ => ?_) fun _ _ e => e
  obtain ⟨h₃, tk₃, rfl, hk, hq⟩ := h₃
  exact ⟨m', hoC.ns (hk (C, oC) (.inr hDC) heC), fun h'' hs'' => hq h'' C hDC hC₀ hCL hs''⟩
end
end Mine
end
section
open PySem PySem.W PyProof.Rows PySem.Calls PyProof.Rows.LCg
namespace Mine
set_option maxRecDepth 100000
section
variable {w : World} {A : Around} {E : Value → Shared → Prop} {s : Shared} {g : Heap} {L C : Addr} {m m' : Str → Option Value} {env : Env} {scope : Scope} {cl : List (Str × Addr)} {oC : Obj} {ZZ : List (Addr × Obj)} {Q : Unit → Shared → Prop}

theorem put_C {h' : Heap} {oC' : Obj} (F : Fr g L s.heap m) (N : News g L s.heap ((C, oC) :: ZZ)) (hZ : ∀ p ∈ ZZ, p.1 ≠ C) (hk : ∀ c o, c ≠ C → s.heap.get? c = some o → h'.get? c = some o) (he : h'.get? C = some oC') :
    Fr g L h' m ∧ News g L h' ((C, oC') :: ZZ) := by
  have nC := (N _ (.head _)).2
  refine ⟨⟨F.ns.at' fun o e => hk L o (Ne.symm nC.1) e, fun b o e => hk b o (fun q => by have h1 := nC.2; dsimp only at h1; rw [q, h1] at e; cases e) (F.keep b o e), F.above⟩, fun p hp => ?_⟩
  rcases List.mem_cons.mp hp with rfl | hp
  · exact ⟨he, nC⟩
  · have z := N p (List.mem_cons_of_mem _ hp)
    exact ⟨hk _ _ (hZ p hp) z.1, z.2⟩

theorem asg1 {x : Str} {px : Pos} {v : Value} (hk : scope.kind = .function) (hx : scope.names.lookup x = some .local)
    (F : Fr g L s.heap m) (N : News g L s.heap ((C, oC) :: ZZ)) (hZ : ∀ p ∈ ZZ, p.1 ≠ C) (hC : NsObj oC m')
    (h : ∀ h' tk oC', Fr g L h' m → News g L h' ((C, oC') :: ZZ) → NsObj oC' (fun z => if z = x then some v else m' z) → Q () { s with heap := h', toks := tk }) :
    wpAny (model PP w) A (assign (.Name x px) (compEnvC scope cl C env) v) Q E s := by
  refine wpAny_assign_Name (wpAny_storeName_local (lookup_relabel_local hx) (hC.ns (N _ (.head _)).1) (fun h₂ hn₂ hs₂ => ?_) (by simp [compEnvC, relabel, hk]))
  obtain ⟨oC', he, ho⟩ := ns_obj hn₂
  obtain ⟨F', N'⟩ := put_C F N hZ (fun c o hc e => hs₂.extBut c o hc e) he
  exact h h₂ _ oC' F' N' ho

theorem asg2 {a b : Str} {pa pb tp : Pos} {kk : Nat} {T : Addr} {x y : Value} (hh : A.handled = none) (hk : scope.kind = .function) (ha : scope.names.lookup a = some .local) (hb : scope.names.lookup b = some .local)
    (ht : s.heap.IsTuple T #[x, y])
    (F : Fr g L s.heap m) (N : News g L s.heap ((C, oC) :: ZZ)) (hZ : ∀ p ∈ ZZ, p.1 ≠ C) (hC : NsObj oC m')
    (h : ∀ h' tk oC', Fr g L h' m → News g L h' ((C, oC') :: ZZ) → NsObj oC' (fun z => if z = b then some y else if z = a then some x else m' z) → Q () { s with heap := h', toks := tk }) :
    wpAny (model PP w) A (assign (.Tuple [.Name a pa, .Name b pb] kk tp) (compEnvC scope cl C env) (.ref T)) Q E s := by
  refine kcp_assign (env := compEnvC scope cl C env) hh ht (lookup_relabel_local ha) (lookup_relabel_local hb) (by simp [compEnvC, relabel, hk]) (hC.ns (N _ (.head _)).1) fun h₂ tk hn₂ hs₂ => ?_
  obtain ⟨oC', he, ho⟩ := ns_obj hn₂
  obtain ⟨F', N'⟩ := put_C F N hZ hs₂ he
  exact h h₂ _ oC' F' N' ho

theorem draw_list {it t : Addr} {items : Array Value} (hne : t ≠ it) : ∀ (n i : Nat) (s : Shared) (Q : List Value → Shared → Prop), s.heap.IsListIter it t i → s.heap.IsList t items → i + n ≤ items.size →
    (∀ h', h'.IsListIter it t (i + n) → Heap.SameBut it s.heap h' → Q ((items.toList.drop i).take n) { s with heap := h' }) → wpAny (model PP w) A (draw (.ref it) n) Q E s
  | 0, i, s, Q, hit, _, _, hQ => by
    show wpAny _ _ (pure []) Q E s
    exact wpAny_pure (by simpa using hQ s.heap hit (Heap.SameBut.refl ..))
  | n + 1, i, s, Q, hit, ht, hle, hQ => by
    have hlt : i < items.size := by omega
    show wpAny _ _ (pyNext (.ref it) >>= _) Q E s
    refine wpAny_bind (wpAny_pyNext_list_item hit ht (x := items[i]) (by simp [hlt]) fun h₁ hit₁ hs₁ => ?_)
    refine wpAny_bind (wpAny_holding (draw_list hne n (i + 1) _ _ hit₁ (ht.extBut hs₁.extBut hne) (by omega) fun h₂ hit₂ hs₂ => wpAny_pure ?_))
    have hd : items.toList.drop i = items[i] :: items.toList.drop (i + 1) := by simp [List.drop_eq_getElem_cons, hlt]
    have := hQ h₂ (by rw [show i + (n + 1) = i + 1 + n by omega]; exact hit₂) (hs₁.trans hs₂)
    rw [hd, List.take_succ_cons] at this
    exact this

theorem unpackItems_list {t : Addr} {items : Array Value} {Q : List Value → Shared → Prop} (hh : A.handled = none) (ht : s.heap.IsList t items)
    (hQ : ∀ h', Heap.ExtBut s.heap.objs.size s.heap h' → Q items.toList { s with heap := h' }) : wpAny (model PP w) A (unpackItems (.ref t) items.size none) Q E s := by
  have hlt : t ≠ s.heap.objs.size := by obtain ⟨o, ho, _⟩ := ht; exact Nat.ne_of_lt (Heap.lt_size ho)
  unfold unpackItems
  refine wpAny_bind ?_
  unfold notIterableAtAll
  refine wpAny_bind (wpAny_specialOf ht.typeIs PySem.F.slot_list_iter.lookup ?_)
  refine wpAny_pure ?_
  simp only [Bool.false_eq_true, if_false]
  refine wpAny_bind (wpAny_holding (wpAny_pyIter_list ht ?_))
  refine wpAny_bind (wpAny_holding (draw_list hlt items.size 0 _ _ ⟨_, Heap.get?_push_size _ rfl, rfl, rfl⟩ (ht.push _) (by omega) fun h₁ hit₁ hs₁ => ?_))
  have hall : List.take items.size (List.drop 0 items.toList) = items.toList := by
    rw [List.drop_zero]; exact List.take_of_length_le (by simp)
  rw [hall, if_neg (by simp)]
  have ht₁ : h₁.IsList t items := (ht.push _).extBut hs₁.extBut hlt
  refine wpAny_bind (wpAny_holding (wpAny_pyNext_list_end hh hit₁ ht₁ (by simp) fun h₂ he₂ => ?_))
  simp only [Option.isSome_none, Bool.false_eq_true, if_false]
  exact wpAny_pure (hQ h₂ fun b o hb e => he₂ b o hb (hs₁.extBut b o hb (Heap.get?_push_of_some _ e)))

theorem unpack_list {t : Addr} {items : Array Value} {targets : List (Bool × (Value → Sem Unit))} (hh : A.handled = none) (ht : s.heap.IsList t items)
    (hn : targets.length = items.size) (hstar : targets.findIdx? (·.1) = none)
    (h : ∀ h', Heap.ExtBut s.heap.objs.size s.heap h' → wpAny (model PP w) A (assignInOrder (targets.map (·.2)) items.toList) Q E { s with heap := h' }) :
    wpAny (model PP w) A (unpack (.ref t) targets) Q E s := by
  unfold unpack
  rw [hn, hstar]
  exact wpAny_bind (wpAny_holding (unpackItems_list hh ht h))

theorem asg3 {a b c : Str} {pa pb pc tp : Pos} {kk : Nat} {T : Addr} {x y z : Value} (hh : A.handled = none) (hk : scope.kind = .function) (ha : scope.names.lookup a = some .local) (hb : scope.names.lookup b = some .local) (hc : scope.names.lookup c = some .local)
    (ht : s.heap.IsList T #[x, y, z])
    (F : Fr g L s.heap m) (N : News g L s.heap ((C, oC) :: ZZ)) (hZ : ∀ p ∈ ZZ, p.1 ≠ C) (hC : NsObj oC m')
    (h : ∀ h' tk oC', Fr g L h' m → News g L h' ((C, oC') :: ZZ) → NsObj oC' (fun u => if u = c then some z else if u = b then some y else if u = a then some x else m' u) → Q () { s with heap := h', toks := tk }) :
    wpAny (model PP w) A (assign (.Tuple [.Name a pa, .Name b pb, .Name c pc] kk tp) (compEnvC scope cl C env) (.ref T)) Q E s := by
  rw [arm_assign_Tuple]
  refine wpAny_bind (wpAny_standAt (unpack_list hh ht rfl rfl fun h₁ he₁ => ?_))
  have hC' : s.heap.get? C = some oC := (N _ (.head _)).1
  have up₁ : ∀ c o, s.heap.get? c = some o → h₁.get? c = some o := fun c o e => he₁ c o (Nat.ne_of_lt (Heap.lt_size e)) e
  show wpAny _ _ (assignInOrder [assign (.Name a pa) (compEnvC scope cl C env), assign (.Name b pb) (compEnvC scope cl C env), assign (.Name c pc) (compEnvC scope cl C env)] [x, y, z]) _ _ _
  refine assignInOrder_cons (wpAny_assign_Name (wpAny_storeName_local (lookup_relabel_local ha) (hC.ns (up₁ _ _ hC')) (fun h₂ hn₂ hs₂ => ?_) (by simp [compEnvC, relabel, hk])))
  refine assignInOrder_cons (wpAny_assign_Name (wpAny_storeName_local (lookup_relabel_local hb) hn₂ (fun h₃ hn₃ hs₃ => ?_) (by simp [compEnvC, relabel, hk])))
  refine assignInOrder_cons (wpAny_assign_Name (wpAny_storeName_local (lookup_relabel_local hc) hn₃ (fun h₄ hn₄ hs₄ => ?_) (by simp [compEnvC, relabel, hk])))
  refine assignInOrder_nil ?_
  obtain ⟨oC', he, ho⟩ := ns_obj hn₄
  obtain ⟨F', N'⟩ := put_C F N hZ (fun c o hc e => hs₄.extBut c o hc (hs₃.extBut c o hc (hs₂.extBut c o hc (up₁ c o e)))) he
  exact h h₄ _ oC' F' N' ho

/-- a source: a list -/
theorem src_list {target : Expr} (hh : A.handled = none) {x : Str} {px : Pos} (ht : target = .Name x px) (I ax : Addr) (hne : ax ≠ I) (items : Array Value) :
    KTurns PP w A target I [I, ax] [I] items.size (fun i v _ => items[i]? = some v) (fun i v h => items[i]? = some v ∧ (h.IsListIter I ax (i + 1) ∧ h.IsList ax items)) (fun i h => h.IsListIter I ax i ∧ h.IsList ax items) := by
  subst ht
  exact KTurns.ofWalks (Walks.list hh I ax hne items) fun i v s Q E _ hq => wpAny_pure hq
theorem src_listT {elts : List Expr} {k : Nat} {pos : Pos} (hh : A.handled = none) (I ax : Addr) (hne : ax ≠ I) (items : Array Value) (hits : ∀ (i : Nat) (v : Value), items[i]? = some v → ∃ T, v = .ref T) :
    KTurns PP w A (.Tuple elts k pos) I [I, ax] [I] items.size (fun i v _ => items[i]? = some v) (fun i v h => items[i]? = some v ∧ (h.IsListIter I ax (i + 1) ∧ h.IsList ax items)) (fun i h => h.IsListIter I ax i ∧ h.IsList ax items) where
  sub := (Walks.list (prog := PP) (w := w) hh I ax hne items).sub
  frame := (Walks.list (prog := PP) (w := w) hh I ax hne items).frame
  item := fun i s Q E hi st hQ => (Walks.list (prog := PP) (w := w) hh I ax hne items).item i s Q E hi st fun v h' tk hP st' hk => hQ v h' tk ⟨hP, st'⟩ hk
  go := fun i v s Q E hm hQ => by
    obtain ⟨T, rfl⟩ := hits i v hm.1
    exact wpAny_letOwnedTupleGo_listiter hm.2.1 (hQ s.heap hm.1 hm.2 fun _ _ _ e => e)
  done := (Walks.list (prog := PP) (w := w) hh I ax hne items).done
end
end Mine
end
section
open PySem PySem.W PyProof.Rows PySem.Calls PyProof.Rows.LCg
namespace Mine
set_option maxRecDepth 100000
section
variable {w : World} {A : Around} {E : Value → Shared → Prop} {s : Shared} {g : Heap} {L : Addr} {m : Str → Option Value} {env : Env} {scope : Scope} {cl : List (Str × Addr)} {Z : List (Addr × Obj)} {elt kx vx : Expr}

theorem newer (F : Fr g L s.heap m) {a : Addr} (h : s.heap.objs.size ≤ a) : g.get? a = none := by
  cases e : g.get? a with
  | none => rfl
  | some o' => exact absurd (Heap.lt_size (F.keep a o' e)) (Nat.not_lt.mpr h)

def atList (items : Array Value) : Nat → Value → Heap → Prop := fun i v _ => items[i]? = some v
def atEnum (items : Array Value) : Nat → Value → Heap → Prop := fun i v h => ∃ T t x, v = .ref T ∧ items[i]? = some x ∧ h.IsTuple T #[.int i t, x]
def atZip (xs ys : Array Value) : Nat → Value → Heap → Prop := fun i v h => ∃ T x y, v = .ref T ∧ xs[i]? = some x ∧ ys[i]? = some y ∧ h.IsTuple T #[x, y]

theorem listL {ax : Addr} {o : Obj} {items : Array Value} {n0 : Nat} {x : Str} {px : Pos} {Fin : Shared → Addr → List Value → List (Addr × Obj) → List (Addr × Obj) → Prop} (G : List Value → List (Addr × Obj) → Prop)
    (hh : A.handled = none) (F : Fr g L s.heap m) (N : News g L s.heap Z) (hm : (ax, o) ∈ Z) (hc : o.cls = .type "list") (hd : o.data = .seq items n0) (hsz : items.size ≤ sizeLine) (hG : G [] [])
    (step : ∀ C D, StepL w A g L m (compEnvC scope cl C env) (.Name x px) elt items.size (atList items) Z G s C D)
    (fin : ∀ h tk D ys X, G ys X → ys.length = items.size → Fin { s with heap := h, toks := tk } D ys X Z) :
    wpAny (model PP w) A (pyIter (.ref ax)) (SrcL w A g L m env (.Name x px) elt scope cl Fin) E s := by
  have hax := N _ hm
  have hl : s.heap.IsList ax items := ⟨o, hax.1, hc, n0, hd⟩
  have hlt : ax < s.heap.objs.size := Heap.lt_size hax.1
  have up : ∀ b o, s.heap.get? b = some o → (s.heap.push { cls := .type "list_iterator", data := .fields #[.ref ax, .int 0 0] }).get? b = some o := fun b o e => Heap.get?_push_of_some _ e
  refine wpAny_pyIter_list hl ?_
  refine ⟨s.heap.objs.size, _, _, items.size, _, _, _, Z, G, rfl, src_list hh rfl s.heap.objs.size ax (Nat.ne_of_lt hlt) items, ?_, hsz, ⟨⟨_, Heap.get?_push_size _ rfl, rfl, rfl⟩, hl.push _⟩, ?_, ?_, ?_, ?_, F.keeps up, N.grown up, hG, fun _ _ C D => step C D, fun D ys X h1 h2 => fin _ _ D ys X h1 h2⟩
  · exact fun s' Q E st hq => wpAny_pyIter_listiter st.1 hq
  · intro b hb
    show b < (s.heap.push _).objs.size
    rw [Heap.size_push]
    rcases List.mem_cons.mp hb with rfl | hb
    · exact Nat.lt_succ_self _
    · rw [List.mem_singleton.mp hb]; exact Nat.lt_succ_of_lt hlt
  · intro b hb; rw [List.mem_singleton.mp hb]; exact newer F (Nat.le_refl _)
  · intro hb
    rcases List.mem_cons.mp hb with e | hb
    · exact Nat.ne_of_lt F.ns.lt e
    · exact hax.2.1 (List.mem_singleton.mp hb).symm
  · intro p hp hb
    exact Nat.ne_of_lt (Heap.lt_size (N p hp).1) (List.mem_singleton.mp hb)

theorem listD {ax : Addr} {o : Obj} {items : Array Value} {n0 : Nat} {x : Str} {px : Pos} {Fin : Shared → List (Str × Value) → List (Addr × Obj) → Prop} (G : Nat → List (Str × Value) → Prop)
    (hh : A.handled = none) (F : Fr g L s.heap m) (N : News g L s.heap Z) (hm : (ax, o) ∈ Z) (hc : o.cls = .type "list") (hd : o.data = .seq items n0) (hsz : items.size ≤ sizeLine) (hG : G 0 [])
    (step : ∀ C D, StepD w A g L m (compEnvC scope cl C env) (.Name x px) kx vx items.size (atList items) Z G s C D)
    (fin : ∀ h tk kvs, G items.size kvs → kvs.length ≤ items.size → Fin { s with heap := h, toks := tk } kvs Z) :
    wpAny (model PP w) A (pyIter (.ref ax)) (SrcD w A g L m env (.Name x px) kx vx scope cl Fin) E s := by
  have hax := N _ hm
  have hl : s.heap.IsList ax items := ⟨o, hax.1, hc, n0, hd⟩
  have hlt : ax < s.heap.objs.size := Heap.lt_size hax.1
  have up : ∀ b o, s.heap.get? b = some o → (s.heap.push { cls := .type "list_iterator", data := .fields #[.ref ax, .int 0 0] }).get? b = some o := fun b o e => Heap.get?_push_of_some _ e
  refine wpAny_pyIter_list hl ?_
  refine ⟨s.heap.objs.size, _, _, items.size, _, _, _, Z, G, rfl, src_list hh rfl s.heap.objs.size ax (Nat.ne_of_lt hlt) items, ?_, hsz, ⟨⟨_, Heap.get?_push_size _ rfl, rfl, rfl⟩, hl.push _⟩, ?_, ?_, ?_, ?_, F.keeps up, N.grown up, hG, fun _ _ C D => step C D, fun kvs h1 h2 => fin _ _ kvs h1 h2⟩
  · exact fun s' Q E st hq => wpAny_pyIter_listiter st.1 hq
  · intro b hb
    show b < (s.heap.push _).objs.size
    rw [Heap.size_push]
    rcases List.mem_cons.mp hb with rfl | hb
    · exact Nat.lt_succ_self _
    · rw [List.mem_singleton.mp hb]; exact Nat.lt_succ_of_lt hlt
  · intro b hb; rw [List.mem_singleton.mp hb]; exact newer F (Nat.le_refl _)
  · intro hb
    rcases List.mem_cons.mp hb with e | hb
    · exact Nat.ne_of_lt F.ns.lt e
    · exact hax.2.1 (List.mem_singleton.mp hb).symm
  · intro p hp hb
    exact Nat.ne_of_lt (Heap.lt_size (N p hp).1) (List.mem_singleton.mp hb)

theorem listLT {ax : Addr} {o : Obj} {items : Array Value} {n0 : Nat} {elts : List Expr} {k : Nat} {tp : Pos} {Fin : Shared → Addr → List Value → List (Addr × Obj) → List (Addr × Obj) → Prop} (G : List Value → List (Addr × Obj) → Prop)
    (hh : A.handled = none) (F : Fr g L s.heap m) (N : News g L s.heap Z) (hm : (ax, o) ∈ Z) (hc : o.cls = .type "list") (hd : o.data = .seq items n0) (hits : ∀ (i : Nat) (v : Value), items[i]? = some v → ∃ T, v = .ref T) (hsz : items.size ≤ sizeLine) (hG : G [] [])
    (step : ∀ C D, StepL w A g L m (compEnvC scope cl C env) (.Tuple elts k tp) elt items.size (atList items) Z G s C D)
    (fin : ∀ h tk D ys X, G ys X → ys.length = items.size → Fin { s with heap := h, toks := tk } D ys X Z) :
    wpAny (model PP w) A (pyIter (.ref ax)) (SrcL w A g L m env (.Tuple elts k tp) elt scope cl Fin) E s := by
  have hax := N _ hm
  have hl : s.heap.IsList ax items := ⟨o, hax.1, hc, n0, hd⟩
  have hlt : ax < s.heap.objs.size := Heap.lt_size hax.1
  have up : ∀ b o, s.heap.get? b = some o → (s.heap.push { cls := .type "list_iterator", data := .fields #[.ref ax, .int 0 0] }).get? b = some o := fun b o e => Heap.get?_push_of_some _ e
  refine wpAny_pyIter_list hl ?_
  refine ⟨s.heap.objs.size, _, _, items.size, _, _, _, Z, G, rfl, src_listT hh s.heap.objs.size ax (Nat.ne_of_lt hlt) items hits, ?_, hsz, ⟨⟨_, Heap.get?_push_size _ rfl, rfl, rfl⟩, hl.push _⟩, ?_, ?_, ?_, ?_, F.keeps up, N.grown up, hG, fun _ _ C D => step C D, fun D ys X h1 h2 => fin _ _ D ys X h1 h2⟩
  · exact fun s' Q E st hq => wpAny_pyIter_listiter st.1 hq
  · intro b hb
    show b < (s.heap.push _).objs.size
    rw [Heap.size_push]
    rcases List.mem_cons.mp hb with rfl | hb
    · exact Nat.lt_succ_self _
    · rw [List.mem_singleton.mp hb]; exact Nat.lt_succ_of_lt hlt
  · intro b hb; rw [List.mem_singleton.mp hb]; exact newer F (Nat.le_refl _)
  · intro hb
    rcases List.mem_cons.mp hb with e | hb
    · exact Nat.ne_of_lt F.ns.lt e
    · exact hax.2.1 (List.mem_singleton.mp hb).symm
  · intro p hp hb
    exact Nat.ne_of_lt (Heap.lt_size (N p hp).1) (List.mem_singleton.mp hb)

theorem enumTurns {elts : List Expr} {k : Nat} {tp : Pos} (hh : A.handled = none) (e it l : Addr) (h1 : e ≠ it) (h2 : l ≠ e) (h3 : l ≠ it) (items : Array Value) :
    KTurns PP w A (.Tuple elts k tp) e [e, it, l] [e, it] items.size (atEnum items) (fun i v h => ∃ T vals, v = .ref T ∧ (∃ t x, items[i]? = some x ∧ vals = #[.int i t, x]) ∧ h.IsTuple T vals ∧ ((∃ x, IsEnumOut h e it ((i : Int) + 1) x T) ∧ h.IsListIter it l (i + 1) ∧ h.IsList l items ∧ T ≠ e ∧ T ≠ it))
      (fun i h => (∃ old, IsEnum h e it i old) ∧ h.IsListIter it l i ∧ h.IsList l items) :=
  let W := KTurns.ofWalksU (prog := PP) (w := w) (elts := elts) (k := k) (pos := tp) (WalksT.enumerate hh e it l h1 h2 h3 items).toU
  { sub := W.sub, frame := W.frame, item := W.item, done := W.done,
    go := fun i v s Q E hm hQ => W.go i v s Q E hm fun h' hP st hk => hQ h' (by
      obtain ⟨T, vals, rfl, ⟨t, x, hx, rfl⟩, hT⟩ := hP
      exact ⟨T, t, x, rfl, hx, hT⟩) st hk }

theorem enumL {ax : Addr} {o : Obj} {items : Array Value} {n0 : Nat} {elts : List Expr} {k : Nat} {tp : Pos} {Fin : Shared → Addr → List Value → List (Addr × Obj) → List (Addr × Obj) → Prop} (G : List Value → List (Addr × Obj) → Prop)
    (hh : A.handled = none) (F : Fr g L s.heap m) (N : News g L s.heap Z) (hm : (ax, o) ∈ Z) (hc : o.cls = .type "list") (hd : o.data = .seq items n0) (hsz : items.size ≤ sizeLine) (hG : G [] [])
    (step : ∀ C D, StepL w A g L m (compEnvC scope cl C env) (.Tuple elts k tp) elt items.size (atEnum items) Z G s C D)
    (fin : ∀ h tk D ys X, G ys X → ys.length = items.size → Fin { s with heap := h, toks := tk } D ys X Z) :
    wpAny (model PP w) A (call (.type "enumerate") [.ref ax]) (fun xv s₁ => wpAny (model PP w) A (pyIter xv) (SrcL w A g L m env (.Tuple elts k tp) elt scope cl Fin) E s₁) E s := by
  have hax := N _ hm
  have hl : s.heap.IsList ax items := ⟨o, hax.1, hc, n0, hd⟩
  have hlt : ax < s.heap.objs.size := Heap.lt_size hax.1
  have hLs : L < s.heap.objs.size := F.ns.lt
  refine call_enumerate_list hl fun h' hE hI hsz' hk => ?_
  refine wpAny_pyIter_enum hE ?_
  refine ⟨s.heap.objs.size + 1, _, _, items.size, _, _, _, Z, G, rfl, enumTurns hh (s.heap.objs.size + 1) s.heap.objs.size ax (Nat.succ_ne_self _) (Nat.ne_of_lt (Nat.lt_succ_of_lt hlt)) (Nat.ne_of_lt hlt) items, ?_, hsz, ⟨⟨_, hE⟩, hI, hl.at fun o e => hk ax o e⟩, ?_, ?_, ?_, ?_, F.keeps hk, N.grown hk, hG, fun _ _ C D => step C D, fun D ys X h1 h2 => fin _ _ D ys X h1 h2⟩
  · rintro s' Q E ⟨⟨old, he⟩, _⟩ hq
    exact wpAny_pyIter_enum he hq
  · intro b hb
    show b < h'.objs.size
    rw [hsz']
    simp only [List.mem_cons, List.not_mem_nil, or_false] at hb
    rcases hb with rfl | rfl | rfl
    · exact Nat.lt_succ_self _
    · exact Nat.lt_succ_of_lt (Nat.lt_succ_self _)
    · exact Nat.lt_succ_of_lt (Nat.lt_succ_of_lt hlt)
  · intro b hb
    simp only [List.mem_cons, List.not_mem_nil, or_false] at hb
    rcases hb with rfl | rfl
    · exact newer F (Nat.le_succ _)
    · exact newer F (Nat.le_refl _)
  · intro hb
    simp only [List.mem_cons, List.not_mem_nil, or_false] at hb
    rcases hb with e | e | e
    · exact Nat.ne_of_lt (Nat.lt_succ_of_lt hLs) e
    · exact Nat.ne_of_lt hLs e
    · exact hax.2.1 e.symm
  · intro p hp hb
    have hlp := Heap.lt_size (N p hp).1
    simp only [List.mem_cons, List.not_mem_nil, or_false] at hb
    rcases hb with e | e
    · exact Nat.ne_of_lt (Nat.lt_succ_of_lt hlp) e
    · exact Nat.ne_of_lt hlp e

theorem zipTurns {elts : List Expr} {k : Nat} {tp : Pos} (hh : A.handled = none) (z TI TO i1 i2 l1 l2 : Addr) (D : ZipApart z TI TO i1 i2 l1 l2) (xs ys : Array Value) :
    ∃ Md, KTurns PP w A (.Tuple elts k tp) z [z, TI, TO, i1, i2, l1, l2] [z, TO, i1, i2] (min xs.size ys.size) (atZip xs ys) Md
      (fun i h => IsZip h z TI TO .none ∧ IsPair h TI (.ref i1) (.ref i2) ∧ (∃ a b, IsPair h TO a b) ∧ h.IsListIter i1 l1 i ∧ h.IsListIter i2 l2 i ∧ h.IsList l1 xs ∧ h.IsList l2 ys) := by
  have W := KTurns.ofWalksU (prog := PP) (w := w) (elts := elts) (k := k) (pos := tp) (WalksT.zip2 hh z TI TO i1 i2 l1 l2 D xs ys).toU
  refine ⟨_, ⟨W.sub, W.frame, W.item, fun i v s Q E hm hQ => W.go i v s Q E hm fun h' hP st hk => hQ h' ?_ st hk, W.done⟩⟩
  obtain ⟨T, vals, rfl, ⟨x, y, hx, hy, rfl⟩, hT⟩ := hP
  exact ⟨T, x, y, rfl, hx, hy, hT⟩

theorem zip_facts {ax ay : Addr} {n : Nat} (h1 : ax < n) (h2 : ay < n) : ZipApart (n + 4) (n + 2) (n + 3) n (n + 1) ax ay := ktu_apart _ _ _ h1 h2

theorem zipL {ax ay : Addr} {o o' : Obj} {xs ys : Array Value} {n0 n1 : Nat} {elts : List Expr} {k : Nat} {tp : Pos} {Fin : Shared → Addr → List Value → List (Addr × Obj) → List (Addr × Obj) → Prop} (G : List Value → List (Addr × Obj) → Prop)
    (hh : A.handled = none) (F : Fr g L s.heap m) (N : News g L s.heap Z) (hm : (ax, o) ∈ Z) (hc : o.cls = .type "list") (hd : o.data = .seq xs n0) (hm' : (ay, o') ∈ Z) (hc' : o'.cls = .type "list") (hd' : o'.data = .seq ys n1) (hsz : min xs.size ys.size ≤ sizeLine) (hG : G [] [])
    (step : ∀ C D, StepL w A g L m (compEnvC scope cl C env) (.Tuple elts k tp) elt (min xs.size ys.size) (atZip xs ys) Z G s C D)
    (fin : ∀ h tk D zs X, G zs X → zs.length = min xs.size ys.size → Fin { s with heap := h, toks := tk } D zs X Z) :
    wpAny (model PP w) A (call (.type "zip") [.ref ax, .ref ay]) (fun xv s₁ => wpAny (model PP w) A (pyIter xv) (SrcL w A g L m env (.Tuple elts k tp) elt scope cl Fin) E s₁) E s := by
  have hax := N _ hm
  have hay := N _ hm'
  have hl : s.heap.IsList ax xs := ⟨o, hax.1, hc, n0, hd⟩
  have hl' : s.heap.IsList ay ys := ⟨o', hay.1, hc', n1, hd'⟩
  have hlt : ax < s.heap.objs.size := Heap.lt_size hax.1
  have hlt' : ay < s.heap.objs.size := Heap.lt_size hay.1
  have hLs : L < s.heap.objs.size := F.ns.lt
  refine call_zip_2 hl hl' fun h' hz hTI hTO hi1 hi2 hsz' hk => ?_
  refine wpAny_pyIter_zip hz ?_
  obtain ⟨Md, W⟩ := zipTurns (w := w) (elts := elts) (k := k) (tp := tp) hh _ _ _ _ _ _ _ (zip_facts hlt hlt') xs ys
  refine ⟨s.heap.objs.size + 4, _, _, _, _, _, _, Z, G, rfl, W, ?_, hsz, ⟨hz, hTI, ⟨_, _, hTO⟩, hi1, hi2, hl.at fun o e => hk ax o e, hl'.at fun o e => hk ay o e⟩, ?_, ?_, ?_, ?_, F.keeps hk, N.grown hk, hG, fun _ _ C D => step C D, fun D ys X h1 h2 => fin _ _ D ys X h1 h2⟩
  · rintro s' Q E ⟨he, _⟩ hq
    exact wpAny_pyIter_zip he hq
  · intro b hb
    show @LT.lt Nat _ b h'.objs.size
    rw [hsz']
    simp only [List.mem_cons, List.not_mem_nil, or_false] at hb
    have a1 : @LT.lt Nat _ ax s.heap.objs.size := hlt
    have a2 : @LT.lt Nat _ ay s.heap.objs.size := hlt'
    have hb : @Eq Nat b (s.heap.objs.size + 4) ∨ @Eq Nat b (s.heap.objs.size + 2) ∨ @Eq Nat b (s.heap.objs.size + 3) ∨ @Eq Nat b s.heap.objs.size ∨ @Eq Nat b (s.heap.objs.size + 1) ∨ @Eq Nat b ax ∨ @Eq Nat b ay := hb
    omega
  · intro b hb
    simp only [List.mem_cons, List.not_mem_nil, or_false] at hb
    have hb : @Eq Nat b (s.heap.objs.size + 4) ∨ @Eq Nat b (s.heap.objs.size + 3) ∨ @Eq Nat b s.heap.objs.size ∨ @Eq Nat b (s.heap.objs.size + 1) := hb
    refine newer F ?_
    show @LE.le Nat _ s.heap.objs.size b
    omega
  · intro hb
    simp only [List.mem_cons, List.not_mem_nil, or_false] at hb
    have hb : @Eq Nat L (s.heap.objs.size + 4) ∨ @Eq Nat L (s.heap.objs.size + 2) ∨ @Eq Nat L (s.heap.objs.size + 3) ∨ @Eq Nat L s.heap.objs.size ∨ @Eq Nat L (s.heap.objs.size + 1) ∨ @Eq Nat L ax ∨ @Eq Nat L ay := hb
    have hLs' : @LT.lt Nat _ L s.heap.objs.size := hLs
    have e1 : ¬ @Eq Nat L ax := fun e => hax.2.1 e.symm
    have e2 : ¬ @Eq Nat L ay := fun e => hay.2.1 e.symm
    rcases hb with e | e | e | e | e | e | e
    · omega
    · omega
    · omega
    · omega
    · omega
    · exact e1 e
    · exact e2 e
  · intro p hp hb
    have hlp : @LT.lt Nat _ p.1 s.heap.objs.size := Heap.lt_size (N p hp).1
    simp only [List.mem_cons, List.not_mem_nil, or_false] at hb
    have hb : @Eq Nat p.1 (s.heap.objs.size + 4) ∨ @Eq Nat p.1 (s.heap.objs.size + 3) ∨ @Eq Nat p.1 s.heap.objs.size ∨ @Eq Nat p.1 (s.heap.objs.size + 1) := hb
    omega

theorem zipD {ax ay : Addr} {o o' : Obj} {xs ys : Array Value} {n0 n1 : Nat} {elts : List Expr} {k : Nat} {tp : Pos} {Fin : Shared → List (Str × Value) → List (Addr × Obj) → Prop} (G : Nat → List (Str × Value) → Prop)
    (hh : A.handled = none) (F : Fr g L s.heap m) (N : News g L s.heap Z) (hm : (ax, o) ∈ Z) (hc : o.cls = .type "list") (hd : o.data = .seq xs n0) (hm' : (ay, o') ∈ Z) (hc' : o'.cls = .type "list") (hd' : o'.data = .seq ys n1) (hsz : min xs.size ys.size ≤ sizeLine) (hG : G 0 [])
    (step : ∀ C D, StepD w A g L m (compEnvC scope cl C env) (.Tuple elts k tp) kx vx (min xs.size ys.size) (atZip xs ys) Z G s C D)
    (fin : ∀ h tk kvs, G (min xs.size ys.size) kvs → kvs.length ≤ min xs.size ys.size → Fin { s with heap := h, toks := tk } kvs Z) :
    wpAny (model PP w) A (call (.type "zip") [.ref ax, .ref ay]) (fun xv s₁ => wpAny (model PP w) A (pyIter xv) (SrcD w A g L m env (.Tuple elts k tp) kx vx scope cl Fin) E s₁) E s := by
  have hax := N _ hm
  have hay := N _ hm'
  have hl : s.heap.IsList ax xs := ⟨o, hax.1, hc, n0, hd⟩
  have hl' : s.heap.IsList ay ys := ⟨o', hay.1, hc', n1, hd'⟩
  have hlt : ax < s.heap.objs.size := Heap.lt_size hax.1
  have hlt' : ay < s.heap.objs.size := Heap.lt_size hay.1
  have hLs : L < s.heap.objs.size := F.ns.lt
  refine call_zip_2 hl hl' fun h' hz hTI hTO hi1 hi2 hsz' hk => ?_
  refine wpAny_pyIter_zip hz ?_
  obtain ⟨Md, W⟩ := zipTurns (w := w) (elts := elts) (k := k) (tp := tp) hh _ _ _ _ _ _ _ (zip_facts hlt hlt') xs ys
  refine ⟨s.heap.objs.size + 4, _, _, _, _, _, _, Z, G, rfl, W, ?_, hsz, ⟨hz, hTI, ⟨_, _, hTO⟩, hi1, hi2, hl.at fun o e => hk ax o e, hl'.at fun o e => hk ay o e⟩, ?_, ?_, ?_, ?_, F.keeps hk, N.grown hk, hG, fun _ _ C D => step C D, fun kvs h1 h2 => fin _ _ kvs h1 h2⟩
  · rintro s' Q E ⟨he, _⟩ hq
    exact wpAny_pyIter_zip he hq
  · intro b hb
    show @LT.lt Nat _ b h'.objs.size
    rw [hsz']
    simp only [List.mem_cons, List.not_mem_nil, or_false] at hb
    have a1 : @LT.lt Nat _ ax s.heap.objs.size := hlt
    have a2 : @LT.lt Nat _ ay s.heap.objs.size := hlt'
    have hb : @Eq Nat b (s.heap.objs.size + 4) ∨ @Eq Nat b (s.heap.objs.size + 2) ∨ @Eq Nat b (s.heap.objs.size + 3) ∨ @Eq Nat b s.heap.objs.size ∨ @Eq Nat b (s.heap.objs.size + 1) ∨ @Eq Nat b ax ∨ @Eq Nat b ay := hb
    omega
  · intro b hb
    simp only [List.mem_cons, List.not_mem_nil, or_false] at hb
    have hb : @Eq Nat b (s.heap.objs.size + 4) ∨ @Eq Nat b (s.heap.objs.size + 3) ∨ @Eq Nat b s.heap.objs.size ∨ @Eq Nat b (s.heap.objs.size + 1) := hb
    refine newer F ?_
    show @LE.le Nat _ s.heap.objs.size b
    omega
  · intro hb
    simp only [List.mem_cons, List.not_mem_nil, or_false] at hb
    have hb : @Eq Nat L (s.heap.objs.size + 4) ∨ @Eq Nat L (s.heap.objs.size + 2) ∨ @Eq Nat L (s.heap.objs.size + 3) ∨ @Eq Nat L s.heap.objs.size ∨ @Eq Nat L (s.heap.objs.size + 1) ∨ @Eq Nat L ax ∨ @Eq Nat L ay := hb
    have hLs' : @LT.lt Nat _ L s.heap.objs.size := hLs
    have e1 : ¬ @Eq Nat L ax := fun e => hax.2.1 e.symm
    have e2 : ¬ @Eq Nat L ay := fun e => hay.2.1 e.symm
    rcases hb with e | e | e | e | e | e | e
    · omega
    · omega
    · omega
    · omega
    · omega
    · exact e1 e
    · exact e2 e
  · intro p hp hb
    have hlp : @LT.lt Nat _ p.1 s.heap.objs.size := Heap.lt_size (N p hp).1
    simp only [List.mem_cons, List.not_mem_nil, or_false] at hb
    have hb : @Eq Nat p.1 (s.heap.objs.size + 4) ∨ @Eq Nat p.1 (s.heap.objs.size + 3) ∨ @Eq Nat p.1 s.heap.objs.size ∨ @Eq Nat p.1 (s.heap.objs.size + 1) := hb
    omega
end
end Mine
end
section
open PySem PySem.W PyProof.Rows PySem.Calls
theorem Mine.off_UnLaw0 {M : Model} {A : Around} {env : Env} {Q : Flow → Shared → Prop} {E : Value → Shared → Prop} {s : Shared} (h : wpAny M A (execs [] env) Q E s) : wpAny M A (execs [] env) Q E s := by
  try (walk1; fail)
  w_top off
  exact h
end
section
open PySem PySem.W PyProof.Rows PySem.Calls
namespace Mine
set_option maxRecDepth 100000
def lawFn : Option (List Stmt × Scope) := PP.main.body.findSome? fun st => match st with
  | .FunctionDef n _ b _ _ _ sc _ _ _ => if n = Str.ofString "law" then some (b, sc) else none
  | _ => none
def lawBody : List Stmt := match lawFn with
  | some x => x.1
  | none => []
def lawScope : Scope := match lawFn with
  | some x => x.2
  | none => default
def lawSt (i : Nat) : Stmt := (lawBody[i]?).getD (.Pass ⟨0, 0, 0, 0⟩)
def lawEnv (L fa : Addr) (cd : Value) : Env := envOfC (Str.ofString "law") lawScope L fa cd
theorem allLt_mem {d : Addr} : ∀ {l : List (Addr × Obj)}, AllLt d l → ∀ p ∈ l, p.1 < d
  | [], _, _, h => nomatch h
  | _ :: _, x, p, h => by
    rcases List.mem_cons.mp h with rfl | h
    · exact x.1
    · exact allLt_mem x.2 p h
section
local macro_rules | `(tactic| walk_at "subscriptTail") => `(tactic| (k_here; (fail_if_success (with_reducible show wpAny _ _ (subscriptTail (PySem.Expr.Name _ _) _ _ _) _ _ _)); k_dflt (refine kba_turn (value' := PySem.Expr.Name (PySem.Str.ofString "_") ⟨0, 0, 0, 0⟩) (fun _ => rfl) ?_)))
local macro_rules | `(tactic| walk_at "subscriptTail Name Slice ref ref") => `(tactic| (k_here; k_dflt (refine' kmk_slice_ints ?F ?N ?l ?p ?q ?i ?m ?c ?_ ?s ?t ?z; (case F => k_asm); (case N => k_asm); (case l => kmk_list); (case p => kmk_part); (case q => kmk_part); (case i => l_ints); (case m => exact kmk_from (by l_ints) (Int.natCast_nonneg _)); (case c => kmk_len); (case s => with_unfolding_all rfl); (case t => kmk_pure); (case z => kmk_size)); intro D' ws' h' F' N' l1 hI' hC' hL'; (try k_lt l1); (try k_sweep)))
set_option maxHeartbeats 2000000 in
theorem law_0 {w : World} {g : Heap} {L fa sc : Addr} {cd : Value} {s : Shared} {Z : List (Addr × Obj)} {items : List Value} {zs : List Int} {Q : Flow → Shared → Prop} {E : Value → Shared → Prop}
    (Y : Rdy w g) (F : Fr g L s.heap (fun z => if z = Str.ofString "script" then some (.ref sc) else none)) (N : News g L s.heap Z) (hsc : g.IsList sc items.toArray) (hz : IntsAre items zs) (hl : zs.length ≤ 63)
    (hQ : ∀ nl ws nums h tk, nums.length = 6 → (∀ n ∈ nums, 0 ≤ n ∧ n < 24576) → IntsAre ws nums → Fr g L h (fun z => if z = Str.ofString "numbers" then some (.ref nl) else if z = Str.ofString "script" then some (.ref sc) else none) → News g L h ((nl, listOf ws.toArray 0) :: Z) → (∀ p ∈ Z, p.1 < nl) → Q .next { s with heap := h, toks := tk }) :
    wpAny (model PP w) (AAt 600) (exec (lawSt 0) (lawEnv L fa cd)) Q E s := by
  obtain ⟨X, ⟨p, loose, mean, mg, mb, T⟩, CH⟩ := id Y
  show wpAny _ _ (exec (Stmt.Assign _ _ _) (envOfC _ (Scope.mk _ _ _ _ _) _ _ _)) _ _ _
  k_steps
  rename Fr g L _ _ => F9
  rename News g L _ _ => N9
  rename IntsAre _ (_ ++ _) => hI
  rename_i low _
  refine hQ _ _ _ _ _ ?_ ?_ hI F9 (fun p hp => N9 p ?_) ?_
  · simp only [List.length_append, List.length_map, List.length_take, List.length_drop, List.length_cons, List.length_nil]
    omega
  · intro n hn
    rcases List.mem_append.mp hn with h | h
    · obtain ⟨a, _, rfl⟩ := List.mem_map.mp h
      rw [Int.fmod_eq_emod_of_nonneg _ (by decide)]
      omega
    · have := List.mem_of_mem_drop h
      simp only [List.mem_cons, List.not_mem_nil, or_false] at this
      omega
  · simp only [List.mem_cons] at hp ⊢
    rcases hp with hp | hp
    · exact .inl hp
    · exact .inr (.inr (.inr (.inr (.inr hp))))
  · exact allLt_mem low.2.2.2.2
end
end Mine
end
section
open PySem PySem.W PyProof.Rows PySem.Calls
namespace Mine
set_option maxRecDepth 100000
/-- a for over a list, the list kept -/
theorem for_list {σ : Type} {w : World} {A : Around} {s : Shared} {g : Heap} {L it l : Addr} {target : Expr} {body : List Stmt} {env : Env} {R : Result → Shared → Prop} {items : List Value} {n : Nat}
    (M : σ → Option Value → (Str → Option Value)) (led : σ → List (Addr × Obj)) (Good : Nat → σ → Prop) (ht : ∀ v, letOwnedTupleGo target (.ref it) v = pure ()) (h0 : A.handled = none)
    (mem : ∀ i st, Good i st → (l, listOf items.toArray n) ∈ led st) (ne : ∀ i st, Good i st → ∀ p ∈ led st, p.1 ≠ it)
    (turn : ∀ i v u st oi h tk (Rn : Flow → Shared → Prop) (E : Value → Shared → Prop), items[i]? = some v → Good i st → Fr g L h (M st u) → News g L h ((it, oi) :: led st) →
      (∀ st' h' tk' u', Good (i + 1) st' → Fr g L h' (M st' u') → News g L h' ((it, oi) :: led st') → Rn .next { s with heap := h', toks := tk' }) →
      wpAny (model PP w) A (assign target env v) (fun _ s2 => wpAny (model PP w) A (execs body env) Rn E s2) E { s with heap := h, toks := tk })
    (fin : ∀ u st h tk, Good items.length st → Fr g L h (M st u) → News g L h (led st) → R (.ok .next) { s with heap := h, toks := tk }) :
    ∀ (k i : Nat) (st : σ) (u : Option Value) (oi : Obj) (h : Heap) (tk : Nat), k + i = items.length → IsIt oi l i → Good i st → Fr g L h (M st u) → News g L h ((it, oi) :: led st) →
      codeAny (model PP w) A (.forLoop target (.ref it) body [] env) R { s with heap := h, toks := tk }
  | 0, i, st, u, oi, h, tk, hk, hoi, hg, F, N => by
    refine for_turn ht (next_end (s := { s with heap := h, toks := tk }) hoi h0 F N (ne i st hg) (mem i st hg) (by simp; omega) fun h' F' N' => ?_)
    dsimp only
    refine wpAny_execs_nil ?_
    exact fin u st h' tk (by rw [← hk, Nat.zero_add]; exact hg) F' N'
  | k + 1, i, st, u, oi, h, tk, hk, hoi, hg, F, N => by
    obtain ⟨v, hv⟩ : ∃ v, items[i]? = some v := ⟨_, List.getElem?_eq_getElem (by omega)⟩
    refine for_turn ht (next_item (s := { s with heap := h, toks := tk }) hoi F N (ne i st hg) (mem i st hg) (x := v) (by simpa using hv) fun h' oi' hoi' F' N' => ?_)
    dsimp only
    refine turn i v u st oi' h' tk _ _ hv hg F' N' fun st2 h2 tk2 u2 hg2 F2 N2 => ?_
    dsimp only
    exact for_list M led Good ht h0 mem ne turn fin k (i + 1) st2 u2 oi' h2 tk2 (by omega) hoi' hg2 F2 N2

theorem ne_adr {l l' : List (Addr × Obj)} {x : Nat} (h : ∀ q ∈ l, q.1 ≠ x) (is : List Nat) (e : l'.map (fun p => some p.1) = is.map (fun i => (l[i]?).map (fun p => p.1))) : ∀ p ∈ l', p.1 ≠ x := by
  intro p hp
  have : some p.1 ∈ is.map (fun i => (l[i]?).map (fun p => p.1)) := e ▸ List.mem_map_of_mem (f := fun p : Addr × Obj => some p.1) hp
  obtain ⟨i, _, e⟩ := List.mem_map.mp this
  obtain ⟨q, hq, e⟩ := Option.map_eq_some_iff.mp e
  rw [← e]
  exact h q (List.mem_of_getElem? hq)
/-- what waits in a lexer: words pushed back, or words of its text -/
def Waits (vs ys : List Value) (ln : Int) (ws : List Str) : Prop := (ys = [] ∧ StrsAre vs ws) ∨ (vs = [] ∧ Text ws ys ∧ ys.length ≤ 900 ∧ ln = 1)
section
variable {w : World} {A : Around} {E : Value → Shared → Prop} {s : Shared} {h₀ : Heap} {L : Addr} {m : Str → Option Value} {Q : Value → Shared → Prop} {news : List (Addr × Obj)}
theorem news_ne {wl : Addr} (N : News h₀ L s.heap news) (h : s.heap.get? wl = none) : ∀ p ∈ news, p.1 ≠ wl := fun p hp e => by
  have := (N p hp).1
  rw [e, h] at this
  cases this
theorem s_rest {r : Lx} {x : Addr} {vs ys : List Value} {k c : Nat} {ln : Int} {lt : Tok} {y : Str} {ss : List Str} (rest : List (Addr × Obj))
    (h0 : A.handled = none) (h1 : A.depth ≤ 750) (h2 : A.units ≤ 4 * 750) (F : Fr h₀ L s.heap m) (N : News h₀ L s.heap news) (Y : Rdy w h₀) (Ok : r.Ok w) (hx : r.x = x)
    (hw : Waits vs ys ln (y :: ss)) (hne : ∀ a ∈ y :: ss, Word a) (hl : ss.length ≤ 500)
    (hs : ∀ p ∈ r.own w vs k ln lt ys c ++ [(r.c', r.oc)], p ∈ news) (hr : ∀ p ∈ rest, p ∈ news) (hne2 : ∀ p ∈ rest, p.1 ∉ [r.pb, r.dx, r.lf])
    (hQ : ∀ h' tk wl vs' n k' ln' lt' c', StrsAre vs' (y :: ss) → (∀ p ∈ news, p.1 ≠ wl) → Fr h₀ L h' m →
      News h₀ L h' ((wl, listOf (List.toArray vs') n) :: (r.pb, listOf [].toArray k') :: (r.dx, dictOf (lexDict w r.t1 r.t2 r.t3 r.t4 ln' lt' (.ref r.sx) r.wt r.pb) 4) :: (r.lf, listOf [].toArray c') :: rest) → Q (.ref wl) { s with heap := h', toks := tk }) :
    wpAny (model PP w) A (call (.ref 225) [.ref x] []) Q E s := by
  subst hx
  have hap : Apart r.x r.dx r.pb r.f r.sx r.sdx r.lf r.cl r.c' := Ok.nd
  unfold Apart at hap
  have inA : ∀ a ∈ [r.pb, r.dx, r.lf], a ∈ adrs news :=
    List.forall_mem_cons.mpr ⟨List.mem_map.mpr ⟨_, hs (r.pb, listOf vs.toArray k) (List.mem_of_getElem? (i := 0) rfl), rfl⟩,
      List.forall_mem_cons.mpr ⟨List.mem_map.mpr ⟨_, hs (r.dx, dictOf (lexDict w r.t1 r.t2 r.t3 r.t4 ln lt (.ref r.sx) r.wt r.pb) 4) (List.mem_of_getElem? (i := 1) rfl), rfl⟩,
        List.forall_mem_cons.mpr ⟨List.mem_map.mpr ⟨_, hs (r.lf, listOf ys.toArray c) (List.mem_of_getElem? (i := 2) rfl), rfl⟩, List.forall_mem_nil _⟩⟩⟩
  rcases hw with ⟨rfl, hv⟩ | ⟨rfl, ht, hyl, hln⟩
  · cases hv with
    | @cons _ t vs _ hv =>
      refine wpAny_call (siteC 750 h0 h1 h2 (c_rest_pop Y (fun b o e => F.keep b o e) (Cells.of_news N hs) Ok hv hne hl fun h' tk wl vs' n k' hv' hwl O => ?_))
      obtain ⟨F', N'⟩ := back ((r.dx, dictOf (lexDict w r.t1 r.t2 r.t3 r.t4 ln lt (.ref r.sx) r.wt r.pb) 4) :: (r.lf, listOf [].toArray c) :: rest) F N O
        (fun a ha => inA a (by rw [List.mem_singleton.mp ha]; exact .head _))
        (fun p hp => by
          rcases List.mem_cons.mp hp with rfl | hp
          · exact hs _ (List.mem_of_getElem? (i := 1) rfl)
          · rcases List.mem_cons.mp hp with rfl | hp
            · exact hs _ (List.mem_of_getElem? (i := 2) rfl)
            · exact hr p hp)
        (fun p hp hm => by
          have e := List.mem_singleton.mp hm
          rcases List.mem_cons.mp hp with rfl | hp
          · exact Ok.nd.rise.ne (i := 5) (k := 7) rfl rfl (by decide) e
          · rcases List.mem_cons.mp hp with rfl | hp
            · exact Ok.nd.rise.ne (i := 1) (k := 7) rfl rfl (by decide) e
            · exact hne2 p hp (by rw [e]; exact .head _))
      exact hQ h' tk wl vs' n k' ln lt c hv' (news_ne N hwl) F' (News.of_sub N' (in_take 2 2 [1, 0] rfl rfl))
  · refine wpAny_call (siteC 750 h0 h1 h2 (c_rest_text Y (fun b o e => F.keep b o e) (Cells.of_news N hs) Ok ht hyl hne hl hln fun h' tk wl vs' n k' ln' lt' c' hv' hwl O => ?_))
    obtain ⟨F', N'⟩ := back rest F N O inA hr hne2
    exact hQ h' tk wl vs' n k' ln' lt' c' hv' (news_ne N hwl) F' (News.of_sub N' (in_take 2 2 [1, 0] rfl rfl))
theorem s_push {x dx pb : Addr} {t1 t2 t3 t4 lt wt : Tok} {ln : Int} {st : Value} {n k : Nat} {vs : List Value} {v : Value} {rest : List (Addr × Obj)}
    (h0 : A.handled = none) (h1 : A.depth ≤ 900) (h2 : A.units ≤ 4 * 900) (F : Fr h₀ L s.heap m) (N : News h₀ L s.heap ((pb, listOf vs.toArray k) :: rest)) (Y : Rdy w h₀) (hz : vs.length ≤ 1000)
    (hs : ∀ p ∈ [(x, instObj 59 dx), (dx, dictOf (lexDict w t1 t2 t3 t4 ln lt st wt pb) n)], p ∈ rest) (hne : ∀ p ∈ rest, p.1 ≠ pb)
    (hQ : ∀ h' tk, Fr h₀ L h' m → News h₀ L h' ((pb, listOf (vs ++ [v]).toArray (k + 1)) :: rest) → Q .none { s with heap := h', toks := tk }) : wpAny (model PP w) A (call (.ref 56) [.ref x, v] []) Q E s := by
  have hd : ∀ p ∈ [(x, instObj 59 dx), (dx, dictOf (lexDict w t1 t2 t3 t4 ln lt st wt pb) n)], p.1 ≠ pb := fun p hp => hne p (hs p hp)
  refine wpAny_call (siteC 900 h0 h1 h2 (c_push Y (fun b o e => F.keep b o e) (Cells.of_news N (l := [(pb, listOf vs.toArray k), (x, instObj 59 dx), (dx, dictOf (lexDict w t1 t2 t3 t4 ln lt st wt pb) n)]) ?_) (Ne.symm (hd _ (.head _))) (Ne.symm (hd _ (.tail _ (.head _)))) hz fun h' tk O => ?_))
  · intro p hp
    rcases List.mem_cons.mp hp with rfl | hp
    · exact .head _
    · exact .tail _ (hs p hp)
  · obtain ⟨F', N'⟩ := back rest F N O (fun a ha => by rw [List.mem_singleton.mp ha]; exact .head _) (fun p hp => .tail _ hp) (fun p hp hm => hne p hp (List.mem_singleton.mp hm))
    exact hQ h' tk F' N'
theorem s_hit {c0 : Addr} {oc0 : Obj} {txt : Str} {u : Tok} (h0 : A.handled = none) (h1 : A.depth ≤ 850) (h2 : A.units ≤ 4 * 850) (F : Fr h₀ L s.heap m) (N : News h₀ L s.heap news) (Y : Rdy w h₀) (hs : ∀ p ∈ [(213, tabOf c0), (c0, oc0)], p ∈ news)
    (hco : CodeOk oc0) (hc0 : @LT.lt Nat _ 213 c0) (hx : txt.length ≤ 1000)
    (hQ : ∀ h' tk (r : Lx) lt ys c, StrsAre ys (signs txt) → r.Ok w → r.c' = c0 → r.oc = oc0 → (∀ p ∈ news, p.1 < r.cl) → @LT.lt Nat _ L r.cl → Fr h₀ L h' m → News h₀ L h' (r.own w [] 0 1 lt ys c ++ news) → Q (.ref r.x) { s with heap := h', toks := tk }) : wpAny (model PP w) A (call (.ref 218) [.str txt u] []) Q E s := by
  refine wpAny_call (siteC 850 h0 h1 h2 (c_lexer_hit Y (fun b o e => F.keep b o e) (Cells.of_news N hs) hco hc0 hx fun h' tk r lt ys c a1 a2 a3 a4 a5 O => ?_))
  obtain ⟨F', N'⟩ := back0 F N O
  exact hQ h' tk r lt ys c a1 a2 a3 a4 (fun p hp => Nat.lt_of_lt_of_le (Heap.lt_size (N p hp).1) a5) (Nat.lt_of_lt_of_le F.ns.lt a5) F' N'
end

/-- a lexer of one sign -/
structure Grp where
  r : Lx
  vs : List Value
  k : Nat
  lt : Tok
  c : Nat
  sg : Str
abbrev Grp.led (w : World) (g : Grp) : List (Addr × Obj) := g.r.own w g.vs g.k 1 g.lt [] g.c
abbrev gLed (w : World) (G : List Grp) : List (Addr × Obj) := G.flatMap (Grp.led w)
abbrev ents (G : List Grp) : List (Str × Value) := G.map fun g => (g.sg, Value.ref g.r.x)
def Gok (w : World) (c0 : Addr) (oc0 : Obj) (sgn : Str → Str) (pre : List Str) (g : Grp) : Prop :=
  g.r.Ok w ∧ g.r.c' = c0 ∧ g.r.oc = oc0 ∧ StrsAre g.vs (pre.filter fun a => decide (sgn a = g.sg)) ∧ ∃ a ∈ pre, sgn a = g.sg
theorem valueAt_ents {G : List Grp} {g : Grp} (hn : (G.map (·.sg)).Nodup) (hm : g ∈ G) : valueAt (ents G) g.sg = some (.ref g.r.x) := by
  obtain ⟨i, hi⟩ := List.getElem?_of_mem hm
  refine valueAt_of_get (i := i) (k := g.sg) (v := .ref g.r.x) ?_ ?_
  · have e : (ents G).map (·.1) = G.map (·.sg) := by simp [ents]
    rw [e]; exact hn
  · simp [ents, hi]
theorem valueAt_ents_none {G : List Grp} {sg : Str} (h : sg ∉ G.map (·.sg)) : valueAt (ents G) sg = none :=
  valueAt_none_of_not_mem (by simpa [ents] using h)
theorem strs_push {vs : List Value} {ss : List Str} {y : Str} {t : Tok} (h : StrsAre vs ss) : StrsAre (vs ++ [.str y t]) (ss ++ [y]) := by
  induction h with
  | nil => exact .cons _ _ .nil
  | cons x u _ ih => exact .cons _ _ ih
theorem nd_ne {l A Z : List (Addr × Obj)} (hn : (adrs l).Nodup) (hp : l.Perm (A ++ Z)) : ∀ a ∈ A, ∀ z ∈ Z, z.1 ≠ a.1 := by
  have h2 : (adrs (A ++ Z)).Nodup := (hp.map _).nodup_iff.mp hn
  simp only [adrs, List.map_append, List.nodup_append] at h2
  intro a ha z hz e
  exact h2.2.2 a.1 (List.mem_map_of_mem ha) z.1 (List.mem_map_of_mem hz) e.symm
theorem nd_in {l A Z : List (Addr × Obj)} (hn : (adrs l).Nodup) (hp : l.Perm (A ++ Z)) : (adrs A).Nodup ∧ (adrs Z).Nodup := by
  have h2 : (adrs (A ++ Z)).Nodup := (hp.map _).nodup_iff.mp hn
  simp only [adrs, List.map_append, List.nodup_append] at h2
  exact ⟨h2.1, h2.2.1⟩
theorem nd_cons {p : Addr × Obj} {l : List (Addr × Obj)} (h : (adrs l).Nodup) (hne : ∀ q ∈ l, q.1 ≠ p.1) : (adrs (p :: l)).Nodup := by
  simp only [adrs, List.map_cons, List.nodup_cons]
  refine ⟨fun hm => ?_, h⟩
  obtain ⟨q, hq, e⟩ := List.mem_map.mp hm
  exact hne q hq e
theorem nd_app {l l' : List (Addr × Obj)} {b : Nat} (h : (adrs l).Nodup) (h' : (adrs l').Nodup) (h1 : ∀ q ∈ l, @LT.lt Nat _ q.1 b) (h2 : ∀ q ∈ l', @LE.le Nat _ b q.1) : (adrs (l ++ l')).Nodup := by
  simp only [adrs, List.map_append, List.nodup_append]
  refine ⟨h, h', fun a ha c hc e => ?_⟩
  obtain ⟨q, hq, rfl⟩ := List.mem_map.mp ha
  obtain ⟨q', hq', rfl⟩ := List.mem_map.mp hc
  have x1 := h1 q hq
  have x2 := h2 q' hq'
  replace e : @Eq Nat q.1 q'.1 := e
  omega
theorem mem_gLed {w : World} {G : List Grp} {p : Addr × Obj} : p ∈ gLed w G ↔ ∃ g ∈ G, p ∈ g.led w := List.mem_flatMap
theorem strs_at {vs : List Value} {ss : List Str} (h : StrsAre vs ss) : ∀ {i : Nat} {v : Value}, vs[i]? = some v → ∃ a t, v = .str a t ∧ ss[i]? = some a := by
  induction h with
  | nil => intro i v hv; simp at hv
  | cons x u _ ih =>
    intro i v hv
    cases i with
    | zero => simp at hv; exact ⟨x, u, hv.symm, by simp⟩
    | succ i => simp at hv; obtain ⟨a, t, e, h⟩ := ih hv; exact ⟨a, t, e, by simpa using h⟩
theorem gok_other {w : World} {c0 : Addr} {oc0 : Obj} {sgn : Str → Str} {pre : List Str} {a : Str} {g : Grp} (h : Gok w c0 oc0 sgn pre g) (hne : sgn a ≠ g.sg) : Gok w c0 oc0 sgn (pre ++ [a]) g := by
  obtain ⟨h1, h2, h3, h4, b, hb, hbs⟩ := h
  refine ⟨h1, h2, h3, ?_, b, List.mem_append_left _ hb, hbs⟩
  rw [List.filter_append, show [a].filter (fun a => decide (sgn a = g.sg)) = [] by simp [hne], List.append_nil]
  exact h4
theorem gok_same {w : World} {c0 : Addr} {oc0 : Obj} {sgn : Str → Str} {pre : List Str} {a : Str} {t : Tok} {g g' : Grp} (h1 : g'.r.Ok w) (h2 : g'.r.c' = c0) (h3 : g'.r.oc = oc0) (he : sgn a = g'.sg)
    (h4 : StrsAre g.vs (pre.filter fun a => decide (sgn a = g'.sg))) (h5 : g'.vs = g.vs ++ [.str a t]) : Gok w c0 oc0 sgn (pre ++ [a]) g' := by
  refine ⟨h1, h2, h3, ?_, a, by simp, he⟩
  rw [List.filter_append, show [a].filter (fun a => decide (sgn a = g'.sg)) = [a] by simp [he], h5]
  exact strs_push h4
theorem adrs_upd {w : World} {G1 G2 : List Grp} {q q' : Grp} (h : q'.r = q.r) : adrs (gLed w (G1 ++ q' :: G2)) = adrs (gLed w (G1 ++ q :: G2)) := by
  simp only [adrs, gLed, List.flatMap_append, List.flatMap_cons, List.map_append, Grp.led, Lx.own, List.map_cons, List.map_nil, h]
theorem ne_of_adrs {l l' : List (Addr × Obj)} {a : Addr} (e : adrs l' = adrs l) (h : ∀ p ∈ l, p.1 ≠ a) : ∀ p ∈ l', p.1 ≠ a := by
  intro p hp e2
  have : p.1 ∈ adrs l := by rw [← e]; exact List.mem_map_of_mem hp
  obtain ⟨q, hq, e3⟩ := List.mem_map.mp this
  exact h q hq (e3.trans e2)
theorem valueAt_stored {kvs : List (Str × Value)} {k : Str} {v : Value} (h : valueAt kvs k = none) : valueAt (stored kvs k v) k = some v := by
  rw [stored_absent h]
  have h2 : kvs.find? (fun kv => kv.1 = k) = none := by simpa [valueAt] using h
  simp [valueAt, List.find?_append, h2]
theorem strs_append {vs vs' : List Value} {ss ss' : List Str} (h : StrsAre vs ss) (h' : StrsAre vs' ss') : StrsAre (vs ++ vs') (ss ++ ss') := by
  induction h with
  | nil => exact h'
  | cons x u _ ih => exact .cons _ _ ih
end Mine
end
section
open PySem PySem.W PyProof.Rows PySem.Calls
theorem Mine.off_UnPass {M : Model} {A : Around} {env : Env} {Q : Flow → Shared → Prop} {E : Value → Shared → Prop} {s : Shared} (h : wpAny M A (execs [] env) Q E s) : wpAny M A (execs [] env) Q E s := by
  try (walk1; fail)
  w_top off
  exact h
end
section
open PySem PySem.W PyProof.Rows PySem.Calls
namespace Mine

section
local macro_rules | `(tactic| walk_at "exec For Name Name cons nil") => `(tactic| (k_here; k_dflt (with_unfolding_all refine wpAny_For ?_)))
local macro_rules | `(tactic| walk_at "exec For Name Call cons nil") => `(tactic| (k_here; k_dflt (with_unfolding_all refine wpAny_For ?_)))
local macro_rules | `(tactic| walk_at "call ref") => `(tactic| (k_here; (with_reducible show wpAny _ _ (call (Value.ref 225) _ _) _ _ _); fail))
local macro_rules | `(tactic| walk_at "subscriptTail") => `(tactic| (k_here; (with_reducible show wpAny _ _ (subscriptTail _ _ (Value.ref _) (Value.str _ _)) _ _ _); k_dflt (refine kda_item (knd := PySem.strKind _ _) (by k_asm) (by k_mem) (by k_asm) (strKind_is _ _ _ _) (by first | assumption | exact valueAt_stored (by assumption)) ?_)))
local macro_rules | `(tactic| walk_at "compareOp NotIn str ref") => `(tactic| (k_here; k_dflt (first | refine kdg_notin (knd := PySem.strKind _ _) (by k_asm) (by k_mem) (by k_asm) (by assumption) (strKind_is _ _ _ _) true (by assumption) ?_ | refine kdg_notin (knd := PySem.strKind _ _) (by k_asm) (by k_mem) (by k_asm) (by assumption) (strKind_is _ _ _ _) false (by assumption) ?_); (try dsimp only [Bool.not_true, Bool.not_false])))
local macro_rules | `(tactic| walk_at "setItem ref str") => `(tactic| (k_here; k_dflt (refine' kda_set (knd := PySem.strKind _ _) ?F ?N ?U ?d (strKind_is _ _ _ _) ?z ?_; (case F => k_asm); (case N => k_asm); (case U => k_updF); (case d => k_asm); (case z => assumption)); intro h' o' F' N' hd'; (try dsimp only at N')))
local macro_rules | `(tactic| walk_at "call ref") => `(tactic| (k_here; (with_reducible show wpAny _ _ (call (Value.ref 218) _ _) _ _ _); fail))
local macro_rules | `(tactic| k_all) => `(tactic| (with_reducible assumption))
local macro_rules | `(tactic| walk_at "call ref") => `(tactic| (k_here; (with_reducible show wpAny _ _ (call (Value.ref 56) _ _) _ _ _); k_dflt (refine' s_push ?k0 ?k1 ?k2 ?k3 ?k4 ?k5 ?k6 ?k7 ?k8 ?_; (case k0 => exact rfl); (case k1 => k_units); (case k2 => k_units); (case k3 => k_asm); (case k4 => k_asm); (case k5 => k_asm); (case k6 => assumption); (case k7 => k_allIn); (case k8 => assumption); k_whole); (intro h' tk' F' N'; (try k_sweep))))
local macro_rules | `(tactic| walk_at "pyIter ref") => `(tactic| (k_here; k_dflt (refine' iter_list ?a ?b ?c ?_; (case a => k_asm); (case b => k_asm); (case c => k_mem); k_whole); (intro it' h' oi' hoi' F' N' l1)))

set_option maxRecDepth 100000 in
set_option maxHeartbeats 8000000 in
theorem c_pass {w : World} {h₀ : Heap} {s : Shared} {r : Lx} {vs ys : List Value} {y : Str} {ss : List Str} {k c : Nat} {ln : Int} {lt : Tok} {sd : Nat} {od : Obj} {kvs : List (Str × Value)} {sgn : Str → Str}
   {R : Result → Shared → Prop}
   (Y : Rdy w h₀) (sy : ∀ b o, h₀.get? b = some o → s.heap.get? b = some o)
   (C : Cells h₀ s.heap (r.own w vs k ln lt ys c ++ [(r.c', r.oc), (213, tabOf r.c'), (sd, od)])) (Ok : r.Ok w) (hw : Waits vs ys ln (y :: ss)) (hne : ∀ a ∈ y :: ss, Word a) (hl : ss.length ≤ 20)
   (hd : od.IsDictOf (SK w) kvs) (hsg : ∀ a ∈ y :: ss, ∃ t, valueAt kvs a = some (.str (sgn a) t)) (hsd : @LT.lt Nat _ r.pb sd)
   (hR : ∀ h' tk vs' ks k' ln' lt' c', StrsAre vs' (ks.flatMap fun sg => (y :: ss).filter fun a => decide (sgn a = sg)) → sortedS ks = true → ks.Nodup → (∀ sg, sg ∈ ks ↔ ∃ a ∈ y :: ss, sgn a = sg) →
     Out h₀ s.heap h' [r.pb, r.dx, r.lf] [(r.pb, listOf (List.toArray vs') k'), (r.dx, dictOf (lexDict w r.t1 r.t2 r.t3 r.t4 ln' lt' (.ref r.sx) r.wt r.pb) 4), (r.lf, listOf [].toArray c')] → R (.ok (.ret .none)) { s with heap := h', toks := tk })
   : codeAny (model PP w) (AAt 700) (.call (.ref 232) ⟨[.ref r.x, .ref sd], []⟩) R s := by
  have hap : Apart r.x r.dx r.pb r.f r.sx r.sdx r.lf r.cl r.c' := Ok.nd
  unfold Apart at hap
  refine enterP (binds := [("lexer", .ref r.x), ("signs", .ref sd)]) Y sy C (by k_is) (by k_is) (by k_room) (BindsTo.of_eq rfl) (locs rfl) ?_ (by decide) rfl rfl rfl
  intro g L h₁ I F N hlt hLs
  simp only [Lx.own, List.cons_append, List.nil_append] at N hlt
  k_lt hlt
  obtain ⟨X, ⟨p, loose, mean, mg, mb, T⟩, CH⟩ := id I.Y
  have YY := I.Y
  show wpAny _ _ _ _ _ _
  k_fold
  k_steps
  rename Fr _ _ _ _ => F2
  rename News _ _ _ _ => N2
  rename_i qd h1 D lo hD _ _ _ lqd h2
  refine s_rest (x := r.x) [(qd, D), (r.x, instObj 59 r.dx), (r.f, r.of), (r.sx, instObj 59 r.sdx), (r.sdx, dictOf (r.sdict w) 5), (r.cl, r.co), (r.c', r.oc), (213, tabOf r.c'), (sd, od)] rfl (by k_units) (by k_units) F2 N2 YY Ok rfl hw hne (by omega) (by simp only [Lx.own, List.cons_append, List.nil_append]; k_allIn) (by k_allIn) ?_ ?_
  · exact List.forall_mem_cons.mpr ⟨Ok.nd.high3 (by dsimp only; omega), Ok.nd.rest3 (List.forall_mem_cons.mpr ⟨Ok.nd.low3 Ok.nd.2.1, List.forall_mem_cons.mpr ⟨Ok.nd.high3 hsd, List.forall_mem_nil _⟩⟩)⟩
  intro h3 tk3 wl vs3 n3 k3 ln3 lt3 c3 hv3 hwl F3 N3
  clear F2 N2
  dsimp only at N3 ⊢
  k_steps
  rename Fr _ _ _ _ => F4
  rename News _ _ _ _ => N4
  rename_i it h4 oi hoi l4
  obtain ⟨B, hB⟩ : ∃ B, B = [(wl, listOf vs3.toArray n3), (r.pb, listOf #[] k3), (r.dx, dictOf (lexDict w r.t1 r.t2 r.t3 r.t4 ln3 lt3 (.ref r.sx) r.wt r.pb) 4), (r.lf, listOf #[] c3), (r.x, instObj 59 r.dx), (r.f, r.of), (r.sx, instObj 59 r.sdx), (r.sdx, dictOf (r.sdict w) 5), (r.cl, r.co), (r.c', r.oc), (213, tabOf r.c'), (sd, od)] := ⟨_, rfl⟩
  have N5 : News g L h4 ((it, oi) :: (qd, D) :: (B ++ gLed w [])) := News.of_sub N4 (by
    rw [hB]
    exact in_idx [0, 5, 1, 2, 3, 4, 6, 7, 8, 9, 10, 11, 12, 13] rfl)
  have F5 := Fr.of_eq (m' := fun z => if z = Str.ofString "path" then none else if z = Str.ofString "queues" then some (.ref qd) else List.lookup z [(Str.ofString "lexer", Value.ref r.x), (Str.ofString "signs", Value.ref sd)].reverse) F4 (by
    intro z
    by_cases z1 : z = Str.ofString "path"
    · subst z1; rfl
    · simp only [if_neg z1])
  have lit : ∀ p ∈ (qd, D) :: (B ++ gLed w []), p.1 < it := by
    intro p hp
    refine l4 p ?_
    rw [hB] at hp
    exact in_idx [4, 0, 1, 2, 3, 5, 6, 7, 8, 9, 10, 11, 12] rfl p hp
  have nd0 : (adrs ((qd, D) :: (B ++ gLed w []))).Nodup := by
    have hge := own_ge (w := w) (vs := []) (ys := []) (k := k3) (c := c3) (ln := ln3) (lt := lt3) (r := r) Ok.nd
    have hle := own_le (w := w) (vs := []) (ys := []) (k := k3) (c := c3) (ln := ln3) (lt := lt3) (r := r) Ok.nd
    have hpm : ((qd, D) :: (B ++ gLed w [])).Perm ((wl, listOf vs3.toArray n3) :: (qd, D) :: (sd, od) :: (213, tabOf r.c') :: (r.c', r.oc) :: r.own w [] k3 ln3 lt3 [] c3) := by
      rw [hB]
      simp only [gLed, List.flatMap_nil, List.append_nil, Lx.own]
      refine (List.Perm.swap _ _ _).trans (.cons _ (.cons _ ?_))
      exact (List.perm_append_comm (l₁ := [_, _, _, _, _, _, _, _]) (l₂ := [(r.c', r.oc), (213, tabOf r.c'), (sd, od)])).trans (List.reverse_perm _ |>.symm |> fun h => (List.Perm.append_right _ (l₂ := [(sd, od), (213, tabOf r.c'), (r.c', r.oc)]) h))
    refine (hpm.map (fun p : Addr × Obj => p.1)).nodup_iff.mpr ?_
    refine nd_cons (nd_cons (nd_cons (nd_cons (nd_cons (own_nodup Ok.nd) ?_) ?_) ?_) ?_) ?_
    · exact fun p hp => (hle p hp).2
    · intro p hp
      rcases List.mem_cons.mp hp with rfl | hp
      · exact Nat.ne_of_gt hap.1
      · exact Nat.ne_of_gt (Nat.lt_of_lt_of_le hap.2.1 (hge p hp))
    · have hc : @LT.lt Nat _ r.c' sd := by omega
      intro p hp
      rcases List.mem_cons.mp hp with rfl | hp
      · exact neN (by dsimp only; omega)
      · rcases List.mem_cons.mp hp with rfl | hp
        · exact Nat.ne_of_lt hc
        · exact Nat.ne_of_lt (Nat.lt_of_le_of_lt (hle p hp).1 hsd)
    · intro p hp
      have hall : @LT.lt Nat _ p.1 qd := by
        rcases List.mem_cons.mp hp with rfl | hp
        · dsimp only; omega
        · rcases List.mem_cons.mp hp with rfl | hp
          · dsimp only; omega
          · rcases List.mem_cons.mp hp with rfl | hp
            · dsimp only; omega
            · exact Nat.lt_of_le_of_lt (hle p hp).1 (by omega)
      exact Nat.ne_of_lt hall
    · exact ne_adr hwl [0, 11, 10, 9, 1, 2, 3, 4, 5, 6, 7, 8] rfl
  clear F4 N4 F3 N3 l4
  have hBs : ∀ p ∈ [(sd, od), (213, tabOf r.c'), (r.c', r.oc), (wl, listOf vs3.toArray n3)], p ∈ B := by rw [hB]; exact in_idx [11, 10, 9, 0] rfl
  refine for_list (σ := List Grp × Obj) (l := wl) (items := vs3) (n := n3)
    (fun _ u z => if z = Str.ofString "path" then u else if z = Str.ofString "queues" then some (.ref qd) else List.lookup z [(Str.ofString "lexer", Value.ref r.x), (Str.ofString "signs", Value.ref sd)].reverse)
    (fun st => (qd, st.2) :: (B ++ gLed w st.1))
    (fun i st => st.2.IsDictOf (SK w) (ents st.1) ∧ (st.1.map (·.sg)).Nodup ∧ (∀ g ∈ st.1, Gok w r.c' r.oc sgn ((y :: ss).take i) g) ∧ (∀ a ∈ (y :: ss).take i, sgn a ∈ st.1.map (·.sg)) ∧ st.1.length ≤ i ∧ (adrs ((qd, st.2) :: (B ++ gLed w st.1))).Nodup ∧ ∀ p ∈ (qd, st.2) :: (B ++ gLed w st.1), p.1 ≠ it)
    (fun _ => rfl) rfl ?_ ?_ ?_ ?_ vs3.length 0 ([], D) none oi h4 _ rfl hoi ⟨hD, List.nodup_nil, (fun _ h => nomatch h), (by simp), Nat.le_refl _, nd0, fun p hp => Nat.ne_of_lt (lit p hp)⟩ F5 N5
  · intro i st _
    exact .tail _ (List.mem_append_left _ (hBs _ (List.mem_of_getElem? (i := 3) rfl)))
  · rintro i st ⟨_, _, _, _, _, _, h⟩
    exact h
  · clear F5 N5 lit nd0 hD oi hoi
    rintro i v u ⟨G, D1⟩ oi h tk Rn E hv ⟨hD, g1, g2, g3, g4, g5, g6⟩ F N hgo
    dsimp only at hD g1 g2 g3 g4 g5 g6 F N hgo
    obtain ⟨a, t, rfl, ha⟩ := strs_at hv3 hv
    obtain ⟨ts, hs1⟩ := hsg a (List.mem_of_getElem? ha)
    obtain ⟨kd, hkd⟩ : ∃ kd, kd = ents G := ⟨_, rfl⟩
    have hD1 : D1.IsDictOf (SK w) kd := by rw [hkd]; exact hD
    have htake : (y :: ss).take (i + 1) = (y :: ss).take i ++ [a] := by rw [List.take_add_one, ha]; rfl
    have hnot : (adrs ((it, oi) :: (qd, D1) :: (B ++ gLed w G))).Nodup := nd_cons g5 g6
    by_cases hm : sgn a ∈ G.map (·.sg)
    · obtain ⟨q, hq, hqs⟩ := List.mem_map.mp hm
      obtain ⟨G1, G2, rfl⟩ := List.append_of_mem hq
      have hval : valueAt kd (sgn a) = some (.ref q.r.x) := by rw [hkd, ← hqs]; exact valueAt_ents g1 hq
      have hsome : (valueAt kd (sgn a)).isSome = true := by rw [hval]; rfl
      obtain ⟨o1, o2, o3, o4, o5⟩ := g2 q hq
      have hz : q.vs.length ≤ 1000 := by
        have e1 := o4.len_eq
        have e2 := List.length_filter_le (fun a => decide (sgn a = q.sg)) ((y :: ss).take i)
        have e3 : ((y :: ss).take i).length ≤ (y :: ss).length := List.length_take_le' _ _
        simp only [List.length_cons] at e3
        omega
      have hperm : ((it, oi) :: (qd, D1) :: (B ++ gLed w (G1 ++ q :: G2))).Perm (q.led w ++ ((it, oi) :: (qd, D1) :: (B ++ gLed w (G1 ++ G2)))) := by
        have e1 : (gLed w (G1 ++ q :: G2)).Perm (q.led w ++ gLed w (G1 ++ G2)) := by
          have := (List.perm_middle (a := q) (l₁ := G1) (l₂ := G2)).flatMap_right (Grp.led w)
          simpa [gLed] using this
        have e2 : (B ++ gLed w (G1 ++ q :: G2)).Perm (q.led w ++ (B ++ gLed w (G1 ++ G2))) := (e1.append_left B).trans (by rw [← List.append_assoc, ← List.append_assoc]; exact List.perm_append_comm.append_right _)
        exact ((e2.cons (qd, D1)).cons (it, oi)).trans (((List.perm_middle (l₁ := q.led w)).symm.cons _).trans (List.perm_middle (l₁ := q.led w)).symm)
      have ap := nd_ne hnot hperm
      have ndq := (nd_in hnot hperm).1
      obtain ⟨Z, hZ⟩ : ∃ Z, Z = (q.led w).tail ++ ((it, oi) :: (qd, D1) :: (B ++ gLed w (G1 ++ G2))) := ⟨_, rfl⟩
      have memA : ∀ p ∈ (q.led w), p ∈ (it, oi) :: (qd, D1) :: (B ++ gLed w (G1 ++ q :: G2)) := fun p hp => hperm.mem_iff.mpr (List.mem_append_left _ hp)
      have memZ : ∀ p ∈ (it, oi) :: (qd, D1) :: (B ++ gLed w (G1 ++ G2)), p ∈ (it, oi) :: (qd, D1) :: (B ++ gLed w (G1 ++ q :: G2)) := fun p hp => hperm.mem_iff.mpr (List.mem_append_right _ hp)
      have hneZ : ∀ p ∈ Z, p.1 ≠ q.r.pb := by
        intro p hp
        rw [hZ] at hp
        rcases List.mem_append.mp hp with hp | hp
        · intro e
          exact (List.nodup_cons.mp (show ((q.r.pb : Addr) :: adrs (q.led w).tail).Nodup from ndq)).1 (by rw [← e]; exact List.mem_map_of_mem hp)
        · exact ap (q.r.pb, listOf q.vs.toArray q.k) (.head _) p hp
      have inZ : ∀ p ∈ [(sd, od), (qd, D1), (q.r.x, instObj 59 q.r.dx), (q.r.dx, dictOf (lexDict w q.r.t1 q.r.t2 q.r.t3 q.r.t4 1 q.lt (.ref q.r.sx) q.r.wt q.r.pb) 4)], p ∈ Z := by
        rw [hZ]
        exact List.forall_mem_cons.mpr ⟨List.mem_append_right _ (.tail _ (.tail _ (List.mem_append_left _ (hBs _ (List.mem_of_getElem? (i := 0) rfl))))), List.forall_mem_cons.mpr ⟨List.mem_append_right _ (.tail _ (.head _)),
          List.forall_mem_cons.mpr ⟨List.mem_append_left _ (List.mem_of_getElem? (i := 2) rfl), List.forall_mem_cons.mpr ⟨List.mem_append_left _ (List.mem_of_getElem? (i := 0) rfl), List.forall_mem_nil _⟩⟩⟩⟩
      have NK : News g L h ((q.r.pb, listOf q.vs.toArray q.k) :: (sd, od) :: (qd, D1) :: (q.r.x, instObj 59 q.r.dx) :: (q.r.dx, dictOf (lexDict w q.r.t1 q.r.t2 q.r.t3 q.r.t4 1 q.lt (.ref q.r.sx) q.r.wt q.r.pb) 4) :: Z) := by
        refine News.of_sub N fun p hp => ?_
        have goZ : p ∈ Z → p ∈ (it, oi) :: (qd, D1) :: (B ++ gLed w (G1 ++ q :: G2)) := fun hp => by
          rw [hZ] at hp
          rcases List.mem_append.mp hp with hp | hp
          · exact memA p (List.mem_of_mem_tail hp)
          · exact memZ p hp
        rcases List.mem_cons.mp hp with rfl | hp
        · exact memA _ (.head _)
        · have hp' : p ∈ [(sd, od), (qd, D1), (q.r.x, instObj 59 q.r.dx), (q.r.dx, dictOf (lexDict w q.r.t1 q.r.t2 q.r.t3 q.r.t4 1 q.lt (.ref q.r.sx) q.r.wt q.r.pb) 4)] ++ Z := hp
          rcases List.mem_append.mp hp' with hp | hp
          · exact goZ (inZ p hp)
          · exact goZ hp
      have hneK : ∀ p ∈ (sd, od) :: (qd, D1) :: (q.r.x, instObj 59 q.r.dx) :: (q.r.dx, dictOf (lexDict w q.r.t1 q.r.t2 q.r.t3 q.r.t4 1 q.lt (.ref q.r.sx) q.r.wt q.r.pb) 4) :: Z, p.1 ≠ q.r.pb := by
        intro p hp
        have hp' : p ∈ [(sd, od), (qd, D1), (q.r.x, instObj 59 q.r.dx), (q.r.dx, dictOf (lexDict w q.r.t1 q.r.t2 q.r.t3 q.r.t4 1 q.lt (.ref q.r.sx) q.r.wt q.r.pb) 4)] ++ Z := hp
        rcases List.mem_append.mp hp' with hp | hp
        · exact hneZ p (inZ p hp)
        · exact hneZ p hp
      have back : ∀ h', News g L h' ((q.r.pb, listOf (q.vs ++ [Value.str a t]).toArray (q.k + 1)) :: (sd, od) :: (qd, D1) :: (q.r.x, instObj 59 q.r.dx) :: (q.r.dx, dictOf (lexDict w q.r.t1 q.r.t2 q.r.t3 q.r.t4 1 q.lt (.ref q.r.sx) q.r.wt q.r.pb) 4) :: Z) →
          News g L h' ((it, oi) :: (qd, D1) :: (B ++ gLed w (G1 ++ { q with vs := q.vs ++ [Value.str a t], k := q.k + 1 } :: G2))) := by
        intro h' N'
        refine News.of_sub N' fun p hp => ?_
        have hz : p ∈ (q.led w).tail ++ ((it, oi) :: (qd, D1) :: (B ++ gLed w (G1 ++ G2))) → p ∈ (q.r.pb, listOf (q.vs ++ [Value.str a t]).toArray (q.k + 1)) :: (sd, od) :: (qd, D1) :: (q.r.x, instObj 59 q.r.dx) :: (q.r.dx, dictOf (lexDict w q.r.t1 q.r.t2 q.r.t3 q.r.t4 1 q.lt (.ref q.r.sx) q.r.wt q.r.pb) 4) :: Z :=
          fun hp => by rw [← hZ] at hp; exact .tail _ (.tail _ (.tail _ (.tail _ (.tail _ hp))))
        rcases List.mem_cons.mp hp with rfl | hp
        · exact hz (by simp)
        · rcases List.mem_cons.mp hp with rfl | hp
          · exact hz (by simp)
          · rcases List.mem_append.mp hp with hp | hp
            · exact hz (by simp [hp])
            · obtain ⟨g', hg', hp⟩ := mem_gLed.mp hp
              rcases List.mem_append.mp hg' with hg' | hg'
              · exact hz (List.mem_append_right _ (.tail _ (.tail _ (List.mem_append_right _ (mem_gLed.mpr ⟨g', List.mem_append_left _ hg', hp⟩)))))
              · rcases List.mem_cons.mp hg' with rfl | hg'
                · rcases List.mem_cons.mp hp with rfl | hp
                  · exact .head _
                  · exact hz (List.mem_append_left _ hp)
                · exact hz (List.mem_append_right _ (.tail _ (.tail _ (List.mem_append_right _ (mem_gLed.mpr ⟨g', List.mem_append_right _ hg', hp⟩)))))
      have fin := hgo (G1 ++ { q with vs := q.vs ++ [Value.str a t], k := q.k + 1 } :: G2, D1)
      clear hgo N hperm ap ndq memA memZ hneZ hD
      clear hZ
      k_steps
      rename Fr _ _ _ _ => F6
      rename News _ _ _ _ => N6
      refine fin _ _ (some (.str a t)) ?_ (norm1 F6) (back _ N6)
      clear F6 N6 back fin hneK
      have eA : adrs ((qd, D1) :: (B ++ gLed w (G1 ++ { q with vs := q.vs ++ [Value.str a t], k := q.k + 1 } :: G2))) = adrs ((qd, D1) :: (B ++ gLed w (G1 ++ q :: G2))) := by
        have := adrs_upd (w := w) (G1 := G1) (G2 := G2) (q := q) (q' := { q with vs := q.vs ++ [Value.str a t], k := q.k + 1 }) rfl
        simp only [adrs, List.map_cons, List.map_append] at this ⊢
        rw [this]
      have eS : (G1 ++ { q with vs := q.vs ++ [Value.str a t], k := q.k + 1 } :: G2).map (·.sg) = (G1 ++ q :: G2).map (·.sg) := by simp
      have eE : ents (G1 ++ { q with vs := q.vs ++ [Value.str a t], k := q.k + 1 } :: G2) = kd := by rw [hkd]; simp [ents]
      refine ⟨by rw [eE]; exact hD1, by rw [eS]; exact g1, fun g' hg' => ?_, fun a' ha' => ?_, ?_, by rw [eA]; exact g5, ne_of_adrs eA g6⟩
      · rw [htake]
        have oth : ∀ g' ∈ G1 ++ G2, Gok w r.c' r.oc sgn ((y :: ss).take i ++ [a]) g' := fun g' hg' => by
          refine gok_other (g2 g' ?_) ?_
          · rcases List.mem_append.mp hg' with h | h
            · exact List.mem_append_left _ h
            · exact List.mem_append_right _ (.tail _ h)
          · intro e
            have hp : ((G1 ++ q :: G2).map (·.sg)).Perm (q.sg :: (G1 ++ G2).map (·.sg)) := (List.perm_middle (a := q) (l₁ := G1) (l₂ := G2)).map _
            have := hp.nodup_iff.mp g1
            rw [List.nodup_cons] at this
            exact this.1 (by rw [hqs, e]; exact List.mem_map_of_mem hg')
        rcases List.mem_append.mp hg' with h | h
        · exact oth g' (List.mem_append_left _ h)
        · rcases List.mem_cons.mp h with rfl | h
          · exact gok_same o1 o2 o3 hqs.symm o4 rfl
          · exact oth g' (List.mem_append_right _ h)
      · rw [eS]
        rw [htake] at ha'
        rcases List.mem_append.mp ha' with h | h
        · exact g3 a' h
        · rw [List.mem_singleton.mp h]; exact hm
      · simp only [List.length_append, List.length_cons] at g4 ⊢; omega
    · have hval : valueAt kd (sgn a) = none := by rw [hkd]; exact valueAt_ents_none hm
      have hsome : (valueAt kd (sgn a)).isSome = false := by rw [hval]; rfl
      have hsz : kd.length ≤ sizeLine := by
        rw [hkd, sizeLine_eq]
        have : i < (y :: ss).length := (List.getElem?_eq_some_iff.mp ha).1
        simp only [ents, List.length_map, List.length_cons] at this ⊢
        omega
      obtain ⟨Z, hZ⟩ : ∃ Z, Z = (it, oi) :: (B ++ gLed w G) := ⟨_, rfl⟩
      have hneZ : ∀ p ∈ Z, p.1 ≠ qd := by
        rw [hZ]
        exact nd_ne (l := (it, oi) :: (qd, D1) :: (B ++ gLed w G)) (A := [(qd, D1)]) (Z := (it, oi) :: (B ++ gLed w G)) hnot (List.Perm.swap (qd, D1) (it, oi) (B ++ gLed w G)) (qd, D1) (.head _)
      have NK : News g L h ((sd, od) :: (qd, D1) :: (213, tabOf r.c') :: (r.c', r.oc) :: Z) := by
        rw [hZ]
        exact News.of_sub N (List.forall_mem_cons.mpr ⟨.tail _ (.tail _ (List.mem_append_left _ (hBs _ (List.mem_of_getElem? (i := 0) rfl)))), List.forall_mem_cons.mpr ⟨.tail _ (.head _), List.forall_mem_cons.mpr ⟨.tail _ (.tail _ (List.mem_append_left _ (hBs _ (List.mem_of_getElem? (i := 1) rfl)))),
          List.forall_mem_cons.mpr ⟨.tail _ (.tail _ (List.mem_append_left _ (hBs _ (List.mem_of_getElem? (i := 2) rfl)))), List.forall_mem_cons.mpr ⟨.head _, fun p hp => .tail _ (.tail _ hp)⟩⟩⟩⟩⟩)
      clear N hD
      have hZm : ∀ p ∈ Z, p = (it, oi) ∨ p ∈ B ++ gLed w G := by
        rw [hZ]; intro p hp; exact List.mem_cons.mp hp
      have hZr : ∀ p ∈ (it, oi) :: (B ++ gLed w G), p ∈ Z := by rw [hZ]; exact fun p hp => hp
      clear hZ
      have fin := fun (q : Grp) (D2 : Obj) => hgo (G ++ [q], D2)
      clear hgo
      k_steps
      rename Fr _ _ _ _ => F6
      rename News _ _ _ _ => N6
      have hbc : @LT.lt Nat _ 213 r.c' := hap.1
      refine s_hit (c0 := r.c') (oc0 := r.oc) rfl (by k_units) (by k_units) F6 N6 YY (by k_allIn) Ok.code hbc (by decide) ?_
      intro h7 tk7 rn lt7 ys7 c7 a1 a2 a3 a4 l7 l8 F7 N7
      cases a1
      clear F6 N6
      have hapn : Apart rn.x rn.dx rn.pb rn.f rn.sx rn.sdx rn.lf rn.cl rn.c' := a2.nd
      have hapn' := hapn
      unfold Apart at hapn
      have nZ1 : ∀ p ∈ Z, p.1 ≠ rn.pb := fun p hp => Nat.ne_of_lt (Nat.lt_of_lt_of_le (l7 p (.tail _ (.tail _ (.tail _ (.tail _ hp))))) (by omega))
      have lB : ∀ p ∈ (qd, D1) :: (B ++ gLed w G), p.1 < rn.cl := by
        intro p hp
        rcases List.mem_cons.mp hp with rfl | hp
        · exact l7 (qd, D1) (.tail _ (.head _))
        · exact l7 p (.tail _ (.tail _ (.tail _ (.tail _ (hZr _ (.tail _ hp))))))
      have lI : it < rn.cl := l7 (it, oi) (.tail _ (.tail _ (.tail _ (.tail _ (hZr _ (.head _))))))
      k_lt l7
      simp only [Lx.own, List.cons_append, List.nil_append] at N7
      dsimp only
      k_steps
      rename Fr _ _ _ _ => F8
      rename News _ _ _ _ => N8
      rename_i D2 hD2
      refine s_push (vs := []) rfl (by k_units) (by k_units) F8 N8 YY (by decide) (by k_allIn) (by k_all) ?_
      intro h9 tk9 F9 N9
      clear F7 N7 F8 N8
      dsimp only
      k_steps
      rename Fr _ _ _ _ => F10
      rename News _ _ _ _ => N10
      obtain ⟨qn, hqn⟩ : ∃ qn : Grp, qn = ⟨rn, [Value.str a t], 1, lt7, c7, sgn a⟩ := ⟨_, rfl⟩
      have eL : gLed w (G ++ [qn]) = gLed w G ++ qn.led w := by simp [gLed]
      refine fin qn D2 _ _ (some (.str a t)) ?_ (norm1 F10) (News.of_sub N10 ?_)
      · have eE : ents (G ++ [qn]) = stored kd (sgn a) (.ref rn.x) := by rw [stored_absent hval, hkd, hqn]; simp [ents]
        have eS : (G ++ [qn]).map (·.sg) = G.map (·.sg) ++ [sgn a] := by rw [hqn]; simp
        refine ⟨by rw [eE]; exact hD2, ?_, fun g' hg' => ?_, fun a' ha' => ?_, ?_, ?_, ?_⟩
        · rw [eS, List.nodup_append]
          exact ⟨g1, by simp, fun x hx z hz e => hm (by rw [List.mem_singleton.mp hz] at e; rw [← e]; exact hx)⟩
        · rw [htake]
          rcases List.mem_append.mp hg' with h | h
          · exact gok_other (g2 g' h) fun e => hm (by rw [e]; exact List.mem_map_of_mem h)
          · rw [List.mem_singleton.mp h, hqn]
            refine gok_same (g := ⟨rn, [], 0, lt7, c7, sgn a⟩) a2 a3 a4 rfl ?_ rfl
            rw [List.filter_eq_nil_iff.mpr (fun x hx => by
              simp only [decide_eq_true_eq]
              exact fun e => hm (by rw [← e]; exact g3 x hx))]
            exact .nil
        · rw [eS]
          rw [htake] at ha'
          rcases List.mem_append.mp ha' with h | h
          · exact List.mem_append_left _ (g3 a' h)
          · exact List.mem_append_right _ (by rw [List.mem_singleton.mp h]; exact .head _)
        · simp only [List.length_append, List.length_cons, List.length_nil]; omega
        · rw [eL]
          have e0 : (qd, D2) :: (B ++ (gLed w G ++ qn.led w)) = ((qd, D2) :: (B ++ gLed w G)) ++ qn.led w := by simp
          rw [e0]
          refine nd_app (b := rn.cl) ?_ ?_ ?_ ?_
          · have e1 : adrs ((qd, D2) :: (B ++ gLed w G)) = adrs ((qd, D1) :: (B ++ gLed w G)) := rfl
            rw [e1]; exact g5
          · rw [hqn]; exact own_nodup hapn'
          · intro p hp
            rcases List.mem_cons.mp hp with rfl | hp
            · exact lB (qd, D1) (.head _)
            · exact lB p (.tail _ hp)
          · rw [hqn]; exact own_ge hapn'
        · rw [eL]
          intro p hp
          have hp' : p ∈ ((qd, D2) :: (B ++ gLed w G)) ++ qn.led w := by simpa using hp
          rcases List.mem_append.mp hp' with hp | hp
          · rcases List.mem_cons.mp hp with rfl | hp
            · exact g6 (qd, D1) (.head _)
            · exact g6 p (.tail _ hp)
          · rw [hqn] at hp
            exact Nat.ne_of_gt (Nat.lt_of_lt_of_le lI (own_ge hapn' p hp))
      · intro p hp
        rw [eL] at hp
        have hp' : p ∈ (it, oi) :: (qd, D2) :: (B ++ gLed w G ++ qn.led w) := by rw [List.append_assoc]; exact hp
        rcases List.mem_cons.mp hp' with rfl | hp
        · exact List.mem_append_right [_, _, _, _, _, _, _, _, _, _, _, _] (hZr _ (.head _))
        · rcases List.mem_cons.mp hp with rfl | hp
          · k_mem
          · rcases List.mem_append.mp hp with hp | hp
            · exact List.mem_append_right [_, _, _, _, _, _, _, _, _, _, _, _] (hZr _ (.tail _ hp))
            · rw [hqn] at hp
              exact List.mem_append_left (as := [_, _, _, _, _, _, _, _]) _ hp
  · clear F5 N5 lit nd0 hD oi hoi
    rintro u ⟨G, D1⟩ h tk ⟨hD, g1, g2, g3, g4, g5, g6⟩ F N
    dsimp only at hD g1 g2 g3 g4 g5 g6 F N
    have hlen3 : vs3.length = (y :: ss).length := hv3.len_eq
    rw [hlen3, List.take_length] at g2 g3
    rw [hlen3] at g4
    simp only [List.length_cons] at g4
    obtain ⟨kd, hkd⟩ : ∃ kd, kd = ents G := ⟨_, rfl⟩
    have hD1 : D1.IsDictOf (SK w) kd := by rw [hkd]; exact hD
    clear hD
    have hkn : kd.length < 64 := by rw [hkd]; simp only [ents, List.length_map]; omega
    dsimp only
    k_steps
    rename Fr _ _ _ _ => F0
    rename News _ _ _ _ => N0
    refine sorted_dict rfl F0 N0 (.head _) hD1 lo hkn ?_
    intro kl h5 tk5 vs5 ks e5 F5 N5 lkl hS5 hP5 hsort
    clear F0 N0
    dsimp only
    k_steps
    rename Fr _ _ _ _ => F6
    rename News _ _ _ _ => N6
    rename_i it2 h6 oi2 hoi2 l6
    have hkeys : ks.Perm (G.map (·.sg)) := by
      have : kd.map (·.1) = G.map (·.sg) := by rw [hkd]; simp [ents]
      rw [← this]; exact hP5
    have hknd : ks.Nodup := hkeys.nodup_iff.mpr g1
    obtain ⟨B2, hB2⟩ : ∃ B2, B2 = [(wl, listOf vs3.toArray n3), (r.dx, dictOf (lexDict w r.t1 r.t2 r.t3 r.t4 ln3 lt3 (.ref r.sx) r.wt r.pb) 4), (r.lf, listOf #[] c3), (r.x, instObj 59 r.dx), (r.f, r.of), (r.sx, instObj 59 r.sdx), (r.sdx, dictOf (r.sdict w) 5), (r.cl, r.co), (r.c', r.oc), (213, tabOf r.c'), (sd, od)] := ⟨_, rfl⟩
    have hBB : B.Perm ((r.pb, listOf #[] k3) :: B2) := by rw [hB, hB2]; exact List.Perm.swap _ _ _
    have pm : ((qd, D1) :: (B ++ gLed w G)).Perm ((qd, D1) :: (r.pb, listOf #[] k3) :: (B2 ++ gLed w G)) := (hBB.append_right _).cons _
    have N7 : News g L h6 ((it2, oi2) :: (kl, listOf (List.toArray vs5) e5) :: (qd, D1) :: (r.pb, listOf [].toArray k3) :: (B2 ++ gLed w G)) := News.of_sub N6 fun p hp => by
      rcases List.mem_cons.mp hp with rfl | hp
      · exact .head _
      · rcases List.mem_cons.mp hp with rfl | hp
        · exact .tail _ (.head _)
        · exact .tail _ (.tail _ (pm.mem_iff.mpr hp))
    have nd2 : (adrs ((kl, listOf (List.toArray vs5) e5) :: (qd, D1) :: (r.pb, listOf [].toArray k3) :: (B2 ++ gLed w G))).Nodup := by
      refine nd_cons ((pm.map (fun p : Addr × Obj => p.1)).nodup_iff.mp g5) fun p hp => Nat.ne_of_lt (lkl p (pm.mem_iff.mpr hp))
    have ne2 : ∀ p ∈ (kl, listOf (List.toArray vs5) e5) :: (qd, D1) :: (r.pb, listOf [].toArray k3) :: (B2 ++ gLed w G), p.1 ≠ it2 := fun p hp => by
      rcases List.mem_cons.mp hp with rfl | hp
      · exact Nat.ne_of_lt (l6 _ (.head _))
      · exact Nat.ne_of_lt (l6 p (.tail _ (pm.mem_iff.mpr hp)))
    have F7 := Fr.of_eq (m' := fun z => if z = Str.ofString "sign" then none else if z = Str.ofString "path" then u else if z = Str.ofString "queues" then some (.ref qd) else List.lookup z [(Str.ofString "lexer", Value.ref r.x), (Str.ofString "signs", Value.ref sd)].reverse) F6 (by
      intro z
      by_cases z1 : z = Str.ofString "sign"
      · subst z1; rfl
      · simp only [if_neg z1])
    have hlenk : vs5.length = ks.length := hS5.len_eq
    have hkl : ks.length ≤ 21 := by have := hkeys.length_eq; simp only [List.length_map] at this; omega
    have hxB : ∀ p ∈ [(r.x, instObj 59 r.dx), (r.dx, dictOf (lexDict w r.t1 r.t2 r.t3 r.t4 ln3 lt3 (.ref r.sx) r.wt r.pb) 4), (r.lf, listOf #[] c3), (r.c', r.oc)], p ∈ B2 := by
      rw [hB2]; exact in_idx [3, 1, 2, 8] rfl
    clear F5 N5 F6 N6
    refine for_list (σ := List Grp × List Value × Nat × Option Value) (l := kl) (items := vs5) (n := e5)
      (fun st u z => if z = Str.ofString "sign" then u else if z = Str.ofString "path" then st.2.2.2 else if z = Str.ofString "queues" then some (.ref qd) else List.lookup z [(Str.ofString "lexer", Value.ref r.x), (Str.ofString "signs", Value.ref sd)].reverse)
      (fun st => (kl, listOf (List.toArray vs5) e5) :: (qd, D1) :: (r.pb, listOf st.2.1.toArray st.2.2.1) :: (B2 ++ gLed w st.1))
      (fun i st => (st.1.map (·.sg)).Perm (ks.drop i) ∧ (∀ g ∈ st.1, g ∈ G) ∧ StrsAre st.2.1 ((ks.take i).flatMap fun sg => (y :: ss).filter fun a => decide (sgn a = sg)) ∧ (adrs ((kl, listOf (List.toArray vs5) e5) :: (qd, D1) :: (r.pb, listOf st.2.1.toArray st.2.2.1) :: (B2 ++ gLed w st.1))).Nodup ∧
        ∀ p ∈ (kl, listOf (List.toArray vs5) e5) :: (qd, D1) :: (r.pb, listOf st.2.1.toArray st.2.2.1) :: (B2 ++ gLed w st.1), p.1 ≠ it2)
      (fun _ => rfl) rfl (fun _ _ _ => .head _) (fun _ _ h => h.2.2.2.2) ?_ ?_ vs5.length 0 (G, [], k3, u) none oi2 h6 _ rfl hoi2 ⟨hkeys.symm, fun _ h => h, .nil, nd2, ne2⟩ F7 N7
    · clear F7 N7 nd2 ne2 hoi2 oi2 l6
      rintro i v u2 ⟨G', mv, mk, pv⟩ oi2 h tk Rn E hv ⟨q1, q2, q3, q4, q5⟩ F N hgo
      dsimp only at q1 q2 q3 q4 q5 F N hgo
      obtain ⟨sg, tsg, rfl, hsgi⟩ := strs_at hS5 hv
      have hin : sg ∈ G'.map (·.sg) := q1.mem_iff.mpr (by
        rw [List.mem_iff_getElem?]
        exact ⟨0, by rw [List.getElem?_drop]; exact hsgi⟩)
      obtain ⟨q, hq, hqs⟩ := List.mem_map.mp hin
      obtain ⟨G1, G2, rfl⟩ := List.append_of_mem hq
      have hqG := q2 q hq
      obtain ⟨o1, o2, o3, o4, o5⟩ := g2 q hqG
      have hval : valueAt kd sg = some (.ref q.r.x) := by rw [hkd, ← hqs]; exact valueAt_ents g1 hqG
      obtain ⟨y', ss', hws⟩ : ∃ y' ss', (y :: ss).filter (fun a => decide (sgn a = q.sg)) = y' :: ss' := by
        cases hf : (y :: ss).filter (fun a => decide (sgn a = q.sg)) with
        | nil =>
          obtain ⟨b, hb, hbs⟩ := o5
          have : b ∈ (y :: ss).filter (fun a => decide (sgn a = q.sg)) := List.mem_filter.mpr ⟨hb, by simp [hbs]⟩
          rw [hf] at this; cases this
        | cons y' ss' => exact ⟨y', ss', rfl⟩
      have hwl' : (y' :: ss').length ≤ 21 := by
        rw [← hws]
        refine Nat.le_trans (List.length_filter_le _ _) ?_
        simp only [List.length_cons]; omega
      have hmv : mv.length ≤ 500 := by
        rw [q3.len_eq]
        have e1 : ∀ l : List Str, (l.flatMap fun sg => (y :: ss).filter fun a => decide (sgn a = sg)).length ≤ l.length * 21 := by
          intro l
          induction l with
          | nil => simp
          | cons x l ih =>
            rw [List.flatMap_cons, List.length_append, List.length_cons]
            have := List.length_filter_le (fun a => decide (sgn a = x)) (y :: ss)
            simp only [List.length_cons] at this
            omega
        have e2 := e1 (ks.take i)
        have e3 : (ks.take i).length ≤ ks.length := List.length_take_le' _ _
        omega
      have hperm : ((it2, oi2) :: (kl, listOf (List.toArray vs5) e5) :: (qd, D1) :: (r.pb, listOf mv.toArray mk) :: (B2 ++ gLed w (G1 ++ q :: G2))).Perm (q.led w ++ ((it2, oi2) :: (kl, listOf (List.toArray vs5) e5) :: (qd, D1) :: (r.pb, listOf mv.toArray mk) :: (B2 ++ gLed w (G1 ++ G2)))) := by
        have e1 : (gLed w (G1 ++ q :: G2)).Perm (q.led w ++ gLed w (G1 ++ G2)) := by
          have := (List.perm_middle (a := q) (l₁ := G1) (l₂ := G2)).flatMap_right (Grp.led w)
          simpa [gLed] using this
        have e2 : (B2 ++ gLed w (G1 ++ q :: G2)).Perm (q.led w ++ (B2 ++ gLed w (G1 ++ G2))) := (e1.append_left B2).trans (by rw [← List.append_assoc, ← List.append_assoc]; exact List.perm_append_comm.append_right _)
        have e3 : ([(it2, oi2), (kl, listOf (List.toArray vs5) e5), (qd, D1), (r.pb, listOf mv.toArray mk)] ++ (B2 ++ gLed w (G1 ++ q :: G2))).Perm (q.led w ++ ([(it2, oi2), (kl, listOf (List.toArray vs5) e5), (qd, D1), (r.pb, listOf mv.toArray mk)] ++ (B2 ++ gLed w (G1 ++ G2)))) :=
          (e2.append_left _).trans (by rw [← List.append_assoc, ← List.append_assoc (bs := [(it2, oi2), (kl, listOf (List.toArray vs5) e5), (qd, D1), (r.pb, listOf mv.toArray mk)])]; exact List.perm_append_comm.append_right _)
        exact e3
      have hnot := nd_cons (p := (it2, oi2)) q4 q5
      have ap := nd_ne hnot hperm
      have ndr := (nd_in hnot hperm).2
      have memA : ∀ p ∈ q.led w, p ∈ (it2, oi2) :: (kl, listOf (List.toArray vs5) e5) :: (qd, D1) :: (r.pb, listOf mv.toArray mk) :: (B2 ++ gLed w (G1 ++ q :: G2)) := fun p hp => hperm.mem_iff.mpr (List.mem_append_left _ hp)
      have memZ : ∀ p ∈ (it2, oi2) :: (kl, listOf (List.toArray vs5) e5) :: (qd, D1) :: (r.pb, listOf mv.toArray mk) :: (B2 ++ gLed w (G1 ++ G2)), p ∈ (it2, oi2) :: (kl, listOf (List.toArray vs5) e5) :: (qd, D1) :: (r.pb, listOf mv.toArray mk) :: (B2 ++ gLed w (G1 ++ q :: G2)) := fun p hp => hperm.mem_iff.mpr (List.mem_append_right _ hp)
      have fin := fun (mv' : List Value) (mk' : Nat) (pv' : Option Value) => hgo (G1 ++ G2, mv', mk', pv')
      clear hgo
      obtain ⟨Z, hZ⟩ : ∃ Z, Z = B2 ++ gLed w (G1 ++ q :: G2) := ⟨_, rfl⟩
      rw [← hZ] at N memA memZ
      k_steps
      rename Fr _ _ _ _ => F1
      rename News _ _ _ _ => N1
      refine s_rest (r := q.r) (x := q.r.x) (y := y') (ss := ss') ((it2, oi2) :: (kl, listOf (List.toArray vs5) e5) :: (qd, D1) :: (r.pb, listOf mv.toArray mk) :: (B2 ++ gLed w (G1 ++ G2))) rfl (by k_units) (by k_units) F1 N1 YY o1 rfl
        (.inl ⟨rfl, by rw [← hws]; exact o4⟩) (fun a ha => hne a (by rw [← hws] at ha; exact (List.mem_filter.mp ha).1)) (by simp only [List.length_cons] at hwl'; omega) (c := q.c) (ln := 1) (lt := q.lt) (k := q.k) ?_ memZ ?_ ?_
      · intro p hp
        rcases List.mem_append.mp hp with hp | hp
        · exact memA p hp
        · rw [List.mem_singleton.mp hp, o2, o3]
          refine memZ _ (.tail _ (.tail _ (.tail _ (.tail _ (List.mem_append_left _ (hxB _ (List.mem_of_getElem? (i := 3) rfl)))))))
      · exact fun p hp => not_in3 (ap (q.r.pb, listOf q.vs.toArray q.k) (.head _) p hp) (ap (q.r.dx, dictOf (lexDict w q.r.t1 q.r.t2 q.r.t3 q.r.t4 1 q.lt (.ref q.r.sx) q.r.wt q.r.pb) 4) (List.mem_of_getElem? (i := 1) rfl) p hp) (ap (q.r.lf, listOf [].toArray q.c) (List.mem_of_getElem? (i := 2) rfl) p hp)
      intro h3 tk3 wl2 vs2 n2 k2 ln2 lt2 c2 hv2 hwl2 F3 N3
      have N4 : News g L h3 ((wl2, listOf (List.toArray vs2) n2) :: (it2, oi2) :: (kl, listOf (List.toArray vs5) e5) :: (qd, D1) :: (r.pb, listOf mv.toArray mk) :: (B2 ++ gLed w (G1 ++ G2))) := News.of_sub N3 fun p hp => by
        rcases List.mem_cons.mp hp with rfl | hp
        · exact .head _
        · exact .tail _ (.tail _ (.tail _ (.tail _ hp)))
      have hw3 : ∀ p ∈ (it2, oi2) :: (kl, listOf (List.toArray vs5) e5) :: (qd, D1) :: (r.pb, listOf mv.toArray mk) :: (B2 ++ gLed w (G1 ++ G2)), p.1 ≠ wl2 := fun p hp => hwl2 p (memZ p hp)
      clear F1 N1 N3 hwl2 ap memA memZ hperm hZ hnot q5 q4
      dsimp only
      k_steps
      rename Fr _ _ _ _ => F5
      rename News _ _ _ _ => N5
      rename_i it3 h5 oi3 hoi3 l5
      obtain ⟨Z3, hZ3⟩ : ∃ Z3, Z3 = (it2, oi2) :: (kl, listOf (List.toArray vs5) e5) :: (qd, D1) :: (B2 ++ gLed w (G1 ++ G2)) := ⟨_, rfl⟩
      have N6 : News g L h5 ((it3, oi3) :: (wl2, listOf (List.toArray vs2) n2) :: (r.pb, listOf mv.toArray mk) :: Z3) := News.of_sub N5 (by rw [hZ3]; exact in_take 6 6 [0, 1, 5, 2, 3, 4] rfl rfl)
      have l6 : ∀ p ∈ (wl2, listOf (List.toArray vs2) n2) :: (r.pb, listOf mv.toArray mk) :: Z3, p.1 < it3 := fun p hp => l5 p (by
        revert hp
        rw [hZ3]
        refine in_take 5 5 [0, 4, 1, 2, 3] ?_ ?_ p <;> rfl)
      have npb : ∀ p ∈ (wl2, listOf (List.toArray vs2) n2) :: Z3, p.1 ≠ r.pb := by
        intro p hp
        rcases List.mem_cons.mp hp with rfl | hp
        · exact Ne.symm (hw3 (r.pb, listOf mv.toArray mk) (List.mem_of_getElem? (i := 3) rfl))
        · have x : ((it2, oi2) :: (kl, listOf (List.toArray vs5) e5) :: (qd, D1) :: (r.pb, listOf mv.toArray mk) :: (B2 ++ gLed w (G1 ++ G2))).Perm ([(r.pb, listOf mv.toArray mk)] ++ Z3) := by
            rw [hZ3]
            exact (List.perm_middle (a := (r.pb, listOf mv.toArray mk)) (l₁ := [(it2, oi2), (kl, listOf (List.toArray vs5) e5), (qd, D1)]) (l₂ := B2 ++ gLed w (G1 ++ G2)))
          exact nd_ne ndr x (r.pb, listOf mv.toArray mk) (.head _) p hp
      have hxZ : ∀ p ∈ [(r.x, instObj 59 r.dx), (r.dx, dictOf (lexDict w r.t1 r.t2 r.t3 r.t4 ln3 lt3 (.ref r.sx) r.wt r.pb) 4)], p ∈ Z3 := by
        rw [hZ3]
        intro p hp
        exact .tail _ (.tail _ (.tail _ (List.mem_append_left _ (hxB p (in_idx [0, 1] rfl p hp)))))
      have F6 := Fr.of_eq (m' := fun z => if z = Str.ofString "path" then pv else if z = Str.ofString "sign" then some (Value.str sg tsg) else if z = Str.ofString "queues" then some (.ref qd) else List.lookup z [(Str.ofString "lexer", Value.ref r.x), (Str.ofString "signs", Value.ref sd)].reverse) F5 (by
        intro z
        by_cases z1 : z = Str.ofString "path"
        · subst z1; rfl
        · by_cases z2 : z = Str.ofString "sign"
          · subst z2; rfl
          · simp only [if_neg z1, if_neg z2])
      have hv2l : vs2.length ≤ 21 := by rw [hv2.len_eq]; exact hwl'
      clear F3 N4 F5 N5 l5
      refine for_list (σ := List Value × Nat) (l := wl2) (items := vs2) (n := n2)
        (fun _ u z => if z = Str.ofString "path" then u else if z = Str.ofString "sign" then some (Value.str sg tsg) else if z = Str.ofString "queues" then some (.ref qd) else List.lookup z [(Str.ofString "lexer", Value.ref r.x), (Str.ofString "signs", Value.ref sd)].reverse)
        (fun st => (wl2, listOf (List.toArray vs2) n2) :: (r.pb, listOf st.1.toArray st.2) :: Z3)
        (fun j st => st.1 = mv ++ vs2.take j)
        (fun _ => rfl) rfl (fun _ _ _ => .head _) (fun j st _ p hp => ?_) ?_ ?_ vs2.length 0 (mv, mk) pv oi3 h5 _ rfl hoi3 (by simp) F6 N6
      · rcases List.mem_cons.mp hp with rfl | hp
        · exact Nat.ne_of_lt (l6 _ (.head _))
        · rcases List.mem_cons.mp hp with rfl | hp
          · exact Nat.ne_of_lt (l6 (r.pb, listOf mv.toArray mk) (.tail _ (.head _)))
          · exact Nat.ne_of_lt (l6 _ (.tail _ (.tail _ hp)))
      · clear F6 N6 hoi3 oi3
        rintro j v u ⟨mv2, mk2⟩ oi3 h tk Rn E hv hg F N hgo
        dsimp only at hg F N hgo
        subst hg
        have hz : (mv ++ vs2.take j).length ≤ 1000 := by
          rw [List.length_append]
          have := List.length_take_le' j vs2
          omega
        have NK : News g L h ((r.pb, listOf (mv ++ vs2.take j).toArray mk2) :: (r.x, instObj 59 r.dx) :: (r.dx, dictOf (lexDict w r.t1 r.t2 r.t3 r.t4 ln3 lt3 (.ref r.sx) r.wt r.pb) 4) :: (it3, oi3) :: (wl2, listOf (List.toArray vs2) n2) :: Z3) := News.of_sub N (List.forall_mem_cons.mpr ⟨.tail _ (.tail _ (.head _)), List.forall_mem_cons.mpr ⟨.tail _ (.tail _ (.tail _ (hxZ _ (.head _)))), List.forall_mem_cons.mpr ⟨.tail _ (.tail _ (.tail _ (hxZ _ (.tail _ (.head _))))),
          List.forall_mem_cons.mpr ⟨.head _, List.forall_mem_cons.mpr ⟨.tail _ (.head _), fun p hp => .tail _ (.tail _ (.tail _ hp))⟩⟩⟩⟩⟩)
        have hneK : ∀ p ∈ (r.x, instObj 59 r.dx) :: (r.dx, dictOf (lexDict w r.t1 r.t2 r.t3 r.t4 ln3 lt3 (.ref r.sx) r.wt r.pb) 4) :: (it3, oi3) :: (wl2, listOf (List.toArray vs2) n2) :: Z3, p.1 ≠ r.pb := by
          exact List.forall_mem_cons.mpr ⟨npb _ (.tail _ (hxZ _ (.head _))), List.forall_mem_cons.mpr ⟨npb _ (.tail _ (hxZ _ (.tail _ (.head _)))), List.forall_mem_cons.mpr ⟨Nat.ne_of_gt (l6 (r.pb, listOf mv.toArray mk) (.tail _ (.head _))),
            List.forall_mem_cons.mpr ⟨npb _ (.head _), fun p hp => npb _ (.tail _ hp)⟩⟩⟩⟩
        obtain ⟨Z4, hZ4⟩ : ∃ Z4, Z4 = (it3, oi3) :: (wl2, listOf (List.toArray vs2) n2) :: Z3 := ⟨_, rfl⟩
        rw [← hZ4] at NK hneK
        clear N
        k_steps
        rename Fr _ _ _ _ => F7
        rename News _ _ _ _ => N7
        refine hgo (mv ++ vs2.take j ++ [v], mk2 + 1) _ _ (some v) ?_ (norm1 F7) (News.of_sub N7 ?_)
        · show mv ++ vs2.take j ++ [v] = mv ++ vs2.take (j + 1)
          rw [List.take_add_one, hv, List.append_assoc]; rfl
        · rw [hZ4]
          exact in_take 3 5 [3, 4, 0] rfl rfl
      · clear F6 N6 hoi3 oi3
        rintro u ⟨mv2, mk2⟩ h tk hg F N
        dsimp only at hg F N
        subst hg
        rw [List.take_length] at N
        dsimp only
        k_steps
        rename Fr _ _ _ _ => F7
        rename News _ _ _ _ => N7
        refine fin (mv ++ vs2) mk2 u _ _ (some (.str sg tsg)) ?_ (Fr.of_eq F7 ?_) (News.of_sub N7 ?_)
        · have nx := List.nodup_cons.mp ndr
          refine ⟨?_, fun g' hg' => q2 g' ?_, ?_, nx.2, fun p hp e => nx.1 ?_⟩
          · have x1 : ((G1 ++ q :: G2).map (·.sg)).Perm (q.sg :: (G1 ++ G2).map (·.sg)) := (List.perm_middle (a := q) (l₁ := G1) (l₂ := G2)).map _
            have x2 : ks.drop i = sg :: ks.drop (i + 1) := by
              obtain ⟨hlt, he⟩ := List.getElem?_eq_some_iff.mp hsgi
              rw [List.drop_eq_getElem_cons hlt, he]
            have x3 := x1.symm.trans q1
            rw [x2, hqs] at x3
            exact List.Perm.cons_inv x3
          · rcases List.mem_append.mp hg' with h | h
            · exact List.mem_append_left _ h
            · exact List.mem_append_right _ (.tail _ h)
          · rw [List.take_add_one, hsgi, List.flatMap_append]
            refine strs_append q3 ?_
            have x4 : ((some sg).toList).flatMap (fun sg => (y :: ss).filter fun a => decide (sgn a = sg)) = y' :: ss' := by
              rw [← hws, hqs]; simp
            rw [x4]; exact hv2
          · have x5 : adrs ((kl, listOf (List.toArray vs5) e5) :: (qd, D1) :: (r.pb, listOf mv.toArray mk) :: (B2 ++ gLed w (G1 ++ G2))) = adrs ((kl, listOf (List.toArray vs5) e5) :: (qd, D1) :: (r.pb, listOf (mv ++ vs2).toArray mk2) :: (B2 ++ gLed w (G1 ++ G2))) := rfl
            have x6 := List.mem_map_of_mem (f := fun p : Addr × Obj => p.1) hp
            have x7 : it2 ∈ adrs ((kl, listOf (List.toArray vs5) e5) :: (qd, D1) :: (r.pb, listOf (mv ++ vs2).toArray mk2) :: (B2 ++ gLed w (G1 ++ G2))) := e ▸ x6
            rw [← x5] at x7
            exact x7
        · intro z
          by_cases z1 : z = Str.ofString "path"
          · subst z1; rfl
          · by_cases z2 : z = Str.ofString "sign"
            · subst z2; rfl
            · simp only [if_neg z1, if_neg z2]
        · rw [hZ3]
          exact in_take 4 5 [2, 3, 4, 1] rfl rfl
    · clear F7 N7 nd2 ne2 hoi2 oi2 l6
      rintro u2 ⟨G', mv, mk, pv⟩ h tk ⟨q1, q2, q3, q4, q5⟩ F N
      dsimp only at q1 q2 q3 q4 q5 F N
      rw [hlenk, List.take_length] at q3
      dsimp only
      k_steps
      have hmB : ∀ p ∈ B2, p ∈ (kl, listOf (List.toArray vs5) e5) :: (qd, D1) :: (r.pb, listOf (List.toArray mv) mk) :: (B2 ++ gLed w G') := fun p hp => .tail _ (.tail _ (.tail _ (List.mem_append_left _ hp)))
      refine hR _ _ mv ks mk ln3 lt3 c3 q3 hsort hknd (fun sg => ⟨fun h => ?_, fun ⟨a, ha, e⟩ => ?_⟩) ((I.out F N).upd C _ _ ?_ ?_)
      · obtain ⟨q, hq, e⟩ := List.mem_map.mp (hkeys.mem_iff.mp h)
        obtain ⟨a, ha, e2⟩ := (g2 q hq).2.2.2.2
        exact ⟨a, ha, e2.trans e⟩
      · exact hkeys.mem_iff.mpr (e ▸ g3 a ha)
      · exact List.forall_mem_cons.mpr ⟨.inl (.head _), List.forall_mem_cons.mpr ⟨.inl (.tail _ (.head _)), List.forall_mem_cons.mpr ⟨.inl (.tail _ (.tail _ (.head _))), fun p hp => .inr (hmB p (by rw [hB2]; exact in_idx [3, 4, 5, 6, 7, 8, 9, 10] rfl p hp))⟩⟩⟩
      · refine List.forall_mem_cons.mpr ⟨⟨.tail _ (.tail _ (.head _)), .inl (.head _)⟩, List.forall_mem_cons.mpr ⟨⟨hmB _ (hxB _ (List.mem_of_getElem? (i := 1) rfl)), .inl (.tail _ (.head _))⟩, List.forall_mem_cons.mpr ⟨⟨hmB _ (hxB _ (List.mem_of_getElem? (i := 2) rfl)), .inl (.tail _ (.tail _ (.head _)))⟩, List.forall_mem_nil _⟩⟩⟩
end
end Mine
end
section
open PySem PySem.W PyProof.Rows PySem.Calls
theorem Mine.off_UnLaw1 {M : Model} {A : Around} {env : Env} {Q : Flow → Shared → Prop} {E : Value → Shared → Prop} {s : Shared} (h : wpAny M A (execs [] env) Q E s) : wpAny M A (execs [] env) Q E s := by
  try (walk1; fail)
  w_top off
  exact h
end
section
open PySem PySem.W PyProof.Rows PySem.Calls PyProof.Rows.LCg
namespace Mine
set_option maxRecDepth 100000
theorem s_join {w : World} {A : Around} {E : Value → Shared → Prop} {s : Shared} {h₀ : Heap} {L : Addr} {m : Str → Option Value} {news : List (Addr × Obj)} {a b : Str} {t u : Tok} {Q : Value → Shared → Prop}
    (h0 : A.handled = none) (h1 : A.depth ≤ 800) (h2 : A.units ≤ 4 * 800) (F : Fr h₀ L s.heap m) (N : News h₀ L s.heap news) (Y : Rdy w h₀)
    (ha : a.length ≤ 10 ∧ 0 < a.length) (hb : b.length ≤ 10) (hs : Txt.startswith b (Str.ofString "/") = false) (he : Txt.endswith a (Str.ofString "/") = false)
    (hQ : ∀ h' tk u, Fr h₀ L h' m → News h₀ L h' news → Q (.str (a ++ (Str.ofString "/" ++ b)) u) { s with heap := h', toks := tk }) : wpAny (model PP w) A (call (.ref 157) [.str a t, .str b u] []) Q E s := by
  refine wpAny_call (siteC 800 h0 h1 h2 (c_join Y (fun b o e => F.keep b o e) ha hb hs he fun h' tk u O => ?_))
  obtain ⟨F', N'⟩ := back0 F N O
  exact hQ h' tk u F' N'
/-- the path of an entry -/
def folder (n : Int) : Str := if n % 2 = 0 then Str.ofString "/b" else Str.ofString "/a"
def numStr (k : Nat) : Str := Str.ofString (toString (k : Int))
theorem num_ok {i : Nat} (hi : i < 6) : (numStr i).length ≤ 10 ∧ Txt.startswith (numStr i) (Str.ofString "/") = false := by
  rcases (by omega : i = 0 ∨ i = 1 ∨ i = 2 ∨ i = 3 ∨ i = 4 ∨ i = 5) with rfl | rfl | rfl | rfl | rfl | rfl <;> decide +kernel
def pathOf (k : Nat) (n : Int) : Str := folder n ++ (Str.ofString "/" ++ numStr k)
theorem mapIdx_at {α β : Type} {f : Nat → α → β} {l : List α} {i : Nat} {a : α} (h : l[i]? = some a) : (l.mapIdx f)[i]? = some (f i a) := by
  rw [List.getElem?_mapIdx, h]; rfl
theorem strs_step {ys : List Value} {ts : List Str} {S S' : Str} {u : Tok} (h : StrsAre ys (ts.take ys.length)) (e : ts[ys.length]? = some S') (hS : S = S') : StrsAre (ys ++ [.str S u]) (ts.take (ys.length + 1)) := by
  subst hS
  rw [List.take_add_one, e]
  exact strs_append h (.cons _ _ .nil)
theorem ldE {M : Model} {A : Around} {E : Value → Shared → Prop} {s : Shared} {g : Heap} {L : Addr} {m : Str → Option Value} {env : Env} {x : Str} {pos : Pos} {v : Value} {Q : Value → Shared → Prop} (F : Fr g L s.heap m) (hL : env.locals = L) (hk : env.scope.kind = .function) (hl : env.kindOf x = some .local)
    (hd : (x == ("__debug__" : Str)) = false) (hv : m x = some v) (h : Q v s) : wpAny M A (eval (.Name x pos) env) Q E s := by
  subst hL
  exact wpAny_Name (wpAny_loadName_local hk hl F.ns hv h) hd
section
local macro_rules | `(tactic| walk_at "eval Name") => `(tactic| (k_here; (with_reducible show wpAny _ _ (eval (Expr.Name _ _) (envOfC _ _ _ _ _)) _ _ _); k_dflt (refine ldE (by k_asm) (by rfl) (by rfl) (by rfl) (by decide) (by assumption) ?_)))
local macro_rules | `(tactic| walk_at "subscriptTail") => `(tactic| (k_here; (with_reducible show wpAny _ _ (subscriptTail _ _ (Value.ref _) (Value.int _ _)) _ _ _); (with_unfolding_all refine' pickK (News.isList ?xN ?xm) ?k3 ?k4 ?k5 ?_ ?k6; (case xN => k_asm); (case xm => k_mem); (case k3 => omega); (case k4 => (simp only [List.length_cons, List.length_nil]; omega)); (case k5 => omega); (case k6 => with_unfolding_all rfl); k_whole); (dsimp only [PickAt]); k_places))
set_option maxHeartbeats 2000000 in
theorem law_1 {w : World} {g : Heap} {L fa nl : Addr} {cd : Value} {s : Shared} {m : Str → Option Value} {Z : List (Addr × Obj)} {ws : List Value} {nums : List Int} {Q : Flow → Shared → Prop} {E : Value → Shared → Prop}
    (Y : Rdy w g) (F : Fr g L s.heap m) (N : News g L s.heap Z) (hm : m (Str.ofString "numbers") = some (.ref nl)) (hnl : (nl, listOf ws.toArray 0) ∈ Z) (hI : IntsAre ws nums) (h6 : nums.length = 6)
    (hQ : ∀ D ps h tk, StrsAre ps (nums.mapIdx pathOf) → Fr g L h (fun z => if z = Str.ofString "paths" then some (.ref D) else m z) → News g L h ((D, lst ps) :: Z) → (∀ p ∈ Z, p.1 < D) → Q .next { s with heap := h, toks := tk }) :
    wpAny (model PP w) (AAt 600) (exec (lawSt 1) (lawEnv L fa cd)) Q E s := by
  obtain ⟨X, ⟨p, loose, mean, mg, mb, T⟩, CH⟩ := id Y
  show wpAny _ _ (exec (Stmt.Assign [Expr.Name _ _] (Expr.ListComp _ [⟨_, _, _, _⟩] _ _) _) (envOfC _ (Scope.mk _ _ _ _ _) _ _ _)) _ _ _
  refine compL_A F (by rfl) (by with_unfolding_all rfl) (by rfl) (by decide) (by rfl) (by decide) (by rfl) (by rfl) ?_
  k_steps
  refine enumL (A := AAt 600) (fun ys X => X = [] ∧ StrsAre ys ((nums.mapIdx pathOf).take ys.length)) rfl F N hnl rfl rfl (by rw [List.size_toArray, hI.length, h6]; decide) ⟨rfl, .nil⟩ ?_ ?_
  · intro C D i v ys X oC own h tk m' Q E' hi hyl hP hC hG hown hX hZD hDC F N next
    clear hQ
    obtain ⟨T, t, x, rfl, hx, hT⟩ := hP
    obtain ⟨rfl, hG⟩ := hG
    obtain ⟨n, u, rfl, hn⟩ : ∃ n u, x = .int n u ∧ nums[i]? = some n := hI.at i x (by simpa using hx)
    have hi6 : i < 6 := by rw [List.size_toArray, hI.length, h6] at hi; exact hi
    refine asg2 (A := AAt 600) rfl rfl (by rfl) (by rfl) hT F N (fun p hp => ?_) hC ?_
    · simp only [List.mem_cons, List.mem_append, List.not_mem_nil, or_false] at hp
      rcases hp with rfl | hp | hp
      · exact Nat.ne_of_lt hDC
      · exact Nat.ne_of_lt (hown p hp)
      · exact Nat.ne_of_lt (Nat.lt_trans (hZD p hp) hDC)
    clear F N hC
    intro h tk oC' F N hC
    obtain ⟨m2, hC, hk, hv⟩ : ∃ m2, NsObj oC' m2 ∧ m2 (Str.ofString "k") = some (.int i t) ∧ m2 (Str.ofString "v") = some (.int n u) := ⟨_, hC, rfl, rfl⟩
    obtain ⟨ZZ, hZZ⟩ : ∃ ZZ, ZZ = (D, lst ys) :: (own ++ [] ++ Z) := ⟨_, rfl⟩
    rw [← hZZ] at N
    have hf : 0 ≤ n.fmod 2 ∧ n.fmod 2 < 2 := by rw [Int.fmod_eq_emod_of_nonneg _ (by decide)]; omega
    k_steps
    all_goals
      rename Fr g L _ _ => F9
      rename News g L _ _ => N9
      rename n.fmod 2 = _ => hb
      refine s_join rfl (by decide) (by decide) F9 N9 Y ?_ (num_ok hi6).1 (num_ok hi6).2 ?_ fun h' tk' u' F' N' => ?_
      · decide +kernel
      · decide +kernel
      refine next h' tk' [] oC' m2 _ F' (fun p hp => N' p ?_) hC ⟨rfl, ?_⟩ (fun _ h => nomatch h)
      · subst hZZ; exact List.mem_cons_of_mem _ hp
      · rw [List.length_append, List.length_singleton]
        refine strs_step hG (by rw [hyl]; exact mapIdx_at hn) ?_
        rw [Int.fmod_eq_emod_of_nonneg _ (by decide)] at hb
        unfold pathOf folder
        first | rw [if_pos hb]; rfl | rw [if_neg (by omega)]; rfl
  · intro h tk D ys X hG hl D h tk F N l1 l2
    obtain ⟨rfl, hG⟩ := hG
    refine hQ D ys h tk ?_ F N l1
    rw [hl, List.size_toArray, hI.length, List.take_of_length_le (by simp)] at hG
    exact hG
end
end Mine
end
section
open PySem PySem.W PyProof.Rows PySem.Calls
theorem Mine.off_UnLaw2 {M : Model} {A : Around} {env : Env} {Q : Flow → Shared → Prop} {E : Value → Shared → Prop} {s : Shared} (h : wpAny M A (execs [] env) Q E s) : wpAny M A (execs [] env) Q E s := by
  try (walk1; fail)
  w_top off
  exact h
end
section
open PySem PySem.W PyProof.Rows PySem.Calls PyProof.Rows.LCg
namespace Mine
set_option maxRecDepth 100000
theorem ints_append {vs vs' : List Value} {ss ss' : List Int} (h : IntsAre vs ss) (h' : IntsAre vs' ss') : IntsAre (vs ++ vs') (ss ++ ss') := by
  induction h with
  | nil => exact h'
  | cons n t _ ih => exact .cons _ _ ih
theorem ints_step {ys : List Value} {ts : List Int} {S S' : Int} {u : Tok} (h : IntsAre ys (ts.take ys.length)) (e : ts[ys.length]? = some S') (hS : S = S') : IntsAre (ys ++ [.int S u]) (ts.take (ys.length + 1)) := by
  subst hS
  rw [List.take_add_one, e]
  exact ints_append h (.cons _ _ .nil)
theorem map_at {α β : Type} {f : α → β} {l : List α} {i : Nat} {a : α} (h : l[i]? = some a) : (l.map f)[i]? = some (f a) := by
  rw [List.getElem?_map, h]; rfl
section
local macro_rules | `(tactic| walk_at "eval Name") => `(tactic| (k_here; (with_reducible show wpAny _ _ (eval (Expr.Name _ _) (envOfC _ _ _ _ _)) _ _ _); k_dflt (refine ldE (by k_asm) (by rfl) (by rfl) (by rfl) (by decide) (by assumption) ?_)))
local macro_rules | `(tactic| walk_at "subscriptTail") => `(tactic| (k_here; (with_reducible show wpAny _ _ (subscriptTail _ _ (Value.ref _) (Value.int _ _)) _ _ _); (with_unfolding_all refine' pickK (News.isList ?xN ?xm) ?k3 ?k4 ?k5 ?_ ?k6; (case xN => k_asm); (case xm => k_mem); (case k3 => omega); (case k4 => (simp only [List.length_cons, List.length_nil]; omega)); (case k5 => omega); (case k6 => with_unfolding_all rfl); k_whole); (dsimp only [PickAt]); k_places))
set_option maxHeartbeats 2000000 in
theorem law_2 {w : World} {g : Heap} {L fa nl : Addr} {cd : Value} {s : Shared} {m : Str → Option Value} {Z : List (Addr × Obj)} {oc : Obj} {v₀ : Option Value} {ws : List Value} {nums : List Int} {Q : Flow → Shared → Prop} {E : Value → Shared → Prop}
    (Y : Rdy w g) (F : Fr g L s.heap m) (hoc : oc.data = .cell v₀) (N : News g L s.heap ((L + 1, oc) :: Z)) (hZ : ∀ p ∈ Z, p.1 ≠ L + 1) (hm : m (Str.ofString "numbers") = some (.ref nl)) (hnl : (nl, listOf ws.toArray 0) ∈ Z) (hI : IntsAre ws nums) (h6 : nums.length = 6)
    (hQ : ∀ D ks h tk oc', oc'.data = .cell (some (.ref D)) → IntsAre ks (nums.map fun n => (n / 2) % 3) → Fr g L h m → News g L h ((D, lst ks) :: (L + 1, oc') :: Z) → (∀ p ∈ (L + 1, oc) :: Z, p.1 < D) → Q .next { s with heap := h, toks := tk }) :
    wpAny (model PP w) (AAt 600) (exec (lawSt 2) (lawEnv L fa cd)) Q E s := by
  obtain ⟨X, ⟨p, loose, mean, mg, mb, T⟩, CH⟩ := id Y
  show wpAny _ _ (exec (Stmt.Assign [Expr.Name _ _] (Expr.ListComp _ [⟨_, _, _, _⟩] _ _) _) (envOfC _ (Scope.mk _ _ _ _ _) _ _ _)) _ _ _
  walk1
  refine compL_E F (by rfl) (by decide) (by rfl) (by decide) ?_
  walk1
  refine listL (A := AAt 600) (fun ys X => X = [] ∧ IntsAre ys ((nums.map fun n => (n / 2) % 3).take ys.length)) rfl F N (.tail _ hnl) rfl rfl (by rw [List.size_toArray, hI.length, h6]; decide) ⟨rfl, .nil⟩ ?_ ?_
  · intro C D i v ys X oC own h tk m' Q E' hi hyl hP hC hG hown hX hZD hDC F N next
    clear hQ
    obtain ⟨rfl, hG⟩ := hG
    obtain ⟨n, u, rfl, hn⟩ : ∃ n u, v = .int n u ∧ nums[i]? = some n := hI.at i v (by simpa [atList] using hP)
    refine asg1 (A := AAt 600) (by rfl) (by rfl) F N (fun p hp => ?_) hC ?_
    · simp only [List.mem_cons, List.mem_append, List.not_mem_nil, or_false] at hp
      rcases hp with rfl | hp | hp
      · exact Nat.ne_of_lt hDC
      · exact Nat.ne_of_lt (hown p hp)
      · exact Nat.ne_of_lt (Nat.lt_trans (hZD p (List.mem_cons.mpr hp)) hDC)
    clear F N hC
    intro h tk oC' F N hC
    obtain ⟨m2, hC, hv⟩ : ∃ m2, NsObj oC' m2 ∧ m2 (Str.ofString "v") = some (.int n u) := ⟨_, hC, rfl⟩
    obtain ⟨ZZ, hZZ⟩ : ∃ ZZ, ZZ = (D, lst ys) :: (own ++ [] ++ (L + 1, oc) :: Z) := ⟨_, rfl⟩
    rw [← hZZ] at N
    k_steps
    rename Fr g L _ _ => F9
    rename News g L _ _ => N9
    refine next _ _ [] oC' m2 _ F9 (by subst hZZ; exact N9) hC ⟨rfl, ?_⟩ (fun _ h => nomatch h)
    rw [List.length_append, List.length_singleton]
    refine ints_step hG (by rw [hyl]; exact map_at hn) ?_
    rw [Int.fmod_eq_emod_of_nonneg _ (by decide), Int.fdiv_eq_ediv_of_nonneg _ (by decide)]
  · intro h tk D ys X hG hl
    obtain ⟨rfl, hG⟩ := hG
    rw [hl, List.size_toArray, hI.length, List.take_of_length_le (by simp)] at hG
    intro D h tk F N l1 l2
    dsimp only
    refine stCN (own := [(D, lst ys)]) (rest := Z) F N (by rfl) hoc (fun p hp => ?_) hZ (fun h' oc' F' N' hoc' => ?_) (by rfl) (by rfl)
    · rw [List.mem_singleton.mp hp]; exact Nat.ne_of_gt (l1 _ (.head _))
    · exact hQ D ys h' _ oc' hoc' hG F' N' l1
set_option maxHeartbeats 2000000 in
theorem law_3 {w : World} {g : Heap} {L fa nl : Addr} {cd : Value} {s : Shared} {m : Str → Option Value} {Z : List (Addr × Obj)} {oc : Obj} {v₀ : Option Value} {ws : List Value} {nums : List Int} {Q : Flow → Shared → Prop} {E : Value → Shared → Prop}
    (Y : Rdy w g) (F : Fr g L s.heap m) (hoc : oc.data = .cell v₀) (N : News g L s.heap ((L + 2, oc) :: Z)) (hZ : ∀ p ∈ Z, p.1 ≠ L + 2) (hm : m (Str.ofString "numbers") = some (.ref nl)) (hnl : (nl, listOf ws.toArray 0) ∈ Z) (hI : IntsAre ws nums) (h6 : nums.length = 6)
    (hQ : ∀ D ks h tk oc', oc'.data = .cell (some (.ref D)) → IntsAre ks (nums.map fun n => (n / 6) % 4096) → Fr g L h m → News g L h ((D, lst ks) :: (L + 2, oc') :: Z) → (∀ p ∈ (L + 2, oc) :: Z, p.1 < D) → Q .next { s with heap := h, toks := tk }) :
    wpAny (model PP w) (AAt 600) (exec (lawSt 3) (lawEnv L fa cd)) Q E s := by
  obtain ⟨X, ⟨p, loose, mean, mg, mb, T⟩, CH⟩ := id Y
  show wpAny _ _ (exec (Stmt.Assign [Expr.Name _ _] (Expr.ListComp _ [⟨_, _, _, _⟩] _ _) _) (envOfC _ (Scope.mk _ _ _ _ _) _ _ _)) _ _ _
  walk1
  refine compL_E F (by rfl) (by decide) (by rfl) (by decide) ?_
  walk1
  refine listL (A := AAt 600) (fun ys X => X = [] ∧ IntsAre ys ((nums.map fun n => (n / 6) % 4096).take ys.length)) rfl F N (.tail _ hnl) rfl rfl (by rw [List.size_toArray, hI.length, h6]; decide) ⟨rfl, .nil⟩ ?_ ?_
  · intro C D i v ys X oC own h tk m' Q E' hi hyl hP hC hG hown hX hZD hDC F N next
    clear hQ
    obtain ⟨rfl, hG⟩ := hG
    obtain ⟨n, u, rfl, hn⟩ : ∃ n u, v = .int n u ∧ nums[i]? = some n := hI.at i v (by simpa [atList] using hP)
    refine asg1 (A := AAt 600) (by rfl) (by rfl) F N (fun p hp => ?_) hC ?_
    · simp only [List.mem_cons, List.mem_append, List.not_mem_nil, or_false] at hp
      rcases hp with rfl | hp | hp
      · exact Nat.ne_of_lt hDC
      · exact Nat.ne_of_lt (hown p hp)
      · exact Nat.ne_of_lt (Nat.lt_trans (hZD p (List.mem_cons.mpr hp)) hDC)
    clear F N hC
    intro h tk oC' F N hC
    obtain ⟨m2, hC, hv⟩ : ∃ m2, NsObj oC' m2 ∧ m2 (Str.ofString "v") = some (.int n u) := ⟨_, hC, rfl⟩
    obtain ⟨ZZ, hZZ⟩ : ∃ ZZ, ZZ = (D, lst ys) :: (own ++ [] ++ (L + 2, oc) :: Z) := ⟨_, rfl⟩
    rw [← hZZ] at N
    k_steps
    rename Fr g L _ _ => F9
    rename News g L _ _ => N9
    refine next _ _ [] oC' m2 _ F9 (by subst hZZ; exact N9) hC ⟨rfl, ?_⟩ (fun _ h => nomatch h)
    rw [List.length_append, List.length_singleton]
    refine ints_step hG (by rw [hyl]; exact map_at hn) ?_
    rw [Int.fmod_eq_emod_of_nonneg _ (by decide), Int.fdiv_eq_ediv_of_nonneg _ (by decide)]
  · intro h tk D ys X hG hl
    obtain ⟨rfl, hG⟩ := hG
    rw [hl, List.size_toArray, hI.length, List.take_of_length_le (by simp)] at hG
    intro D h tk F N l1 l2
    dsimp only
    refine stCN (own := [(D, lst ys)]) (rest := Z) F N (by rfl) hoc (fun p hp => ?_) hZ (fun h' oc' F' N' hoc' => ?_) (by rfl) (by rfl)
    · rw [List.mem_singleton.mp hp]; exact Nat.ne_of_gt (l1 _ (.head _))
    · exact hQ D ys h' _ oc' hoc' hG F' N' l1
theorem IsListOf {g h : Heap} {L a : Addr} {vs : List Value} {n : Nat} {news : List (Addr × Obj)} (N : News g L h news) (hm : (a, listOf vs.toArray n) ∈ news) : h.IsList a vs.toArray := ⟨_, (N _ hm).1, rfl, _, rfl⟩
/-- the mode of an entry -/
def modeOf (n : Int) : Int := (if n / 2 % 3 = 0 then 32768 else if n / 2 % 3 = 1 then 16384 else 40960) + n / 6 % 4096
set_option maxHeartbeats 2000000 in
theorem law_4 {w : World} {g : Heap} {L fa kl rl : Addr} {cd : Value} {s : Shared} {m : Str → Option Value} {Z : List (Addr × Obj)} {oc1 oc2 : Obj} {ks rs : List Value} {n1 n2 : Nat} {nums : List Int} {Q : Flow → Shared → Prop} {E : Value → Shared → Prop}
    (Y : Rdy w g) (F : Fr g L s.heap m) (N : News g L s.heap Z) (hc1 : (L + 1, oc1) ∈ Z) (hoc1 : oc1.data = .cell (some (.ref kl))) (hc2 : (L + 2, oc2) ∈ Z) (hoc2 : oc2.data = .cell (some (.ref rl)))
    (hkl : (kl, listOf ks.toArray n1) ∈ Z) (hK : IntsAre ks (nums.map fun n => (n / 2) % 3)) (hrl : (rl, listOf rs.toArray n2) ∈ Z) (hR : IntsAre rs (nums.map fun n => (n / 6) % 4096)) (h6 : nums.length = 6)
    (hQ : ∀ D ms h tk, IntsAre ms (nums.map modeOf) → Fr g L h (fun z => if z = Str.ofString "modes" then some (.ref D) else m z) → News g L h ((D, lst ms) :: Z) → (∀ p ∈ Z, p.1 < D) → Q .next { s with heap := h, toks := tk }) :
    wpAny (model PP w) (AAt 600) (exec (lawSt 4) (lawEnv L fa cd)) Q E s := by
  obtain ⟨X, ⟨p, loose, mean, mg, mb, T⟩, CH⟩ := id Y
  show wpAny _ _ (exec (Stmt.Assign [Expr.Name _ _] (Expr.ListComp _ [⟨_, _, _, _⟩] _ _) _) (envOfC _ (Scope.mk _ _ _ _ _) _ _ _)) _ _ _
  refine compL_A F (by rfl) (by with_unfolding_all rfl) (by rfl) (by decide) (by rfl) (by decide) (by rfl) (by rfl) ?_
  k_steps
  have e1 : ks.toArray.size = 6 := by rw [List.size_toArray, hK.length, List.length_map, h6]
  have e2 : rs.toArray.size = 6 := by rw [List.size_toArray, hR.length, List.length_map, h6]
  refine zipL (A := AAt 600) (fun ys X => X = [] ∧ IntsAre ys ((nums.map modeOf).take ys.length)) rfl F N hkl rfl rfl hrl rfl rfl (by rw [e1, e2]; decide) ⟨rfl, .nil⟩ ?_ ?_
  · intro C D i v ys X oC own h tk m' Q E' hi hyl hP hC hG hown hX hZD hDC F N next
    clear hQ
    obtain ⟨rfl, hG⟩ := hG
    obtain ⟨T, x, y, rfl, hx, hy, hT⟩ := hP
    obtain ⟨n1', u1, rfl, hn1⟩ := hK.at i x (by simpa using hx)
    obtain ⟨n2', u2, rfl, hn2⟩ := hR.at i y (by simpa using hy)
    obtain ⟨n, hn⟩ : ∃ n, nums[i]? = some n := ⟨_, List.getElem?_eq_getElem (by omega)⟩
    rw [map_at hn] at hn1 hn2
    cases hn1
    cases hn2
    refine asg2 (A := AAt 600) rfl (by rfl) (by rfl) (by rfl) hT F N (fun p hp => ?_) hC ?_
    · simp only [List.mem_cons, List.mem_append, List.not_mem_nil, or_false] at hp
      rcases hp with rfl | hp | hp
      · exact Nat.ne_of_lt hDC
      · exact Nat.ne_of_lt (hown p hp)
      · exact Nat.ne_of_lt (Nat.lt_trans (hZD p hp) hDC)
    clear F N hC hT
    intro h tk oC' F N hC
    obtain ⟨m2, hC, hk, hv⟩ : ∃ m2, NsObj oC' m2 ∧ m2 (Str.ofString "kind") = some (.int (n / 2 % 3) u1) ∧ m2 (Str.ofString "right") = some (.int (n / 6 % 4096) u2) := ⟨_, hC, rfl, rfl⟩
    obtain ⟨ZZ, hZZ⟩ : ∃ ZZ, ZZ = (D, lst ys) :: (own ++ [] ++ Z) := ⟨_, rfl⟩
    rw [← hZZ] at N
    have hf : 0 ≤ n / 2 % 3 ∧ n / 2 % 3 < 3 := by omega
    k_steps
    all_goals
      rename Fr g L _ _ => F9
      rename News g L _ _ => N9
      rename n / 2 % 3 = _ => hb
      refine next _ _ [] oC' m2 _ F9 (fun p hp => N9 p (by subst hZZ; exact List.mem_cons_of_mem _ hp)) hC ⟨rfl, ?_⟩ (fun _ h => nomatch h)
      rw [List.length_append, List.length_singleton]
      refine ints_step hG (by rw [hyl]; exact map_at hn) ?_
      unfold modeOf
      first | rw [if_pos (by omega)] | rw [if_neg (by omega), if_pos (by omega)] | rw [if_neg (by omega), if_neg (by omega)]
  · intro h tk D ys X hG hl
    obtain ⟨rfl, hG⟩ := hG
    rw [hl, e1, e2, List.take_of_length_le (by simp [h6])] at hG
    intro D h tk F N l1 l2
    exact hQ D ys h tk hG F N l1
end
end Mine
end
section
open PySem PySem.W PyProof.Rows PySem.Calls
theorem Mine.off_UnLaw3 {M : Model} {A : Around} {env : Env} {Q : Flow → Shared → Prop} {E : Value → Shared → Prop} {s : Shared} (h : wpAny M A (execs [] env) Q E s) : wpAny M A (execs [] env) Q E s := by
  try (walk1; fail)
  w_top off
  exact h
end
section
open PySem PySem.W PyProof.Rows PySem.Calls PyProof.Rows.LCg
namespace Mine
set_option maxRecDepth 100000
theorem s_mode {w : World} {A : Around} {E : Value → Shared → Prop} {s : Shared} {h₀ : Heap} {L : Addr} {m : Str → Option Value} {news : List (Addr × Obj)} {v : Int} {t : Tok} {Q : Value → Shared → Prop}
    (h0 : A.handled = none) (h1 : A.depth ≤ 800) (h2 : A.units ≤ 4 * 800) (F : Fr h₀ L s.heap m) (N : News h₀ L s.heap news) (Y : Rdy w h₀) (hv : 0 ≤ v ∧ v < 65536)
    (hQ : ∀ h' tk u, Fr h₀ L h' m → News h₀ L h' news → Q (.str (Txt.join "" ((List.range 10).map (modeChar v))) u) { s with heap := h', toks := tk }) : wpAny (model PP w) A (call (.ref 211) [.int v t] []) Q E s := by
  refine wpAny_call (siteC 800 h0 h1 h2 (c_mode Y (fun b o e => F.keep b o e) hv fun h' tk u O => ?_))
  obtain ⟨F', N'⟩ := back0 F N O
  exact hQ h' tk u F' N'
/-- filemode's row of an entry -/
def rowM (n : Int) : Str := Txt.join "" ((List.range 10).map (modeChar (modeOf n)))
theorem modeOf_ok {n : Int} (h : 0 ≤ n ∧ n < 24576) : 0 ≤ modeOf n ∧ modeOf n < 65536 := by
  unfold modeOf
  split
  · omega
  split <;> omega
theorem path_inj {k k' : Nat} {n n' : Int} (hk : k < 6) (hk' : k' < 6) (h : pathOf k n = pathOf k' n') : k = k' := by
  unfold pathOf folder at h
  rcases (by omega : k = 0 ∨ k = 1 ∨ k = 2 ∨ k = 3 ∨ k = 4 ∨ k = 5) with rfl | rfl | rfl | rfl | rfl | rfl <;>
  rcases (by omega : k' = 0 ∨ k' = 1 ∨ k' = 2 ∨ k' = 3 ∨ k' = 4 ∨ k' = 5) with rfl | rfl | rfl | rfl | rfl | rfl <;>
  first
  | rfl
  | (exfalso; revert h; split <;> split <;> decide +kernel)
theorem valueAt_put (kvs : List (Str × Value)) (k k' : Str) (v : Value) : valueAt (stored kvs k v) k' = if k' = k then some v else valueAt kvs k' := by
  unfold valueAt stored
  split
  · rename_i hany
    induction kvs with
    | nil => simp at hany
    | cons x r ih =>
      rw [List.map_cons, List.find?_cons, List.find?_cons]
      by_cases hx : x.1 = k
      · rw [if_pos hx]
        by_cases hk : k' = k
        · subst hk; simp [hx]
        · rw [if_neg hk]
          have e2 : decide (x.1 = k') = false := decide_eq_false (fun e => hk (e.symm.trans hx))
          dsimp only
          rw [e2]
          dsimp only
          by_cases hr : r.any (fun kv => decide (kv.1 = k)) = true
          · rw [ih hr, if_neg hk]
          · have : r.map (fun kv => if kv.1 = k then (kv.1, v) else kv) = r := by
              conv => rhs; rw [← List.map_id r]
              refine List.map_congr_left fun y hy => ?_
              have : ¬ y.1 = k := fun e => hr (List.any_eq_true.mpr ⟨y, hy, decide_eq_true e⟩)
              rw [if_neg this]; rfl
            rw [this]
      · rw [if_neg hx]
        have hr : r.any (fun kv => decide (kv.1 = k)) = true := by
          rw [List.any_cons, decide_eq_false hx, Bool.false_or] at hany
          exact hany
        cases hd : decide (x.1 = k') with
        | true =>
          dsimp only
          rw [if_neg (fun e => hx ((of_decide_eq_true hd).trans e))]
        | false => exact ih hr
  · rename_i hany
    rw [List.find?_append]
    cases hf : kvs.find? (fun kv => decide (kv.1 = k')) with
    | some y =>
      have h1 : y.1 = k' := by simpa using List.find?_some hf
      have h2 : ¬ k' = k := fun e => hany (List.any_eq_true.mpr ⟨y, List.mem_of_find?_eq_some hf, decide_eq_true (h1.trans e)⟩)
      rw [if_neg h2]; rfl
    | none =>
      by_cases hk : k' = k
      · subst hk; simp
      · have e1 : decide (k = k') = false := decide_eq_false (fun e => hk e.symm)
        simp [hk, e1]
section
local macro_rules | `(tactic| walk_at "eval Name") => `(tactic| (k_here; (with_reducible show wpAny _ _ (eval (Expr.Name _ _) (envOfC _ _ _ _ _)) _ _ _); k_dflt (refine ldE (by k_asm) (by rfl) (by rfl) (by rfl) (by decide) (by assumption) ?_)))
set_option maxHeartbeats 2000000 in
theorem law_5 {w : World} {g : Heap} {L fa pl ml : Addr} {cd : Value} {s : Shared} {m : Str → Option Value} {Z : List (Addr × Obj)} {oc : Obj} {v₀ : Option Value} {ps ms : List Value} {n1 n2 : Nat} {nums : List Int} {Q : Flow → Shared → Prop} {E : Value → Shared → Prop}
    (Y : Rdy w g) (F : Fr g L s.heap m) (hoc : oc.data = .cell v₀) (N : News g L s.heap ((L + 3, oc) :: Z)) (hZ : ∀ p ∈ Z, p.1 ≠ L + 3) (hmp : m (Str.ofString "paths") = some (.ref pl)) (hmm : m (Str.ofString "modes") = some (.ref ml))
    (hpl : (pl, listOf ps.toArray n1) ∈ Z) (hP : StrsAre ps (nums.mapIdx pathOf)) (hml : (ml, listOf ms.toArray n2) ∈ Z) (hM : IntsAre ms (nums.map modeOf)) (h6 : nums.length = 6) (hnum : ∀ n ∈ nums, 0 ≤ n ∧ n < 24576)
    (hQ : ∀ D od kvs h tk oc', oc'.data = .cell (some (.ref D)) → od.IsDictOf (SK w) kvs → kvs.length ≤ 6 → (∀ j n, nums[j]? = some n → ∃ t, valueAt kvs (pathOf j n) = some (.str (rowM n) t)) → Fr g L h m → News g L h ((D, od) :: (L + 3, oc') :: Z) → (∀ p ∈ (L + 3, oc) :: Z, p.1 < D) → Q .next { s with heap := h, toks := tk }) :
    wpAny (model PP w) (AAt 600) (exec (lawSt 5) (lawEnv L fa cd)) Q E s := by
  obtain ⟨X, ⟨p, loose, mean, mg, mb, T⟩, CH⟩ := id Y
  show wpAny _ _ (exec (Stmt.Assign [Expr.Name _ _] (Expr.DictComp _ _ [⟨_, _, _, _⟩] _ _) _) (envOfC _ (Scope.mk _ _ _ _ _) _ _ _)) _ _ _
  walk1
  refine compD_E F (by rfl) (by decide) (by rfl) (by decide) ?_
  k_steps
  have e1 : ps.toArray.size = 6 := by rw [List.size_toArray, hP.length, List.length_mapIdx, h6]
  have e2 : ms.toArray.size = 6 := by rw [List.size_toArray, hM.length, List.length_map, h6]
  refine zipD (A := AAt 600) (fun i kvs => ∀ j n, j < i → nums[j]? = some n → ∃ t, valueAt kvs (pathOf j n) = some (.str (rowM n) t)) rfl F N (.tail _ hpl) rfl rfl (.tail _ hml) rfl rfl (by rw [e1, e2]; decide) (fun _ _ h => absurd h (Nat.not_lt_zero _)) ?_ ?_
  · intro C D i v kvs oC od own h tk m' Q E' hi hP' hC hG hown hZD hDC F N next
    clear hQ
    obtain ⟨T, x, y, rfl, hx, hy, hT⟩ := hP'
    obtain ⟨S, u1, rfl, hS⟩ := strs_at hP (by simpa using hx)
    obtain ⟨n', u2, rfl, hn'⟩ := hM.at i y (by simpa using hy)
    have hi6 : i < 6 := by rw [e1, e2] at hi; exact hi
    obtain ⟨n, hn⟩ : ∃ n, nums[i]? = some n := ⟨_, List.getElem?_eq_getElem (by omega)⟩
    rw [mapIdx_at hn] at hS
    rw [map_at hn] at hn'
    cases hS
    cases hn'
    refine asg2 (A := AAt 600) rfl (by rfl) (by rfl) (by rfl) hT F N (fun p hp => ?_) hC ?_
    · simp only [List.mem_cons, List.mem_append] at hp
      rcases hp with rfl | hp | hp
      · exact Nat.ne_of_lt hDC
      · exact Nat.ne_of_lt (hown p hp)
      · exact Nat.ne_of_lt (Nat.lt_trans (hZD p (List.mem_cons.mpr hp)) hDC)
    clear F N hC hT
    intro h tk oC' F N hC
    obtain ⟨m2, hC, hk, hv⟩ : ∃ m2, NsObj oC' m2 ∧ m2 (Str.ofString "path") = some (.str (pathOf i n) u1) ∧ m2 (Str.ofString "whole") = some (.int (modeOf n) u2) := ⟨_, hC, rfl, rfl⟩
    obtain ⟨ZZ, hZZ⟩ : ∃ ZZ, ZZ = (D, od) :: (own ++ (L + 3, oc) :: Z) := ⟨_, rfl⟩
    rw [← hZZ] at N
    k_steps
    rename Fr g L _ _ => F9
    rename News g L _ _ => N9
    refine s_mode rfl (by decide) (by decide) F9 N9 Y (modeOf_ok (hnum n (List.mem_of_getElem? hn))) fun h' tk' u' F' N' => ?_
    refine next _ _ oC' m2 _ _ _ F' (by subst hZZ; exact N') hC fun j n' hj hn' => ?_
    rw [valueAt_put]
    by_cases hji : j = i
    · subst hji
      rw [hn] at hn'; cases hn'
      exact ⟨_, if_pos rfl⟩
    · rw [if_neg (fun e => hji (path_inj (by omega) hi6 e))]
      exact hG j n' (by omega) hn'
  · intro h tk kvs hG hkl D od h tk hod F N l1
    rw [e1, e2] at hG hkl
    dsimp only
    refine stCN (own := [(D, od)]) (rest := Z) F N (by rfl) hoc (fun p hp => ?_) hZ (fun h' oc' F' N' hoc' => ?_) (by rfl) (by rfl)
    · rw [List.mem_singleton.mp hp]; exact Nat.ne_of_gt (l1 _ (.head _))
    · exact hQ D od kvs h' _ oc' hoc' hod hkl (fun j n hn => hG j n (by have := (List.getElem?_eq_some_iff.mp hn).1; omega) hn) F' N' l1
end
end Mine
end
section
open PySem PySem.W PyProof.Rows PySem.Calls
namespace Mine
set_option maxRecDepth 100000
theorem plain_of {y : Str} (h : (y == Str.ofString "\n") = false ∧ ((Str.ofString "") == y) = false ∧ (y == Str.ofString "\"") = false ∧ (y == Str.ofString "\\") = false ∧ (!(Builtin.Str.occurrences (Str.ofString "\n\t\r ") y 0 (Str.ofString "\n\t\r ").length 1).isEmpty) = false ∧ y.length = 1) : Plain y :=
  ⟨h.1, h.2.1, h.2.2.1, h.2.2.2.1, h.2.2.2.2.1, h.2.2.2.2.2⟩
theorem plain_slash : Plain (Str.ofString "/") := plain_of (by decide +kernel)
theorem plain_a : Plain (Str.ofString "a") := plain_of (by decide +kernel)
theorem plain_b : Plain (Str.ofString "b") := plain_of (by decide +kernel)
theorem plain_num {k : Nat} (hk : k < 6) : Plain (numStr k) := plain_of (by
  rcases (by omega : k = 0 ∨ k = 1 ∨ k = 2 ∨ k = 3 ∨ k = 4 ∨ k = 5) with rfl | rfl | rfl | rfl | rfl | rfl <;> decide +kernel)
def letter (n : Int) : Str := if n % 2 = 0 then Str.ofString "b" else Str.ofString "a"
theorem plain_letter (n : Int) : Plain (letter n) := by unfold letter; split; exact plain_b; exact plain_a
theorem path_signs {k : Nat} (n : Int) (hk : k < 6) : signs (pathOf k n) = [Str.ofString "/", letter n, Str.ofString "/", numStr k] := by
  unfold pathOf folder letter
  rcases (by omega : k = 0 ∨ k = 1 ∨ k = 2 ∨ k = 3 ∨ k = 4 ∨ k = 5) with rfl | rfl | rfl | rfl | rfl | rfl <;> split <;> decide +kernel
theorem path_word {k : Nat} (n : Int) (hk : k < 6) (t1 t2 t3 : Tok) : wordOf (Str.ofString "/") [(letter n, t1), (Str.ofString "/", t2), (numStr k, t3)] = pathOf k n := by
  unfold pathOf folder letter
  show (((Str.ofString "" ++ Str.ofString "/") ++ (if n % 2 = 0 then Str.ofString "b" else Str.ofString "a")) ++ Str.ofString "/") ++ numStr k = _
  rcases (by omega : k = 0 ∨ k = 1 ∨ k = 2 ∨ k = 3 ∨ k = 4 ∨ k = 5) with rfl | rfl | rfl | rfl | rfl | rfl <;> split <;> decide +kernel
theorem path_Word {k : Nat} (n : Int) (hk : k < 6) : Word (pathOf k n) := by
  unfold pathOf folder
  rcases (by omega : k = 0 ∨ k = 1 ∨ k = 2 ∨ k = 3 ∨ k = 4 ∨ k = 5) with rfl | rfl | rfl | rfl | rfl | rfl <;> split <;> (constructor <;> decide +kernel)
theorem signs_append (a b : Str) : signs (a ++ b) = signs a ++ signs b := by
  show List.map _ (a.cps ++ b.cps).toList = _
  rw [Array.toList_append, List.map_append]; rfl
/-- a word whose signs are plain -/
structure Good (p : Str) : Prop where
  s : ∃ y0 y1 y2 y3, signs p = [y0, y1, y2, y3] ∧ Plain y0 ∧ Plain y1 ∧ Plain y2 ∧ Plain y3 ∧ ∀ t1 t2 t3, wordOf y0 [(y1, t1), (y2, t2), (y3, t3)] = p
theorem path_Good {k : Nat} (n : Int) (hk : k < 6) : Good (pathOf k n) :=
  ⟨_, _, _, _, path_signs n hk, plain_slash, plain_letter n, plain_slash, plain_num hk, path_word n hk⟩
theorem strs_cons {vs : List Value} {S : Str} {r : List Str} (h : StrsAre vs (S :: r)) : ∃ t vs', vs = .str S t :: vs' ∧ StrsAre vs' r := by
  cases h with
  | cons _ t h => exact ⟨t, _, rfl, h⟩
theorem strs_nil {vs : List Value} (h : StrsAre vs []) : vs = [] := by cases h; rfl
theorem text_of : ∀ (p : Str) (r : List Str) (ys : List Value), (∀ q ∈ p :: r, Good q) → StrsAre ys (signs (Str.join (Str.ofString "\n") (p :: r))) → Text (p :: r) ys
  | p, [], ys, hg, h => by
    obtain ⟨y0, y1, y2, y3, hs, p0, p1, p2, p3, hw⟩ := (hg p (.head _)).s
    change StrsAre ys (signs p) at h
    rw [hs] at h
    obtain ⟨t0, ys0, rfl, h1⟩ := strs_cons h
    obtain ⟨t1, ys1, rfl, h2⟩ := strs_cons h1
    obtain ⟨t2, ys2, rfl, h3⟩ := strs_cons h2
    obtain ⟨t3, ys3, rfl, h4⟩ := strs_cons h3
    rw [strs_nil h4, ← hw t1 t2 t3]
    refine .one y0 t0 [(y1, t1), (y2, t2), (y3, t3)] p0 (fun q hq => ?_)
    simp only [List.mem_cons, List.not_mem_nil, or_false] at hq
    rcases hq with rfl | rfl | rfl <;> assumption
  | p, q :: r, ys, hg, h => by
    obtain ⟨y0, y1, y2, y3, hs, p0, p1, p2, p3, hw⟩ := (hg p (.head _)).s
    change StrsAre ys (signs (p ++ Str.ofString "\n" ++ Str.join (Str.ofString "\n") (q :: r))) at h
    rw [signs_append, signs_append, hs] at h
    obtain ⟨t0, ys0, rfl, h1⟩ := strs_cons h
    obtain ⟨t1, ys1, rfl, h2⟩ := strs_cons h1
    obtain ⟨t2, ys2, rfl, h3⟩ := strs_cons h2
    obtain ⟨t3, ys3, rfl, h4⟩ := strs_cons h3
    obtain ⟨t4, ys4, rfl, h5⟩ := strs_cons (S := Str.ofString "\n") h4
    have := text_of q r ys4 (fun x hx => hg x (.tail _ hx)) h5
    rw [← hw t1 t2 t3]
    refine .more y0 t0 [(y1, t1), (y2, t2), (y3, t3)] t4 q r ys4 p0 (fun q hq => ?_) this
    simp only [List.mem_cons, List.not_mem_nil, or_false] at hq
    rcases hq with rfl | rfl | rfl <;> assumption
theorem join_len : ∀ (r : List Str), (∀ q ∈ r, Good q) → (Str.join (Str.ofString "\n") r).length ≤ 5 * r.length
  | [], _ => Nat.le_refl _
  | [p], hg => by
    obtain ⟨y0, y1, y2, y3, hs, _⟩ := (hg p (.head _)).s
    have : p.length = 4 := by rw [← signs_length, hs]; rfl
    show p.length ≤ _
    rw [this]; exact Nat.le_succ _
  | p :: q :: r, hg => by
    obtain ⟨y0, y1, y2, y3, hs, _⟩ := (hg p (.head _)).s
    have h1 : p.length = 4 := by rw [← signs_length, hs]; rfl
    have h2 := join_len (q :: r) (fun x hx => hg x (.tail _ hx))
    show (p ++ Str.ofString "\n" ++ Str.join (Str.ofString "\n") (q :: r)).length ≤ _
    have e : (Str.ofString "\n").length = 1 := rfl
    rw [Str.length_append, Str.length_append, h1, e]
    simp only [List.length_cons] at h2 ⊢
    omega
theorem good_len {p : Str} (h : Good p) : p.length = 4 := by
  obtain ⟨y0, y1, y2, y3, hs, _⟩ := h.s
  rw [← signs_length, hs]; rfl
/-- the paths of the entries -/
def pathsOf (nums : List Int) : List Str := nums.mapIdx pathOf
theorem paths_good {nums : List Int} (h6 : nums.length = 6) : ∀ q ∈ pathsOf nums, Good q := by
  intro q hq
  obtain ⟨i, hi⟩ := List.getElem?_of_mem hq
  have hlt : i < 6 := by
    have := (List.getElem?_eq_some_iff.mp hi).1
    rw [pathsOf, List.length_mapIdx, h6] at this
    exact this
  have hn : nums[i]? = some nums[i] := List.getElem?_eq_getElem (by omega)
  rw [pathsOf, mapIdx_at hn] at hi
  cases hi
  exact path_Good _ hlt
end Mine
end
section
open PySem PySem.W PyProof.Rows PySem.Calls
theorem Mine.off_UnLaw4 {M : Model} {A : Around} {env : Env} {Q : Flow → Shared → Prop} {E : Value → Shared → Prop} {s : Shared} (h : wpAny M A (execs [] env) Q E s) : wpAny M A (execs [] env) Q E s := by
  try (walk1; fail)
  w_top off
  exact h
end
section
open PySem PySem.W PyProof.Rows PySem.Calls PyProof.Rows.LCg
namespace Mine
set_option maxRecDepth 100000
section
local macro_rules | `(tactic| walk_at "eval Name") => `(tactic| (k_here; (with_reducible show wpAny _ _ (eval (Expr.Name _ _) (envOfC _ _ _ _ _)) _ _ _); k_dflt (refine ldE (by k_asm) (by rfl) (by rfl) (by rfl) (by decide) (by assumption) ?_)))
local macro_rules | `(tactic| walk_at "call ref") => `(tactic| ((with_reducible show wpAny _ _ (call (Value.ref 218) _ _) _ _ _); fail))
set_option maxHeartbeats 2000000 in
theorem law_6 {w : World} {g : Heap} {L fa pl : Addr} {cd : Value} {s : Shared} {m : Str → Option Value} {Z : List (Addr × Obj)} {ps : List Value} {n1 : Nat} {nums : List Int} {Q : Flow → Shared → Prop} {E : Value → Shared → Prop}
    (Y : Rdy w g) (F : Fr g L s.heap m) (N : News g L s.heap ((213, tabObj #[]) :: Z)) (hZ : ∀ p ∈ Z, p.1 ≠ 213) (hmp : m (Str.ofString "paths") = some (.ref pl)) (hpl : (pl, listOf ps.toArray n1) ∈ Z) (hP : StrsAre ps (pathsOf nums)) (h6 : nums.length = 6)
    (hQ : ∀ h tk (r : Lx) lt ys c, Waits [] ys 1 (pathsOf nums) → r.Ok w → Fr g L h (fun z => if z = Str.ofString "lexer" then some (.ref r.x) else m z) → News g L h (r.own w [] 0 1 lt ys c ++ (213, tabOf r.c') :: (r.c', r.oc) :: Z) → (∀ p ∈ Z, p.1 < r.cl) → Q .next { s with heap := h, toks := tk }) :
    wpAny (model PP w) (AAt 600) (exec (lawSt 6) (lawEnv L fa cd)) Q E s := by
  obtain ⟨X, ⟨p, loose, mean, mg, mb, T⟩, CH⟩ := id Y
  show wpAny _ _ (exec (Stmt.Assign [Expr.Name _ _] _ _) (envOfC _ (Scope.mk _ _ _ _ _) _ _ _)) _ _ _
  k_steps
  have hgood := paths_good h6
  have hlen : (pathsOf nums).length = 6 := by rw [pathsOf, List.length_mapIdx, h6]
  have hw : ((pathsOf nums).map (·.length)).sum + (pathsOf nums).length ≤ 1048576 := by
    have : (pathsOf nums).map (·.length) = (pathsOf nums).map fun _ => 4 := List.map_congr_left fun q hq => good_len (hgood q hq)
    rw [this, List.map_const', hlen]
    decide
  refine join_listW (isList_of N (.tail _ hpl)) (by simpa using hP) (by decide) hw fun u k => ?_
  dsimp only
  k_steps
  have ej : Txt.join (Str.ofString "\n") (pathsOf nums) = Str.join (Str.ofString "\n") (pathsOf nums) := StrLaws.glued_eq_join _ _
  have hjl := join_len (pathsOf nums) hgood
  refine wpAny_call (siteC 850 rfl (by decide) (by decide) (c_lexer_first Y (fun b o e => F.keep b o e) (Cells.of_news N fun p hp => ?_) ?_ fun h' tk' r lt ys c hys hok hcl O => ?_))
  · rw [List.mem_singleton.mp hp]; exact .head _
  · rw [ej]; omega
  obtain ⟨F', N'⟩ := back Z F N O (fun a ha => by rw [List.mem_singleton.mp ha]; exact .head _) (fun p hp => .tail _ hp) (fun p hp hm => hZ p hp (List.mem_singleton.mp hm))
  dsimp only
  refine stLocN F' N' (fun h'' F'' N'' => ?_) (by rfl) (by rfl)
  refine hQ h'' _ r lt ys c (.inr ⟨rfl, ?_, ?_, rfl⟩) hok F'' (fun p hp => N'' p ?_) (fun p hp => Nat.lt_of_lt_of_le (Heap.lt_size (N p (.tail _ hp)).1) hcl)
  · rw [ej] at hys
    cases hc : pathsOf nums with
    | nil => rw [hc] at hlen; cases hlen
    | cons q rest =>
      rw [hc] at hys hgood
      exact text_of q rest ys hgood hys
  · rw [hys.length, signs_length, ej]; omega
  · simp only [List.mem_append, List.mem_cons] at hp ⊢
    rcases hp with hp | hp | hp | hp
    · exact .inl (.inr (.inr hp))
    · exact .inl (.inl hp)
    · exact .inl (.inr (.inl hp))
    · exact .inr hp
end
end Mine
end
section
open PySem PySem.W PyProof.Rows PySem.Calls PyProof.Rows.LCg
namespace Mine
set_option maxRecDepth 100000
section
variable {w : World} {A : Around} {E : Value → Shared → Prop} {s : Shared} {g : Heap} {L : Addr}
/-- a for over a range -/
theorem for_range {σ : Type} {x : Str} {px : Pos} {env : Env} {body : List Stmt} {R : Result → Shared → Prop} {I : Addr} {a c : Int} {n : Nat} {m : Str → Option Value} (led : σ → List (Addr × Obj)) (Good : Nat → σ → Prop) (hh : A.handled = none)
    (hLI : L ≠ I) (hg : g.get? I = none) (ne : ∀ i st, Good i st → ∀ p ∈ led st, p.1 ≠ I)
    (turn : ∀ (i : Nat) t st oi h tk (Rn : Flow → Shared → Prop) (E : Value → Shared → Prop), i < n → Good i st → Fr g L h m → News g L h ((I, oi) :: led st) →
      (∀ st' h' tk', Good (i + 1) st' → Fr g L h' m → News g L h' ((I, oi) :: led st') → Rn .next { s with heap := h', toks := tk' }) →
      wpAny (model PP w) A (assign (.Name x px) env (.int (a + i * c) t)) (fun _ s2 => wpAny (model PP w) A (execs body env) Rn E s2) E { s with heap := h, toks := tk })
    (fin : ∀ st h tk, Good n st → Fr g L h m → News g L h (led st) → R (.ok .next) { s with heap := h, toks := tk }) :
    ∀ (k i : Nat) (st : σ) (h : Heap) (tk : Nat), k + i = n → IsRangeIter h I (a + (i : Nat) * c) ((n : Int) - (i : Nat)) c → Good i st → Fr g L h m → News g L h (led st) →
      codeAny (model PP w) A (.forLoop (.Name x px) (.ref I) body [] env) R { s with heap := h, toks := tk }
  | 0, i, st, h, tk, hk, hoi, hgd, F, N => by
    have hin : i = n := by omega
    subst hin
    refine for_turnG ((Walks.range (prog := PP) (w := w) hh I a c i).done { s with heap := h, toks := tk } _ _ hoi fun h' tk' hk' => ?_)
    dsimp only
    refine wpAny_execs_nil ?_
    exact fin st h' tk' hgd (but_fr F hk' (by simpa using hLI) (fun b hb => by rw [List.mem_singleton.mp hb]; exact hg)) (but_news N hk' (fun p hp => by simpa using ne i st hgd p hp))
  | k + 1, i, st, h, tk, hk, hoi, hgd, F, N => by
    refine for_turnG ((Walks.range (prog := PP) (w := w) hh I a c n).item i { s with heap := h, toks := tk } _ _ (by omega) hoi fun v h' tk' hP hoi' hk' => ?_)
    obtain ⟨t, rfl⟩ := hP
    dsimp only
    refine wpAny_pure ?_
    have F' := but_fr F hk' (by simpa using hLI) (fun b hb => by rw [List.mem_singleton.mp hb]; exact hg)
    have N' := but_news N hk' (fun p hp => by simpa using ne i st hgd p hp)
    obtain ⟨oi, e, hback⟩ : ∃ oi, h'.get? I = some oi ∧ ∀ h2 : Heap, h2.get? I = some oi → IsRangeIter h2 I (a + ((i + 1 : Nat) : Int) * c) ((n : Int) - ((i + 1 : Nat) : Int)) c := ⟨_, hoi', fun _ e => e⟩
    refine turn i t st oi h' tk' _ _ (by omega) hgd F' (fun p hp => ?_) fun st2 h2 tk2 hg2 F2 N2 => ?_
    · rcases List.mem_cons.mp hp with rfl | hp
      · exact ⟨e, Ne.symm hLI, hg⟩
      · exact N' p hp
    · dsimp only
      exact for_range led Good hh hLI hg ne turn fin k (i + 1) st2 h2 tk2 (by omega) (hback h2 (N2 _ (.head _)).1) hg2 F2 (fun p hp => N2 p (.tail _ hp))

theorem s_pass {m : Str → Option Value} {news : List (Addr × Obj)} {r : Lx} {vs ys : List Value} {y : Str} {ss : List Str} {k c : Nat} {ln : Int} {lt : Tok} {sd : Nat} {od : Obj} {kvs : List (Str × Value)} {sgn : Str → Str} {Q : Value → Shared → Prop} (rest : List (Addr × Obj))
    (h0 : A.handled = none) (h1 : A.depth ≤ 700) (h2 : A.units ≤ 4 * 700) (F : Fr g L s.heap m) (N : News g L s.heap news) (Y : Rdy w g) (Ok : r.Ok w) (hw : Waits vs ys ln (y :: ss)) (hne : ∀ a ∈ y :: ss, Word a) (hl : ss.length ≤ 20)
    (hd : od.IsDictOf (SK w) kvs) (hsg : ∀ a ∈ y :: ss, ∃ t, valueAt kvs a = some (.str (sgn a) t)) (hsd : @LT.lt Nat _ r.pb sd)
    (hs : ∀ p ∈ r.own w vs k ln lt ys c ++ [(r.c', r.oc), (213, tabOf r.c'), (sd, od)], p ∈ news) (hr : ∀ p ∈ rest, p ∈ news) (hn : ∀ p ∈ rest, p.1 ∉ [r.pb, r.dx, r.lf])
    (hQ : ∀ h' tk vs' ks k' ln' lt' c', StrsAre vs' (ks.flatMap fun sg => (y :: ss).filter fun a => decide (sgn a = sg)) → sortedS ks = true → ks.Nodup → (∀ sg, sg ∈ ks ↔ ∃ a ∈ y :: ss, sgn a = sg) →
      Fr g L h' m → News g L h' ([(r.pb, listOf (List.toArray vs') k'), (r.dx, dictOf (lexDict w r.t1 r.t2 r.t3 r.t4 ln' lt' (.ref r.sx) r.wt r.pb) 4), (r.lf, listOf [].toArray c')] ++ rest) → Q .none { s with heap := h', toks := tk }) :
    wpAny (model PP w) A (call (.ref 232) [.ref r.x, .ref sd] []) Q E s := by
  refine wpAny_call (siteC 700 h0 h1 h2 (c_pass (od := od) (kvs := kvs) (sgn := sgn) Y (fun b o e => F.keep b o e) (Cells.of_news N hs) Ok hw hne hl hd hsg hsd fun h' tk vs' ks k' ln' lt' c' q1 q2 q3 q4 O => ?_))
  have hc : ∀ b ∈ [r.pb, r.dx, r.lf], b ∈ adrs news := fun b hb => by
    revert b
    exact List.forall_mem_cons.mpr ⟨List.mem_map.mpr ⟨_, hs (r.pb, listOf vs.toArray k) (List.mem_of_getElem? (i := 0) rfl), rfl⟩,
      List.forall_mem_cons.mpr ⟨List.mem_map.mpr ⟨_, hs (r.dx, dictOf (lexDict w r.t1 r.t2 r.t3 r.t4 ln lt (.ref r.sx) r.wt r.pb) 4) (List.mem_of_getElem? (i := 1) rfl), rfl⟩,
        List.forall_mem_cons.mpr ⟨List.mem_map.mpr ⟨_, hs (r.lf, listOf ys.toArray c) (List.mem_of_getElem? (i := 2) rfl), rfl⟩, List.forall_mem_nil _⟩⟩⟩
  obtain ⟨F', N'⟩ := back rest F N O hc hr hn
  exact hQ h' tk vs' ks k' ln' lt' c' q1 q2 q3 q4 F' N'
end
end Mine
end
section
open PySem PySem.W PyProof.Rows PySem.Calls
theorem Mine.off_UnSign {M : Model} {A : Around} {env : Env} {Q : Flow → Shared → Prop} {E : Value → Shared → Prop} {s : Shared} (h : wpAny M A (execs [] env) Q E s) : wpAny M A (execs [] env) Q E s := by
  try (walk1; fail)
  w_top off
  exact h
end
section
open PySem PySem.W PyProof.Rows PySem.Calls PyProof.Rows.LCg
namespace Mine
set_option maxRecDepth 100000
/-- key, value and names of the dict block of a statement -/
def dcOf : Stmt → Expr × Expr × Scope
  | .For _ _ [.Expr (.Call _ [_, .DictComp kx vx _ sc _] _ _) _] _ _ => (kx, vx, sc)
  | .Expr (.Call _ [_, .DictComp kx vx _ sc _] _ _) _ => (kx, vx, sc)
  | _ => (.Constant .none 0 ⟨0,0,0,0⟩, .Constant .none 0 ⟨0,0,0,0⟩, default)
section
set_option maxHeartbeats 2000000 in
theorem elt_sign {w : World} {g : Heap} {L fa rd C : Addr} {cd : Value} {s : Shared} {m m2 : Str → Option Value} {TT : List (Addr × Obj)} {pc rc rdo oC : Obj} {p row : Str} {u tr t : Tok} {place : Int} {kvs : List (Str × Value)} {Q : Value → Shared → Prop} {E : Value → Shared → Prop}
    (Y : Rdy w g) (F : Fr g L s.heap m) (N : News g L s.heap ((C, oC) :: TT)) (hC : NsObj oC m2) (hv : m2 (Str.ofString "path") = some (.str p u)) (j1 : (L + 4, pc) ∈ TT) (hpc : pc.data = .cell (some (.int place t))) (j3 : (L + 3, rc) ∈ TT) (hrc : rc.data = .cell (some (.ref rd)))
    (j4 : (rd, rdo) ∈ TT) (hrd : rdo.IsDictOf (SK w) kvs) (hr : valueAt kvs p = some (.str row tr)) (hlen : row.length = 10) (hp : 0 ≤ place ∧ place < 10)
    (hQ : ∀ tk u, Q (.str (Txt.item row place) u) { s with toks := tk }) :
    wpAny (model PP w) (AAt 600) (eval (dcOf (lawSt 7)).2.1 (compEnvC (dcOf (lawSt 7)).2.2 [(Str.ofString "rows", L + 3), (Str.ofString "place", L + 4)] C (lawEnv L fa cd))) Q E s := by
  obtain ⟨X, ⟨p, loose, mean, mg, mb, T⟩, CH⟩ := id Y
  show wpAny _ _ (eval (Expr.Subscript (Expr.Subscript (Expr.Name _ _) (Expr.Name _ _) _) (Expr.Name _ _) _) (compEnvC (Scope.mk _ _ _ _ _) _ _ (envOfC _ (Scope.mk _ _ _ _ _) _ _ _))) _ _ _
  walk1
  walk1
  refine lcf_cell N (by rfl) (.tail _ j3) hrc ?_ (by rfl) (by rfl)
  try dsimp only
  refine LCgL.ld_own N (.head _) hC hv ?_
  try dsimp only
  refine kda_item (knd := PySem.strKind _ _) N (.tail _ j4) hrd (strKind_is _ _ _ _) hr ?_
  try dsimp only
  refine lcf_cell (s := { s with toks := s.toks + 1 }) N (by rfl) (.tail _ j1) hpc ?_ (by rfl) (by rfl)
  try dsimp only
  exact KXi.item hlen (by omega) (by omega) (by decide) (fun _ => hQ _ _)
end
end Mine
end
section
open PySem PySem.W PyProof.Rows PySem.Calls
theorem Mine.off_UnLaw5 {M : Model} {A : Around} {env : Env} {Q : Flow → Shared → Prop} {E : Value → Shared → Prop} {s : Shared} (h : wpAny M A (execs [] env) Q E s) : wpAny M A (execs [] env) Q E s := by
  try (walk1; fail)
  w_top off
  exact h
end
section
open PySem PySem.W PyProof.Rows PySem.Calls PyProof.Rows.LCg
namespace Mine
set_option maxRecDepth 100000
/-- one pass: the words of each sign, the signs in their order -/
def Step (sgn : Str → Str) (ws ws' : List Str) : Prop :=
  ∃ ks : List Str, sortedS ks = true ∧ ks.Nodup ∧ (∀ sg, sg ∈ ks ↔ ∃ a ∈ ws, sgn a = sg) ∧ ws' = ks.flatMap fun sg => ws.filter fun a => decide (sgn a = sg)
theorem filter_split {α : Type} (p q : α → Bool) (hpq : ∀ a, p a = true → q a = false) : ∀ l : List α, (l.filter p ++ l.filter q).Perm (l.filter fun a => p a || q a)
  | [] => .refl _
  | a :: l => by
    have ih := filter_split p q hpq l
    cases hp : p a with
    | true =>
      have hq := hpq a hp
      rw [List.filter_cons_of_pos hp, List.filter_cons_of_neg (by simp [hq]), List.filter_cons_of_pos (by simp [hp])]
      exact ih.cons a
    | false =>
      cases hq : q a with
      | true =>
        rw [List.filter_cons_of_neg (by simp [hp]), List.filter_cons_of_pos hq, List.filter_cons_of_pos (by simp [hq])]
        exact List.perm_middle.trans (ih.cons a)
      | false =>
        rw [List.filter_cons_of_neg (by simp [hp]), List.filter_cons_of_neg (by simp [hq]), List.filter_cons_of_neg (by simp [hp, hq])]
        exact ih
theorem flat_perm (sgn : Str → Str) (ws : List Str) : ∀ ks : List Str, ks.Nodup → (ks.flatMap fun sg => ws.filter fun a => decide (sgn a = sg)).Perm (ws.filter fun a => decide (sgn a ∈ ks))
  | [], _ => by simp
  | k :: ks, hn => by
    obtain ⟨h1, h2⟩ := List.nodup_cons.mp hn
    rw [List.flatMap_cons]
    refine ((flat_perm sgn ws ks h2).append_left _).trans ((filter_split _ _ (fun a ha => ?_) ws).trans (List.Perm.of_eq (List.filter_congr fun a _ => ?_)))
    · have : sgn a = k := of_decide_eq_true ha
      rw [this]; exact decide_eq_false h1
    · by_cases e : sgn a = k <;> simp [e]
theorem Step.perm {sgn : Str → Str} {ws ws' : List Str} (h : Step sgn ws ws') : ws'.Perm ws := by
  obtain ⟨ks, _, hn, hk, rfl⟩ := h
  refine (flat_perm sgn ws ks hn).trans (List.Perm.of_eq ?_)
  rw [List.filter_eq_self]
  exact fun a ha => decide_eq_true ((hk _).mpr ⟨a, ha, rfl⟩)
/-- the row of a path -/
def rowAt (nums : List Int) (a : Str) : Str := match (List.range 6).find? (fun k => decide (pathOf k (nums.getD k 0) = a)) with
  | some k => rowM (nums.getD k 0)
  | none => Str.ofString ""
theorem rowAt_path {nums : List Int} (h6 : nums.length = 6) {k : Nat} {n : Int} (hn : nums[k]? = some n) : rowAt nums (pathOf k n) = rowM n := by
  have hk : k < 6 := by have := (List.getElem?_eq_some_iff.mp hn).1; omega
  have hd : nums.getD k 0 = n := by rw [List.getD_eq_getElem?_getD, hn]; rfl
  unfold rowAt
  cases hf : (List.range 6).find? (fun j => decide (pathOf j (nums.getD j 0) = pathOf k n)) with
  | none =>
    have := List.find?_eq_none.mp hf k (List.mem_range.mpr hk)
    rw [hd] at this
    simp at this
  | some j =>
    have h1 : pathOf j (nums.getD j 0) = pathOf k n := by simpa using List.find?_some hf
    have h2 : j < 6 := List.mem_range.mp (List.mem_of_find?_eq_some hf)
    obtain rfl := path_inj h2 hk h1
    show rowM (nums.getD j 0) = rowM n
    rw [hd]
def signAt (nums : List Int) (place : Int) (a : Str) : Str := Txt.item (rowAt nums a) place
/-- the words after some passes -/
def Passed (nums : List Int) : Nat → List Str → Prop
  | 0, ws => ws = pathsOf nums
  | i + 1, ws => ∃ ws₀, Passed nums i ws₀ ∧ Step (signAt nums (9 + (i : Int) * (-1))) ws₀ ws
theorem Passed.perm {nums : List Int} : ∀ {i : Nat} {ws : List Str}, Passed nums i ws → ws.Perm (pathsOf nums)
  | 0, _, h => by rw [show _ = pathsOf nums from h]
  | _ + 1, _, ⟨_, h, hs⟩ => hs.perm.trans h.perm
theorem rowM_len (n : Int) : (rowM n).length = 10 := by
  have hl : (List.range 10).map (modeChar (modeOf n)) = [modeChar (modeOf n) 0, modeChar (modeOf n) 1, modeChar (modeOf n) 2, modeChar (modeOf n) 3, modeChar (modeOf n) 4,
    modeChar (modeOf n) 5, modeChar (modeOf n) 6, modeChar (modeOf n) 7, modeChar (modeOf n) 8, modeChar (modeOf n) 9] := rfl
  unfold rowM
  rw [hl, join_ten]
  simp only [Str.length_append, modeChar_len]
theorem mem_paths {nums : List Int} (h6 : nums.length = 6) {a : Str} (h : a ∈ pathsOf nums) : ∃ j n, j < 6 ∧ nums[j]? = some n ∧ a = pathOf j n := by
  obtain ⟨i, hi⟩ := List.getElem?_of_mem h
  have hlt : i < 6 := by
    have := (List.getElem?_eq_some_iff.mp hi).1
    rw [pathsOf, List.length_mapIdx, h6] at this
    exact this
  have hn : nums[i]? = some nums[i] := List.getElem?_eq_getElem (by omega)
  rw [pathsOf, mapIdx_at hn] at hi
  cases hi
  exact ⟨i, _, hlt, hn, rfl⟩
def Stop (P : Prop) : Prop := P
theorem stop {P : Prop} (h : Stop P) : P := h
/-- what the lexer holds between the passes -/
structure PState where
  (vs ys : List Value) (k c : Nat) (ln : Int) (lt : Tok) (ws : List Str) (pc : Obj)
section
local macro_rules | `(tactic| walk_at "eval Name") => `(tactic| (k_here; (with_reducible show wpAny _ _ (eval (Expr.Name _ _) (envOfC _ _ _ _ _)) _ _ _); k_dflt (refine ldE (by k_asm) (by rfl) (by rfl) (by rfl) (by decide) (by assumption) ?_)))
local macro_rules | `(tactic| walk_at "exec For Name Call cons nil") => `(tactic| (k_here; k_dflt (with_unfolding_all refine wpAny_For ?_)))
local macro_rules | `(tactic| walk_at "eval DictComp") => `(tactic| (k_here; refine stop ?_))
set_option maxHeartbeats 1000000 in
theorem law_7 {w : World} {g : Heap} {L fa pl rd : Addr} {cd : Value} {s : Shared} {m : Str → Option Value} {Z : List (Addr × Obj)} {ps ys : List Value} {n1 c : Nat} {lt : Tok} {nums : List Int} {r : Lx} {pc rc rdo : Obj} {v₀ : Option Value} {kvs : List (Str × Value)} {Q : Flow → Shared → Prop} {E : Value → Shared → Prop}
    (Y : Rdy w g) (F : Fr g L s.heap m) (N : News g L s.heap (r.own w [] 0 1 lt ys c ++ (213, tabOf r.c') :: (r.c', r.oc) :: (L + 4, pc) :: Z)) (hpc : pc.data = .cell v₀) (hw : Waits [] ys 1 (pathsOf nums)) (Ok : r.Ok w) (hZr : ∀ p ∈ (L + 4, pc) :: Z, p.1 < r.cl ∧ p.1 ≠ 213) (hZ4 : ∀ p ∈ Z, p.1 ≠ L + 4) (hL : 213 < L)
    (hml : m (Str.ofString "lexer") = some (.ref r.x)) (hmp : m (Str.ofString "paths") = some (.ref pl)) (hpl : (pl, listOf ps.toArray n1) ∈ Z) (hP : StrsAre ps (pathsOf nums)) (h6 : nums.length = 6)
    (hrc : (L + 3, rc) ∈ Z) (hrcd : rc.data = .cell (some (.ref rd))) (hrd : (rd, rdo) ∈ Z) (hrdd : rdo.IsDictOf (SK w) kvs) (hrow : ∀ j n, nums[j]? = some n → ∃ t, valueAt kvs (pathOf j n) = some (.str (rowM n) t))
    (hQ : ∀ h tk vs ys k ln lt c ws pc', Passed nums 10 ws → Waits vs ys ln ws → Fr g L h m → News g L h (r.own w vs k ln lt ys c ++ (213, tabOf r.c') :: (r.c', r.oc) :: (L + 4, pc') :: Z) → Q .next { s with heap := h, toks := tk }) :
    wpAny (model PP w) (AAt 600) (exec (lawSt 7) (lawEnv L fa cd)) Q E s := by
  obtain ⟨X, ⟨p, loose, mean, mg, mb, T⟩, CH⟩ := id Y
  show wpAny _ _ (exec (Stmt.For _ _ _ _ _) (envOfC _ (Scope.mk _ _ _ _ _) _ _ _)) _ _ _
  k_steps
  rename IsRange _ _ _ _ _ _ _ _ => hr
  rename Fr g _ _ _ => F
  rename News g _ _ _ => N
  rename_i h1 _ _ _ _ _
  have hown : ∀ (st : PState) (p : Addr × Obj), p ∈ r.own w st.vs st.k st.ln st.lt st.ys st.c ++ (213, tabOf r.c') :: (r.c', r.oc) :: (L + 4, st.pc) :: Z → ∃ o, (p.1, o) ∈ r.own w [] 0 1 lt ys c ++ (213, tabOf r.c') :: (r.c', r.oc) :: (L + 4, pc) :: Z := by
    intro st p hp
    have h : p.1 ∈ adrs (r.own w st.vs st.k st.ln st.lt st.ys st.c ++ (213, tabOf r.c') :: (r.c', r.oc) :: (L + 4, st.pc) :: Z) := List.mem_map_of_mem hp
    have h : p.1 ∈ adrs (r.own w [] 0 1 lt ys c ++ (213, tabOf r.c') :: (r.c', r.oc) :: (L + 4, pc) :: Z) := h
    obtain ⟨q, hq, e⟩ := List.mem_map.mp h
    exact ⟨q.2, by rw [← e]; exact hq⟩
  have hap : Apart r.x r.dx r.pb r.f r.sx r.sdx r.lf r.cl r.c' := Ok.nd
  unfold Apart at hap
  have gI : g.get? h1.objs.size = none := newer (s := { s with heap := h1 }) F (Nat.le_refl _)
  refine wpAny_pyIter_range hr (by decide) ?_
  refine for_range (σ := PState) (a := 9) (c := -1) (n := 10) (L := L) (g := g) (m := m) (I := h1.objs.size) (fun st => r.own w st.vs st.k st.ln st.lt st.ys st.c ++ (213, tabOf r.c') :: (r.c', r.oc) :: (L + 4, st.pc) :: Z)
    (fun i st => Passed nums i st.ws ∧ Waits st.vs st.ys st.ln st.ws ∧ ∃ v, st.pc.data = .cell v) rfl (Nat.ne_of_lt F.ns.lt) gI (fun i st _ p hp => ?_) ?_ ?_ 10 0 ⟨[], ys, 0, c, 1, lt, pathsOf nums, pc⟩ _ _ rfl (Heap.get?_push_size _ rfl) ⟨rfl, hw, v₀, hpc⟩ (F.push _) (fun p hp => ⟨Heap.get?_push_of_some _ (N p hp).1, (N p hp).2⟩)
  · obtain ⟨o, ho⟩ := hown st p hp
    exact Nat.ne_of_lt (Heap.lt_size (N _ ho).1)
  · intro i t st oi h tk Rn E hi ⟨hp, hw, v, hpc⟩ F2 N2 next
    have hst := hown st
    clear hown
    have N3 : News g L h (((h1.objs.size, oi) :: (r.own w st.vs st.k st.ln st.lt st.ys st.c ++ [(213, tabOf r.c'), (r.c', r.oc)])) ++ (L + 4, st.pc) :: Z) := N2
    refine wpAny_assign_Name (stCN F2 N3 (by rfl) hpc (fun p hp => ?_) hZ4 (fun h2 pc2 F4 N4 hpc2 => ?_) (by rfl) (by rfl))
    · have hcl4 : @LT.lt Nat _ (L + 4) r.cl := (hZr _ (.head _)).1
      have hL' : @LT.lt Nat _ 213 L := hL
      have hI4 : @LT.lt Nat _ (L + 4) h1.objs.size := Heap.lt_size (N (L + 4, pc) (List.mem_of_getElem? (i := 10) rfl)).1
      intro e
      rcases List.mem_cons.mp hp with rfl | hp
      · exact Nat.ne_of_gt hI4 e
      rcases List.mem_append.mp hp with hp | hp
      · exact Nat.ne_of_gt (Nat.lt_of_lt_of_le hcl4 (own_ge Ok.nd p hp)) e
      rcases List.mem_cons.mp hp with rfl | hp
      · exact Nat.ne_of_lt (Nat.lt_of_lt_of_le hL' (Nat.le_add_right L 4)) e
      · rw [List.mem_singleton.mp hp] at e
        have c1 := (N2 (r.c', r.oc) (List.mem_of_getElem? (i := 10) rfl)).1
        have c2 := (N2 (L + 4, st.pc) (List.mem_of_getElem? (i := 11) rfl)).1
        obtain ⟨vs, tt, c3, _⟩ := Ok.code
        have e2 : r.c' = L + 4 := e
        rw [← e2] at c2
        dsimp only at c1 c2
        rw [c1] at c2
        have c4 : r.oc = st.pc := Option.some.inj c2
        rw [c4, hpc] at c3
        cases c3
    have N0 := N
    clear F2 N2 N3
    dsimp only at N4 ⊢
    obtain ⟨y, ss, hws⟩ : ∃ y ss, st.ws = y :: ss := by
      have := hp.perm.length_eq
      rw [pathsOf, List.length_mapIdx, h6] at this
      cases hc : st.ws with
      | nil => rw [hc] at this; cases this
      | cons y ss => exact ⟨y, ss, rfl⟩
    obtain ⟨ZZ, hZZ⟩ : ∃ ZZ, ZZ = ((h1.objs.size, oi) :: (r.own w st.vs st.k st.ln st.lt st.ys st.c ++ [(213, tabOf r.c'), (r.c', r.oc)])) ++ (L + 4, pc2) :: Z := ⟨_, rfl⟩
    rw [← hZZ] at N4
    have i1 : (L + 4, pc2) ∈ ZZ := by rw [hZZ]; exact (List.mem_of_getElem? (i := 11) rfl)
    have i0 : ∀ p ∈ Z, p ∈ ZZ := fun p hp => by rw [hZZ]; exact List.mem_append_right _ (.tail _ hp)
    have i3 := i0 _ hrc
    have i4 := i0 _ hrd
    k_steps
    unfold Stop
    refine compD_E (cl := [(Str.ofString "rows", L + 3), (Str.ofString "place", L + 4)]) F4 (by rfl) (by decide) (by rfl) (by decide) ?_
    refine ldE F4 (by rfl) (by rfl) (by rfl) (by decide) hmp ?_
    have e1 : ps.toArray.size = 6 := by rw [List.size_toArray, hP.length, pathsOf, List.length_mapIdx, h6]
    refine listD (A := AAt 600) (fun q kvs => ∀ j n, j < q → nums[j]? = some n → ∃ t, valueAt kvs (pathOf j n) = some (.str (signAt nums (9 + (i : Int) * (-1)) (pathOf j n)) t)) rfl F4 N4 (i0 _ hpl) rfl rfl (by rw [e1]; decide) (fun _ _ h => absurd h (Nat.not_lt_zero _)) ?_ ?_
    · intro C D q v kvs' oC od own h tk m' Q E' hq hP' hC hG hown hZD hDC F N nxt
      obtain ⟨S, u1, rfl, hS⟩ := strs_at hP (by simpa [atList] using hP')
      have hq6 : q < 6 := by rw [e1] at hq; exact hq
      obtain ⟨n, hn⟩ : ∃ n, nums[q]? = some n := ⟨_, List.getElem?_eq_getElem (by omega)⟩
      rw [pathsOf, mapIdx_at hn] at hS
      cases hS
      refine asg1 (A := AAt 600) (by rfl) (by rfl) F N (fun p hp => ?_) hC ?_
      · simp only [List.mem_cons, List.mem_append] at hp
        rcases hp with rfl | hp | hp
        · exact Nat.ne_of_lt hDC
        · exact Nat.ne_of_lt (hown p hp)
        · exact Nat.ne_of_lt (Nat.lt_trans (hZD p hp) hDC)
      clear F N hC hQ next hst F4 N4
      intro h tk oC' F N hC
      obtain ⟨m2, hC, hv⟩ : ∃ m2, NsObj oC' m2 ∧ m2 (Str.ofString "path") = some (.str (pathOf q n) u1) := ⟨_, hC, rfl⟩
      obtain ⟨tr, hvr⟩ := hrow q n hn
      obtain ⟨TT, hTT⟩ : ∃ TT, TT = (D, od) :: (own ++ ZZ) := ⟨_, rfl⟩
      have j1 : (L + 4, pc2) ∈ TT := by rw [hTT]; exact .tail _ (List.mem_append_right _ i1)
      have j3 : (L + 3, rc) ∈ TT := by rw [hTT]; exact .tail _ (List.mem_append_right _ i3)
      have j4 : (rd, rdo) ∈ TT := by rw [hTT]; exact .tail _ (List.mem_append_right _ i4)
      rw [← hTT] at N
      refine LCgL.ld_own N (.head _) hC hv ?_
      refine elt_sign Y F N hC hv j1 hpc2 j3 hrcd j4 hrdd hvr (rowM_len n) (by omega) fun tk u => ?_
      refine nxt _ _ oC' m2 _ _ _ F (by subst hTT; exact N) hC fun j n' hj hn' => ?_
      rw [valueAt_put]
      by_cases hjq : j = q
      · subst hjq
        rw [hn] at hn'; cases hn'
        rw [if_pos rfl]
        exact ⟨u, by rw [signAt, rowAt_path h6 hn]⟩
      · rw [if_neg (fun e => hjq (path_inj (by omega) hq6 e))]
        exact hG j n' (by omega) hn'
    · intro h tk kvs' hG hkl D od h tk hod F N l1
      k_steps
      have hIlt : ∀ p ∈ r.own w st.vs st.k st.ln st.lt st.ys st.c ++ (213, tabOf r.c') :: (r.c', r.oc) :: (L + 4, st.pc) :: Z, @LT.lt Nat _ p.1 h1.objs.size := fun p hp => by
        obtain ⟨o, ho⟩ := hst p hp
        exact Heap.lt_size (N0 _ ho).1
      have hcl4 : @LT.lt Nat _ (L + 4) r.cl := (hZr _ (.head _)).1
      have hpb : @LT.lt Nat _ r.pb h1.objs.size := hIlt (r.pb, listOf st.vs.toArray st.k) (List.mem_of_getElem? (i := 0) rfl)
      have hmem : ∀ a ∈ y :: ss, ∃ j n, j < 6 ∧ nums[j]? = some n ∧ a = pathOf j n := fun a ha => mem_paths h6 (hp.perm.mem_iff.mp (by rw [hws]; exact ha))
      have hss : ss.length ≤ 20 := by
        have := hp.perm.length_eq
        rw [pathsOf, List.length_mapIdx, h6, hws, List.length_cons] at this
        omega
      refine s_pass (r := r) (sd := D) (od := od) (kvs := kvs') (sgn := signAt nums (9 + (i : Int) * (-1))) (k := st.k) (c := st.c) (lt := st.lt) ((h1.objs.size, oi) :: (r.x, instObj 59 r.dx) :: (r.f, r.of) :: (r.sx, instObj 59 r.sdx) :: (r.sdx, dictOf (r.sdict w) 5) :: (r.cl, r.co) :: (r.c', r.oc) :: (213, tabOf r.c') :: (L + 4, pc2) :: Z)
        rfl (by decide) (by decide) F N Y Ok (by rw [← hws]; exact hw) (fun a ha => ?_) hss hod (fun a ha => ?_) (l1 (r.pb, listOf st.vs.toArray st.k) (by rw [hZZ]; exact (List.mem_of_getElem? (i := 1) rfl))) ?_ ?_ ?_ fun h' tk' vs' ks k' ln' lt' c' q1 q2 q3 q4 F' N' => ?_
      · obtain ⟨j, n, hj, _, rfl⟩ := hmem a ha
        exact path_Word n hj
      · obtain ⟨j, n, hj, hn, rfl⟩ := hmem a ha
        exact hG j n (by rw [e1]; exact hj) hn
      · rw [hZZ]
        exact in_idx [2, 3, 4, 5, 6, 7, 8, 9, 11, 10, 0] rfl
      · rw [hZZ]
        exact in_take 9 13 [1, 5, 6, 7, 8, 9, 11, 10, 12] rfl rfl
      · exact List.forall_mem_cons.mpr ⟨Ok.nd.high3 hpb, Ok.nd.rest3 (List.forall_mem_cons.mpr ⟨Ok.nd.low3 Ok.nd.2.1, List.forall_mem_cons.mpr ⟨Ok.nd.low3 hcl4, fun p hp => Ok.nd.low3 (hZr p (.tail _ hp)).1⟩⟩)⟩
      · refine wpAny_execs_nil ?_
        refine next ⟨vs', [], k', c', ln', lt', _, pc2⟩ h' tk' ⟨⟨st.ws, hp, ks, q2, q3, ?_, rfl⟩, .inl ⟨rfl, by rw [hws]; exact q1⟩, _, hpc2⟩ F' (fun p hp => N' p ?_)
        · rw [hws]; exact q4
        · revert p
          exact in_take 12 12 [3, 0, 1, 2, 4, 5, 6, 7, 8, 10, 9, 11] rfl rfl
  · intro st h tk ⟨hp, hw, v, hpc⟩ F2 N2
    exact hQ h tk _ _ _ _ _ _ _ _ hp hw F2 N2
end
end Mine
end
section
open PySem PySem.W PyProof.Rows PySem.Calls
theorem Mine.off_UnLaw6 {M : Model} {A : Around} {env : Env} {Q : Flow → Shared → Prop} {E : Value → Shared → Prop} {s : Shared} (h : wpAny M A (execs [] env) Q E s) : wpAny M A (execs [] env) Q E s := by
  try (walk1; fail)
  w_top off
  exact h
end
section
open PySem PySem.W PyProof.Rows PySem.Calls PyProof.Rows.LCg
namespace Mine
set_option maxRecDepth 100000
/-- the folder of a path -/
def dirAt (nums : List Int) (a : Str) : Str := match (List.range 6).find? (fun k => decide (pathOf k (nums.getD k 0) = a)) with
  | some k => folder (nums.getD k 0)
  | none => Str.ofString ""
theorem dirAt_path {nums : List Int} (h6 : nums.length = 6) {k : Nat} {n : Int} (hn : nums[k]? = some n) : dirAt nums (pathOf k n) = folder n := by
  have hk : k < 6 := by have := (List.getElem?_eq_some_iff.mp hn).1; omega
  have hd : nums.getD k 0 = n := by rw [List.getD_eq_getElem?_getD, hn]; rfl
  unfold dirAt
  cases hf : (List.range 6).find? (fun j => decide (pathOf j (nums.getD j 0) = pathOf k n)) with
  | none =>
    have := List.find?_eq_none.mp hf k (List.mem_range.mpr hk)
    rw [hd] at this
    simp at this
  | some j =>
    have h1 : pathOf j (nums.getD j 0) = pathOf k n := by simpa using List.find?_some hf
    have h2 : j < 6 := List.mem_range.mp (List.mem_of_find?_eq_some hf)
    obtain rfl := path_inj h2 hk h1
    show folder (nums.getD j 0) = folder n
    rw [hd]
theorem dir_facts {k : Nat} (n : Int) (hk : k < 6) : (pathOf k n).length ≤ 10 ∧ Txt.slice (pathOf k n) none (some (Txt.rfind (pathOf k n) (Str.ofString "/") + 1)) = folder n ++ Str.ofString "/" ∧ (folder n ++ Str.ofString "/").length ≠ 0 ∧
    ((folder n ++ Str.ofString "/") != Txt.mul (Str.ofString "/") ((folder n ++ Str.ofString "/").length : Int)) = true ∧ Txt.rstripChars (folder n ++ Str.ofString "/") (Str.ofString "/") = folder n := by
  unfold pathOf folder
  rcases (by omega : k = 0 ∨ k = 1 ∨ k = 2 ∨ k = 3 ∨ k = 4 ∨ k = 5) with rfl | rfl | rfl | rfl | rfl | rfl <;> split <;> (refine ⟨?_, ?_, ?_, ?_, ?_⟩ <;> decide +kernel)
theorem s_dirname {w : World} {A : Around} {E : Value → Shared → Prop} {s : Shared} {h₀ : Heap} {L : Addr} {m : Str → Option Value} {news : List (Addr × Obj)} {k : Nat} {n : Int} {t : Tok} {Q : Value → Shared → Prop}
    (h0 : A.handled = none) (h1 : A.depth ≤ 800) (h2 : A.units ≤ 4 * 800) (F : Fr h₀ L s.heap m) (N : News h₀ L s.heap news) (Y : Rdy w h₀) (hk : k < 6)
    (hQ : ∀ h' tk u, Fr h₀ L h' m → News h₀ L h' news → Q (.str (folder n) u) { s with heap := h', toks := tk }) : wpAny (model PP w) A (call (.ref 164) [.str (pathOf k n) t] []) Q E s := by
  obtain ⟨f0, f1, f2, f3, f4⟩ := dir_facts n hk
  refine wpAny_call (siteC 800 h0 h1 h2 (c_dirname Y (fun b o e => F.keep b o e) f0 f1 f2 f3 f4 fun h' tk u O => ?_))
  obtain ⟨F', N'⟩ := back0 F N O
  exact hQ h' tk u F' N'
section
local macro_rules | `(tactic| walk_at "eval Name") => `(tactic| (k_here; (with_reducible show wpAny _ _ (eval (Expr.Name _ _) (envOfC _ _ _ _ _)) _ _ _); k_dflt (refine ldE (by k_asm) (by rfl) (by rfl) (by rfl) (by decide) (by assumption) ?_)))
local macro_rules | `(tactic| walk_at "eval DictComp") => `(tactic| (k_here; refine stop ?_))
set_option maxHeartbeats 1000000 in
theorem law_8 {w : World} {g : Heap} {L fa pl : Addr} {cd : Value} {s : Shared} {m : Str → Option Value} {Z : List (Addr × Obj)} {ps vs ys : List Value} {n1 k c : Nat} {ln : Int} {lt : Tok} {nums : List Int} {ws : List Str} {r : Lx} {Q : Flow → Shared → Prop} {E : Value → Shared → Prop}
    (Y : Rdy w g) (F : Fr g L s.heap m) (N : News g L s.heap (r.own w vs k ln lt ys c ++ (213, tabOf r.c') :: (r.c', r.oc) :: Z)) (hw : Waits vs ys ln ws) (hperm : ws.Perm (pathsOf nums)) (Ok : r.Ok w) (hZr : ∀ p ∈ Z, p.1 < r.cl ∧ p.1 ≠ 213)
    (hml : m (Str.ofString "lexer") = some (.ref r.x)) (hmp : m (Str.ofString "paths") = some (.ref pl)) (hpl : (pl, listOf ps.toArray n1) ∈ Z) (hP : StrsAre ps (pathsOf nums)) (h6 : nums.length = 6)
    (hQ : ∀ h tk vs ys k ln lt c ws', Step (dirAt nums) ws ws' → Waits vs ys ln ws' → Fr g L h m → News g L h (r.own w vs k ln lt ys c ++ (213, tabOf r.c') :: (r.c', r.oc) :: Z) → Q .next { s with heap := h, toks := tk }) :
    wpAny (model PP w) (AAt 600) (exec (lawSt 8) (lawEnv L fa cd)) Q E s := by
  obtain ⟨X, ⟨p, loose, mean, mg, mb, T⟩, CH⟩ := id Y
  show wpAny _ _ (exec (Stmt.Expr _ _) (envOfC _ (Scope.mk _ _ _ _ _) _ _ _)) _ _ _
  have hap : Apart r.x r.dx r.pb r.f r.sx r.sdx r.lf r.cl r.c' := Ok.nd
  unfold Apart at hap
  obtain ⟨y, ss, rfl⟩ : ∃ y ss, ws = y :: ss := by
    have := hperm.length_eq
    rw [pathsOf, List.length_mapIdx, h6] at this
    cases ws with
    | nil => cases this
    | cons y ss => exact ⟨y, ss, rfl⟩
  obtain ⟨ZZ, hZZ⟩ : ∃ ZZ, ZZ = r.own w vs k ln lt ys c ++ (213, tabOf r.c') :: (r.c', r.oc) :: Z := ⟨_, rfl⟩
  rw [← hZZ] at N
  have i0 : ∀ p ∈ Z, p ∈ ZZ := fun p hp => by rw [hZZ]; exact List.mem_append_right _ (.tail _ (.tail _ hp))
  k_steps
  unfold Stop
  refine compD_E (cl := []) F (by rfl) (by decide) (by rfl) (by decide) ?_
  refine ldE F (by rfl) (by rfl) (by rfl) (by decide) hmp ?_
  have e1 : ps.toArray.size = 6 := by rw [List.size_toArray, hP.length, pathsOf, List.length_mapIdx, h6]
  refine listD (A := AAt 600) (fun q kvs => ∀ j n, j < q → nums[j]? = some n → ∃ t, valueAt kvs (pathOf j n) = some (.str (dirAt nums (pathOf j n)) t)) rfl F N (i0 _ hpl) rfl rfl (by rw [e1]; decide) (fun _ _ h => absurd h (Nat.not_lt_zero _)) ?_ ?_
  · intro C D q v kvs' oC od own h tk m' Q E' hq hP' hC hG hown hZD hDC F N nxt
    obtain ⟨S, u1, rfl, hS⟩ := strs_at hP (by simpa [atList] using hP')
    have hq6 : q < 6 := by rw [e1] at hq; exact hq
    obtain ⟨n, hn⟩ : ∃ n, nums[q]? = some n := ⟨_, List.getElem?_eq_getElem (by omega)⟩
    rw [pathsOf, mapIdx_at hn] at hS
    cases hS
    refine asg1 (A := AAt 600) (by rfl) (by rfl) F N (fun p hp => ?_) hC ?_
    · simp only [List.mem_cons, List.mem_append] at hp
      rcases hp with rfl | hp | hp
      · exact Nat.ne_of_lt hDC
      · exact Nat.ne_of_lt (hown p hp)
      · exact Nat.ne_of_lt (Nat.lt_trans (hZD p hp) hDC)
    clear F N hC hQ
    intro h tk oC' F N hC
    obtain ⟨m2, hC, hv⟩ : ∃ m2, NsObj oC' m2 ∧ m2 (Str.ofString "path") = some (.str (pathOf q n) u1) := ⟨_, hC, rfl⟩
    obtain ⟨TT, hTT⟩ : ∃ TT, TT = (D, od) :: (own ++ ZZ) := ⟨_, rfl⟩
    rw [← hTT] at N
    refine LCgL.ld_own N (.head _) hC hv ?_
    k_steps
    rename Fr g L _ _ => F9
    rename News g L _ _ => N9
    refine s_dirname rfl (by decide) (by decide) F9 N9 Y hq6 fun h' tk' u' F' N' => ?_
    refine nxt _ _ oC' m2 _ _ _ F' (by subst hTT; exact N') hC fun j n' hj hn' => ?_
    rw [valueAt_put]
    by_cases hjq : j = q
    · subst hjq
      rw [hn] at hn'; cases hn'
      rw [if_pos rfl]
      exact ⟨u', by rw [dirAt_path h6 hn]⟩
    · rw [if_neg (fun e => hjq (path_inj (by omega) hq6 e))]
      exact hG j n' (by omega) hn'
  · intro h tk kvs' hG hkl D od h tk hod F N l1
    k_steps
    have hmem : ∀ a ∈ y :: ss, ∃ j n, j < 6 ∧ nums[j]? = some n ∧ a = pathOf j n := fun a ha => mem_paths h6 (hperm.mem_iff.mp ha)
    have hss : ss.length ≤ 20 := by
      have := hperm.length_eq
      rw [pathsOf, List.length_mapIdx, h6, List.length_cons] at this
      omega
    refine s_pass (r := r) (sd := D) (od := od) (kvs := kvs') (sgn := dirAt nums) (k := k) (c := c) (lt := lt) ((r.x, instObj 59 r.dx) :: (r.f, r.of) :: (r.sx, instObj 59 r.sdx) :: (r.sdx, dictOf (r.sdict w) 5) :: (r.cl, r.co) :: (r.c', r.oc) :: (213, tabOf r.c') :: Z)
      rfl (by decide) (by decide) F N Y Ok hw (fun a ha => ?_) hss hod (fun a ha => ?_) (l1 (r.pb, listOf vs.toArray k) (by rw [hZZ]; exact (List.mem_of_getElem? (i := 0) rfl))) ?_ ?_ ?_ fun h' tk' vs' ks k' ln' lt' c' q1 q2 q3 q4 F' N' => ?_
    · obtain ⟨j, n, hj, _, rfl⟩ := hmem a ha
      exact path_Word n hj
    · obtain ⟨j, n, hj, hn, rfl⟩ := hmem a ha
      exact hG j n (by rw [e1]; exact hj) hn
    · rw [hZZ]
      exact in_idx [1, 2, 3, 4, 5, 6, 7, 8, 10, 9, 0] rfl
    · rw [hZZ]
      exact in_take 7 11 [4, 5, 6, 7, 8, 10, 9] rfl rfl
    · exact Ok.nd.rest3 (List.forall_mem_cons.mpr ⟨Ok.nd.low3 Ok.nd.2.1, fun p hp => Ok.nd.low3 (hZr p hp).1⟩)
    · try dsimp only
      refine hQ h' tk' vs' [] k' ln' lt' c' _ ⟨ks, q2, q3, q4, rfl⟩ (.inl ⟨rfl, q1⟩) F' (fun p hp => N' p ?_)
      revert p
      exact in_take 10 10 [0, 1, 2, 3, 4, 5, 6, 7, 9, 8] rfl rfl
end
end Mine
end
section
open PySem PySem.W PyProof.Rows PySem.Calls
theorem Mine.off_UnTold {M : Model} {A : Around} {env : Env} {Q : Flow → Shared → Prop} {E : Value → Shared → Prop} {s : Shared} (h : wpAny M A (execs [] env) Q E s) : wpAny M A (execs [] env) Q E s := by
  try (walk1; fail)
  w_top off
  exact h
end
section
open PySem PySem.W PyProof.Rows PySem.Calls PyProof.Rows.LCg
namespace Mine
set_option maxRecDepth 100000
/-- element and names of the list block of a statement -/
def lcOf : Stmt → Expr × Scope
  | .Assign _ (.ListComp elt _ sc _) _ => (elt, sc)
  | .Assign _ (.Call _ [.ListComp elt _ sc _] _ _) _ => (elt, sc)
  | .Return (some (.Compare _ _ [.ListComp elt _ sc _] _)) _ => (elt, sc)
  | _ => (.Constant .none 0 ⟨0,0,0,0⟩, default)
set_option maxHeartbeats 1000000 in
theorem elt_told {w : World} {g : Heap} {L fa rd C : Addr} {cd : Value} {s : Shared} {m m2 : Str → Option Value} {TT : List (Addr × Obj)} {rc rdo oC : Obj} {p row : Str} {u tr : Tok} {kvs : List (Str × Value)} {Q : Value → Shared → Prop} {E : Value → Shared → Prop}
    (Y : Rdy w g) (F : Fr g L s.heap m) (N : News g L s.heap ((C, oC) :: TT)) (hC : NsObj oC m2) (hv : m2 (Str.ofString "path") = some (.str p u)) (j3 : (L + 3, rc) ∈ TT) (hrc : rc.data = .cell (some (.ref rd)))
    (j4 : (rd, rdo) ∈ TT) (hrd : rdo.IsDictOf (SK w) kvs) (hr : valueAt kvs p = some (.str row tr))
    (hQ : ∀ a h' tk t1 t2, Fr g L h' m → News g L h' ((a, listOf #[.str p t1, .str row t2] 0) :: (C, oC) :: TT) → (∀ q ∈ (C, oC) :: TT, q.1 < a) → Q (.ref a) { s with heap := h', toks := tk }) :
    wpAny (model PP w) (AAt 600) (eval (lcOf (lawSt 9)).1 (compEnvC (lcOf (lawSt 9)).2 [(Str.ofString "rows", L + 3)] C (lawEnv L fa cd))) Q E s := by
  obtain ⟨X, ⟨p, loose, mean, mg, mb, T⟩, CH⟩ := id Y
  show wpAny _ _ (eval (Expr.List [Expr.Name _ _, Expr.Subscript (Expr.Name _ _) (Expr.Name _ _) _] _) (compEnvC (Scope.mk _ _ _ _ _) _ _ (envOfC _ (Scope.mk _ _ _ _ _) _ _ _))) _ _ _
  walk1
  walk1
  refine LCgL.ld_own N (.head _) hC hv ?_
  walk1
  walk1
  refine lcf_cell N (by rfl) (.tail _ j3) hrc ?_ (by rfl) (by rfl)
  try dsimp only
  refine LCgL.ld_own N (.head _) hC hv ?_
  try dsimp only
  refine kda_item (knd := PySem.strKind _ _) N (.tail _ j4) hrd (strKind_is _ _ _ _) hr ?_
  try dsimp only
  walk1
  walk1
  rename Fr g L _ _ => F9
  rename News g L _ _ => N9
  rename_i a _ l1
  refine hQ a _ _ u tr F9 N9 fun q hq => ?_
  rcases List.mem_cons.mp hq with rfl | hq
  · exact l1.1
  · exact allLt_mem l1.2 q hq

/-- a list of lists of two texts -/
def TwoAre (ps : List (Str × Str)) (ys : List Value) (X : List (Addr × Obj)) : Prop :=
  ys.length = ps.length ∧ ∀ (i : Nat) (p q : Str), ps[i]? = some (p, q) → ∃ a t1 t2, ys[i]? = some (.ref a) ∧ (a, listOf #[.str p t1, .str q t2] 0) ∈ X
theorem TwoAre.step {ps : List (Str × Str)} {ys : List Value} {X : List (Addr × Obj)} {a : Addr} {p q : Str} {t1 t2 : Tok} (h : TwoAre (ps.take ys.length) ys X) (e : ps[ys.length]? = some (p, q)) :
    TwoAre (ps.take (ys.length + 1)) (ys ++ [.ref a]) ((a, listOf #[.str p t1, .str q t2] 0) :: X) := by
  have hl : ys.length < ps.length := (List.getElem?_eq_some_iff.mp e).1
  refine ⟨by rw [List.length_append, List.length_singleton, List.length_take]; omega, fun i p' q' hi => ?_⟩
  by_cases hlt : i < ys.length
  · have hi' : (ps.take ys.length)[i]? = some (p', q') := by
      rw [List.getElem?_take] at hi ⊢
      rw [if_pos (by omega)] at hi
      rw [if_pos hlt]; exact hi
    obtain ⟨b, t1', t2', h1, h2⟩ := h.2 i p' q' hi'
    exact ⟨b, t1', t2', by rw [List.getElem?_append_left hlt]; exact h1, .tail _ h2⟩
  · have hie : i = ys.length := by
      have := (List.getElem?_eq_some_iff.mp hi).1
      rw [List.length_take] at this; omega
    subst hie
    rw [List.getElem?_take, if_pos (Nat.lt_succ_self _), e] at hi
    cases hi
    exact ⟨a, t1, t2, by simp, .head _⟩
section
local macro_rules | `(tactic| walk_at "eval Name") => `(tactic| (k_here; (with_reducible show wpAny _ _ (eval (Expr.Name _ _) (envOfC _ _ _ _ _)) _ _ _); k_dflt (refine ldE (by k_asm) (by rfl) (by rfl) (by rfl) (by decide) (by assumption) ?_)))
set_option maxHeartbeats 1000000 in
theorem law_9 {w : World} {g : Heap} {L fa rd : Addr} {cd : Value} {s : Shared} {m : Str → Option Value} {Z : List (Addr × Obj)} {vs ys : List Value} {k c : Nat} {ln : Int} {lt : Tok} {nums : List Int} {ws : List Str} {r : Lx} {rc rdo : Obj} {kvs : List (Str × Value)} {Q : Flow → Shared → Prop} {E : Value → Shared → Prop}
    (Y : Rdy w g) (F : Fr g L s.heap m) (N : News g L s.heap (r.own w vs k ln lt ys c ++ (213, tabOf r.c') :: (r.c', r.oc) :: Z)) (hw : Waits vs ys ln ws) (hperm : ws.Perm (pathsOf nums)) (Ok : r.Ok w) (hZr : ∀ p ∈ Z, p.1 < r.cl ∧ p.1 ≠ 213)
    (hml : m (Str.ofString "lexer") = some (.ref r.x)) (h6 : nums.length = 6)
    (hrc : (L + 3, rc) ∈ Z) (hrcd : rc.data = .cell (some (.ref rd))) (hrd : (rd, rdo) ∈ Z) (hrdd : rdo.IsDictOf (SK w) kvs) (hrow : ∀ j n, nums[j]? = some n → ∃ t, valueAt kvs (pathOf j n) = some (.str (rowM n) t))
    (hQ : ∀ D zs X h tk, TwoAre (ws.map fun a => (a, rowAt nums a)) zs X → Fr g L h (fun z => if z = Str.ofString "told" then some (.ref D) else m z) → News g L h ((D, lst zs) :: (X ++ (213, tabOf r.c') :: (r.c', r.oc) :: Z)) → (∀ p ∈ Z, p.1 < D) → (∀ p ∈ X, D < p.1) → Q .next { s with heap := h, toks := tk }) :
    wpAny (model PP w) (AAt 600) (exec (lawSt 9) (lawEnv L fa cd)) Q E s := by
  obtain ⟨X, ⟨p, loose, mean, mg, mb, T⟩, CH⟩ := id Y
  show wpAny _ _ (exec (Stmt.Assign [Expr.Name _ _] (Expr.ListComp _ [⟨_, _, _, _⟩] _ _) _) (envOfC _ (Scope.mk _ _ _ _ _) _ _ _)) _ _ _
  have hap : Apart r.x r.dx r.pb r.f r.sx r.sdx r.lf r.cl r.c' := Ok.nd
  unfold Apart at hap
  obtain ⟨y, ss, rfl⟩ : ∃ y ss, ws = y :: ss := by
    have := hperm.length_eq
    rw [pathsOf, List.length_mapIdx, h6] at this
    cases ws with
    | nil => cases this
    | cons y ss => exact ⟨y, ss, rfl⟩
  have hmem : ∀ a ∈ y :: ss, ∃ j n, j < 6 ∧ nums[j]? = some n ∧ a = pathOf j n := fun a ha => mem_paths h6 (hperm.mem_iff.mp ha)
  have hw6 : (y :: ss).length = 6 := by rw [hperm.length_eq, pathsOf, List.length_mapIdx, h6]
  refine compL_A (cl := [(Str.ofString "rows", L + 3)]) F (by rfl) (by with_unfolding_all rfl) (by rfl) (by decide) (by rfl) (by decide) (by rfl) (by rfl) ?_
  k_steps
  refine s_rest (r := r) (x := r.x) (k := k) (c := c) (lt := lt) ((213, tabOf r.c') :: (r.c', r.oc) :: Z) rfl (by decide) (by decide) F N Y Ok rfl hw (fun a ha => ?_) (by rw [List.length_cons] at hw6; omega) ?_ ?_ ?_ ?_
  · obtain ⟨j, n, hj, _, rfl⟩ := hmem a ha
    exact path_Word n hj
  · exact in_idx [0, 1, 2, 3, 4, 5, 6, 7, 9] rfl
  · exact fun p hp => List.mem_append_right _ hp
  · exact List.forall_mem_cons.mpr ⟨Ok.nd.low3 Ok.nd.2.1, List.forall_mem_cons.mpr ⟨not_in3 Ok.nd.cne.1 Ok.nd.cne.2.1 Ok.nd.cne.2.2, fun p hp => Ok.nd.low3 (hZr p hp).1⟩⟩
  intro h tk wl vs' n k' ln' lt' c' hv' hwl F2 N2
  have N3 : News g L h ((wl, listOf (List.toArray vs') n) :: (213, tabOf r.c') :: (r.c', r.oc) :: Z) := fun p hp => N2 p (by
    rcases List.mem_cons.mp hp with rfl | hp
    · exact .head _
    · exact .tail _ (.tail _ (.tail _ (.tail _ hp))))
  have e1 : vs'.toArray.size = 6 := by rw [List.size_toArray, hv'.length, hw6]
  refine listL (A := AAt 600) (fun zs X => TwoAre (((y :: ss).map fun a => (a, rowAt nums a)).take zs.length) zs X) rfl F2 N3 (.head _) rfl rfl (by rw [e1]; decide) ⟨rfl, fun i p q h => by simp at h⟩ ?_ ?_
  · intro C D i v zs X oC own h tk m' Q E' hi hzl hP hC hG hown hX hZD hDC F N next
    clear hQ F2 N2 N3
    obtain ⟨S, u, rfl, hS⟩ := strs_at hv' (by simpa [atList] using hP)
    obtain ⟨j, n', hj, hn, rfl⟩ := hmem S (List.mem_of_getElem? hS)
    obtain ⟨tr, hr⟩ := hrow j n' hn
    refine asg1 (A := AAt 600) (by rfl) (by rfl) F N (fun p hp => ?_) hC ?_
    · rcases List.mem_cons.mp hp with rfl | hp
      · exact Nat.ne_of_lt hDC
      rcases List.mem_append.mp hp with hp | hp
      · rcases List.mem_append.mp hp with hp | hp
        · exact Nat.ne_of_lt (hown p hp)
        · exact Nat.ne_of_gt (hX p hp)
      · exact Nat.ne_of_lt (Nat.lt_trans (hZD p hp) hDC)
    clear F N hC
    intro h tk oC' F N hC
    obtain ⟨m2, hC, hv⟩ : ∃ m2, NsObj oC' m2 ∧ m2 (Str.ofString "path") = some (.str (pathOf j n') u) := ⟨_, hC, rfl⟩
    refine elt_told Y F N hC hv (by simp [hrc]) hrcd (by simp [hrd]) hrdd hr fun a h' tk' t1 t2 F' N' hlt => ?_
    refine next h' tk' ((a, listOf #[.str (pathOf j n') t1, .str (rowM n') t2] 0) :: X) oC' m2 _ F' (fun p hp => N' p ?_) hC ?_ (fun p hp => ?_)
    · simp only [List.mem_cons, List.mem_append] at hp ⊢
      rcases hp with h | h | (h | h | h) | h | h | h | h <;> simp [h]
    · dsimp only
      rw [List.length_append, List.length_singleton]
      refine hG.step ?_
      rw [hzl, List.getElem?_map, hS]
      show some (pathOf j n', rowAt nums (pathOf j n')) = _
      rw [rowAt_path h6 hn]
    · rcases List.mem_cons.mp hp with rfl | hp
      · exact hlt _ (.head _)
      · exact hX p hp
  · intro h tk D zs X hG hl D h tk F N l1 l2
    rw [hl, e1, List.take_of_length_le (by rw [List.length_map, hw6]; exact Nat.le_refl _)] at hG
    refine hQ D zs X h tk hG F (fun p hp => N p ?_) (fun p hp => l1 p (by simp [hp])) l2
    simp only [List.mem_cons, List.mem_append] at hp ⊢
    rcases hp with h | h | h | h | h <;> simp [h]
end
end Mine
end
section
open PySem PySem.W PyProof.Rows PySem.Calls
theorem Mine.off_UnDue {M : Model} {A : Around} {env : Env} {Q : Flow → Shared → Prop} {E : Value → Shared → Prop} {s : Shared} (h : wpAny M A (execs [] env) Q E s) : wpAny M A (execs [] env) Q E s := by
  try (walk1; fail)
  w_top off
  exact h
end
section
open PySem PySem.W PyProof.Rows PySem.Calls PyProof.Rows.LCg
namespace Mine
set_option maxRecDepth 100000
theorem s_row {w : World} {A : Around} {E : Value → Shared → Prop} {s : Shared} {h₀ : Heap} {L : Addr} {m : Str → Option Value} {news : List (Addr × Obj)} {k v : Int} {t u : Tok} {Q : Value → Shared → Prop}
    (h0 : A.handled = none) (h1 : A.depth ≤ 800) (h2 : A.units ≤ 4 * 800) (F : Fr h₀ L s.heap m) (N : News h₀ L s.heap news) (Y : Rdy w h₀) (hk : 0 ≤ k ∧ k < 3) (hv : 0 ≤ v ∧ v < 4096)
    (hQ : ∀ h' tk u, Fr h₀ L h' m → News h₀ L h' news → Q (.str (rowOf k v) u) { s with heap := h', toks := tk }) : wpAny (model PP w) A (call (.ref 239) [.int k t, .int v u] []) Q E s := by
  refine wpAny_call (siteC 800 h0 h1 h2 (c_row Y (fun b o e => F.keep b o e) hk hv fun h' tk u O => ?_))
  obtain ⟨F', N'⟩ := back0 F N O
  exact hQ h' tk u F' N'
/-- the row of an entry by the law's own table -/
def rowL (n : Int) : Str := rowOf (n / 2 % 3) (n / 6 % 4096)
set_option maxHeartbeats 1000000 in
theorem elt_due {w : World} {g : Heap} {L fa kl rl C : Addr} {cd : Value} {s : Shared} {m m2 : Str → Option Value} {TT : List (Addr × Obj)} {oc1 oc2 oC : Obj} {ks rs : List Value} {n1 n2 : Nat} {nums : List Int} {i : Nat} {n : Int} {t u : Tok} {Q : Value → Shared → Prop} {E : Value → Shared → Prop}
    (Y : Rdy w g) (F : Fr g L s.heap m) (N : News g L s.heap ((C, oC) :: TT)) (hC : NsObj oC m2) (hk : m2 (Str.ofString "k") = some (.int i t)) (hv : m2 (Str.ofString "v") = some (.int n u))
    (hc1 : (L + 1, oc1) ∈ TT) (hoc1 : oc1.data = .cell (some (.ref kl))) (hc2 : (L + 2, oc2) ∈ TT) (hoc2 : oc2.data = .cell (some (.ref rl)))
    (hkl : (kl, listOf ks.toArray n1) ∈ TT) (hK : IntsAre ks (nums.map fun n => (n / 2) % 3)) (hrl : (rl, listOf rs.toArray n2) ∈ TT) (hR : IntsAre rs (nums.map fun n => (n / 6) % 4096)) (h6 : nums.length = 6) (hn : nums[i]? = some n)
    (hQ : ∀ a h' tk t1 t2, Fr g L h' m → News g L h' ((a, listOf #[.str (letter n) t1, .str (rowL n) t2, .int i t] 0) :: (C, oC) :: TT) → (∀ q ∈ (C, oC) :: TT, q.1 < a) → Q (.ref a) { s with heap := h', toks := tk }) :
    wpAny (model PP w) (AAt 600) (eval (lcOf (lawSt 10)).1 (compEnvC (lcOf (lawSt 10)).2 [(Str.ofString "rights", L + 2), (Str.ofString "kinds", L + 1)] C (lawEnv L fa cd))) Q E s := by
  obtain ⟨X, ⟨p, loose, mean, mg, mb, T⟩, CH⟩ := id Y
  show wpAny _ _ (eval (Expr.List [Expr.Subscript _ (Expr.BinOp (Expr.BinOp (Expr.Name _ _) _ _ _) _ _ _) _, Expr.Call _ [Expr.Subscript (Expr.Name _ _) (Expr.Name _ _) _, Expr.Subscript (Expr.Name _ _) (Expr.Name _ _) _] _ _, Expr.Name _ _] _) (compEnvC (Scope.mk _ _ _ _ _) _ _ (envOfC _ (Scope.mk _ _ _ _ _) _ _ _))) _ _ _
  walk1
  walk1
  walk1
  walk1
  walk1
  walk1
  walk1
  refine LCgL.ld_own N (.head _) hC hv ?_
  walk1
  walk1
  walk1
  walk1
  have hf : 0 ≤ n.fmod 2 ∧ n.fmod 2 < 2 := by rw [Int.fmod_eq_emod_of_nonneg _ (by decide)]; omega
  have hi6 : i < 6 := by have := (List.getElem?_eq_some_iff.mp hn).1; omega
  have g1 : (nums.map fun n => n / 2 % 3).getD (i : Int).toNat 0 = n / 2 % 3 := by
    rw [Int.toNat_natCast, List.getD_eq_getElem?_getD, List.getElem?_map, hn]; rfl
  have g2 : (nums.map fun n => n / 6 % 4096).getD (i : Int).toNat 0 = n / 6 % 4096 := by
    rw [Int.toNat_natCast, List.getD_eq_getElem?_getD, List.getElem?_map, hn]; rfl
  have l1 : ((i : Nat) : Int) < ((nums.map fun n => n / 2 % 3).length : Nat) := by rw [List.length_map, h6]; omega
  have l2 : ((i : Nat) : Int) < ((nums.map fun n => n / 6 % 4096).length : Nat) := by rw [List.length_map, h6]; omega
  refine KXi.item (n := 3) rfl (by omega) (by omega) (by decide) fun _ => ?_
  try dsimp only
  walk1
  walk1
  walk1
  walk1
  walk1
  walk1
  try dsimp only
  refine lcf_cell N (by rfl) (.tail _ hc1) hoc1 ?_ (by rfl) (by rfl)
  try dsimp only
  refine LCgL.ld_own N (.head _) hC hk ?_
  try dsimp only
  refine item_anyK (IsListOf N (.tail _ hkl)) hK (by omega) l1 (by omega) fun t3 => ?_
  rw [g1]
  try dsimp only
  walk1
  walk1
  try dsimp only
  refine lcf_cell N (by rfl) (.tail _ hc2) hoc2 ?_ (by rfl) (by rfl)
  try dsimp only
  refine LCgL.ld_own N (.head _) hC hk ?_
  try dsimp only
  refine item_anyK (IsListOf N (.tail _ hrl)) hR (by omega) l2 (by omega) fun t4 => ?_
  rw [g2]
  try dsimp only
  walk1
  walk1
  refine s_row rfl (by decide) (by decide) F N Y (by omega) (by omega) fun h' tk' u' F' N' => ?_
  try dsimp only
  walk1
  refine LCgL.ld_own N' (.head _) hC hk ?_
  try dsimp only
  walk1
  walk1
  rename Fr g L _ _ => F9
  rename News g L _ _ => N9
  rename_i a _ q1
  have hlet : Txt.item (Str.ofString "/ba") (n.fmod 2 + 1) = letter n := by
    have e : n.fmod 2 = n % 2 := Int.fmod_eq_emod_of_nonneg _ (by decide)
    unfold letter
    rcases (by omega : n % 2 = 0 ∨ n % 2 = 1) with h | h
    · rw [e, h, if_pos rfl]; decide +kernel
    · rw [e, h, if_neg (by decide)]; decide +kernel
  rw [hlet] at N9
  refine hQ a _ _ _ _ F9 N9 fun q hq => ?_
  rcases List.mem_cons.mp hq with rfl | hq
  · exact q1.1
  · exact allLt_mem q1.2 q hq
end Mine
end
section
open PySem PySem.W PyProof.Rows PySem.Calls
theorem Mine.off_UnLaw7 {M : Model} {A : Around} {env : Env} {Q : Flow → Shared → Prop} {E : Value → Shared → Prop} {s : Shared} (h : wpAny M A (execs [] env) Q E s) : wpAny M A (execs [] env) Q E s := by
  try (walk1; fail)
  w_top off
  exact h
end
section
open PySem PySem.W PyProof.Rows PySem.Calls PyProof.Rows.LCg
namespace Mine
set_option maxRecDepth 100000
/-- the list of the entries that are due -/
def DueAre (nums : List Int) (q : Nat) (zs : List Value) (X : List (Addr × Obj)) : Prop :=
  ∀ (i : Nat) (n : Int), i < q → nums[i]? = some n → ∃ a t1 t2 t3, zs[i]? = some (.ref a) ∧ (a, listOf #[.str (letter n) t1, .str (rowL n) t2, .int i t3] 0) ∈ X
theorem DueAre.step {nums : List Int} {zs : List Value} {X : List (Addr × Obj)} {a : Addr} {n : Int} {t1 t2 t3 : Tok} (h : DueAre nums zs.length zs X) (hn : nums[zs.length]? = some n) :
    DueAre nums (zs.length + 1) (zs ++ [.ref a]) ((a, listOf #[.str (letter n) t1, .str (rowL n) t2, .int (zs.length : Nat) t3] 0) :: X) := by
  intro i n' hi hn'
  by_cases hlt : i < zs.length
  · obtain ⟨b, u1, u2, u3, h1, h2⟩ := h i n' hlt hn'
    exact ⟨b, u1, u2, u3, by rw [List.getElem?_append_left hlt]; exact h1, .tail _ h2⟩
  · have : i = zs.length := by omega
    subst this
    rw [hn] at hn'; cases hn'
    exact ⟨a, t1, t2, t3, by simp, .head _⟩
/-- the order of the entries: folder, row, place -/
def dueE (nums : List Int) (i j : Nat) : Nat → Bool
  | 0 => letter (nums.getD i 0) == letter (nums.getD j 0)
  | 1 => rowL (nums.getD i 0) == rowL (nums.getD j 0)
  | _ => (i : Int) == (j : Int)
def dueL (nums : List Int) (i j : Nat) : Nat → Bool
  | 0 => decide ((letter (nums.getD i 0)).cps.toList < (letter (nums.getD j 0)).cps.toList)
  | 1 => decide ((rowL (nums.getD i 0)).cps.toList < (rowL (nums.getD j 0)).cps.toList)
  | _ => decide ((i : Int) < (j : Int))
def dueLt (nums : List Int) (i j : Nat) : Bool := lexB (dueE nums i j) (dueL nums i j) 3 0
section
local macro_rules | `(tactic| walk_at "eval Name") => `(tactic| (k_here; (with_reducible show wpAny _ _ (eval (Expr.Name _ _) (envOfC _ _ _ _ _)) _ _ _); k_dflt (refine ldE (by k_asm) (by rfl) (by rfl) (by rfl) (by decide) (by assumption) ?_)))
local macro_rules | `(tactic| walk_at "eval ListComp") => `(tactic| (k_here; refine stop ?_))
set_option maxHeartbeats 1000000 in
theorem law_10 {w : World} {g : Heap} {L fa nl kl rl : Addr} {cd : Value} {s : Shared} {m : Str → Option Value} {Z : List (Addr × Obj)} {oc1 oc2 : Obj} {ws ks rs : List Value} {n1 n2 : Nat} {nums : List Int} {p : Array Nat} {Q : Flow → Shared → Prop} {E : Value → Shared → Prop}
    (Y : Rdy w g) (F : Fr g L s.heap m) (N : News g L s.heap Z) (hm : m (Str.ofString "numbers") = some (.ref nl)) (hnl : (nl, listOf ws.toArray 0) ∈ Z) (hI : IntsAre ws nums)
    (hc1 : (L + 1, oc1) ∈ Z) (hoc1 : oc1.data = .cell (some (.ref kl))) (hc2 : (L + 2, oc2) ∈ Z) (hoc2 : oc2.data = .cell (some (.ref rl)))
    (hkl : (kl, listOf ks.toArray n1) ∈ Z) (hK : IntsAre ks (nums.map fun n => (n / 2) % 3)) (hrl : (rl, listOf rs.toArray n2) ∈ Z) (hR : IntsAre rs (nums.map fun n => (n / 6) % 4096)) (h6 : nums.length = 6)
    (hp : runK (dueLt nums) (kas_sort 6) = some p)
    (hQ : ∀ D zs X c h tk, DueAre nums 6 zs X → zs.length = 6 → Fr g L h (fun z => if z = Str.ofString "due" then some (.ref D) else m z) → News g L h ((D, listOf (List.toArray (p.toList.map fun i => zs.getD i .none)) c) :: (X ++ Z)) → (∀ q ∈ X ++ Z, q.1 < D) → (∀ q ∈ X, ∀ p ∈ Z, p.1 < q.1) → Q .next { s with heap := h, toks := tk }) :
    wpAny (model PP w) (AAt 600) (exec (lawSt 10) (lawEnv L fa cd)) Q E s := by
  obtain ⟨XX, ⟨prg, loose, mean, mg, mb, TT⟩, CH⟩ := id Y
  show wpAny _ _ (exec (Stmt.Assign [Expr.Name _ _] _ _) (envOfC _ (Scope.mk _ _ _ _ _) _ _ _)) _ _ _
  k_steps
  unfold Stop
  refine compL_E (cl := [(Str.ofString "rights", L + 2), (Str.ofString "kinds", L + 1)]) F (by rfl) (by decide) (by rfl) (by decide) ?_
  k_steps
  have e1 : ws.toArray.size = 6 := by rw [List.size_toArray, hI.length, h6]
  refine enumL (A := AAt 600) (fun zs X => DueAre nums zs.length zs X) rfl F N hnl rfl rfl (by rw [e1]; decide) (fun i n h => absurd h (Nat.not_lt_zero _)) ?_ ?_
  · intro C D i v zs X oC own h tk m' Q E' hi hzl hP hC hG hown hX hZD hDC F N next
    clear hQ
    obtain ⟨T, t, x, rfl, hx, hT⟩ := hP
    obtain ⟨n, u, rfl, hn⟩ := hI.at i x (by simpa using hx)
    refine asg2 (A := AAt 600) rfl (by rfl) (by rfl) (by rfl) hT F N (fun p hp => ?_) hC ?_
    · rcases List.mem_cons.mp hp with rfl | hp
      · exact Nat.ne_of_lt hDC
      rcases List.mem_append.mp hp with hp | hp
      · rcases List.mem_append.mp hp with hp | hp
        · exact Nat.ne_of_lt (hown p hp)
        · exact Nat.ne_of_gt (hX p hp)
      · exact Nat.ne_of_lt (Nat.lt_trans (hZD p hp) hDC)
    clear F N hC hT
    intro h tk oC' F N hC
    obtain ⟨m2, hC, hk, hv⟩ : ∃ m2, NsObj oC' m2 ∧ m2 (Str.ofString "k") = some (.int i t) ∧ m2 (Str.ofString "v") = some (.int n u) := ⟨_, hC, rfl, rfl⟩
    have hin : ∀ q ∈ Z, q ∈ (D, lst zs) :: (own ++ X ++ Z) := fun q hq => .tail _ (List.mem_append_right _ hq)
    refine elt_due Y F N hC hk hv (hin _ hc1) hoc1 (hin _ hc2) hoc2 (hin _ hkl) hK (hin _ hrl) hR h6 hn fun a h' tk' t1 t2 F' N' hlt => ?_
    refine next h' tk' ((a, listOf #[.str (letter n) t1, .str (rowL n) t2, .int i t] 0) :: X) oC' m2 _ F' (fun p hp => N' p ?_) hC ?_ (fun p hp => ?_)
    · simp only [List.mem_cons, List.mem_append] at hp ⊢
      rcases hp with h | h | (h | h | h) | h <;> simp [h]
    · dsimp only
      rw [List.length_append, List.length_singleton]
      subst hzl
      exact hG.step hn
    · rcases List.mem_cons.mp hp with rfl | hp
      · exact hlt _ (.head _)
      · exact hX p hp
  · intro h tk D zs X hG hl D h tk F N l1 l2
    have hz6 : zs.length = 6 := by rw [hl, e1]
    rw [hz6] at hG
    walk1
    have hel : ∀ i, i < 6 → ∃ a t1 t2 t3, zs.getD i .none = .ref a ∧ (a, listOf #[.str (letter (nums.getD i 0)) t1, .str (rowL (nums.getD i 0)) t2, .int i t3] 0) ∈ X := fun i hi => by
      have hn : nums[i]? = some (nums.getD i 0) := by
        rw [List.getD_eq_getElem?_getD, List.getElem?_eq_getElem (by omega)]; rfl
      obtain ⟨a, t1, t2, t3, q1, q2⟩ := hG i _ hi hn
      exact ⟨a, t1, t2, t3, by rw [List.getD_eq_getElem?_getD, q1]; rfl, q2⟩
    refine kas_sorted (T := .type "list") (vs := zs) F N (N (D, lst zs) (.head _) |> fun z => ⟨_, z.1, rfl, _, rfl⟩) (by omega) (by omega) (fun h F' N' v hv => ?_) (by decide) fun D2 e2 h2 F2 N2 q2 => ?_
    · obtain ⟨i, hi⟩ := List.getElem?_of_mem hv
      have hi6 : i < 6 := by have := (List.getElem?_eq_some_iff.mp hi).1; omega
      obtain ⟨a, t1, t2, t3, ga, xa⟩ := hel i hi6
      rw [List.getD_eq_getElem?_getD, hi] at ga
      have ga : v = .ref a := ga
      subst ga
      exact kitAt_ty _ _ ⟨_, (N' _ (.tail _ (List.mem_append_left _ xa))).1, rfl⟩
    rw [hz6]
    refine kasWp_run (lt := dueLt nums) (Inv := fun s' => s' = { s with heap := h2, toks := tk }) (fun i j hi hj C s' hs hC => ?_) _ p _ _ hp rfl (fun s' hs => ?_)
    · subst hs
      obtain ⟨a, t1, t2, t3, ga, xa⟩ := hel i hi
      obtain ⟨b, u1, u2, u3, gb, xb⟩ := hel j hj
      have na := (N2 _ (.tail _ (.tail _ (List.mem_append_left _ xa)))).1
      have nb := (N2 _ (.tail _ (.tail _ (List.mem_append_left _ xb)))).1
      unfold kas_ask
      rw [ga, gb]
      refine keyLt_lists (e := dueE nums i j) (lt := dueL nums i j) (by decide) na nb rfl (fun q h1 h2 => ?_) (fun q h1 h2 _ => ?_) (hC _ rfl)
      · have hq : q < 3 := h1
        rcases (by omega : q = 0 ∨ q = 1 ∨ q = 2) with rfl | rfl | rfl
        · exact eqGives_str _ _ _ _
        · exact eqGives_str _ _ _ _
        · exact MeetsSeq.EqGives.int _ _ _ _
      · have hq : q < 3 := h1
        rcases (by omega : q = 0 ∨ q = 1 ∨ q = 2) with rfl | rfl | rfl
        · exact LtGives.str _ _ _ _
        · exact LtGives.str _ _ _ _
        · exact LtGives.int _ _ _ _
    · subst hs
      refine KasFin.intro F2 N2 (UpdF.head fun q hq => Nat.ne_of_lt (q2 q hq)) fun h' c F' N' => ?_
      dsimp only at N' ⊢
      refine stLocN F' N' (fun h'' F'' N'' => ?_) (by rfl) (by rfl)
      refine hQ D2 zs X c h'' _ hG hz6 F'' (fun q hq => N'' q ?_) (fun q hq => q2 q (.tail _ hq)) (fun q hq p hp => Nat.lt_trans (l1 p hp) (l2 q hq))
      rcases List.mem_cons.mp hq with rfl | hq
      · exact .head _
      · exact .tail _ (.tail _ hq)
end
end Mine
end
section
open PySem PySem.W PyProof.Rows PySem.Calls
theorem Mine.off_UnLaw8 {M : Model} {A : Around} {env : Env} {Q : Flow → Shared → Prop} {E : Value → Shared → Prop} {s : Shared} (h : wpAny M A (execs [] env) Q E s) : wpAny M A (execs [] env) Q E s := by
  try (walk1; fail)
  w_top off
  exact h
end
section
open PySem PySem.W PyProof.Rows PySem.Calls PyProof.Rows.LCg
namespace Mine
set_option maxRecDepth 100000
/-- pairs of texts as data -/
def pairsData (ps : List (Str × Str)) : PyData := .list (ps.map fun x => .list [.str x.1, .str x.2])
def PairsOk (ps : List (Str × Str)) : Prop := ∀ x ∈ ps, PyData.strOk x.1 = true ∧ PyData.strOk x.2 = true
theorem pairs_lay : ∀ ps : List (Str × Str), PairsOk ps → PyData.canLayAll0 (ps.map fun x => PyData.list [.str x.1, .str x.2]) = true
  | [], _ => by simp [PyData.canLayAll0]
  | x :: r, h => by
    have hx := h x (.head _)
    rw [List.map_cons, PyData.canLayAll0, pairs_lay r fun y hy => h y (.tail _ hy)]
    simp [PyData.canLay0, PyData.canLayAll0, hx.1, hx.2]
theorem pairs_depth : ∀ ps : List (Str × Str), PyData.depthAll (ps.map fun x => PyData.list [.str x.1, .str x.2]) ≤ 10
  | [] => by simp [PyData.depthAll]
  | x :: r => by
    have := pairs_depth r
    rw [List.map_cons, PyData.depthAll]
    simp only [PyData.depth, PyData.depthAll]
    omega
theorem pairs_shaped (ps : List (Str × Str)) (hok : PairsOk ps) : PySem.SeqAt.shaped (pairsData ps) = true := by
  unfold PySem.SeqAt.shaped pairsData
  have h1 := pairs_lay ps hok
  have h2 := pairs_depth ps
  rw [Bool.and_eq_true]
  refine ⟨by rw [PyData.canLay0]; exact h1, decide_eq_true ?_⟩
  rw [PyData.depth]
  omega
theorem pairs_reads {h : Heap} : ∀ (ps : List (Str × Str)) (zs : List Value), zs.length = ps.length → (∀ (i : Nat) (p q : Str), ps[i]? = some (p, q) → ∃ a t1 t2, zs[i]? = some (.ref a) ∧ h.get? a = some (listOf #[.str p t1, .str q t2] 0)) →
    ∃ as, ReadsAll h zs (ps.map fun x => .list [.str x.1, .str x.2]) as
  | [], [], _, _ => ⟨_, .nil⟩
  | [], _ :: _, hl, _ => by simp at hl
  | _ :: _, [], hl, _ => by simp at hl
  | (p, q) :: r, z :: zs, hl, hx => by
    obtain ⟨a, t1, t2, h1, h2⟩ := hx 0 p q rfl
    obtain ⟨as, ih⟩ := pairs_reads r zs (by simpa using hl) fun i p q e => by simpa using hx (i + 1) p q (by simpa using e)
    have e : z = .ref a := by simpa using h1
    subst e
    exact ⟨_, .cons (.list h2 rfl rfl (.cons (.str p t1) (.cons (.str q t2) .nil))) ih⟩
theorem two_reads {g h : Heap} {L D : Addr} {n : Nat} {news X : List (Addr × Obj)} {ps : List (Str × Str)} {zs : List Value} (N : News g L h news) (hD : (D, listOf zs.toArray n) ∈ news) (hX : ∀ q ∈ X, q ∈ news) (T : TwoAre ps zs X) : ∃ as, Reads h (.ref D) (pairsData ps) as := by
  obtain ⟨as, hr⟩ := pairs_reads (h := h) ps zs T.1 fun i p q e => by
    obtain ⟨a, t1, t2, h1, h2⟩ := T.2 i p q e
    exact ⟨a, t1, t2, h1, (N _ (hX _ h2)).1⟩
  exact ⟨_, .list (N _ hD).1 rfl rfl hr⟩
theorem path_again {i : Nat} (n : Int) (hi : i < 6) : Str.ofString "/" ++ letter n ++ Str.ofString "/" ++ numStr i = pathOf i n := by
  unfold pathOf folder letter
  rcases (by omega : i = 0 ∨ i = 1 ∨ i = 2 ∨ i = 3 ∨ i = 4 ∨ i = 5) with rfl | rfl | rfl | rfl | rfl | rfl <;> split <;> decide +kernel
theorem letter_len (n : Int) : (letter n).length = 1 := by unfold letter; split <;> rfl
section
local macro_rules | `(tactic| walk_at "eval Name") => `(tactic| (k_here; (with_reducible show wpAny _ _ (eval (Expr.Name _ _) (envOfC _ _ _ _ _)) _ _ _); k_dflt (refine ldE (by k_asm) (by rfl) (by rfl) (by rfl) (by decide) (by assumption) ?_)))
local macro_rules | `(tactic| walk_at "eval ListComp") => `(tactic| (k_here; refine stop ?_))
set_option maxHeartbeats 1000000 in
theorem elt_fin {w : World} {g : Heap} {L fa C : Addr} {cd : Value} {s : Shared} {m m2 : Str → Option Value} {TT : List (Addr × Obj)} {oC : Obj} {i : Nat} {n : Int} {t1 t2 t3 : Tok} {row : Str} {Q : Value → Shared → Prop} {E : Value → Shared → Prop}
    (Y : Rdy w g) (F : Fr g L s.heap m) (N : News g L s.heap ((C, oC) :: TT)) (hC : NsObj oC m2) (hf : m2 (Str.ofString "folder") = some (.str (letter n) t1)) (hr : m2 (Str.ofString "row") = some (.str row t2)) (hk : m2 (Str.ofString "k") = some (.int i t3)) (hi6 : i < 6)
    (hQ : ∀ a h' tk u1 u2, Fr g L h' m → News g L h' ((a, listOf #[.str (pathOf i n) u1, .str row u2] 0) :: (C, oC) :: TT) → (∀ q ∈ (C, oC) :: TT, q.1 < a) → Q (.ref a) { s with heap := h', toks := tk }) :
    wpAny (model PP w) (AAt 600) (eval (lcOf (lawSt 11)).1 (compEnvC (lcOf (lawSt 11)).2 [] C (lawEnv L fa cd))) Q E s := by
  obtain ⟨XX, ⟨prg, loose, mean, mg, mb, T⟩, CH⟩ := id Y
  show wpAny _ _ (eval (Expr.List [Expr.BinOp _ _ _ _, Expr.Name _ _] _) (compEnvC (Scope.mk _ _ _ _ _) _ _ (envOfC _ (Scope.mk _ _ _ _ _) _ _ _))) _ _ _
  have hn1 : (letter n).length = 1 := letter_len n
  have hn2 : (Str.ofString (toString (i : Int))).length ≤ 10 := (num_ok hi6).1
  k_steps
  rename Fr g L _ _ => F9
  rename News g L _ _ => N9
  rename_i a _ q1
  have e : Str.ofString "/" ++ letter n ++ Str.ofString "/" ++ Str.ofString (toString (i : Int)) = pathOf i n := path_again n hi6
  rw [e] at N9
  refine hQ a _ _ _ _ F9 N9 fun q hq => ?_
  rcases List.mem_cons.mp hq with rfl | hq
  · exact q1.1
  · exact allLt_mem q1.2 q hq
/-- what is due, as pairs -/
def duePairs (nums : List Int) (p : Array Nat) : List (Str × Str) := p.toList.map fun i => (pathOf i (nums.getD i 0), rowL (nums.getD i 0))
set_option maxHeartbeats 1000000 in
theorem law_11 {w : World} {g : Heap} {L fa tl dl : Addr} {cd : Value} {s : Shared} {m : Str → Option Value} {Z XT X : List (Addr × Obj)} {zs zt : List Value} {n1 n2 : Nat} {nums : List Int} {p : Array Nat} {ps : List (Str × Str)} {Q : Flow → Shared → Prop} {E : Value → Shared → Prop}
    (Y : Rdy w g) (F : Fr g L s.heap m) (N : News g L s.heap Z) (hmt : m (Str.ofString "told") = some (.ref tl)) (hmd : m (Str.ofString "due") = some (.ref dl)) (htl : (tl, listOf zt.toArray n1) ∈ Z) (hXT : ∀ q ∈ XT, q ∈ Z) (hT : TwoAre ps zt XT)
    (hdl : (dl, listOf (List.toArray (p.toList.map fun i => zs.getD i .none)) n2) ∈ Z) (hX : ∀ q ∈ X, q ∈ Z) (hD : DueAre nums 6 zs X) (h6 : nums.length = 6) (hp6 : ∀ i, i ∈ p.toList → i < 6) (hpl : p.toList.length ≤ 100) (hps : ps = duePairs nums p) (hok : PairsOk ps)
    (hQ : ∀ h tk m', Fr g L h m' → News g L h Z → Q (.ret (.bool true)) { s with heap := h, toks := tk }) :
    wpAny (model PP w) (AAt 600) (exec (lawSt 11) (lawEnv L fa cd)) Q E s := by
  obtain ⟨XX, ⟨prg, loose, mean, mg, mb, TT⟩, CH⟩ := id Y
  show wpAny _ _ (exec (Stmt.Return _ _) (envOfC _ (Scope.mk _ _ _ _ _) _ _ _)) _ _ _
  k_steps
  unfold Stop
  refine compL_E (cl := []) F (by rfl) (by decide) (by rfl) (by decide) ?_
  refine ldE F (by rfl) (by rfl) (by rfl) (by decide) hmd ?_
  have hnum : ∀ i, i < 6 → nums[i]? = some (nums.getD i 0) := fun i hi => by
    rw [List.getD_eq_getElem?_getD, List.getElem?_eq_getElem (by omega)]; rfl
  have hit : ∀ (i : Nat) (v : Value), (List.toArray (p.toList.map fun i => zs.getD i .none))[i]? = some v → ∃ q a t1 t2 t3, q < 6 ∧ p.toList[i]? = some q ∧ v = .ref a ∧ (a, listOf #[.str (letter (nums.getD q 0)) t1, .str (rowL (nums.getD q 0)) t2, .int q t3] 0) ∈ X := by
    intro i v hv
    rw [List.getElem?_toArray, List.getElem?_map] at hv
    cases hq : p.toList[i]? with
    | none => rw [hq] at hv; cases hv
    | some q =>
      rw [hq] at hv
      have hq6 : q < 6 := hp6 q (List.mem_of_getElem? hq)
      obtain ⟨a, t1, t2, t3, h1, h2⟩ := hD q _ hq6 (hnum q hq6)
      have : v = zs.getD q .none := (Option.some.inj hv).symm
      exact ⟨q, a, t1, t2, t3, hq6, rfl, by rw [this, List.getD_eq_getElem?_getD, h1]; rfl, h2⟩
  refine listLT (A := AAt 600) (fun zs' X' => TwoAre ((duePairs nums p).take zs'.length) zs' X') rfl F N hdl rfl rfl (fun i v hv => ?_) (by rw [List.size_toArray, List.length_map]; exact Nat.le_trans hpl (by decide)) ⟨rfl, fun i p q h => by simp at h⟩ ?_ ?_
  · obtain ⟨q, a, t1, t2, t3, _, _, e, _⟩ := hit i v hv
    exact ⟨a, e⟩
  · intro C D i v zs' X' oC own h tk m' Q E' hi hzl hP hC hG hown hX' hZD hDC F N next
    clear hQ
    obtain ⟨q, a, t1, t2, t3, hq6, hpq, rfl, hmem⟩ := hit i v hP
    have hin : ∀ r ∈ Z, r ∈ (C, oC) :: (D, lst zs') :: (own ++ X' ++ Z) := fun r hr => .tail _ (.tail _ (List.mem_append_right _ hr))
    have hl : h.IsList a #[.str (letter (nums.getD q 0)) t1, .str (rowL (nums.getD q 0)) t2, .int q t3] := ⟨_, (N _ (hin _ (hX _ hmem))).1, rfl, _, rfl⟩
    refine asg3 (A := AAt 600) rfl (by rfl) (by rfl) (by rfl) (by rfl) hl F N (fun p hp => ?_) hC ?_
    · rcases List.mem_cons.mp hp with rfl | hp
      · exact Nat.ne_of_lt hDC
      rcases List.mem_append.mp hp with hp | hp
      · rcases List.mem_append.mp hp with hp | hp
        · exact Nat.ne_of_lt (hown p hp)
        · exact Nat.ne_of_gt (hX' p hp)
      · exact Nat.ne_of_lt (Nat.lt_trans (hZD p hp) hDC)
    clear F N hC hl
    intro h tk oC' F N hC
    obtain ⟨m2, hC, hf, hr, hk⟩ : ∃ m2, NsObj oC' m2 ∧ m2 (Str.ofString "folder") = some (.str (letter (nums.getD q 0)) t1) ∧ m2 (Str.ofString "row") = some (.str (rowL (nums.getD q 0)) t2) ∧ m2 (Str.ofString "k") = some (.int q t3) := ⟨_, hC, rfl, rfl, rfl⟩
    refine elt_fin Y F N hC hf hr hk hq6 fun b h' tk' u1 u2 F' N' hlt => ?_
    refine next h' tk' ((b, listOf #[.str (pathOf q (nums.getD q 0)) u1, .str (rowL (nums.getD q 0)) u2] 0) :: X') oC' m2 _ F' (fun p hp => N' p ?_) hC ?_ (fun p hp => ?_)
    · simp only [List.mem_cons, List.mem_append] at hp ⊢
      rcases hp with h | h | (h | h | h) | h <;> simp [h]
    · dsimp only
      rw [List.length_append, List.length_singleton]
      refine hG.step ?_
      rw [hzl, duePairs, List.getElem?_map, hpq]; rfl
    · rcases List.mem_cons.mp hp with rfl | hp
      · exact hlt _ (.head _)
      · exact hX' p hp
  · intro h tk D zs' X' hG hl D h tk F N l1 l2
    rw [hl, List.size_toArray, List.length_map, List.take_of_length_le (by rw [duePairs, List.length_map]; exact Nat.le_refl _), ← hps] at hG
    try dsimp only
    obtain ⟨as, r1⟩ := two_reads (n := n1) N (.tail _ (List.mem_append_right _ htl)) (fun q hq => .tail _ (List.mem_append_right _ (hXT q hq))) hT
    obtain ⟨bs, r2⟩ := two_reads (n := zs'.length) N (.head _) (fun q hq => .tail _ (List.mem_append_left _ hq)) hG
    have hsh := pairs_shaped ps hok
    refine eq_dataH r1 r2 hsh hsh (by decide) ?_
    rw [PySem.SeqAt.eqv_refl _ (PySem.SeqAt.canLay_of_shaped hsh)]
    exact hQ h _ _ F fun q hq => N q (.tail _ (List.mem_append_right _ hq))
end
end Mine
end
section
open PySem PySem.W PyProof.Rows PySem.Calls
namespace Mine
set_option maxRecDepth 100000
theorem row_eq {n : Int} (h : 0 ≤ n ∧ n < 24576) : rowM n = rowL n := by
  obtain ⟨r, hr⟩ := Int.eq_ofNat_of_zero_le (show 0 ≤ n / 6 % 4096 by omega)
  have hlt : r < 4096 := by omega
  unfold rowM rowL modeOf
  rcases (by omega : n / 2 % 3 = 0 ∨ n / 2 % 3 = 1 ∨ n / 2 % 3 = 2) with e | e | e
  · rw [e, if_pos rfl, hr]
    have := row_nat 8 0 r hlt (.inl ⟨rfl, rfl⟩)
    rw [show (32768 : Int) + (r : Int) = ((4096 * 8 + r : Nat) : Int) by omega]
    exact this
  · rw [e, if_neg (by decide), if_pos rfl, hr]
    have := row_nat 4 1 r hlt (.inr (.inl ⟨rfl, rfl⟩))
    rw [show (16384 : Int) + (r : Int) = ((4096 * 4 + r : Nat) : Int) by omega]
    exact this
  · rw [e, if_neg (by decide), if_neg (by decide), hr]
    have := row_nat 10 2 r hlt (.inr (.inr ⟨rfl, rfl⟩))
    rw [show (40960 : Int) + (r : Int) = ((4096 * 10 + r : Nat) : Int) by omega]
    exact this
/-- the order of texts -/
abbrev cl (a : Str) : List Nat := a.cps.toList
theorem cl_inj {a b : Str} (h : cl a = cl b) : a = b := by
  obtain ⟨a⟩ := a
  obtain ⟨b⟩ := b
  have : a = b := Array.toList_inj.mp h
  rw [this]
theorem cl_tri (a b : List Nat) : a < b ∨ a = b ∨ b < a := by
  by_cases h : a < b
  · exact .inl h
  · by_cases h' : b < a
    · exact .inr (.inr h')
    · exact .inr (.inl (List.le_antisymm (List.not_lt.mp h') (List.not_lt.mp h)))
theorem rising_le : ∀ (p : Str) (l : List Str), risingS p l = true → ∀ x ∈ l, ¬ cl x < cl p
  | _, [], _, _, h => nomatch h
  | p, y :: r, h, x, hx => by
    have h : (!Spec.ltCps (cl y) (cl p) && risingS y r) = true := h
    rw [Bool.and_eq_true, Bool.not_eq_true', ltCps_eq, decide_eq_false_iff_not] at h
    rcases List.mem_cons.mp hx with rfl | hx
    · exact h.1
    · have := rising_le y r h.2 x hx
      intro hlt
      rcases cl_tri (cl p) (cl y) with q | q | q
      · exact this (List.lt_trans hlt q)
      · exact this (q ▸ hlt)
      · exact h.1 q
theorem rising_tail : ∀ (p : Str) (l : List Str), risingS p l = true → sortedS l = true
  | _, [], _ => rfl
  | p, y :: r, h => by
    have h : (!Spec.ltCps (cl y) (cl p) && risingS y r) = true := h
    rw [Bool.and_eq_true] at h
    exact h.2
theorem sortedS_lt : ∀ (l : List Str), sortedS l = true → l.Nodup → l.Pairwise (fun a b => cl a < cl b)
  | [], _, _ => .nil
  | x :: r, h, hn => by
    obtain ⟨hx, hr⟩ := List.nodup_cons.mp hn
    refine List.pairwise_cons.mpr ⟨fun y hy => ?_, sortedS_lt r (rising_tail x r h) hr⟩
    rcases cl_tri (cl x) (cl y) with q | q | q
    · exact q
    · exact absurd (cl_inj q ▸ hy) hx
    · exact absurd q (rising_le x r h y hy)
/-- a pass keeps the elder order among equal signs -/
theorem step_sorted {P : Nat → Str} {sgn : Str → Str} {R : Nat → Nat → Prop} {is : List Nat} {ws' : List Str} (h : Step sgn (is.map P) ws') (hp : is.Pairwise R) :
    ∃ is' : List Nat, ws' = is'.map P ∧ (∀ i, i ∈ is' ↔ i ∈ is) ∧ is'.Pairwise (fun i j => cl (sgn (P i)) < cl (sgn (P j)) ∨ (sgn (P i) = sgn (P j) ∧ R i j)) := by
  obtain ⟨ks, hs, hn, hk, rfl⟩ := h
  refine ⟨ks.flatMap fun sg => is.filter fun i => decide (sgn (P i) = sg), ?_, fun i => ⟨fun hi => ?_, fun hi => ?_⟩, ?_⟩
  · rw [List.map_flatMap]
    congr 1
    funext sg
    rw [List.filter_map]; rfl
  · obtain ⟨sg, _, h2⟩ := List.mem_flatMap.mp hi
    exact (List.mem_filter.mp h2).1
  · refine List.mem_flatMap.mpr ⟨sgn (P i), (hk _).mpr ⟨P i, List.mem_map_of_mem hi, rfl⟩, List.mem_filter.mpr ⟨hi, decide_eq_true rfl⟩⟩
  · rw [List.pairwise_flatMap]
    refine ⟨fun sg _ => (hp.filter _).imp_of_mem fun {i j} hi hj h => .inr ⟨?_, h⟩, (sortedS_lt ks hs hn).imp fun {a b} hab i hi j hj => .inl ?_⟩
    · have h1 := of_decide_eq_true (List.mem_filter.mp hi).2
      have h2 := of_decide_eq_true (List.mem_filter.mp hj).2
      rw [h1, h2]
    · have h1 : sgn (P i) = a := of_decide_eq_true (List.mem_filter.mp hi).2
      have h2 : sgn (P j) = b := of_decide_eq_true (List.mem_filter.mp hj).2
      rw [h1, h2]; exact hab
end Mine
end
section
open PySem PySem.W PyProof.Rows PySem.Calls
namespace Mine
set_option maxRecDepth 100000
def nm (nums : List Int) (i : Nat) : Int := nums.getD i 0
def pa (nums : List Int) (i : Nat) : Str := pathOf i (nm nums i)
variable {nums : List Int}
theorem nm_at (h6 : nums.length = 6) {i : Nat} (hi : i < 6) : nums[i]? = some (nm nums i) := by
  unfold nm
  rw [List.getD_eq_getElem?_getD, List.getElem?_eq_getElem (by omega)]; rfl
theorem pathsOf_eq (h6 : nums.length = 6) : pathsOf nums = (List.range 6).map (pa nums) := by
  refine List.ext_getElem? fun i => ?_
  by_cases hi : i < 6
  · rw [pathsOf, mapIdx_at (nm_at h6 hi), List.getElem?_map, List.getElem?_range hi]; rfl
  · rw [List.getElem?_eq_none (by rw [pathsOf, List.length_mapIdx]; omega), List.getElem?_eq_none (by rw [List.length_map, List.length_range]; omega)]
/-- the order after some passes -/
def RR (nums : List Int) : Nat → Nat → Nat → Prop
  | 0, i, j => i < j
  | t + 1, i, j => cl (signAt nums (9 + (t : Int) * (-1)) (pa nums i)) < cl (signAt nums (9 + (t : Int) * (-1)) (pa nums j)) ∨ (signAt nums (9 + (t : Int) * (-1)) (pa nums i) = signAt nums (9 + (t : Int) * (-1)) (pa nums j) ∧ RR nums t i j)
theorem passed_sorted (h6 : nums.length = 6) : ∀ {t : Nat} {ws : List Str}, Passed nums t ws → ∃ is : List Nat, ws = is.map (pa nums) ∧ (∀ i, i ∈ is ↔ i < 6) ∧ is.Pairwise (RR nums t)
  | 0, ws, h => ⟨List.range 6, (show ws = pathsOf nums from h).trans (pathsOf_eq h6), fun _ => List.mem_range, List.pairwise_lt_range⟩
  | t + 1, ws, ⟨ws₀, h, hs⟩ => by
    obtain ⟨is, rfl, hm, hp⟩ := passed_sorted h6 h
    obtain ⟨is', e, hm', hp'⟩ := step_sorted hs hp
    exact ⟨is', e, fun i => (hm' i).trans (hm i), hp'⟩
theorem item_cl {x : Str} {q : Nat} (hx : x.length = 10) (hq : q < 10) : cl (Txt.item x (q : Int)) = [(cl x).getD q 0] := by
  have hsz : x.cps.size = 10 := hx
  show [(Txt.charAt x (q : Int)).getD 0] = _
  unfold Txt.charAt seqIndex?
  have h1 : ¬ ((q : Int) < 0) := by omega
  rw [if_neg h1]
  have h2 : (decide (0 ≤ (q : Int)) && decide ((q : Int) < ((x.length : Nat) : Int))) = true := by
    rw [hx, Bool.and_eq_true]; exact ⟨decide_eq_true (by omega), decide_eq_true (by omega)⟩
  rw [if_pos h2, Option.bind_some, Int.toNat_natCast, List.getD_eq_getElem?_getD, Array.getElem?_toList]
theorem rowL_len (n : Int) : (rowL n).length = 10 := by
  unfold rowL rowOf row2 row1 row0
  rw [Str.length_append, Str.length_append, Str.length_append, rowPiece_len _ _ rfl rfl rfl, rowPiece_len _ _ rfl rfl rfl, rowPiece_len _ _ rfl rfl rfl, item_len]
theorem sign_cl (h6 : nums.length = 6) (hb : ∀ n ∈ nums, 0 ≤ n ∧ n < 24576) {i t : Nat} (hi : i < 6) (ht : t < 10) : cl (signAt nums (9 + (t : Int) * (-1)) (pa nums i)) = [(cl (rowL (nm nums i))).getD (9 - t) 0] := by
  have hn := nm_at h6 hi
  unfold signAt pa
  rw [rowAt_path h6 hn, row_eq (hb _ (List.mem_of_getElem? hn)), show (9 : Int) + (t : Int) * (-1) = ((9 - t : Nat) : Int) by omega]
  exact item_cl (rowL_len _) (by omega)
theorem cl_len (n : Int) : (cl (rowL n)).length = 10 := rowL_len n
theorem rr_rows (h6 : nums.length = 6) (hb : ∀ n ∈ nums, 0 ≤ n ∧ n < 24576) {i j : Nat} (hi : i < 6) (hj : j < 6) : ∀ t, t ≤ 10 → RR nums t i j →
    (cl (rowL (nm nums i))).drop (10 - t) < (cl (rowL (nm nums j))).drop (10 - t) ∨ ((cl (rowL (nm nums i))).drop (10 - t) = (cl (rowL (nm nums j))).drop (10 - t) ∧ i < j)
  | 0, _, h => by
    refine .inr ⟨?_, h⟩
    rw [List.drop_eq_nil_of_le (by rw [cl_len]; exact Nat.le_refl _), List.drop_eq_nil_of_le (by rw [cl_len]; exact Nat.le_refl _)]
  | t + 1, ht, h => by
    have hd : ∀ k, (cl (rowL (nm nums k))).drop (10 - (t + 1)) = (cl (rowL (nm nums k))).getD (9 - t) 0 :: (cl (rowL (nm nums k))).drop (10 - t) := fun k => by
      have hl : 9 - t < (cl (rowL (nm nums k))).length := by rw [cl_len]; omega
      rw [show 10 - (t + 1) = 9 - t by omega, List.drop_eq_getElem_cons hl, List.getD_eq_getElem?_getD, List.getElem?_eq_getElem hl, show 9 - t + 1 = 10 - t by omega]; rfl
    rw [hd i, hd j]
    rcases h with h | ⟨h1, h2⟩
    · rw [sign_cl h6 hb hi (by omega), sign_cl h6 hb hj (by omega)] at h
      have h := (List.cons_lt_cons_iff.mp h).resolve_right (fun q => absurd q.2 (by simp))
      exact .inl (List.cons_lt_cons_iff.mpr (.inl h))
    · have e := congrArg cl h1
      rw [sign_cl h6 hb hi (by omega), sign_cl h6 hb hj (by omega)] at e
      have e := (List.cons.inj e).1
      rw [e]
      rcases rr_rows h6 hb hi hj t (by omega) h2 with q | ⟨q1, q2⟩
      · exact .inl (List.cons_lt_cons_iff.mpr (.inr ⟨rfl, q⟩))
      · exact .inr ⟨by rw [q1], q2⟩
/-- the order of the entries, in words -/
def DL (nums : List Int) (i j : Nat) : Prop := cl (letter (nm nums i)) < cl (letter (nm nums j)) ∨ (letter (nm nums i) = letter (nm nums j) ∧ (cl (rowL (nm nums i)) < cl (rowL (nm nums j)) ∨ (rowL (nm nums i) = rowL (nm nums j) ∧ i < j)))
theorem dueLt_iff (i j : Nat) : dueLt nums i j = true ↔ DL nums i j := by
  show (if dueE nums i j 0 then (if dueE nums i j 1 then (if dueE nums i j 2 then false else dueL nums i j 2) else dueL nums i j 1) else dueL nums i j 0) = true ↔ _
  show (if (letter (nm nums i) == letter (nm nums j)) = true then (if (rowL (nm nums i) == rowL (nm nums j)) = true then (if ((i : Int) == (j : Int)) = true then false else decide ((i : Int) < (j : Int))) else decide (cl (rowL (nm nums i)) < cl (rowL (nm nums j)))) else decide (cl (letter (nm nums i)) < cl (letter (nm nums j)))) = true ↔ _
  unfold DL
  by_cases h1 : letter (nm nums i) = letter (nm nums j)
  · rw [if_pos (by rw [h1]; exact beq_self_eq_true _), h1]
    by_cases h2 : rowL (nm nums i) = rowL (nm nums j)
    · rw [if_pos (by rw [h2]; exact beq_self_eq_true _), h2]
      by_cases h3 : i = j
      · subst h3
        simp [List.lt_irrefl]
      · have : ((i : Int) == (j : Int)) = false := beq_eq_false_iff_ne.mpr (by omega)
        rw [this]
        simp [List.lt_irrefl]
    · rw [if_neg (by simpa using h2)]
      simp [h2, List.lt_irrefl]
  · rw [if_neg (by simpa using h1)]
    simp [h1]
theorem due_ord : Ord6 (dueLt nums) where
  irr := fun i _ => by
    cases h : dueLt nums i i with
    | false => rfl
    | true =>
      rcases (dueLt_iff i i).mp h with q | ⟨_, q | ⟨_, q⟩⟩
      · exact absurd q (List.lt_irrefl _)
      · exact absurd q (List.lt_irrefl _)
      · exact absurd q (Nat.lt_irrefl _)
  trans := fun i j k _ _ _ h1 h2 => by
    rw [dueLt_iff] at h1 h2 ⊢
    unfold DL at *
    rcases h1 with a | ⟨a, b⟩ <;> rcases h2 with c | ⟨c, d⟩
    · exact .inl (List.lt_trans a c)
    · exact .inl (by rw [← c]; exact a)
    · exact .inl (by rw [a]; exact c)
    · refine .inr ⟨a.trans c, ?_⟩
      rcases b with b | ⟨b, e⟩ <;> rcases d with d | ⟨d, f⟩
      · exact .inl (List.lt_trans b d)
      · exact .inl (by rw [← d]; exact b)
      · exact .inl (by rw [b]; exact d)
      · exact .inr ⟨b.trans d, Nat.lt_trans e f⟩
  tot := fun i j _ _ hne => by
    rw [dueLt_iff, dueLt_iff]
    unfold DL
    rcases cl_tri (cl (letter (nm nums i))) (cl (letter (nm nums j))) with h | h | h
    · exact .inl (.inl h)
    · have h := cl_inj h
      rcases cl_tri (cl (rowL (nm nums i))) (cl (rowL (nm nums j))) with q | q | q
      · exact .inl (.inr ⟨h, .inl q⟩)
      · have q := cl_inj q
        rcases Nat.lt_or_gt_of_ne hne with z | z
        · exact .inl (.inr ⟨h, .inr ⟨q, z⟩⟩)
        · exact .inr (.inr ⟨h.symm, .inr ⟨q.symm, z⟩⟩)
      · exact .inr (.inr ⟨h.symm, .inl q⟩)
    · exact .inr (.inl h)
theorem folder_lt (a b : Int) : (cl (folder a) < cl (folder b) → cl (letter a) < cl (letter b)) ∧ (folder a = folder b → letter a = letter b) := by
  unfold folder letter
  split <;> split <;> decide +kernel
/-- what the lexer holds at last is what is due -/
theorem told_due (h6 : nums.length = 6) (hb : ∀ n ∈ nums, 0 ≤ n ∧ n < 24576) {ws ws' : List Str} (hp : Passed nums 10 ws) (hs : Step (dirAt nums) ws ws') {p : Array Nat} (hr : runK (dueLt nums) (kas_sort 6) = some p) :
    ws' = p.toList.map (pa nums) ∧ (∀ i, i ∈ p.toList → i < 6) := by
  obtain ⟨is, rfl, hm, hi⟩ := passed_sorted h6 hp
  obtain ⟨is', rfl, hm', hi'⟩ := step_sorted hs hi
  obtain ⟨p', hr', hmp, hpp⟩ := (due_ord (nums := nums)).sort
  rw [hr] at hr'
  cases hr'
  have hm6 : ∀ i, i ∈ is' ↔ i < 6 := fun i => (hm' i).trans (hm i)
  have : is' = p.toList := (due_ord (nums := nums)).uniq (fun i h => (hm6 i).mp h) (fun i => (hm6 i).trans (hmp i).symm) (hi'.imp_of_mem fun {i j} hi hj h => ?_) hpp
  · rw [this]; exact ⟨rfl, fun i h => (hmp i).mp h⟩
  · have hi6 := (hm6 i).mp hi
    have hj6 := (hm6 j).mp hj
    rw [dueLt_iff]
    have fi : dirAt nums (pa nums i) = folder (nm nums i) := dirAt_path h6 (nm_at h6 hi6)
    have fj : dirAt nums (pa nums j) = folder (nm nums j) := dirAt_path h6 (nm_at h6 hj6)
    rw [fi, fj] at h
    rcases h with h | ⟨h1, h2⟩
    · exact .inl ((folder_lt _ _).1 h)
    · refine .inr ⟨(folder_lt _ _).2 h1, ?_⟩
      rcases rr_rows h6 hb hi6 hj6 10 (Nat.le_refl _) h2 with q | ⟨q1, q2⟩
      · exact .inl q
      · exact .inr ⟨cl_inj q1, q2⟩
end Mine
end
section
open PySem PySem.W PyProof.Rows PySem.Calls PyProof.Rows.LCg
namespace Mine
set_option maxRecDepth 100000
theorem strOk_append {a b : Str} (ha : PyData.strOk a = true) (hb : PyData.strOk b = true) : PyData.strOk (a ++ b) = true := by
  show (a.cps ++ b.cps).all _ = true
  rw [Array.all_append]
  exact Bool.and_eq_true_iff.mpr ⟨ha, hb⟩
theorem tabC_ok {v : Int} {d : Str} (hd : PyData.strOk d = true) : ∀ {l : List (Int × Int × Str)}, (∀ e ∈ l, PyData.strOk e.2.2 = true) → PyData.strOk (tabC v d l) = true
  | [], _ => hd
  | (m, b, c) :: r, h => by
    unfold tabC
    split
    · exact h _ (.head _)
    · exact tabC_ok hd fun e he => h e (.tail _ he)
theorem modeChar_ok (v : Int) {i : Nat} (hi : i < 10) : PyData.strOk (modeChar v i) = true := by
  unfold modeChar
  refine tabC_ok (by split <;> decide +kernel) ?_
  exact (by decide +kernel : ∀ i < 10, ∀ e ∈ tabs.getD i [], PyData.strOk e.2.2 = true) i hi
theorem rowM_ok (n : Int) : PyData.strOk (rowM n) = true := by
  have hl : (List.range 10).map (modeChar (modeOf n)) = [modeChar (modeOf n) 0, modeChar (modeOf n) 1, modeChar (modeOf n) 2, modeChar (modeOf n) 3, modeChar (modeOf n) 4,
    modeChar (modeOf n) 5, modeChar (modeOf n) 6, modeChar (modeOf n) 7, modeChar (modeOf n) 8, modeChar (modeOf n) 9] := rfl
  have h : ∀ i, i < 10 → PyData.strOk (modeChar (modeOf n) i) = true := fun i hi => modeChar_ok _ hi
  unfold rowM
  rw [hl, join_ten]
  exact strOk_append (strOk_append (strOk_append (h 0 (by decide)) (strOk_append (strOk_append (h 1 (by decide)) (h 2 (by decide))) (h 3 (by decide)))) (strOk_append (strOk_append (h 4 (by decide)) (h 5 (by decide))) (h 6 (by decide))))
    (strOk_append (strOk_append (h 7 (by decide)) (h 8 (by decide))) (h 9 (by decide)))
theorem path_ok {i : Nat} (n : Int) (hi : i < 6) : PyData.strOk (pathOf i n) = true := by
  unfold pathOf folder
  rcases (by omega : i = 0 ∨ i = 1 ∨ i = 2 ∨ i = 3 ∨ i = 4 ∨ i = 5) with rfl | rfl | rfl | rfl | rfl | rfl <;> split <;> decide +kernel
theorem due_pairs_ok {nums : List Int} (h6 : nums.length = 6) (hb : ∀ n ∈ nums, 0 ≤ n ∧ n < 24576) {p : Array Nat} (hp : ∀ i, i ∈ p.toList → i < 6) : PairsOk (duePairs nums p) := by
  intro x hx
  obtain ⟨i, hi, rfl⟩ := List.mem_map.mp hx
  have hi6 := hp i hi
  exact ⟨path_ok _ hi6, by
    show PyData.strOk (rowL (nm nums i)) = true
    rw [← row_eq (hb _ (List.mem_of_getElem? (nm_at h6 hi6)))]; exact rowM_ok _⟩
theorem told_pairs {nums : List Int} (h6 : nums.length = 6) (hb : ∀ n ∈ nums, 0 ≤ n ∧ n < 24576) {p : Array Nat} (hp : ∀ i, i ∈ p.toList → i < 6) : (p.toList.map (pa nums)).map (fun a => (a, rowAt nums a)) = duePairs nums p := by
  rw [List.map_map]
  refine List.map_congr_left fun i hi => ?_
  have hn := nm_at h6 (hp i hi)
  show (pa nums i, rowAt nums (pa nums i)) = (pa nums i, rowL (nm nums i))
  rw [show rowAt nums (pa nums i) = rowM (nm nums i) from rowAt_path h6 hn, row_eq (hb _ (List.mem_of_getElem? hn))]
end Mine
end
section
open PySem PySem.W PyProof.Rows PySem.Calls PyProof.Rows.LCg
namespace Mine
set_option maxRecDepth 100000
theorem lawBody_eq : lawBody = [lawSt 0, lawSt 1, lawSt 2, lawSt 3, lawSt 4, lawSt 5, lawSt 6, lawSt 7, lawSt 8, lawSt 9, lawSt 10, lawSt 11] := rfl
set_option maxHeartbeats 1000000 in
/-- the law's body, statement by statement -/
theorem law_all {w : World} {g : Heap} {L fa sc : Addr} {cd : Value} {s : Shared} {o1 o2 o3 o4 : Obj} {c1 c2 c3 c4 : Option Value} {items : List Value} {zs : List Int} {Q : Flow → Shared → Prop} {E : Value → Shared → Prop}
    (Y : Rdy w g) (F : Fr g L s.heap (fun z => if z = Str.ofString "script" then some (.ref sc) else none)) (N : News g L s.heap [(L + 4, o4), (L + 3, o3), (L + 2, o2), (L + 1, o1), (213, tabObj #[])]) (hL : 213 < L)
    (ho1 : o1.data = .cell c1) (ho2 : o2.data = .cell c2) (ho3 : o3.data = .cell c3) (ho4 : o4.data = .cell c4) (hsc : g.IsList sc items.toArray) (hz : IntsAre items zs) (hl : zs.length ≤ 63)
    (hQ : ∀ h tk m' c, Fr g L h m' → h.get? 213 = some (tabOf c) → Q (.ret (.bool true)) { s with heap := h, toks := tk }) :
    wpAny (model PP w) (AAt 600) (execs lawBody (lawEnv L fa cd)) Q E s := by
  have hL' : @LT.lt Nat _ 213 L := hL
  rw [lawBody_eq]
  refine wpAny_execs_cons (law_0 Y F N hsc hz hl fun nl ws nums h tk h6 hb hI F N l0 => ?_)
  have a0 : @LT.lt Nat _ (L + 4) nl := l0 (L + 4, o4) (.head _)
  dsimp only
  refine wpAny_execs_cons (law_1 Y F N (by rfl) (.head _) hI h6 fun Dp ps h tk hP F N l1 => ?_)
  have a1 : @LT.lt Nat _ nl Dp := l1 (nl, _) (.head _)
  dsimp only
  have N2 : News g L h ((L + 1, o1) :: [(Dp, lst ps), (nl, listOf ws.toArray 0), (L + 4, o4), (L + 3, o3), (L + 2, o2), (213, tabObj #[])]) := fun p hp => N p (in_idx [5, 0, 1, 2, 3, 4, 6] rfl p hp)
  clear N
  have R2 : Rising [213, L, L + 1, L + 2, L + 3, L + 4, nl, Dp] := ⟨hL', Nat.lt_succ_self _, Nat.lt_succ_self _, Nat.lt_succ_self _, Nat.lt_succ_self _, a0, a1, trivial⟩
  refine wpAny_execs_cons (law_2 Y F ho1 N2 (rise_ne R2 2 [7, 6, 5, 4, 3, 0] rfl rfl rfl) (by rfl) (.tail _ (.head _)) hI h6 fun Dk ks h tk o1' ho1' hK F N l2 => ?_)
  have a2 : @LT.lt Nat _ Dp Dk := l2 (Dp, lst ps) (.tail _ (.head _))
  dsimp only
  have N3 : News g L h ((L + 2, o2) :: [(Dk, lst ks), (L + 1, o1'), (Dp, lst ps), (nl, listOf ws.toArray 0), (L + 4, o4), (L + 3, o3), (213, tabObj #[])]) := fun p hp => N p (in_idx [6, 0, 1, 2, 3, 4, 5, 7] rfl p hp)
  clear N N2
  have R3 : Rising [213, L, L + 1, L + 2, L + 3, L + 4, nl, Dp, Dk] := ⟨hL', Nat.lt_succ_self _, Nat.lt_succ_self _, Nat.lt_succ_self _, Nat.lt_succ_self _, a0, a1, a2, trivial⟩
  refine wpAny_execs_cons (law_3 Y F ho2 N3 (rise_ne R3 3 [8, 2, 7, 6, 5, 4, 0] rfl rfl rfl) (by rfl) (.tail _ (.tail _ (.tail _ (.head _)))) hI h6 fun Dr rs h tk o2' ho2' hR F N l3 => ?_)
  have a3 : @LT.lt Nat _ Dk Dr := l3 (Dk, lst ks) (.tail _ (.head _))
  dsimp only
  clear N3
  refine wpAny_execs_cons (law_4 Y F N (oc1 := o1') (oc2 := o2') (kl := Dk) (rl := Dr) (by simp) ho1' (by simp) ho2' (ks := ks) (rs := rs) (n1 := ks.length) (n2 := rs.length) (.tail _ (.tail _ (.head _))) hK (.head _) hR h6 fun Dm ms h tk hM F N l4 => ?_)
  have a4 : @LT.lt Nat _ Dr Dm := l4 (Dr, lst rs) (.head _)
  dsimp only
  have N5 : News g L h ((L + 3, o3) :: [(Dm, lst ms), (Dr, lst rs), (L + 2, o2'), (Dk, lst ks), (L + 1, o1'), (Dp, lst ps), (nl, listOf ws.toArray 0), (L + 4, o4), (213, tabObj #[])]) := fun p hp => N p (in_idx [8, 0, 1, 2, 3, 4, 5, 6, 7, 9] rfl p hp)
  clear N
  have R5 : Rising [213, L, L + 1, L + 2, L + 3, L + 4, nl, Dp, Dk, Dr, Dm] := ⟨hL', Nat.lt_succ_self _, Nat.lt_succ_self _, Nat.lt_succ_self _, Nat.lt_succ_self _, a0, a1, a2, a3, a4, trivial⟩
  refine wpAny_execs_cons (law_5 Y F ho3 N5 (rise_ne R5 4 [10, 9, 3, 8, 2, 7, 6, 5, 0] rfl rfl rfl) (by rfl) (by rfl) (ps := ps) (ms := ms) (pl := Dp) (ml := Dm) (n1 := ps.length) (n2 := ms.length) (.tail _ (.tail _ (.tail _ (.tail _ (.tail _ (.head _)))))) hP (.head _) hM h6 hb fun Dd od kvs h tk o3' ho3' hod _ hrow F N l5 => ?_)
  have a5 : @LT.lt Nat _ Dm Dd := l5 (Dm, lst ms) (.tail _ (.head _))
  dsimp only
  clear N5
  obtain ⟨Z7, hZ7⟩ : ∃ Z7, Z7 = [(Dd, od), (L + 3, o3'), (Dm, lst ms), (Dr, lst rs), (L + 2, o2'), (Dk, lst ks), (L + 1, o1'), (Dp, lst ps), (nl, listOf ws.toArray 0)] := ⟨_, rfl⟩
  have N6 : News g L h ((213, tabObj #[]) :: (L + 4, o4) :: Z7) := by
    subst hZ7
    exact fun p hp => N p (in_idx [10, 9, 0, 1, 2, 3, 4, 5, 6, 7, 8] rfl p hp)
  clear N
  have R6 : Rising [213, L, L + 1, L + 2, L + 3, L + 4, nl, Dp, Dk, Dr, Dm, Dd] := ⟨hL', Nat.lt_succ_self _, Nat.lt_succ_self _, Nat.lt_succ_self _, Nat.lt_succ_self _, a0, a1, a2, a3, a4, a5, trivial⟩
  have hz213 : ∀ p ∈ (L + 4, o4) :: Z7, p.1 ≠ 213 := by
    subst hZ7
    exact rise_ne R6 0 [5, 11, 4, 10, 9, 3, 8, 2, 7, 6] rfl rfl rfl
  have hz4 : ∀ p ∈ Z7, p.1 ≠ L + 4 := by
    subst hZ7
    exact rise_ne R6 5 [11, 4, 10, 9, 3, 8, 2, 7, 6] rfl rfl rfl
  have i_p : (Dp, listOf ps.toArray ps.length) ∈ Z7 := by subst hZ7; exact List.mem_of_getElem? (i := 7) rfl
  have i_3 : (L + 3, o3') ∈ Z7 := by subst hZ7; exact List.mem_of_getElem? (i := 1) rfl
  have i_d : (Dd, od) ∈ Z7 := by subst hZ7; exact List.mem_of_getElem? (i := 0) rfl
  have i_2 : (L + 2, o2') ∈ Z7 := by subst hZ7; exact List.mem_of_getElem? (i := 4) rfl
  have i_1 : (L + 1, o1') ∈ Z7 := by subst hZ7; exact List.mem_of_getElem? (i := 6) rfl
  have i_k : (Dk, listOf ks.toArray ks.length) ∈ Z7 := by subst hZ7; exact List.mem_of_getElem? (i := 5) rfl
  have i_r : (Dr, listOf rs.toArray rs.length) ∈ Z7 := by subst hZ7; exact List.mem_of_getElem? (i := 3) rfl
  have i_n : (nl, listOf ws.toArray 0) ∈ Z7 := by subst hZ7; exact List.mem_of_getElem? (i := 8) rfl
  clear hZ7 a0 a1 a2 a3 a4 a5 l0 l1 l2 l3 l4 l5
  refine wpAny_execs_cons (law_6 Y F N6 hz213 (by rfl) (.tail _ i_p) hP h6 fun h tk r lt ys c hw Ok F N l6 => ?_)
  dsimp only
  clear N6
  refine wpAny_execs_cons (law_7 Y F N ho4 hw Ok (fun p hp => ⟨l6 p hp, hz213 p hp⟩) hz4 hL (by rfl) (by rfl) i_p hP h6 i_3 ho3' i_d hod hrow fun h tk vs ys k ln lt c w7 o4' hp7 hw F N => ?_)
  dsimp only
  have hzr : ∀ p ∈ (L + 4, o4') :: Z7, p.1 < r.cl ∧ p.1 ≠ 213 := fun p hp => by
    rcases List.mem_cons.mp hp with rfl | hp
    · exact ⟨l6 (L + 4, o4) (.head _), hz213 (L + 4, o4) (.head _)⟩
    · exact ⟨l6 p (.tail _ hp), hz213 p (.tail _ hp)⟩
  refine wpAny_execs_cons (law_8 Y F N hw hp7.perm Ok hzr (by rfl) (by rfl) (.tail _ i_p) hP h6 fun h tk vs ys k ln lt c w8 hs8 hw F N => ?_)
  dsimp only
  obtain ⟨p, hr, hmp, _⟩ := (due_ord (nums := nums)).sort
  obtain ⟨e8, hp6⟩ := told_due h6 hb hp7 hs8 hr
  have hperm := hs8.perm.trans hp7.perm
  have hplen : p.toList.length ≤ 100 := by
    have := hperm.length_eq
    rw [e8, List.length_map, pathsOf, List.length_mapIdx, h6] at this
    omega
  refine wpAny_execs_cons (law_9 Y F N hw hperm Ok hzr (by rfl) h6 (.tail _ i_3) ho3' (.tail _ i_d) hod hrow fun Dt zt X h tk hT F N l9 _ => ?_)
  dsimp only
  obtain ⟨Z9, hZ9⟩ : ∃ Z9, Z9 = (Dt, lst zt) :: (X ++ (213, tabOf r.c') :: (r.c', r.oc) :: (L + 4, o4') :: Z7) := ⟨_, rfl⟩
  have i9 : ∀ q ∈ Z7, q ∈ Z9 := fun q hq => by subst hZ9; exact .tail _ (List.mem_append_right _ (.tail _ (.tail _ (.tail _ hq))))
  have i9t : (Dt, listOf zt.toArray zt.length) ∈ Z9 := by subst hZ9; exact .head _
  have i9X : ∀ q ∈ X, q ∈ Z9 := fun q hq => by subst hZ9; exact .tail _ (List.mem_append_left _ hq)
  have i9c : (213, tabOf r.c') ∈ Z9 := by subst hZ9; exact .tail _ (List.mem_append_right _ (.head _))
  rw [← hZ9] at N
  clear hZ9
  refine wpAny_execs_cons (law_10 Y F N (by rfl) (i9 _ i_n) hI (i9 _ i_1) ho1' (i9 _ i_2) ho2' (i9 _ i_k) hK (i9 _ i_r) hR h6 hr fun De ze XD c10 h tk hD _ F N _ _ => ?_)
  dsimp only
  refine wpAny_execs_cons (law_11 Y F N (by rfl) (by rfl) (.tail _ (List.mem_append_right _ i9t)) (fun q hq => .tail _ (List.mem_append_right _ (i9X q hq))) hT (.head _) (fun q hq => .tail _ (List.mem_append_left _ hq)) hD h6 hp6 hplen
    (by rw [e8]; exact told_pairs h6 hb hp6) (by rw [e8, told_pairs h6 hb hp6]; exact due_pairs_ok h6 hb hp6) fun h tk m' F N => ?_)
  exact hQ h tk m' r.c' F (N (213, tabOf r.c') (.tail _ (List.mem_append_right _ i9c))).1
end Mine
end
section
open PySem PySem.W PyProof.Rows PySem.Calls
theorem Mine.off_UnEnd {M : Model} {A : Around} {env : Env} {Q : Flow → Shared → Prop} {E : Value → Shared → Prop} {s : Shared} (h : wpAny M A (execs [] env) Q E s) : wpAny M A (execs [] env) Q E s := by
  try (walk1; fail)
  w_top off
  exact h
end
section
open PySem PySem.W PyProof.Rows PySem.Calls
namespace Mine
set_option maxRecDepth 100000
/- The head. Its tool lays, for each great constant that it writes, a twin under a name behind Mine.fin, with a proof that is quadratic in the constant's texts (19 MB of the compiled file, and the checks below run as fast without). Where the twin's name is taken it does without: these rows take the names. -/
theorem fin.tw357486453476387696 : True := trivial
theorem fin.tw17726640248954189706 : True := trivial
theorem fin.tw11112386831996348380 : True := trivial
theorem fin.tw12160846382359015961 : True := trivial
theorem fin.tw3380676343658781899 : True := trivial
theorem fin.tw11066923882517893817 : True := trivial
theorem fin.tw13739837740158868884 : True := trivial
theorem fin.tw2386126689217763390 : True := trivial
theorem fin.tw16421356062931815887 : True := trivial
theorem fin.tw10196768644732416780 : True := trivial
theorem fin.tw12135189313929291683 : True := trivial
theorem fin.tw8185329134320300758 : True := trivial
theorem fin.tw1921391257341544841 : True := trivial
theorem fin.tw8701127448935683631 : True := trivial
theorem fin.tw6968583824967984638 : True := trivial
theorem fin.tw10891054232620793217 : True := trivial
theorem fin.tw6127190174262240918 : True := trivial
theorem fin.tw17861066769153400444 : True := trivial
theorem fin.tw5846108543349505696 : True := trivial
theorem fin.tw15473448878953726420 : True := trivial
theorem fin.tw15566928917628492161 : True := trivial
theorem fin.tw7380833856163905736 : True := trivial
theorem fin.tw16656299143469825513 : True := trivial
theorem fin.tw17662344363894024548 : True := trivial
theorem fin.tw11154830654865731599 : True := trivial
theorem fin.tw15533503492667675913 : True := trivial
theorem fin.tw876206183137641144 : True := trivial
theorem fin.tw11298980531735778240 : True := trivial
theorem fin.tw16275787546110486726 : True := trivial
theorem fin.tw14560573928864763818 : True := trivial
theorem fin.tw12696600883282566439 : True := trivial
theorem fin.tw16530489862217454893 : True := trivial
theorem fin.tw17362494058136835672 : True := trivial
theorem fin.tw12962497063298326498 : True := trivial
theorem fin.tw13516622038369049944 : True := trivial
theorem fin.tw11615019562542576733 : True := trivial
theorem fin.tw18105942590061964161 : True := trivial
theorem fin.tw17801579834951734752 : True := trivial
theorem fin.tw15373703851562958014 : True := trivial
theorem fin.tw3975253019698251321 : True := trivial
theorem fin.tw11079828417688620724 : True := trivial
theorem fin.tw13870153662132920491 : True := trivial
theorem fin.tw2656788454239962097 : True := trivial
theorem fin.tw17717364068325071970 : True := trivial
theorem fin.tw480829909506669009 : True := trivial
set_option Elab.async true in
set_option maxRecDepth 100000 in
set_option maxHeartbeats 8000000 in
theorem fin : PySem.Challenge.rw_un0031_01.Holds := by
  w_on
  o_law
  o_head (kmHook Mine.hd.heap_1 [2, 3, 15, 17, 18, 20, 21, 29, 31, 32, 34, 35, 36, 38, 39, 41, 42, 43, 45, 46, 48, 49, 50, 52, 53, 55, 56, 57, 58, 59, 60, 61, 64, 66, 67, 69, 70, 71, 78, 80, 81, 83, 84, 85, 86, 87, 90, 97, 99, 100, 102, 103, 104, 106, 107, 109, 110, 111, 113, 114, 116, 117, 118, 119, 120, 123, 125, 126, 128, 129, 130, 132, 133, 135, 136, 137, 139, 140, 142, 143, 144, 146, 147, 149, 150, 151, 153, 154, 156, 157, 158, 160, 161, 163, 164, 165, 167, 168, 170, 171, 172, 173, 174, 175, 176, 177, 178, 179, 180, 181, 182, 183, 184, 185, 186, 187, 188, 189, 190, 191, 192, 193, 194, 195, 196, 197, 198, 199, 200, 201, 202, 203, 204, 205, 207, 208, 210, 211, 212, 214, 215, 217, 218, 219, 221, 222, 224, 225, 226, 228, 229, 231, 232, 233, 235, 236, 238, 239, 240, 243, 244] (fun _ => by kernel_rfl) [213])
  (case hw => w_witness2)
  k_go0
  rename Fr _ _ _ _ => FF
  rename News _ _ _ _ => NN
  rename Top _ _ _ _ _ (ghostOf _ _) => TT
  rename IntsAre _ _ => II
  refine site 600 rfl (Nat.le_of_ble_eq_true rfl) (Nat.le_of_ble_eq_true rfl) ?_
  refine law_all ⟨by assumption, ⟨_, _, _, _, _, TT⟩, codeHd⟩ (Fr.of_eq FF fun z => ?_) NN (by assumption) (by assumption) (by assumption) (by assumption) (by assumption) lifted II (by omega) ?_
  · rfl
  · intro h tk m' c F' h213
    refine ⟨?_, ⟨⟨_, h213⟩, trivial⟩⟩
    clear FF NN
    dsimp only
    wrow_close
end Mine
end
theorem PySem.Challenge.cw_un0031_01_holds : PySem.Challenge.rw_un0031_01.Holds := by
  exact Mine.fin
