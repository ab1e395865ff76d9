import PyProof.Rows.All
import Wide.All
import OpenK.AllK
import Wide.FinOn
import PySem.Challenge.RW_pg0269_01
set_option Elab.async false

section partHd
open PySem PySem.W PyProof.Rows
namespace Mine
set_option maxRecDepth 100000
set_option maxHeartbeats 8000000
open_top hd for PySem.Challenge.rw_pg0269_01
end Mine
end partHd

section partCont
open PySem PySem.W PySem.Spec PySem.Calls PyProof.Rows
namespace Mine
set_option maxRecDepth 100000

noncomputable abbrev PG : Program := PySem.Challenge.rw_pg0269_01.row.prog
noncomputable abbrev LS : List Str := looseW hd.view_39 [Str.ofString "_name_disallowed_re", Str.ofString "_value_disallowed_re", Str.ofString "bisect_right"]
noncomputable abbrev TopM (mean : ExcName → Option Value) (mg mb : Str → Option Value) (h : Heap) : Prop := Top hd.view_39 LS mean mg mb h
noncomputable abbrev Led := List (Addr × Obj)

/-- what a call hands back: a value and a ledger (dd: the draws may have turned) -/
noncomputable abbrev CallG (dd : Prop) (w : World) (mean : ExcName → Option Value) (mg mb : Str → Option Value) (f : Value) (pos : List Value) (kw : List (Str × Value)) (news : Led) (dn un' : Nat) (Post : Value → Led → Prop) : Prop :=
  ∀ (dp un : Nat) (gd : Option (List Code)) (cn : Str) (cs : Scope) (a : Addr) (ccd : Value) (cl : List (Str × Addr)) (outer : List Env) (A₀ : Around) (base h₀ : Heap) (L : Addr) (m : Str → Option Value) (s : Shared) (Q E : Value → Shared → Prop),
    Below A₀ base outer h₀ → Fr h₀ L s.heap m → (hd.heap_39 w.params).In h₀ → News h₀ L s.heap news → TopM mean mg mb h₀ → cs.kind = .function →
    dp + dn < recursionLimit → un + un' < cLine →
    (∀ (r : Value) (news' : Led) (h' : Heap) (dr' : Drawn) (tk' : Nat), (dd ∨ dr' = s.drawn) → Fr h₀ L h' m → News h₀ L h' news' → Post r news' → Q r { s with heap := h', drawn := dr', toks := tk' }) →
    wpAny (model PG w) (ktrTop dp un gd cn cs L a ccd cl outer) (call f pos kw) Q E s
noncomputable abbrev CallOK (w : World) (mean : ExcName → Option Value) (mg mb : Str → Option Value) (f : Value) (pos : List Value) (kw : List (Str × Value)) (news : Led) (dn un' : Nat) (Post : Value → Led → Prop) : Prop :=
  CallG False w mean mg mb f pos kw news dn un' Post

noncomputable def Stop (P : Prop) : Prop := P
theorem Stop.of {P : Prop} (h : Stop P) : P := h
theorem Stop.out {P : Prop} (h : P) : Stop P := h

noncomputable def retOf (fl : Flow) : Value := match fl with | .ret v => v | _ => .none

/-- how a def's body ends: its frame, its ledger, what it hands back -/
noncomputable def BodyG (dd : Prop) (g : Heap) (L' : Addr) (s : Shared) (Post : Value → Led → Prop) (fl : Flow) (s' : Shared) : Prop :=
  ∃ m' news' h' dr' tk', (dd ∨ dr' = s.drawn) ∧ s' = { s with heap := h', drawn := dr', toks := tk' } ∧ Fr g L' h' m' ∧ News g L' h' news' ∧ Post (retOf fl) news'
noncomputable abbrev BodyEnd (g : Heap) (L' : Addr) (s : Shared) (Post : Value → Led → Prop) (fl : Flow) (s' : Shared) : Prop := BodyG False g L' s Post fl s'

theorem BodyEnd.mk' {g : Heap} {L' : Addr} {s : Shared} {Post : Value → Led → Prop} {fl : Flow} {m' : Str → Option Value} {news' : Led} {h' : Heap} {tk' : Nat}
    (F : Fr g L' h' m') (N : News g L' h' news') (P : Post (retOf fl) news') : BodyEnd g L' s Post fl { s with heap := h', toks := tk' } :=
  ⟨m', news', h', s.drawn, tk', .inr rfl, rfl, F, N, P⟩

section
variable {w : World} {mean : ExcName → Option Value} {mg mb : Str → Option Value} {dd : Prop}

theorem fn_ok {f : Addr} {pos : List Value} {kw : List (Str × Value)} {news : Led} {dn un' : Nat} {Post : Value → Led → Prop}
    {name qual : Str} {params : Arguments} {body : List Stmt} {scope : Scope} {dV kV doc pm cdv ct oc : Value} {an od : Option Addr} {osl : Array (Option Value)} {binds : List (Str × Value)}
    (ho : (hd.heap_39 w.params).lookup f = some ⟨oc, od, .func (fnOf name qual params body scope dV kV doc pm an cdv ct), osl⟩) (hcd : codeIn (hd.heap_39 w.params) cdv qual = true)
    (hb : ∀ s : Shared, (hd.heap_39 w.params).In s.heap → BindsTo s (fnOf name qual params body scope dV kV doc pm an cdv ct) ⟨pos, kw⟩ binds)
    (hloc : ∀ y ∈ binds, scope.names.lookup y.1 = some .local)
    (hco : scope.isCoroutine = false) (hgen : scope.isGenerator = false) (hk : scope.kind = .function) (hcell : ∀ x ∈ scope.names, x.2 ≠ .cell)
    (hdn : 0 < dn) (hun : 3 ≤ un')
    (h : ∀ (dp un : Nat) (gd : Option (List Code)) (outer : List Env) (A₀ : Around) (base g : Heap) (L' : Addr) (s : Shared),
      Below A₀ base outer g → Fr g L' s.heap (fun y => binds.reverse.lookup y) → (hd.heap_39 w.params).In g → News g L' s.heap news → TopM mean mg mb g →
      scope.kind = .function → dp + (dn - 1) < recursionLimit → un + (un' - 3) < cLine →
      wpAny (model PG w) (ktrTop dp un gd qual scope L' f cdv [] outer) (execs body (envX qual scope L' f cdv [])) (BodyG dd g L' s Post) (fun _ _ => False) s) :
    CallG dd w mean mg mb (.ref f) pos kw news dn un' Post := by
  intro dp un gd cn cs a ccd cl outer A₀ base h₀ L m s Q E B F X N T hks hd hu hret
  refine wpAny_call ?_
  refine code_def (env := envX cn cs L a ccd cl) B F X N T rfl rfl hks ho hcd (by show dp < recursionLimit; omega) (hb s (X.keeps F.keep)) hloc ?_ hco hgen hk hcell
  intro g L' h₁ FG F' N' B' X' T'
  refine wpAny_mono (h (dp + 1) (un + 3) gd (envX cn cs L a ccd cl :: outer) _ _ g L' _ B' F' X' N' T' hk (by omega) (by omega)) (fun fl s' hq => ?_) fun _ _ x => x.elim
  obtain ⟨m', news', h', dr', tk', hdr, rfl, F₂, N₂, P₂⟩ := hq
  refine ⟨L', m', news', F₂, N₂, fun F₃ N₃ => ?_⟩
  have : (match fl with | .ret v => v | _ => Value.none) = retOf fl := by cases fl <;> rfl
  exact hret _ news' h' dr' tk' hdr F₃ N₃ P₂

theorem fn_okC {f : Addr} {pos : List Value} {kw : List (Str × Value)} {news : Led} {dn un' : Nat} {Post : Value → Led → Prop}
    {name qual : Str} {params : Arguments} {body : List Stmt} {scope : Scope} {dV kV doc pm cdv ct oc : Value} {an od : Option Addr} {osl : Array (Option Value)} {binds : List (Str × Value)}
    (ho : (hd.heap_39 w.params).lookup f = some ⟨oc, od, .func (fnOf name qual params body scope dV kV doc pm an cdv ct), osl⟩) (hcd : codeIn (hd.heap_39 w.params) cdv qual = true)
    (hb : ∀ s : Shared, (hd.heap_39 w.params).In s.heap → BindsTo s (fnOf name qual params body scope dV kV doc pm an cdv ct) ⟨pos, kw⟩ binds)
    (hkind : (binds.all fun y => scope.names.lookup y.1 == some .local || scope.names.lookup y.1 == some .cell) = true)
    (hnd : ((cellsFrom 0 scope.names []).map (·.1)).Nodup)
    (hco : scope.isCoroutine = false) (hgen : scope.isGenerator = false) (hk : scope.kind = .function)
    (hdn : 0 < dn) (hun : 3 ≤ un')
    (h : ∀ (dp un : Nat) (gd : Option (List Code)) (outer : List Env) (A₀ : Around) (base g : Heap) (L' : Addr) (s : Shared) (cells : Led),
      Below A₀ base outer g → Fr g L' s.heap (bindL (envOfC qual scope L' f cdv).kindOf binds fun _ => none) → (hd.heap_39 w.params).In g → News g L' s.heap (cells ++ news) → TopM mean mg mb g →
      CellsAre (bindC (envOfC qual scope L' f cdv).kindOf binds fun _ => none) (cellsFrom (L' + 1) scope.names []) cells → (∀ p ∈ news, p.1 < L') →
      scope.kind = .function → dp + (dn - 1) < recursionLimit → un + (un' - 3) < cLine →
      wpAny (model PG w) (ktrTop dp un gd qual scope L' f cdv (cellsFrom (L' + 1) scope.names []) outer) (execs body (envX qual scope L' f cdv (cellsFrom (L' + 1) scope.names []))) (BodyG dd g L' s Post) (fun _ _ => False) s) :
    CallG dd w mean mg mb (.ref f) pos kw news dn un' Post := by
  intro dp un gd cn cs a ccd cl outer A₀ base h₀ L m s Q E B F X N T hks hd hu hret
  refine wpAny_call ?_
  refine code_defC (env := envX cn cs L a ccd cl) B F X N T rfl rfl hks ho hcd (by show dp < recursionLimit; omega) (hb s (X.keeps F.keep)) hkind hnd ?_ hco hgen hk
  intro g L' h₁ tk cells FG F' N' Y B' X' T' lt
  refine wpAny_mono (h (dp + 1) (un + 3) gd (envX cn cs L a ccd cl :: outer) _ _ g L' _ cells B' F' X' N' T' Y lt hk (by omega) (by omega)) (fun fl s' hq => ?_) fun _ _ x => x.elim
  obtain ⟨m', news', h', dr', tk', hdr, rfl, F₂, N₂, P₂⟩ := hq
  refine ⟨L', m', news', F₂, N₂, fun F₃ N₃ => ?_⟩
  have : (match fl with | .ret v => v | _ => Value.none) = retOf fl := by cases fl <;> rfl
  exact hret _ news' h' dr' tk' hdr F₃ N₃ P₂

/-- a contract used: the call in a walk -/
theorem use_call {f : Value} {pos : List Value} {kw : List (Str × Value)} {news : Led} {dn un' : Nat} {Post : Value → Led → Prop} (C : CallOK w mean mg mb f pos kw news dn un' Post)
    {dp un : Nat} {gd : Option (List Code)} {cn : Str} {cs : Scope} {a : Addr} {ccd : Value} {cl : List (Str × Addr)} {outer : List Env} {A₀ : Around} {base h₀ : Heap} {L : Addr} {m : Str → Option Value} {s : Shared} {Q E : Value → Shared → Prop}
    (B : Below A₀ base outer h₀) (F : Fr h₀ L s.heap m) (X : (hd.heap_39 w.params).In h₀) (N : News h₀ L s.heap news) (T : TopM mean mg mb h₀) (hk : cs.kind = .function)
    (hd : dp + dn < recursionLimit) (hu : un + un' < cLine)
    (h : ∀ (r : Value) (news' : Led) (h' : Heap) (tk' : Nat), Fr h₀ L h' m → News h₀ L h' news' → Post r news' → Q r { s with heap := h', toks := tk' }) :
    wpAny (model PG w) (ktrTop dp un gd cn cs L a ccd cl outer) (call f pos kw) Q E s :=
  C dp un gd cn cs a ccd cl outer A₀ base h₀ L m s Q E B F X N T hk hd hu fun r news' h' dr' tk' hdr F' N' P => by
    have e : dr' = s.drawn := hdr.elim (fun q => q.elim) id
    subst e
    exact h r news' h' tk' F' N' P
theorem use_callD {f : Value} {pos : List Value} {kw : List (Str × Value)} {news : Led} {dn un' : Nat} {Post : Value → Led → Prop} (C : CallG True w mean mg mb f pos kw news dn un' Post)
    {dp un : Nat} {gd : Option (List Code)} {cn : Str} {cs : Scope} {a : Addr} {ccd : Value} {cl : List (Str × Addr)} {outer : List Env} {A₀ : Around} {base h₀ : Heap} {L : Addr} {m : Str → Option Value} {s : Shared} {Q E : Value → Shared → Prop}
    (B : Below A₀ base outer h₀) (F : Fr h₀ L s.heap m) (X : (hd.heap_39 w.params).In h₀) (N : News h₀ L s.heap news) (T : TopM mean mg mb h₀) (hk : cs.kind = .function)
    (hd : dp + dn < recursionLimit) (hu : un + un' < cLine)
    (h : ∀ (r : Value) (news' : Led) (h' : Heap) (dr' : Drawn) (tk' : Nat), Fr h₀ L h' m → News h₀ L h' news' → Post r news' → Q r { s with heap := h', drawn := dr', toks := tk' }) :
    wpAny (model PG w) (ktrTop dp un gd cn cs L a ccd cl outer) (call f pos kw) Q E s :=
  C dp un gd cn cs a ccd cl outer A₀ base h₀ L m s Q E B F X N T hk hd hu fun r news' h' dr' tk' _ F' N' P => h r news' h' dr' tk' F' N' P

theorem pin_eq {m : Str → Option Value} {x : Str} {v : Value} (h : m x = some v) : m = fun y => if y = x then some v else m y := by
  funext y
  by_cases e : y = x
  · simp [e, h]
  · simp [e]
theorem Fr_pin {h₀ h : Heap} {L : Addr} {m : Str → Option Value} (F : Fr h₀ L h m) {x : Str} {v : Value} (e : m x = some v) : Fr h₀ L h (fun y => if y = x then some v else m y) := pin_eq e ▸ F
theorem fill {P : Prop} (h : (PySem.Challenge.rw_pg0269_01.prog = PySem.Challenge.rw_pg0269_01.prog ∧ hd.heap_39 = hd.heap_39) → P) : P := h ⟨rfl, rfl⟩
theorem passes_false {A : Around} {env : Env} {M : Model} : PassesOwn M A env (fun _ _ => False) := fun _ _ h => h.elim

end
end Mine
end partCont

section partLay
open PySem
namespace Mine
set_option maxRecDepth 100000

/-! the layout of a set's table: laid never fails, and orders all elements -/

noncomputable def stp (M i : Nat) : Nat := (i * 5 + 1) % M
noncomputable def stpN (M : Nat) : Nat → Nat → Nat
  | 0, x => x
  | n + 1, x => stpN M n (stp M x)
theorem stpN_add (M : Nat) : ∀ (a b x : Nat), stpN M (a + b) x = stpN M b (stpN M a x)
  | 0, b, x => by rw [Nat.zero_add]; rfl
  | a + 1, b, x => by rw [Nat.succ_add]; exact stpN_add M a b _
noncomputable def orb (M : Nat) : Nat → Nat → List Nat
  | 0, _ => []
  | n + 1, x => x :: orb M n (stp M x)
theorem mem_orb {M t : Nat} : ∀ {n x : Nat}, t ∈ orb M n x → ∃ a, a < n ∧ stpN M a x = t
  | 0, _, h => nomatch h
  | n + 1, x, h => by
    rcases List.mem_cons.mp h with rfl | h
    · exact ⟨0, Nat.succ_pos _, rfl⟩
    · obtain ⟨a, ha, e⟩ := mem_orb h
      exact ⟨a + 1, Nat.succ_lt_succ ha, e⟩
noncomputable def fullB (M : Nat) : Bool := (stpN M M 0 == 0) && (List.range M).all fun t => (orb M M 0).contains t
theorem full_hit {M : Nat} (h : fullB M = true) {i t : Nat} (hi : i < M) (ht : t < M) : ∃ j, j < M ∧ stpN M j i = t := by
  unfold fullB at h
  rw [Bool.and_eq_true, List.all_eq_true] at h
  obtain ⟨h0, h1⟩ := h
  have h0 : stpN M M 0 = 0 := by simpa using h0
  have get : ∀ t, t < M → ∃ a, a < M ∧ stpN M a 0 = t := fun t ht => mem_orb (by simpa using h1 t (List.mem_range.mpr ht))
  obtain ⟨a, ha, rfl⟩ := get i hi
  obtain ⟨b, hb, rfl⟩ := get t ht
  by_cases hab : a ≤ b
  · refine ⟨b - a, by omega, ?_⟩
    rw [← stpN_add]; congr 1; omega
  · refine ⟨M + b - a, by omega, ?_⟩
    rw [← stpN_add, show a + (M + b - a) = M + b from by omega, stpN_add, h0]
noncomputable abbrev goodM : List Nat := [8, 16, 32, 64, 128, 256]
theorem good_full : ∀ M ∈ goodM, fullB M = true := by decide +kernel
theorem sizeAbove_good : ∀ w < 256, SetTable.sizeAbove w ∈ goodM ∧ w < SetTable.sizeAbove w := by decide +kernel

noncomputable def lp (M : Nat) (x : Nat × Nat) : Nat × Nat := ((x.1 * 5 + 1 + x.2 / 32) % M, x.2 / 32)
noncomputable def lpN (M : Nat) : Nat → Nat × Nat → Nat × Nat
  | 0, x => x
  | n + 1, x => lpN M n (lp M x)
theorem lpN_add (M : Nat) : ∀ (a b : Nat) (x : Nat × Nat), lpN M (a + b) x = lpN M b (lpN M a x)
  | 0, b, x => by rw [Nat.zero_add]; rfl
  | a + 1, b, x => by rw [Nat.succ_add]; exact lpN_add M a b _
theorem lpN_two (M : Nat) : ∀ (n : Nat) (x : Nat × Nat), (lpN M n x).2 = x.2 / 32 ^ n
  | 0, x => by simp [lpN]
  | n + 1, x => by
    rw [lpN, lpN_two M n]
    show x.2 / 32 / 32 ^ n = _
    rw [Nat.div_div_eq_div_mul, Nat.pow_succ, Nat.mul_comm]
theorem lpN_lt {M : Nat} (hM : 0 < M) : ∀ (n : Nat) (x : Nat × Nat), x.1 < M → (lpN M n x).1 < M
  | 0, _, h => h
  | n + 1, _, _ => lpN_lt hM n _ (Nat.mod_lt _ hM)
theorem lpN_zero (M : Nat) : ∀ (n i : Nat), lpN M n (i, 0) = (stpN M n i, 0)
  | 0, _ => rfl
  | n + 1, i => by
    rw [lpN, stpN, ← lpN_zero M n]
    show lpN M n ((i * 5 + 1 + 0 / 32) % M, 0 / 32) = lpN M n ((i * 5 + 1) % M, 0)
    rw [Nat.zero_div, Nat.add_zero]
theorem lp_hit {M : Nat} (hM : M ∈ goodM) {i p t : Nat} (hi : i < M) (hp : p < 2 ^ 64) (ht : t < M) : ∃ j, j < M + 14 ∧ (lpN M j (i, p)).1 = t := by
  have h0 : (lpN M 13 (i, p)).2 = 0 := by
    rw [lpN_two]
    exact Nat.div_eq_of_lt (Nat.lt_of_lt_of_le hp (by decide))
  have hMp : 0 < M := by omega
  obtain ⟨j, hj, e⟩ := full_hit (good_full M hM) (lpN_lt hMp 13 (i, p) hi) ht
  refine ⟨13 + j, by omega, ?_⟩
  rw [lpN_add]
  have : lpN M 13 (i, p) = ((lpN M 13 (i, p)).1, 0) := Prod.ext rfl h0
  rw [this, lpN_zero]; exact e

theorem runEnd_ge (mask i : Nat) : i ≤ SetTable.runEnd mask i := by unfold SetTable.runEnd; split <;> omega

theorem free_some {mask : Nat} {owner : Array (Option Nat)} : ∀ {fuel i p j : Nat}, SetTable.layClean.free mask owner fuel i p = some j → owner[j]? = some none
  | 0, _, _, _, h => by simp [SetTable.layClean.free] at h
  | fuel + 1, i, p, j, h => by
    rw [SetTable.layClean.free] at h
    split at h
    · rename_i k hk
      cases h
      have := List.find?_some hk
      rw [Array.getD_eq_getD_getElem?] at this
      cases e : owner[i + k]? with
      | none => rw [e] at this; simp at this
      | some v => rw [e] at this; simp at this; rw [this]
    · exact free_some h
theorem free_none {mask : Nat} {owner : Array (Option Nat)} : ∀ {fuel i p : Nat}, SetTable.layClean.free mask owner fuel i p = none → ∀ j, j < fuel → owner[(lpN (mask + 1) j (i, p)).1]? ≠ some none
  | 0, _, _, _, _, h => absurd h (Nat.not_lt_zero _)
  | fuel + 1, i, p, h, j, hj => by
    rw [SetTable.layClean.free] at h
    split at h
    · cases h
    · rename_i hk
      cases j with
      | zero =>
        intro e
        have := List.find?_eq_none.mp hk 0 (List.mem_range.mpr (by have := runEnd_ge mask i; omega))
        apply this
        rw [Array.getD_eq_getD_getElem?]
        have e' : owner[i + 0]? = some none := e
        rw [e']; rfl
      | succ j => exact free_none (fuel := fuel) h j (Nat.lt_of_succ_lt_succ hj)

theorem filterMap_set {k : Nat} : ∀ {l : List (Option Nat)} {j : Nat}, l[j]? = some none → ((l.set j (some k)).filterMap id).Perm (k :: l.filterMap id)
  | [], _, h => by simp at h
  | x :: l, 0, h => by
    simp at h; subst h
    simp
  | x :: l, j + 1, h => by
    have ih := filterMap_set (k := k) (l := l) (j := j) (by simpa using h)
    cases x with
    | none => simpa using ih
    | some y =>
      simp only [List.set_cons_succ, List.filterMap_cons, id]
      exact (ih.cons y).trans (List.Perm.swap _ _ _)
theorem filterMap_full : ∀ {l : List (Option Nat)}, (∀ x ∈ l, x ≠ none) → (l.filterMap id).length = l.length
  | [], _ => rfl
  | none :: l, h => absurd rfl (h none (List.mem_cons_self ..))
  | some x :: l, h => by simp [filterMap_full (l := l) fun y hy => h y (List.mem_cons_of_mem _ hy)]

noncomputable def layStep (mask : Nat) (acc : Option (Array (Option Nat) × Nat)) (h : Int) : Option (Array (Option Nat) × Nat) := do
  let (owner, k) ← acc
  let j ← SetTable.layClean.free mask owner (SetTable.turns mask) (SetTable.bits h % (mask + 1)) (SetTable.bits h)
  pure (owner.setIfInBounds j (some k), k + 1)
theorem bits_lt (h : Int) : SetTable.bits h < 2 ^ 64 := by unfold SetTable.bits; omega
theorem lay_fold {mask : Nat} (hM : mask + 1 ∈ goodM) : ∀ (hs : List Int) (owner : Array (Option Nat)) (k : Nat), owner.size = mask + 1 → (owner.toList.filterMap id).Perm (List.range k) → k + hs.length ≤ mask →
    ∃ owner', hs.foldl (layStep mask) (some (owner, k)) = some (owner', k + hs.length) ∧ owner'.size = mask + 1 ∧ (owner'.toList.filterMap id).Perm (List.range (k + hs.length))
  | [], owner, k, h1, h2, _ => ⟨owner, rfl, h1, h2⟩
  | h :: hs, owner, k, h1, h2, h3 => by
    rw [List.length_cons] at h3
    have hex : ∃ t, t < mask + 1 ∧ owner[t]? = some none := by
      refine Classical.byContradiction fun hn => ?_
      have hall : ∀ x ∈ owner.toList, x ≠ none := by
        intro x hx e
        obtain ⟨t, ht, e2⟩ := List.getElem_of_mem hx
        have ht' : t < owner.size := by simpa using ht
        refine hn ⟨t, by omega, ?_⟩
        rw [Array.getElem?_eq_getElem ht']
        rw [Array.getElem_toList] at e2
        rw [e2, e]
      have l1 := filterMap_full hall
      have l2 := h2.length_eq
      rw [List.length_range] at l2
      have l3 : owner.toList.length = owner.size := Array.length_toList
      rw [l1] at l2
      omega
    obtain ⟨t, ht, et⟩ := hex
    cases hf : SetTable.layClean.free mask owner (SetTable.turns mask) (SetTable.bits h % (mask + 1)) (SetTable.bits h) with
    | none =>
      obtain ⟨j, hj, e⟩ := lp_hit hM (Nat.mod_lt (SetTable.bits h) (Nat.succ_pos mask)) (bits_lt h) ht
      exact absurd (e ▸ et) (free_none hf j (by unfold SetTable.turns; omega))
    | some j =>
      have ej := free_some hf
      have step : layStep mask (some (owner, k)) h = some (owner.setIfInBounds j (some k), k + 1) := by
        show (SetTable.layClean.free mask owner (SetTable.turns mask) (SetTable.bits h % (mask + 1)) (SetTable.bits h)).bind _ = _
        rw [hf]; rfl
      obtain ⟨o', e1, e2, e3⟩ := lay_fold hM hs (owner.setIfInBounds j (some k)) (k + 1) (by simpa using h1) (by
        rw [Array.toList_setIfInBounds]
        refine (filterMap_set (by simpa using ej)).trans ?_
        rw [List.range_succ]
        exact (h2.cons k).trans (List.perm_append_singleton k _).symm) (by omega)
      rw [List.foldl_cons, step, e1, List.length_cons]
      exact ⟨o', by congr 2; omega, e2, by rw [show k + (hs.length + 1) = k + 1 + hs.length from by omega]; exact e3⟩

theorem live_snd (owner : Array (Option Nat)) : ∀ n, ((List.range n).filterMap fun j => (owner.getD j none).map (j, ·)).map (·.2) = (List.range n).filterMap fun j => owner.getD j none := by
  intro n
  rw [List.map_filterMap]
  congr 1
  funext j
  cases owner.getD j none <;> rfl
theorem live_all (owner : Array (Option Nat)) : ((List.range owner.size).filterMap fun j => owner.getD j none) = owner.toList.filterMap id := by
  rw [← filterMap_getElem?_range owner, List.filterMap_filterMap]
  congr 1
  funext j
  rw [Array.getD_eq_getD_getElem?]
  cases owner[j]? <;> rfl

theorem laid_ok {mask : Nat} (hM : mask + 1 ∈ goodM) (finger moves : Nat) (led plain : Bool) (hs : Array Int) (hn : hs.size ≤ mask) :
    ∃ t order, SetTable.laid mask finger moves led plain hs = some (t, order) ∧ t.mask = mask ∧ t.led = led ∧ t.plain = plain ∧ t.fits hs.size = true ∧ order.toList.Perm (List.range hs.size) := by
  obtain ⟨owner, e1, e2, e3⟩ := lay_fold hM hs.toList (Array.replicate (mask + 1) none) 0 (by simp) (by simp [List.filterMap_replicate_of_none]) (by simpa using hn)
  have hc : SetTable.layClean mask hs = some owner := by
    unfold SetTable.layClean
    have : (hs.foldl (init := some (Array.replicate (mask + 1) none, 0)) (layStep mask)) = some (owner, 0 + hs.toList.length) := by rw [← Array.foldl_toList]; exact e1
    show Option.map _ (hs.foldl (layStep mask) (some (Array.replicate (mask + 1) none, 0))) = _
    rw [this]; rfl
  have hp : (((List.range (mask + 1)).filterMap fun j => (owner.getD j none).map (j, ·)).map (·.2)).Perm (List.range hs.size) := by
    rw [live_snd, ← e2, live_all]
    simpa using e3
  have hlen : ((List.range (mask + 1)).filterMap fun j => (owner.getD j none).map (j, ·)).length = hs.size := by
    have := hp.length_eq
    simpa using this
  refine ⟨_, _, by unfold SetTable.laid; rw [hc]; rfl, rfl, rfl, rfl, ?_, by simpa using hp⟩
  simp only [SetTable.fits, SetTable.fill, Bool.and_eq_true, beq_iff_eq]
  constructor
  · simpa using hlen
  · simp only [List.size_toArray, List.length_map, hlen]
    show decide (hs.size + 0 ≤ mask) = true
    exact decide_eq_true hn
end Mine
end partLay

section partSets
open PySem PySem.W PySem.Spec PySem.Calls PyProof.Rows
namespace Mine
set_option maxRecDepth 100000

noncomputable def byT (w : World) : Bool := w.params.followText "set-order"
noncomputable abbrev txt (e : Int × Value) : Str := strOf e.2
/-- a set of texts, as it lies: its elements in the order in which they are stored -/
noncomputable def SObj (prog : Program) (w : World) (o : Obj) (xs : List Str) : Prop :=
  ∃ es ep t, o.ExactSet ∧ o.data = .set es ep t ∧ ElemsOf (PySem.strKind prog w) es.toList ∧ xs = es.toList.map txt ∧ xs.Nodup ∧ t.fits es.size = true ∧ (byT w = false → t.led = true) ∧ (xs ≠ [] → t.plain = false)

theorem laid_flags {mask finger moves : Nat} {led plain : Bool} {hs : Array Int} {t : SetTable} {order : Array Nat} (h : SetTable.laid mask finger moves led plain hs = some (t, order)) : t.led = led ∧ t.plain = plain ∧ t.mask = mask := by
  unfold SetTable.laid at h
  cases hc : SetTable.layClean mask hs with
  | none => rw [hc] at h; cases h
  | some ow => rw [hc] at h; cases h; exact ⟨rfl, rfl, rfl⟩
theorem layNew_led (t : SetTable) (es : Array (Int × Value)) (h : Int) (x : Value) : (layNew t es h x).2.1.led = t.led := by
  unfold layNew
  split
  · show ((t.put _).1.orStandIn _).led = t.led
    unfold SetTable.orStandIn
    split <;> rfl
  · rfl
theorem relayAll_flags (t : SetTable) (es : Array (Int × Value)) (wanted : Nat) : (relayAll t es wanted).2.1.led = t.led ∧ ((relayAll t es wanted).2.1.plain = true → t.plain = true) := by
  unfold relayAll
  split
  · rename_i t' order ho
    have f := laid_flags ho
    dsimp only
    split
    · exact ⟨f.1, fun h => f.2.1 ▸ h⟩
    · exact ⟨rfl, fun h => by cases h⟩
  · exact ⟨rfl, fun h => by cases h⟩

section
variable {prog : Program} {w : World} {A : Around} {E : Value → Shared → Prop} {s : Shared}

theorem elem_txt {l : List (Int × Value)} (h : ElemsOf (PySem.strKind prog w) l) {e : Int × Value} (he : e ∈ l) : (∃ tk, e.2 = .str (txt e) tk) ∧ e.1 = hashStr w (txt e) := by
  obtain ⟨⟨k, hk, hh⟩, _⟩ := h e he
  obtain ⟨tk, ht⟩ := Value.isStrOf_shape hk
  have e1 : txt e = k := by show strOf e.2 = k; rw [ht]; rfl
  exact ⟨⟨tk, by rw [e1]; exact ht⟩, by rw [e1]; exact hh⟩
theorem is_txt {l : List (Int × Value)} (h : ElemsOf (PySem.strKind prog w) l) {e : Int × Value} (he : e ∈ l) (x : Str) : (PySem.strKind prog w).is x e.2 = decide (x = txt e) := by
  obtain ⟨⟨tk, ht⟩, _⟩ := elem_txt h he
  have : (PySem.strKind prog w).is (txt e) e.2 = true := by rw [ht]; exact strKind_is prog w _ tk
  exact KeyKind.is_eq_decide this x
theorem SObj.len {xs : List Str} {es : Array (Int × Value)} (h : xs = es.toList.map txt) : es.size = xs.length := by rw [h]; simp

theorem s_add {a : Addr} {o : Obj} {xs : List Str} {x : Str} {tk : Tok} {Q : Bool → Shared → Prop} (ho : s.heap.get? a = some o) (hS : SObj prog w o xs) (hroom : xs.length + 1 < scanBound)
    (h : ∀ h' o' xs' b, Heap.SameBut a s.heap h' → h'.get? a = some o' → SObj prog w o' xs' → xs'.Perm (if x ∈ xs then xs else x :: xs) → Q b { s with heap := h' }) :
    wpAny (model prog w) A (setAddHashed a (.str x tk) (hashStr w x)) Q E s := by
  obtain ⟨es, ep, t, hex, hd, hel, rfl, hnd, hf, hled, hpl⟩ := hS
  have hsz : es.size = (es.toList.map txt).length := by simp
  have hkey : (PySem.strKind prog w).is x (.str x tk) = true := strKind_is prog w x tk
  unfold setAddHashed setAddHashedIn
  refine wpAny_holding (wpAny_bind (wpAny_setState_of ho hd hf ?_))
  dsimp only
  rw [byScan_of (knd := PySem.strKind prog w) rfl (by omega) hel]
  simp only [↓reduceIte]
  unfold setAddByScan
  refine wpAny_bind (wpAny_bind (wpAny_rule (wpAny_bind (wpAny_setScan_of (knd := PySem.strKind prog w) (k := x) hkey ho hd hf hel ?_))))
  cases hr : List.findIdx? (fun e => (PySem.strKind prog w).is x e.2) es.toList with
  | some j =>
    dsimp only
    obtain ⟨hj, hpj, _⟩ := List.findIdx?_eq_some_iff_getElem.mp hr
    have hm : es.toList[j] ∈ es.toList := List.getElem_mem hj
    rw [is_txt hel hm] at hpj
    have hx : x ∈ es.toList.map txt := List.mem_map.mpr ⟨_, hm, (of_decide_eq_true hpj).symm⟩
    refine wpAny_pure (wpAny_pure ?_)
    have := h s.heap o (es.toList.map txt) false (Heap.SameBut.refl a s.heap) ho ⟨es, ep, t, hex, hd, hel, rfl, hnd, hf, hled, hpl⟩ (by rw [if_pos hx])
    exact this
  | none =>
    dsimp only
    have hx : x ∉ es.toList.map txt := by
      intro hm
      obtain ⟨e, he, rfl⟩ := List.mem_map.mp hm
      have := List.findIdx?_eq_none_iff.mp hr e he
      rw [is_txt hel he] at this
      simp at this
    have hgw : ∀ (b : Bool) {s₁ : Shared} {Q' : Unit → Shared → Prop}, Q' () s₁ → wpAny (model prog w) A (match b with | true => rule "set.scan.the-table-gave-way" | false => pure ()) Q' E s₁ :=
      fun b s₁ Q' hq => by cases b <;> first | exact wpAny_pure hq | exact wpAny_rule hq
    have p1 := layNew_perm t es (hashStr w x) (.str x tk)
    have f1 := layNew_fits t es (hashStr w x) (.str x tk)
    have g1 := layNew_led t es (hashStr w x) (.str x tk)
    show wpAny (model prog w) A (match layNew t es (hashStr w x) (.str x tk) with | (es, t, wasDummy, gave) => _) _ _ _
    generalize layNew t es (hashStr w x) (.str x tk) = R1 at p1 f1 g1 ⊢
    obtain ⟨es1, t1, dm, gv⟩ := R1
    dsimp only at p1 f1 g1 ⊢
    rw [Array.toList_push] at p1
    have el1 : ElemsOf (PySem.strKind prog w) es1.toList := (hel.push hkey rfl).perm p1
    have sz1 : es1.size = es.size + 1 := by rw [← Array.length_toList, p1.length_eq, List.length_append, Array.length_toList]; rfl
    have good : ∀ (es2 : Array (Int × Value)) (t2 : SetTable) (h2 : Heap) (ep2 : Nat), es2.toList.Perm es1.toList → t2.fits es2.size = true → t2.led = t.led → t2.plain = false → Heap.SameBut a s.heap h2 →
        h2.get? a = some { o with data := .set es2 ep2 t2 } → Q true { s with heap := h2 } := by
      intro es2 t2 h2 ep2 p2 f2 l2 q2 sb hg
      have pp : (es2.toList.map txt).Perm (x :: es.toList.map txt) := by
        have := (p2.trans p1).map txt
        rw [List.map_append] at this
        exact this.trans (List.perm_append_singleton _ _)
      refine h h2 _ (es2.toList.map txt) true sb hg ⟨es2, ep2, t2, hex, rfl, el1.perm p2, rfl, ?_, f2, fun b => l2.trans (hled b), fun _ => q2⟩ (by rw [if_neg hx]; exact pp)
      exact pp.nodup_iff.mpr (List.nodup_cons.mpr ⟨hx, hnd⟩)
    refine wpAny_bind (hgw _ ?_)
    have tail : ∀ t2 : SetTable, t2.fits es1.size = true → t2.led = t.led → t2.plain = false →
        wpAny (model prog w) A (do
          storeSet a es1 t2
          if (!dm && t2.tooFull) = true then do
              (match (relayAll t2 es1 (SetTable.grown es1.size)).2.2 with | true => rule "set.scan.the-table-gave-way" | false => pure ())
              storeSet a (relayAll t2 es1 (SetTable.grown es1.size)).1 (relayAll t2 es1 (SetTable.grown es1.size)).2.1
              pure (some true)
            else pure (some true)) (fun r s' => wpAny (model prog w) A (match r with | some added => pure added | none => setAddHashedIn a (.str x tk) (hashStr w x) 99999) Q E s') E s := by
      intro t2 f2 l2 q2
      have hg1 : (s.heap.update a (Obj.putSet es1 t2)).get? a = some { o with data := .set es1 (ep + 1) t2 } := by
        have := Heap.get?_update_self (Obj.putSet es1 t2) ho (by rw [putSet_of es1 t2 hd]; rfl)
        rw [putSet_of es1 t2 hd] at this; exact this
      have sb1 := Heap.SameBut.update s.heap a (Obj.putSet es1 t2)
      refine wpAny_bind (wpAny_storeSet_of ho hd ?_ (fits_of_scanBound (by omega)))
      split
      · have p2 := relayAll_perm t2 es1 (SetTable.grown es1.size)
        have f3 := relayAll_fits t2 es1 (SetTable.grown es1.size)
        have g3 := relayAll_flags t2 es1 (SetTable.grown es1.size)
        generalize relayAll t2 es1 (SetTable.grown es1.size) = R2 at p2 f3 g3 ⊢
        obtain ⟨es2, t3, gv2⟩ := R2
        dsimp only at p2 f3 g3 ⊢
        have sz2 : es2.size = es1.size := by rw [← Array.length_toList, p2.length_eq, Array.length_toList]
        refine wpAny_bind (hgw _ ?_)
        refine wpAny_bind (wpAny_storeSet_of hg1 rfl ?_ (fits_of_scanBound (by omega)))
        have hg2 := Heap.get?_update_self (Obj.putSet es2 t3) hg1 (by rw [putSet_of es2 t3 (o := { o with data := .set es1 (ep + 1) t2 }) rfl]; rfl)
        rw [putSet_of es2 t3 (o := { o with data := .set es1 (ep + 1) t2 }) rfl] at hg2
        refine wpAny_pure (wpAny_pure (good es2 t3 _ _ p2 f3 (g3.1.trans l2) ?_ (sb1.trans (Heap.SameBut.update _ a _)) hg2))
        cases hp : t3.plain with
        | false => rfl
        | true => rw [g3.2 hp] at q2; cases q2
      · exact wpAny_pure (wpAny_pure (good es1 t2 _ _ (List.Perm.refl _) f2 l2 q2 sb1 hg1))
    cases hp : t1.plain with
    | true =>
      simp only [if_true]
      refine wpAny_bind ?_
      rw [hashByValue_scannable 8 (rfl : (Value.str x tk).scannable = true)]
      refine wpAny_pure ?_
      exact tail { t1 with plain := false } (SetTable.fits_plain_off f1) g1 rfl
    | false =>
      simp only [Bool.false_eq_true, if_false]
      refine wpAny_bind (wpAny_pure ?_)
      simp only [if_true]
      exact tail t1 f1 g1 hp
end
end Mine
end partSets

section partSetA
open PySem PySem.W PySem.Spec PySem.Calls PyProof.Rows
namespace Mine
set_option maxRecDepth 100000
theorem slot_sit_next : Slot "set_iterator" "__next__" "set_iterator.__next__" :=
  .of (owner := "set_iterator") (n := "__next__") (by rw [typeLookup_type, builtinLookup_eq_fast]; kernel_rfl) (by decide +kernel) (by decide +kernel) (by decide +kernel)
    (by first | exact .inl (by decide +kernel) | exact .inr (by decide +kernel)) (by rw [isSubtype_type]; kernel_rfl)
theorem entry_sit_next : entryFor table "set_iterator.__next__" = some Builtin.«set_iterator.__next__» := entryFor_of_tree (by kernel_rfl)
theorem args_sit_next (a : Value) : argsOk "set_iterator.__next__" ⟨[a], []⟩ := by unfold argsOk; kernel_rfl
theorem slot_sit_iter : Slot "set_iterator" "__iter__" "set_iterator.__iter__" :=
  .of (owner := "set_iterator") (n := "__iter__") (by rw [typeLookup_type, builtinLookup_eq_fast]; kernel_rfl) (by decide +kernel) (by decide +kernel) (by decide +kernel)
    (by first | exact .inl (by decide +kernel) | exact .inr (by decide +kernel)) (by rw [isSubtype_type]; kernel_rfl)
theorem entry_sit_iter : entryFor table "set_iterator.__iter__" = some Builtin.«dict_keyiterator.__iter__» :=
  entryFor_alias (id' := "dict_keyiterator.__iter__") (by kernel_rfl) rfl (by decide +kernel) (by kernel_rfl)
theorem args_sit_iter (a : Value) : argsOk "set_iterator.__iter__" ⟨[a], []⟩ := by unfold argsOk; kernel_rfl
theorem entry_set_iter : entryFor table "set.__iter__" = some Builtin.«frozenset.__iter__» :=
  entryFor_alias (id' := "frozenset.__iter__") (by kernel_rfl) rfl (by decide +kernel) (by kernel_rfl)
theorem entry_set_or : entryFor table "set.__or__" = some Builtin.«frozenset.__or__» :=
  entryFor_alias (id' := "frozenset.__or__") (by kernel_rfl) rfl (by decide +kernel) (by kernel_rfl)

noncomputable abbrev siter (first : Value) (i : Nat) (a : Addr) (n ep : Nat) : Obj := { cls := .type "set_iterator", data := .fields #[first, rawInt i, .ref a, rawInt n, rawInt ep] }
theorem perm_eraseIdx {α : Type} : ∀ (l : List α) (i : Nat) (h : i < l.length), (l[i] :: l.eraseIdx i).Perm l
  | x :: l, 0, _ => List.Perm.refl _
  | x :: l, i + 1, h => by
    have ih := perm_eraseIdx l i (Nat.lt_of_succ_lt_succ h)
    simp only [List.getElem_cons_succ, List.eraseIdx_cons_succ]
    exact (List.Perm.swap _ _ _).trans (ih.cons x)
section
variable {prog : Program} {w : World} {A : Around} {E : Value → Shared → Prop} {s : Shared}
theorem wpAny_choose {src : Source} {n : Nat} {Q : Nat → Shared → Prop} (hn : n ≠ 0) (h : ∀ i dr, i < n → Q i { s with drawn := dr }) : wpAny (model prog w) A (choose src n) Q E s :=
  fun _ _ _ => ⟨hn, h _ _ (Nat.mod_lt _ (Nat.pos_of_ne_zero hn))⟩
theorem wpAny_drawOrder {α : Type} : ∀ (n : Nat) (xs : List α) (s : Shared) (Q : List α → Shared → Prop), xs.length = n → (∀ ys dr, ys.Perm xs → Q ys { s with drawn := dr }) → wpAny (model prog w) A (drawOrder n xs) Q E s
  | 0, xs, s, Q, hn, h => by
    have : xs = [] := List.length_eq_zero_iff.mp hn
    subst this
    unfold drawOrder
    exact wpAny_pure (h [] s.drawn (List.Perm.refl _))
  | n + 1, [], s, Q, hn, h => by simp at hn
  | n + 1, x :: r, s, Q, hn, h => by
    unfold drawOrder
    refine wpAny_bind (wpAny_choose (by simp) fun i dr hi => ?_)
    have hg : (x :: r)[i]? = some (x :: r)[i] := List.getElem?_eq_getElem hi
    rw [hg]
    dsimp only
    refine wpAny_bind (wpAny_drawOrder n ((x :: r).eraseIdx i) _ _ (by rw [List.length_eraseIdx_of_lt hi]; simpa using hn) fun ys dr' hp => ?_)
    refine wpAny_pure (h _ dr' ?_)
    exact (hp.cons _).trans (perm_eraseIdx _ _ hi)
theorem pick_go {α : Type} (next : Nat → Nat) : ∀ (f k : Nat) (l : List α) (out : Array α), l.length = f → (pickOrder.go next f k l out).toList.Perm (out.toList ++ l)
  | 0, k, l, out, hf => by
    have : l = [] := List.length_eq_zero_iff.mp hf
    subst this
    simp [pickOrder.go]
  | f + 1, k, l, out, hf => by
    unfold pickOrder.go
    have hi : next k % l.length < l.length := Nat.mod_lt _ (by omega)
    rw [List.getElem?_eq_getElem hi]
    dsimp only
    refine (pick_go next f (k + 1) _ _ (by rw [List.length_eraseIdx_of_lt hi]; omega)).trans ?_
    rw [Array.toList_push, List.append_assoc]
    exact List.Perm.append_left _ (perm_eraseIdx _ _ hi)
theorem pick_perm {α : Type} (next : Nat → Nat) (xs : Array α) : (pickOrder next xs).toList.Perm xs.toList := by
  have := pick_go next xs.size 0 xs.toList #[] (by simp)
  simpa [pickOrder] using this

theorem below_one (j k : Nat) : SetTable.below #[j] k = if j < k then 1 else 0 := by
  unfold SetTable.below
  show SetTable.below.go #[j] k 1 0 1 = _
  unfold SetTable.below.go
  simp only [Nat.zero_lt_one, if_true]
  unfold SetTable.below.go
  show (if (#[j] : Array Nat).getD 0 j < k then _ else _) = _
  by_cases h : j < k <;> simp [h]

/-- an iterator that is told to stop -/
theorem sit_stop {α : Type} {P : α → Shared → Prop} {Q : Option Value → Shared → Prop} (hh : A.handled = none) (h : ∀ h', (∀ b o, s.heap.get? b = some o → h'.get? b = some o) → Q none { s with heap := h' }) :
    wpAny (model prog w) A.in1 (newExc (.type "StopIteration") [] >>= fun e => (raiseNew e : Sem α)) P
      (fun e s' => wpAny (model prog w) A (do let y ← isInstance e (.type "StopIteration"); if y = true then pure none else throw e) Q E s') s := by
  refine wpAny_bind ?_
  simp only [newExc, newTuple]
  refine wpAny_bind (wpAny_newObj_type ?_ (by size_fits))
  refine wpAny_bind (m := firstArgMember _ _) (wpAny_of_eq (a := Value.none) (by first | rfl | (simp only [firstArgMember]; rfl)) ?_)
  refine wpAny_newObj_type ?_ (by size_fits)
  simp only [raiseNew]
  refine wpAny_bind (wpAny_handled ?_)
  rw [show A.in1.handled = none from hh]
  refine wpAny_bind (wpAny_pure (wpAny_throw ?_))
  refine wpAny_bind (wpAny_isInstance (T := "StopIteration") (b := true) ⟨_, Heap.get?_push_size _ rfl, rfl⟩ isSubtype_stop ?_)
  exact wpAny_pure (h _ fun b o e => Heap.get?_push_of_some _ (Heap.get?_push_of_some _ e))

/-- after the size check -/
theorem sit_open {I a : Addr} {o : Obj} {es : Array (Int × Value)} {ep i n : Nat} {t : SetTable} {first : Value} {Q : Option Value → Shared → Prop}
    (hI : s.heap.get? I = some (siter first i a n ep)) (ho : s.heap.get? a = some o) (hd : o.data = .set es ep t) (hf : t.fits es.size = true) (hn : es.size = n)
    (h : wpAny (model prog w) A.in1
    (match first with
    | Value.int slot tok => do
      let r ← setNext a slot.toNat (i : Int).toNat (ep : Int).toNat
      match r with
        | some (x, next) => do
          setField (Value.ref I) 0 (rawInt (next : Int))
          setField (Value.ref I) 1 (rawInt ((i : Int) + 1))
          ret x
        | none => do
          setField (Value.ref I) 2 Value.none
          let e ← newExc (Value.type "StopIteration") []
          raiseNew e
    | x => do
      let r ← seqItems? first
      match r with
        | some places =>
          match places[(i : Int).toNat]? with
          | some (Value.int place tok) => do
            let x ← setNextDrawn a place.toNat (ep : Int).toNat
            setField (Value.ref I) 1 (rawInt ((i : Int) + 1))
            ret x
          | some val => unsupported "internal:set_iterator"
          | none => do
            setField (Value.ref I) 0 (rawInt 0)
            setField (Value.ref I) 2 Value.none
            let e ← newExc (Value.type "StopIteration") []
            raiseNew e
        | x => unsupported "internal:set_iterator")
    (fun fin s' => ∃ v, fin = Fin.done (Flow.ret v) ∧ Q (some v) s')
    (fun e s' => wpAny (model prog w) A (do let y ← isInstance e (.type "StopIteration"); if y = true then pure none else throw e) Q E s') s) :
    wpAny (model prog w) A (pyNext (.ref I)) Q E s := by
  unfold pyNext
  refine wpAny_bind (wpAny_attempt (wpAny_callSpecial?_slot (T := "set_iterator") (name := Str.ofString "__next__") ⟨_, hI, rfl⟩ slot_sit_next
    (wpAny_call_entry slot_sit_next ⟨_, hI, rfl⟩ entry_sit_next ?_ (args_sit_next _))))
  unfold Builtin.«set_iterator.__next__» slotArgs
  refine wpAny_bind (wpAny_pure ?_)
  refine wpAny_bind (wpAny_fieldsOf hI rfl ?_)
  dsimp only
  refine wpAny_bind (wpAny_setEntries_of ho hd hf ?_)
  rw [if_neg (by rw [hn]; simp)]
  refine wpAny_mono h (fun fin s' x => ?_) fun _ _ x => x
  obtain ⟨v, e, q⟩ := x
  exact ⟨v, e, wpAny_pure q⟩

theorem siter_set {I : Addr} {h : Heap} {first x : Value} {i a n ep k : Nat} (hI : h.get? I = some (siter first i a n ep)) :
    (h.update I (Obj.mapFields (·.setIfInBounds k x))).get? I = some { cls := .type "set_iterator", data := .fields ((#[first, rawInt i, .ref a, rawInt n, rawInt ep] : Array Value).setIfInBounds k x) } :=
  Heap.get?_update_self _ hI rfl

/-- what an iterator over a set says at place i -/
inductive SitAt (w : World) (es : Array (Int × Value)) (ep : Nat) (t : SetTable) (a : Addr) (T : Addr) (pl : List Nat) (vs : List Value) (i : Nat) (h : Heap) : Value → Prop
  | text (hb : byT w = true) (hv : vs = (pickOrder (w.params.setOrder a ep) es).toList.map (·.2)) : SitAt w es ep t a T pl vs i h (rawInt 0)
  | led (hb : byT w = false) (h1 : es.size ≤ 1) (hl : t.led = true) (hv : vs = es.toList.map (·.2)) (slot : Nat) (hs : if i = 0 then slot = 0 else ∃ j, t.place = #[j] ∧ slot = j + 1) : SitAt w es ep t a T pl vs i h (rawInt slot)
  | drawn (hb : byT w = false) (h2 : 1 < es.size) (hp : t.plain = false) (hT : h.get? T = some { cls := .type "tuple", data := .seq (pl.map fun (j : Nat) => rawInt j).toArray }) (hpl : pl.Perm (List.range es.size)) (hv : vs = pl.map fun j => (es[j]?.map (·.2)).getD .none) :
      SitAt w es ep t a T pl vs i h (.ref T)

noncomputable def SitSt (w : World) (o : Obj) (es : Array (Int × Value)) (ep : Nat) (t : SetTable) (I a T : Addr) (pl : List Nat) (vs : List Value) (i : Nat) (h : Heap) : Prop :=
  h.get? a = some o ∧ ∃ first, h.get? I = some (siter first i a es.size ep) ∧ SitAt w es ep t a T pl vs i h first
end
end Mine
end partSetA

section partSetB
open PySem PySem.W PySem.Spec PySem.Calls PyProof.Rows
namespace Mine
set_option maxRecDepth 100000
section
variable {prog : Program} {w : World} {A : Around} {E : Value → Shared → Prop} {s : Shared}

theorem byText_ {α : Type} {f : Bool → Sem α} {Q : α → Shared → Prop} (h : wpAny (model prog w) A (f (byT w)) Q E s) : wpAny (model prog w) A (setsByText >>= f) Q E s := by
  unfold setsByText
  exact wpAny_bind (wpAny_bind (wpAny_askSetting (wpAny_pure h)))

theorem sit_len {es : Array (Int × Value)} {ep : Nat} {t : SetTable} {a T : Addr} {pl : List Nat} {vs : List Value} {i : Nat} {h : Heap} {f : Value} (x : SitAt w es ep t a T pl vs i h f) : vs.length = es.size := by
  cases x with
  | text hb hv => rw [hv, List.length_map, (pick_perm _ _).length_eq, Array.length_toList]
  | led hb h1 hl hv slot hs => rw [hv, List.length_map, Array.length_toList]
  | drawn hb h2 hp hT hpl hv => rw [hv, List.length_map, hpl.length_eq, List.length_range]

theorem sit_item {o : Obj} {es : Array (Int × Value)} {ep : Nat} {t : SetTable} {I a T : Addr} {pl : List Nat} {vs : List Value} {i : Nat} {Q : Option Value → Shared → Prop}
    (hd : o.data = .set es ep t) (hf : t.fits es.size = true) (hIa : a ≠ I) (hIT : T ≠ I) (st : SitSt w o es ep t I a T pl vs i s.heap) (hi : i < es.size)
    (h : ∀ v h', vs[i]? = some v → SitSt w o es ep t I a T pl vs (i + 1) h' → Heap.SameBut I s.heap h' → Q (some v) { s with heap := h' }) : wpAny (model prog w) A (pyNext (.ref I)) Q E s := by
  obtain ⟨ha, first, hI, sa⟩ := st
  have hlen := sit_len sa
  have hget : vs[i]? = some vs[i] := List.getElem?_eq_getElem (by omega)
  refine sit_open hI ha hd hf rfl ?_
  have hsz : t.place.size = es.size := by simp only [SetTable.fits, Bool.and_eq_true, beq_iff_eq] at hf; exact hf.1
  -- the two stores at the end of a slot walk
  have two : ∀ (x : Value) (nx : Nat), vs[i]? = some x → (∀ h', (Heap.SameBut I s.heap h') → SitAt w es ep t a T pl vs (i + 1) h' (rawInt nx)) →
      wpAny (model prog w) A.in1 (do
          setField (Value.ref I) 0 (rawInt (nx : Int))
          setField (Value.ref I) 1 (rawInt ((i : Int) + 1))
          ret x) (fun fin s' => ∃ v, fin = Fin.done (Flow.ret v) ∧ Q (some v) s')
        (fun e s' => wpAny (model prog w) A (do let y ← isInstance e (.type "StopIteration"); if y = true then pure none else throw e) Q E s') s := by
    intro x nx hx hs
    refine wpAny_bind (wpAny_setField hI rfl (by simp) ?_)
    have h1 := siter_set (k := 0) (x := rawInt (nx : Int)) hI
    refine wpAny_bind (wpAny_setField h1 rfl (by simp) (wpAny_pure ⟨x, rfl, ?_⟩))
    have h2 := Heap.get?_update_self (Obj.mapFields (·.setIfInBounds 1 (rawInt ((i : Int) + 1)))) h1 rfl
    have sb := (Heap.SameBut.update s.heap I (Obj.mapFields (·.setIfInBounds 0 (rawInt (nx : Int))))).trans (Heap.SameBut.update _ I (Obj.mapFields (·.setIfInBounds 1 (rawInt ((i : Int) + 1)))))
    refine h x _ hx ⟨(sb.2 a hIa).trans ha, rawInt nx, h2, hs _ sb⟩ sb
  cases sa with
  | text hb hv =>
    show wpAny _ _ (setNext a (Int.toNat 0) (i : Int).toNat (ep : Int).toNat >>= _) _ _ _
    simp only [Int.toNat_natCast]
    have hpl : i < (pickOrder (w.params.setOrder a ep) es).toList.length := by rw [(pick_perm _ _).length_eq]; simpa using hi
    have hx : (pickOrder (w.params.setOrder a ep) es)[i]? = some (pickOrder (w.params.setOrder a ep) es).toList[i] := by
      rw [← Array.getElem?_toList]
      exact List.getElem?_eq_getElem hpl
    refine wpAny_bind ?_
    unfold setNext
    refine wpAny_bind (wpAny_setState_of ha hd hf ?_)
    dsimp only
    refine byText_ ?_
    rw [hb]
    simp only [if_true, bne_self_eq_false, Bool.false_eq_true, if_false]
    refine wpAny_bind ?_
    unfold setWalk
    refine wpAny_bind (wpAny_setState_of ha hd hf ?_)
    dsimp only
    refine byText_ ?_
    rw [hb]
    simp only [if_true]
    refine wpAny_bind (wpAny_askSetting (wpAny_pure ?_))
    show wpAny _ _ (pure (((pickOrder (w.params.setOrder a ep) es)[i]?).map _)) _ _ _
    rw [hx]
    refine wpAny_pure ?_
    dsimp only [Option.map]
    refine two _ 0 ?_ fun h' _ => .text hb hv
    rw [hv, List.getElem?_map, Array.getElem?_toList, hx]
    rfl
  | led hb h1 hl hv slot hs =>
    have hes : es.size = 1 := by omega
    have hi0 : i = 0 := by omega
    subst hi0
    rw [if_pos rfl] at hs
    subst hs
    obtain ⟨j, hj⟩ : ∃ j, t.place = #[j] := by
      have : t.place.size = 1 := by omega
      exact ⟨t.place[0], by
        apply Array.ext
        · simpa using this
        · intro k h1 h2
          have : k = 0 := by omega
          subst this; rfl⟩
    show wpAny _ _ (setNext a (Int.toNat ((0 : Nat) : Int)) (Int.toNat ((0 : Nat) : Int)) (ep : Int).toNat >>= _) _ _ _
    simp only [Int.toNat_natCast]
    have hx : es[0]? = some es[0] := Array.getElem?_eq_getElem hi
    have hnd : (!t.plain && decide (es.size > 1)) = false := by rw [hes]; simp
    refine wpAny_bind ?_
    unfold setNext
    refine wpAny_bind (wpAny_setState_of ha hd hf ?_)
    dsimp only
    refine byText_ ?_
    rw [hb]
    simp only [Bool.false_eq_true, if_false]
    refine wpAny_ite_split (fun hc => ?_) fun _ => ?_
    · have hc' : (!t.plain && decide (es.size > 1)) = true := hc
      rw [hnd] at hc'; cases hc'
    refine wpAny_bind ?_
    show wpAny _ _ (if (!t.led && !es.isEmpty) = true then _ else _) _ _ _
    rw [hl]
    simp only [Bool.not_true, Bool.false_and, Bool.false_eq_true, if_false]
    refine wpAny_pure ?_
    have hbl : SetTable.below t.place 0 = 0 := by rw [hj, below_one]; simp
    rw [hbl, hx]
    have hp0 : t.place[0]? = some j := by rw [hj]; rfl
    rw [hp0]
    refine wpAny_pure ?_
    dsimp only
    refine two _ (j + 1) ?_ fun h' _ => .led hb h1 hl hv (j + 1) (by rw [if_neg (by omega)]; exact ⟨j, hj, rfl⟩)
    rw [hv, List.getElem?_map, Array.getElem?_toList, hx]
    rfl
  | drawn hb h2 hp hT hpl hv =>
    show wpAny _ _ (seqItems? (.ref T) >>= _) _ _ _
    refine wpAny_bind (wpAny_seqItems hT rfl ?_)
    have hpi : i < pl.length := by rw [hpl.length_eq, List.length_range]; exact hi
    have hg : ((pl.map fun (j : Nat) => rawInt j).toArray)[i]? = some (rawInt pl[i]) := by simp [hpi]
    simp only [Int.toNat_natCast]
    rw [hg]
    have hj : pl[i] < es.size := by
      have : pl[i] ∈ List.range es.size := hpl.mem_iff.mp (List.getElem_mem hpi)
      exact List.mem_range.mp this
    show wpAny _ _ (setNextDrawn a (Int.toNat (pl[i] : Int)) ep >>= _) _ _ _
    refine wpAny_bind ?_
    unfold setNextDrawn
    refine wpAny_bind (wpAny_setState_of ha hd hf ?_)
    simp only [bne_self_eq_false, Bool.false_eq_true, if_false, Int.toNat_natCast, Array.getElem?_eq_getElem hj]
    refine wpAny_pure ?_
    refine wpAny_bind (wpAny_setField hI rfl (by simp) (wpAny_pure ⟨_, rfl, ?_⟩))
    have h1 := siter_set (k := 1) (x := rawInt ((i : Int) + 1)) hI
    have sb := Heap.SameBut.update s.heap I (Obj.mapFields (·.setIfInBounds 1 (rawInt ((i : Int) + 1))))
    refine h _ _ ?_ ⟨(sb.2 a hIa).trans ha, _, h1, .drawn hb h2 hp ((sb.2 T hIT).trans hT) hpl hv⟩ sb
    rw [hv, List.getElem?_map, List.getElem?_eq_getElem hpi]
    simp [hj]

theorem sit_end {o : Obj} {es : Array (Int × Value)} {ep : Nat} {t : SetTable} {I a T : Addr} {pl : List Nat} {vs : List Value} {Q : Option Value → Shared → Prop} (hh : A.handled = none)
    (hd : o.data = .set es ep t) (hf : t.fits es.size = true) (st : SitSt w o es ep t I a T pl vs es.size s.heap)
    (h : ∀ h', Heap.ExtBut I s.heap h' → Q none { s with heap := h' }) : wpAny (model prog w) A (pyNext (.ref I)) Q E s := by
  obtain ⟨ha, first, hI, sa⟩ := st
  refine sit_open hI ha hd hf rfl ?_
  have one : wpAny (model prog w) A.in1 (do
          setField (Value.ref I) 2 Value.none
          let e ← newExc (Value.type "StopIteration") []
          (raiseNew e : Sem Fin)) (fun fin s' => ∃ v, fin = Fin.done (Flow.ret v) ∧ Q (some v) s')
        (fun e s' => wpAny (model prog w) A (do let y ← isInstance e (.type "StopIteration"); if y = true then pure none else throw e) Q E s') s := by
    refine wpAny_bind (wpAny_setField hI rfl (by simp) ?_)
    refine sit_stop hh fun h' hk => h _ fun b o hb e => hk b o ((Heap.SameBut.update s.heap I _).extBut b o hb e)
  cases sa with
  | text hb hv =>
    show wpAny _ _ (setNext a (Int.toNat 0) (es.size : Int).toNat (ep : Int).toNat >>= _) _ _ _
    simp only [Int.toNat_natCast]
    have hx : (pickOrder (w.params.setOrder a ep) es)[es.size]? = none := by
      rw [← Array.getElem?_toList]
      exact List.getElem?_eq_none (by rw [(pick_perm _ _).length_eq]; simp)
    refine wpAny_bind ?_
    unfold setNext
    refine wpAny_bind (wpAny_setState_of ha hd hf ?_)
    dsimp only
    refine byText_ ?_
    rw [hb]
    simp only [if_true, bne_self_eq_false, Bool.false_eq_true, if_false]
    refine wpAny_bind ?_
    unfold setWalk
    refine wpAny_bind (wpAny_setState_of ha hd hf ?_)
    dsimp only
    refine byText_ ?_
    rw [hb]
    simp only [if_true]
    refine wpAny_bind (wpAny_askSetting (wpAny_pure ?_))
    show wpAny _ _ (pure (((pickOrder (w.params.setOrder a ep) es)[es.size]?).map _)) _ _ _
    rw [hx]
    exact wpAny_pure one
  | led hb h1 hl hv slot hs =>
    show wpAny _ _ (setNext a (slot : Int).toNat (es.size : Int).toNat (ep : Int).toNat >>= _) _ _ _
    simp only [Int.toNat_natCast]
    have hsz : t.place.size = es.size := by simp only [SetTable.fits, Bool.and_eq_true, beq_iff_eq] at hf; exact hf.1
    have hnd : (!t.plain && decide (es.size > 1)) = false := by rw [decide_eq_false (by omega)]; simp
    have hx : es[SetTable.below t.place slot]? = none := by
      by_cases h0 : es.size = 0
      · rw [if_pos h0] at hs
        exact Array.getElem?_eq_none (by omega)
      · rw [if_neg h0] at hs
        obtain ⟨j, hj, rfl⟩ := hs
        rw [hj, below_one, if_pos (by omega)]
        exact Array.getElem?_eq_none (by omega)
    refine wpAny_bind ?_
    unfold setNext
    refine wpAny_bind (wpAny_setState_of ha hd hf ?_)
    dsimp only
    refine byText_ ?_
    rw [hb]
    simp only [Bool.false_eq_true, if_false]
    refine wpAny_ite_split (fun hc => ?_) fun _ => ?_
    · have hc' : (!t.plain && decide (es.size > 1)) = true := hc
      rw [hnd] at hc'; cases hc'
    refine wpAny_bind ?_
    show wpAny _ _ (if (!t.led && !es.isEmpty) = true then _ else _) _ _ _
    rw [hl]
    simp only [Bool.not_true, Bool.false_and, Bool.false_eq_true, if_false]
    refine wpAny_pure ?_
    rw [hx]
    exact wpAny_pure one
  | drawn hb h2 hp hT hpl hv =>
    show wpAny _ _ (seqItems? (.ref T) >>= _) _ _ _
    refine wpAny_bind (wpAny_seqItems hT rfl ?_)
    have hg : ((pl.map fun (j : Nat) => rawInt j).toArray)[es.size]? = none := by
      refine Array.getElem?_eq_none ?_
      simp [hpl.length_eq]
    simp only [Int.toNat_natCast]
    rw [hg]
    refine wpAny_bind (wpAny_setField hI rfl (by simp) ?_)
    have h1 := siter_set (k := 0) (x := rawInt 0) hI
    refine wpAny_bind (wpAny_setField h1 rfl (by simp) ?_)
    refine sit_stop hh fun h' hk => h _ fun b o hb e => hk b o (((Heap.SameBut.update s.heap I _).trans (Heap.SameBut.update _ I _)).extBut b o hb e)

theorem sit_self {o : Obj} {es : Array (Int × Value)} {ep : Nat} {t : SetTable} {I a T : Addr} {pl : List Nat} {vs : List Value} {i : Nat} {Q : Value → Shared → Prop} (st : SitSt w o es ep t I a T pl vs i s.heap) (h : Q (.ref I) s) :
    wpAny (model prog w) A (pyIter (.ref I)) Q E s := by
  obtain ⟨ha, first, hI, sa⟩ := st
  have hT : s.TypeIs (.ref I) "set_iterator" := ⟨_, hI, rfl⟩
  refine wpAny_pyIter_slot hT slot_sit_iter (wpAny_call_entry slot_sit_iter hT entry_sit_iter ?_ (args_sit_iter _))
  show wpAny _ _ (ret (.ref I)) _ _ s
  exact wpAny_pure ⟨_, rfl, "set_iterator", _, hT, slot_sit_next.lookup, h⟩

theorem Walks.set {o : Obj} {es : Array (Int × Value)} {ep : Nat} {t : SetTable} {I a T : Addr} {pl : List Nat} {vs : List Value} (hh : A.handled = none) (hd : o.data = .set es ep t) (hf : t.fits es.size = true) (hIa : a ≠ I) (hIT : T ≠ I) :
    Walks prog w A I [I, a, T] [I] es.size (fun i v => vs[i]? = some v) (fun i h => SitSt w o es ep t I a T pl vs i h) where
  sub := fun b hb => by simp at hb; simp [hb]
  frame := fun i h h' st hk => by
    obtain ⟨ha, first, hI, sa⟩ := st
    refine ⟨hk a (by simp) _ ha, first, hk I (by simp) _ hI, ?_⟩
    cases sa with
    | text hb hv => exact .text hb hv
    | led hb h1 hl hv slot hs => exact .led hb h1 hl hv slot hs
    | drawn hb h2 hp hT hpl hv => exact .drawn hb h2 hp (hk T (by simp) _ hT) hpl hv
  item := fun i s Q E hi st hQ => sit_item hd hf hIa hIT st hi fun v h' hv st' sb => hQ v h' s.toks hv st' fun b o hb e => sb.extBut b o (fun q => hb (by simp [q])) e
  done := fun s Q E st hQ => sit_end hh hd hf st fun h' eb => hQ h' s.toks fun b o hb e => eb b o (fun q => hb (by simp [q])) e
  self := fun _ _ _ _ st hQ => sit_self st hQ
end
end Mine
end partSetB

section partSetC
open PySem PySem.W PySem.Spec PySem.Calls PyProof.Rows
namespace Mine
set_option maxRecDepth 100000
section
variable {prog : Program} {w : World} {A : Around} {E : Value → Shared → Prop} {s : Shared}

theorem strs_of {l : List (Int × Value)} (hel : ElemsOf (PySem.strKind prog w) l) : ∀ (l' : List (Int × Value)), (∀ e ∈ l', e ∈ l) → StrsAre (l'.map (·.2)) (l'.map txt)
  | [], _ => .nil
  | e :: r, h => by
    obtain ⟨⟨tk, ht⟩, _⟩ := elem_txt hel (h e (List.mem_cons_self ..))
    have ih := strs_of hel r fun x hx => h x (List.mem_cons_of_mem _ hx)
    rw [List.map_cons, List.map_cons, ht]
    exact .cons _ _ ih

theorem map_perm_range {es : Array (Int × Value)} {pl : List Nat} (hpl : pl.Perm (List.range es.size)) : (pl.filterMap fun j => es[j]?).Perm es.toList := by
  refine (hpl.filterMap _).trans ?_
  rw [filterMap_getElem?_range]
theorem map_getD {es : Array (Int × Value)} : ∀ {pl : List Nat}, (∀ j ∈ pl, j < es.size) → (pl.map fun j => (es[j]?.map (·.2)).getD .none) = (pl.filterMap fun j => es[j]?).map (·.2)
  | [], _ => rfl
  | j :: r, h => by
    have hj : j < es.size := h j (List.mem_cons_self ..)
    have ih := map_getD (pl := r) fun x hx => h x (List.mem_cons_of_mem _ hx)
    rw [List.map_cons, ih, List.filterMap_cons, Array.getElem?_eq_getElem hj]
    rfl

theorem s_iter {a : Addr} {o : Obj} {xs : List Str} {Q : Value → Shared → Prop} (ho : s.heap.get? a = some o) (hS : SObj prog w o xs) (hroom : xs.length < scanBound)
    (h : ∀ (I : Addr) (h' : Heap) (dr' : Drawn) (vs : List Value) (ys : List Str) (fp : List Addr) (St : Nat → Heap → Prop), s.heap.objs.size ≤ I → I < h'.objs.size → (∀ b o, s.heap.get? b = some o → h'.get? b = some o) →
      (∀ b ∈ fp, b < h'.objs.size ∧ (b = a ∨ s.heap.objs.size ≤ b)) → (∀ A' : Around, A'.handled = none → Walks prog w A' I fp [I] xs.length (fun i v => vs[i]? = some v) St) → St 0 h' → vs.length = xs.length → StrsAre vs ys → ys.Perm xs →
      Q (.ref I) { s with heap := h', drawn := dr' }) :
    wpAny (model prog w) A (pyIter (.ref a)) Q E s := by
  obtain ⟨es, ep, t, hex, hd, hel, rfl, hnd, hf, hled, hpl⟩ := hS
  have hTy : s.TypeIs (.ref a) "set" := ⟨o, ho, hex.1⟩
  have halt := Heap.lt_size ho
  have hlen : (es.toList.map txt).length = es.size := by simp
  rw [hlen] at h hroom
  have hpl' : es.size ≠ 0 → t.plain = false := fun q => hpl (by intro e; apply q; rw [← hlen, e]; rfl)
  refine wpAny_pyIter_slot hTy PySem.F.slot_set_iter (wpAny_call_entry PySem.F.slot_set_iter hTy entry_set_iter ?_ (PySem.F.args_set_iter_1 _))
  unfold Builtin.«frozenset.__iter__» Builtin.Frozenset.slot0 slotArgs
  simp only [List.isEmpty_nil, Bool.not_true, Bool.false_eq_true, ↓reduceIte, bind_assoc, List.length_nil, bne_self_eq_false]
  unfold Builtin.Frozenset.addrOf Builtin.Frozenset.sizeOf
  refine wpAny_bind (wpAny_pure ?_)
  try dsimp only
  refine wpAny_bind (wpAny_pure ?_)
  refine wpAny_bind (wpAny_bind (wpAny_setEntries_of ho hd hf (wpAny_pure ?_)))
  refine wpAny_bind ?_
  unfold setDrawn
  refine wpAny_bind (wpAny_setState_of ho hd hf ?_)
  dsimp only
  refine byText_ (wpAny_pure ?_)
  -- the last steps
  have rest : ∀ (T : Addr) (first : Value) (H : Heap) (dr : Drawn) (pl : List Nat) (vs : List Value) (ys : List Str), (∀ b o, s.heap.get? b = some o → H.get? b = some o) → s.heap.objs.size ≤ H.objs.size → T < H.objs.size → (T = a ∨ s.heap.objs.size ≤ T) →
      (∀ h', (∀ b o, H.get? b = some o → h'.get? b = some o) → SitAt w es ep t a T pl vs 0 h' first) → StrsAre vs ys → ys.Perm (es.toList.map txt) →
      wpAny (model prog w) A.in1 (newFields "set_iterator" [first, rawInt 0, .ref a, rawInt (es.size : Int), rawInt (ep : Int)] >>= fun r => ret r)
        (fun fin s' => ∃ v, fin = Fin.done (Flow.ret v) ∧ ∃ T' r, s'.TypeIs v T' ∧ typeLookup (.type T') "__next__" = pure (some r) ∧ Q v s') E { s with heap := H, drawn := dr } := by
    intro T first H dr pl vs ys hk hle hT hTa hs hst hp
    have hIn := Heap.get?_push_size H (o := siter first 0 a es.size ep) rfl
    have sa := hs (H.push (siter first 0 a es.size ep)) fun b o e => Heap.get?_push_of_some _ e
    refine wpAny_bind (wpAny_newObj_type (wpAny_pure ⟨_, rfl, "set_iterator", _, ⟨_, hIn, rfl⟩, slot_sit_next.lookup, ?_⟩))
    refine h H.objs.size _ dr vs ys [H.objs.size, a, T] (fun i h' => SitSt w o es ep t H.objs.size a T pl vs i h') hle (by rw [Heap.size_push]; exact Nat.lt_succ_self _) (fun b o e => Heap.get?_push_of_some _ (hk b o e)) ?_ ?_ ?_ (sit_len sa) hst hp
    · intro b hb
      rw [Heap.size_push]
      simp only [List.mem_cons, List.not_mem_nil, or_false] at hb
      rcases hb with rfl | rfl | rfl
      · exact ⟨Nat.lt_succ_self _, .inr hle⟩
      · exact ⟨Nat.lt_succ_of_lt (Nat.lt_of_lt_of_le halt hle), .inl rfl⟩
      · exact ⟨Nat.lt_succ_of_lt hT, hTa⟩
    · exact fun A' hA => Walks.set hA hd hf (Nat.ne_of_lt (Nat.lt_of_lt_of_le halt hle)) (Nat.ne_of_lt hT)
    · exact ⟨Heap.get?_push_of_some _ (hk _ _ ho), first, hIn, sa⟩
  have hdr : (!byT w && (!t.plain && decide (es.size > 1))) = true ∨ (!byT w && (!t.plain && decide (es.size > 1))) = false := by
    cases (!byT w && (!t.plain && decide (es.size > 1))) <;> simp
  rcases hdr with hdr | hdr
  · simp only [Bool.and_eq_true, Bool.not_eq_true', decide_eq_true_eq] at hdr
    obtain ⟨hb, hp, h2⟩ := hdr
    refine wpAny_ite_split (fun _ => ?_) (fun hc => absurd (by show (!byT w && (!t.plain && decide (es.size > 1))) = true; simp [hb, hp, h2]) hc)
    refine wpAny_bind (wpAny_drawOrder es.size (List.range es.size) _ _ (List.length_range) fun pl dr hpl2 => ?_)
    have hlt : ∀ j ∈ pl, j < es.size := fun j hj => List.mem_range.mp (hpl2.mem_iff.mp hj)
    have hsl : es.size ≤ sizeLine := fits_of_scanBound hroom
    refine wpAny_bind (wpAny_newTuple ?_ (by rw [List.length_map, hpl2.length_eq, List.length_range]; exact hsl))
    refine wpAny_bind (wpAny_setEpoch_of (s := { s with heap := _, drawn := dr }) (Heap.get?_push_of_some _ ho) hd hf ?_)
    refine rest s.heap.objs.size (.ref s.heap.objs.size) (s.heap.push _) dr pl (pl.map fun j => (es[j]?.map (·.2)).getD .none) ((pl.filterMap fun j => es[j]?).map txt) (fun b o e => Heap.get?_push_of_some _ e) (by rw [Heap.size_push]; exact Nat.le_succ _)
      (by rw [Heap.size_push]; exact Nat.lt_succ_self _) (.inr (Nat.le_refl _)) (fun h' hk => .drawn hb h2 hp (hk _ _ (Heap.get?_push_size _ rfl)) hpl2 rfl) ?_ ((map_perm_range hpl2).map _)
    rw [map_getD hlt]
    exact strs_of hel _ fun e he => (map_perm_range hpl2).mem_iff.mp he
  · refine wpAny_ite_split (fun hc => ?_) (fun _ => ?_)
    · have hc' : (!byT w && (!t.plain && decide (es.size > 1))) = true := hc
      rw [hdr] at hc'; cases hc'
    refine wpAny_bind (wpAny_pure ?_)
    refine wpAny_bind (wpAny_setEpoch_of ho hd hf ?_)
    cases hb : byT w with
    | true =>
      refine rest a (rawInt 0) s.heap s.drawn [] _ ((pickOrder (w.params.setOrder a ep) es).toList.map txt) (fun _ _ e => e) (Nat.le_refl _) halt (.inl rfl) (fun h' _ => .text hb rfl) (strs_of hel _ fun e he => (pick_perm _ _).mem_iff.mp he) ((pick_perm _ _).map _)
    | false =>
      have h1 : es.size ≤ 1 := by
        rw [hb] at hdr
        by_cases h1 : es.size ≤ 1
        · exact h1
        · rw [hpl' (by omega), decide_eq_true (by omega)] at hdr
          cases hdr
      refine rest a (rawInt 0) s.heap s.drawn [] _ (es.toList.map txt) (fun _ _ e => e) (Nat.le_refl _) halt (.inl rfl) (fun h' _ => .led hb h1 (hled hb) rfl 0 (by rw [if_pos rfl])) (strs_of hel _ fun e he => he) (List.Perm.refl _)
end
end Mine
end partSetC

section partSetD
open PySem PySem.W PySem.Spec PySem.Calls PyProof.Rows
namespace Mine
set_option maxRecDepth 100000
set_option maxHeartbeats 2000000

theorem frk {h₀ h h' : Heap} {L : Addr} {m : Str → Option Value} (F : Fr h₀ L h m) (hk : ∀ b o, h.get? b = some o → h'.get? b = some o) : Fr h₀ L h' m :=
  ⟨F.ns.at' fun o e => hk L o e, fun b o e => hk b o (F.keep b o e), F.above⟩
theorem nwk {h₀ h h' : Heap} {L : Addr} {news : List (Addr × Obj)} (N : News h₀ L h news) (hk : ∀ b o, h.get? b = some o → h'.get? b = some o) : News h₀ L h' news :=
  fun p hp => ⟨hk _ _ (N p hp).1, (N p hp).2⟩
theorem nw_new {h₀ h h' : Heap} {L : Addr} {m : Str → Option Value} {news : List (Addr × Obj)} (F : Fr h₀ L h m) (N : News h₀ L h news) (hk : ∀ b o, h.get? b = some o → h'.get? b = some o) {D : Addr} {o : Obj} (hD : h'.get? D = some o) (hle : h.objs.size ≤ D) : News h₀ L h' ((D, o) :: news) := by
  intro p hp
  rcases List.mem_cons.mp hp with rfl | hp
  · refine ⟨hD, Nat.ne_of_gt (Nat.lt_of_lt_of_le F.ns.lt hle), ?_⟩
    cases hq : h₀.get? D with
    | none => rfl
    | some o' => exact absurd (Heap.lt_size (F.keep _ _ hq)) (Nat.not_lt.mpr hle)
  · exact nwk N hk p hp

theorem sortedHeap_old {h : Heap} {a b : Addr} {vs : List Value} {out : Array Value} {o : Obj} (hb : b ≠ a) (e : h.get? b = some o) : (sortedHeap h a vs out).get? b = some o := by
  unfold sortedHeap
  refine (Heap.get?_update_other _ _ (Ne.symm hb)).trans ?_
  refine Heap.get?_push_of_some _ (Heap.get?_push_of_some _ ?_)
  exact (Heap.get?_update_other _ _ (Ne.symm hb)).trans e
theorem sortedHeap_at {h : Heap} {a : Addr} {vs : List Value} {n : Nat} {out : Array Value} (ho : h.get? a = some (seqObj "list" vs.toArray n)) : ∃ e, (sortedHeap h a vs out).get? a = some (seqObj "list" out e) := by
  unfold sortedHeap
  have h1 := get?_update_seq ho (fun _ => #[])
  exact ⟨_, get?_update_seq (Heap.get?_push_of_some _ (Heap.get?_push_of_some _ h1)) (fun _ => out)⟩

theorem len_set : typeLookup (.type "set") "__len__" = pure (some (.builtin "set.__len__")) := PySem.F.slot_set_len.lookup
section
variable {prog : Program} {w : World} {A : Around} {E : Value → Shared → Prop} {s : Shared}

theorem hint_set {r : Addr} {Q : Bool → Shared → Prop} (hT : s.TypeIs (.ref r) "set") (h : Q false s) : wpAny (model prog w) A (Builtin.List.listLengthHint (.ref r)) Q E s := by
  unfold Builtin.List.listLengthHint
  refine wpAny_bind (wpAny_specialOf hT len_set ?_)
  generalize hid : ("set.__len__" : String) = id0
  wp_delta
  rw [show splitId id0 = some ("set", "__len__") from by subst hid; decide +kernel]
  subst hid
  refine wpAny_bind (wpAny_isInstance (T := "set") (b := true) hT (by rw [isSubtype_type]; kernel_rfl) ?_)
  refine wpAny_ite_split (fun hab => absurd hab (by decide)) (fun _ => ?_)
  refine wpAny_ite_split (fun _ => ?_) (fun hab => absurd (by decide +kernel) hab)
  refine wpAny_bind (wpAny_typeOf hT ?_)
  exact wpAny_pure h

theorem items_eq {vs : List Value} {acc : Array Value} (h : ItemsOf (fun i v => vs[i]? = some v) acc vs.length) : acc.toList = vs := by
  obtain ⟨h1, h2⟩ := h
  apply List.ext_getElem?
  intro i
  rw [Array.getElem?_toList]
  cases e : acc[i]? with
  | some v => exact (h2 i v e).symm
  | none =>
    have : acc.size ≤ i := by simpa using e
    rw [List.getElem?_eq_none (by omega)]

theorem s_collect {a : Addr} {o : Obj} {xs : List Str} {Q : List Value → Shared → Prop} (hh : A.handled = none) (ho : s.heap.get? a = some o) (hS : SObj prog w o xs) (hroom : xs.length < scanBound)
    (h : ∀ h' dr' tk' vs ys, (∀ b o, s.heap.get? b = some o → h'.get? b = some o) → StrsAre vs ys → vs.length = xs.length → ys.Perm xs → Q vs { s with heap := h', drawn := dr', toks := tk' }) :
    wpAny (model prog w) A (collect (.ref a)) Q E s := by
  have hex : o.ExactSet := let ⟨_, _, _, hex, _⟩ := hS; hex
  have halt := Heap.lt_size ho
  unfold collect
  refine wpAny_bind (wpAny_runValue (codeAny_builtin PySem.F.entry_proto_collect ?_))
  rw [Around.under_plainId PySem.F.plain_proto_collect _]
  show wpAny _ A.in1 (newList [] >>= fun l => again (.builtin "list.__iadd__" ⟨[l, .ref a], []⟩)) _ _ s
  refine wpAny_bind (wpAny_newObj_type ?_)
  refine wpAny_pure ⟨plainId_quiet PySem.F.plain_list_iadd _, codeAny_builtin PySem.F.entry_list_iadd ?_⟩
  rw [Around.under_plainId PySem.F.plain_list_iadd _]
  have ho1 := Heap.get?_push_of_some { cls := .type "list", data := .seq ([] : List Value).toArray } ho
  have hT1 : Shared.TypeIs { s with heap := s.heap.push { cls := .type "list", data := .seq ([] : List Value).toArray } } (.ref a) "set" := ⟨_, ho1, hex.1⟩
  show wpAny _ A.in1 (Builtin.List.listExtendWith (.ref s.heap.objs.size) (.ref a) (.ref s.heap.objs.size)) _ _ _
  unfold Builtin.List.listExtendWith
  refine wpAny_bind (wpAny_typeOf hT1 ?_)
  have hne : s.heap.objs.size ≠ a := Nat.ne_of_gt halt
  have h1 : Builtin.List.listSameRef (.ref s.heap.objs.size) (.ref a) = false := by simp [Builtin.List.listSameRef, hne]
  have h2 : (Value.type "set" == Value.type "list") = false := by decide
  have h3 : (Value.type "set" == Value.type "tuple") = false := by decide
  simp only [h1, h2, h3, Bool.or_false, Bool.false_eq_true, if_false]
  have hS₁ : (s.heap.push { cls := .type "list", data := .seq ([] : List Value).toArray }).get? s.heap.objs.size = some { cls := .type "list", data := .seq ([] : List Value).toArray } := Heap.get?_push_size _ rfl
  refine wpAny_bind (s_iter (s := { s with heap := s.heap.push { cls := .type "list", data := .seq ([] : List Value).toArray } }) ho1 hS hroom fun I H dr' vs ys fp St hIle hI hk hfp W st hvl hst hp => ?_)
  dsimp only at hIle hk
  have hsz1 : (s.heap.push { cls := .type "list", data := .seq ([] : List Value).toArray }).objs.size = s.heap.objs.size + 1 := size_push' _ _
  have hSI : s.heap.objs.size ≠ I := by rw [hsz1] at hIle; exact Nat.ne_of_lt hIle
  refine wpAny_bind (wpAny_holding (hint_set (s := { s with heap := H, drawn := dr' }) ⟨_, hk _ _ ho1, hex.1⟩ ?_))
  refine wpAny_ite_split (fun _ => ?_) (fun hc => absurd (by decide +kernel) hc)
  refine wpAny_bind (wpAny_rule ?_)
  refine wpAny_bind ?_
  have hS₂ := hk _ _ hS₁
  show wpAny _ A.in1 (updateSeq s.heap.objs.size (·.push .none) >>= fun _ => updateSeq s.heap.objs.size (·.pop)) _ _ _
  refine wpAny_bind (wpAny_updateSeq hS₂ rfl ?_)
  have hS₃ := Heap.get?_update_self (Obj.mapSeq (·.push Value.none)) hS₂ rfl
  refine wpAny_updateSeq hS₃ rfl ?_
  have hS₄ := Heap.get?_update_self (Obj.mapSeq (·.pop)) hS₃ rfl
  have oth : ∀ b o, b ≠ s.heap.objs.size → H.get? b = some o → ((H.update s.heap.objs.size (Obj.mapSeq (·.push Value.none))).update s.heap.objs.size (Obj.mapSeq (·.pop))).get? b = some o :=
    fun b o hb e => (Heap.get?_update_other _ _ (Ne.symm hb)).trans ((Heap.get?_update_other _ _ (Ne.symm hb)).trans e)
  have hSf : s.heap.objs.size ∉ fp := fun hm => by
    rcases (hfp _ hm).2 with e | e
    · exact hne e
    · have e' : (s.heap.push { cls := .type "list", data := .seq ([] : List Value).toArray }).objs.size ≤ s.heap.objs.size := e
      rw [hsz1] at e'; exact Nat.not_succ_le_self _ e'
  have W1 := (W A.in1 hh).toS
  have st4 := (W A.in1 hh).frame 0 _ ((H.update s.heap.objs.size (Obj.mapSeq (·.push Value.none))).update s.heap.objs.size (Obj.mapSeq (·.pop))) st fun b hb o e => oth b o (fun q => hSf (q ▸ hb)) e
  refine wpAny_pure ⟨plainId_quiet PySem.F.plain_extend_loop _, codeAny_extend_loopS W1 (fits_of_scanBound hroom) s.heap.objs.size hSf (.ref s.heap.objs.size) xs.length 0 _ _ _ rfl (Nat.zero_le _) st4 hS₄ (ItemsOf.nil _) fun s' acc' c' hm hS' hacc => ?_⟩
  rw [← hvl] at hacc
  have eqs := Moved.eq_with hm
  show wpAny _ A (load s.heap.objs.size >>= _) _ _ s'
  refine wpAny_bind (wpAny_load hS' ?_)
  show wpAny _ _ (pure acc'.toList) _ _ _
  rw [items_eq hacc]
  rw [eqs]
  refine wpAny_pure (h s'.heap dr' s'.toks vs ys (fun b o e => hm.heap b o ?_ ?_) hst hvl hp)
  · intro hmem
    rcases List.mem_cons.mp hmem with q | q
    · rw [q] at e; exact absurd (Heap.lt_size e) (Nat.lt_irrefl _)
    · have : b = I := List.mem_singleton.mp q
      rw [this] at e
      have q1 := Heap.lt_size e
      have q2 : s.heap.objs.size + 1 ≤ I := by rw [← hsz1]; exact hIle
      exact absurd (Nat.lt_of_lt_of_le (Nat.lt_succ_of_lt q1) q2) (Nat.lt_irrefl _)
  · have hb : b ≠ s.heap.objs.size := Nat.ne_of_lt (Heap.lt_size e)
    exact oth b o hb (hk _ _ (Heap.get?_push_of_some _ e))

theorem s_sorted {h₀ : Heap} {L : Addr} {m : Str → Option Value} {news : List (Addr × Obj)} {a : Addr} {o : Obj} {xs : List Str} {Q : Value → Shared → Prop} (hh : A.handled = none)
    (F : Fr h₀ L s.heap m) (N : News h₀ L s.heap news) (ho : s.heap.get? a = some o) (hS : SObj prog w o xs) (h64 : xs.length < 64)
    (h : ∀ D h' dr' tk' vs ys e, Fr h₀ L h' m → News h₀ L h' ((D, PySem.W.listOf vs.toArray e) :: news) → (∀ p ∈ news, p.1 < D) → StrsAre vs ys → vs.length = xs.length → ys.Perm xs → sortedS ys = true → Q (.ref D) { s with heap := h', drawn := dr', toks := tk' }) :
    wpAny (model prog w) A (call (.builtin "sorted") [.ref a]) Q E s := by
  refine Calls.call_function_entry kind_sorted plain_sorted entry_sorted (args_sorted1 _) ?_
  unfold Builtin.«sorted»
  refine wpAny_bind (m := checkCount "sorted" 1 1 _) (wpAny_pure ?_)
  refine wpAny_bind (s_collect hh ho hS (by unfold scanBound; omega) fun H dr' tk' vs ys hk hst hvl hp => ?_)
  refine wpAny_bind (wpAny_newList ?_ (by rw [hvl, sizeLine_eq]; omega))
  have hoL : (H.push (seqObj "list" vs.toArray 0)).get? H.objs.size = some (seqObj "list" vs.toArray 0) := Heap.get?_push_size _ rfl
  refine wpAny_bind (wpAny_holding (wpAny_call_entry slot_list_sort ⟨_, hoL, rfl⟩ entry_list_sort (list_sort_treeK strKind_oneLt hoL hst.keysOf (fun v₁ v₂ rest e => keyKind_strs (by rw [← e]; exact hst)) (by rw [hvl]; exact h64) fun st' a1 a2 => ⟨_, rfl, ?_⟩) (args_list_sort _)))
  obtain ⟨ss', b1, b2, b3⟩ := sorted_out_str hst a1 a2
  obtain ⟨e, he⟩ := sortedHeap_at (out := (arrOf st').map (·.2)) hoL
  have hkeep : ∀ b o, s.heap.get? b = some o → (sortedHeap (H.push (seqObj "list" vs.toArray 0)) H.objs.size vs ((arrOf st').map (·.2))).get? b = some o := fun b o q =>
    sortedHeap_old (Nat.ne_of_lt (Heap.lt_size (hk _ _ q))) (Heap.get?_push_of_some _ (hk _ _ q))
  have hlt : ∀ b o, s.heap.get? b = some o → b < H.objs.size := fun b o q => Heap.lt_size (hk _ _ q)
  have hD0 : h₀.get? H.objs.size = none := by
    cases hq : h₀.get? H.objs.size with
    | none => rfl
    | some o' => exact absurd (hlt _ _ (F.keep _ _ hq)) (Nat.lt_irrefl _)
  obtain ⟨oL, _, _, hLo, _⟩ := F.ns
  refine wpAny_pure ⟨_, rfl, h H.objs.size _ dr' tk' ((arrOf st').map (·.2)).toList ss' e (frk F hkeep) (fun p hp' => ?_) (fun p hp' => hlt _ _ (N p hp').1) b1 ?_ (b2.trans hp) b3⟩
  · rcases List.mem_cons.mp hp' with rfl | hp'
    · refine ⟨?_, Nat.ne_of_gt (hlt _ _ hLo), hD0⟩
      show (sortedHeap (H.push (seqObj "list" vs.toArray 0)) H.objs.size vs ((arrOf st').map (·.2))).get? H.objs.size = some (PySem.W.listOf ((arrOf st').map (·.2)).toList.toArray e)
      rw [Array.toArray_toList]; exact he
    · exact nwk N hkeep p hp'
  · have e1 := StrsAre.length b1
    have e2 := b2.length_eq
    have e3 := StrsAre.length hst
    omega
end
end Mine
end partSetD

section partSetE
open PySem PySem.W PySem.Spec PySem.Calls PyProof.Rows
namespace Mine
set_option maxRecDepth 100000
set_option maxHeartbeats 2000000

theorem laid_dummies {mask finger moves : Nat} {led plain : Bool} {hs : Array Int} {t : SetTable} {order : Array Nat} (h : SetTable.laid mask finger moves led plain hs = some (t, order)) : t.dummies = #[] := by
  unfold SetTable.laid at h
  cases hc : SetTable.layClean mask hs with
  | none => rw [hc] at h; cases h
  | some ow => rw [hc] at h; cases h; rfl
theorem sizeAbove_line : ∀ n < 256, ¬ SetTable.sizeAbove n > sizeLine := by rw [sizeLine_eq]; decide +kernel
theorem fits_place {t : SetTable} {n : Nat} (h : t.fits n = true) : t.place.size = n := by simp only [SetTable.fits, Bool.and_eq_true, beq_iff_eq] at h; exact h.1
noncomputable abbrev setO (es : Array (Int × Value)) (ep : Nat) (t : SetTable) : Obj := { cls := .type "set", dict := none, data := .set es ep t }
theorem exact_setO {o : Obj} {es : Array (Int × Value)} {ep : Nat} {t : SetTable} (hex : o.ExactSet) (hd : o.data = .set es ep t) : o = setO es ep t := by
  obtain ⟨c, d, dt, sl⟩ := o
  obtain ⟨h1, h2, h3⟩ := hex
  simp only at h1 h2 h3 hd
  subst h1 h2 h3 hd
  rfl
section
variable {prog : Program} {w : World} {A : Around} {E : Value → Shared → Prop} {s : Shared}

theorem SObj.mk' {es : Array (Int × Value)} {ep : Nat} {t : SetTable} (hel : ElemsOf (PySem.strKind prog w) es.toList) (hnd : (es.toList.map txt).Nodup) (hf : t.fits es.size = true) (hl : byT w = false → t.led = true) (hp : es.size ≠ 0 → t.plain = false) :
    SObj prog w (setO es ep t) (es.toList.map txt) :=
  ⟨es, ep, t, ⟨rfl, rfl, rfl⟩, rfl, hel, rfl, hnd, hf, hl, fun q => hp fun e => q (by rw [Array.size_eq_zero_iff.mp e]; rfl)⟩
theorem SObj.open {o : Obj} {xs : List Str} (h : SObj prog w o xs) : ∃ es ep t, o = setO es ep t ∧ ElemsOf (PySem.strKind prog w) es.toList ∧ xs = es.toList.map txt ∧ xs.Nodup ∧ es.size = xs.length ∧ t.fits es.size = true ∧ (byT w = false → t.led = true) ∧ (es.size ≠ 0 → t.plain = false) := by
  obtain ⟨es, ep, t, hex, hd, hel, rfl, hnd, hf, hl, hp⟩ := h
  exact ⟨es, ep, t, exact_setO hex hd, hel, rfl, hnd, by simp, hf, hl, fun q => hp (by intro e; apply q; have := congrArg List.length e; simpa using this)⟩

theorem store_setO {a : Addr} {es es' : Array (Int × Value)} {ep : Nat} {t t' : SetTable} {Q : Unit → Shared → Prop} (ho : s.heap.get? a = some (setO es ep t)) (hsz : es'.size ≤ sizeLine)
    (h : ∀ h', Heap.SameBut a s.heap h' → h'.get? a = some (setO es' (ep + 1) t') → Q () { s with heap := h' }) : wpAny (model prog w) A (storeSet a es' t') Q E s :=
  wpAny_storeSet_of ho rfl (h _ (Heap.SameBut.update ..) (Heap.get?_update_self (Obj.putSet es' t') ho rfl)) hsz

theorem reorder_ok {mask : Nat} (hM : mask + 1 ∈ goodM) {finger moves : Nat} {led plain : Bool} {es : Array (Int × Value)} (hn : es.size ≤ mask) {Q : Array (Int × Value) × SetTable → Shared → Prop}
    {f : Array (Int × Value) → Option (SetTable × Array Nat) → Sem (Array (Int × Value) × SetTable)}
    (hf : f = fun es laid => do
      let some (t, order) := laid | unsupported "internal:set-table-without-room"
      let es' := order.filterMap (es[·]?)
      if es'.size != es.size then unsupported "internal:set-table-lost-an-element"
      pure (es', t))
    (h : ∀ es' t, es'.toList.Perm es.toList → es'.size = es.size → t.fits es'.size = true → t.led = led → t.plain = plain → t.mask = mask → t.dummies = #[] → Q (es', t) s) :
    wpAny (model prog w) A (f es (SetTable.laid mask finger moves led plain (es.map (·.1)))) Q E s := by
  obtain ⟨t, order, e1, e2, e3, e4, e5, e6⟩ := laid_ok hM finger moves led plain (es.map (·.1)) (by simpa using hn)
  have hd := laid_dummies e1
  rw [Array.size_map] at e5 e6
  subst hf
  rw [e1]
  have hp : (order.filterMap (es[·]?)).toList.Perm es.toList := by
    rw [Array.toList_filterMap]
    exact map_perm_range e6
  have hs : (order.filterMap (es[·]?)).size = es.size := by rw [← Array.length_toList, hp.length_eq, Array.length_toList]
  show wpAny _ _ (if ((order.filterMap (es[·]?)).size != es.size) = true then _ else _) _ _ _
  rw [if_neg (by rw [hs]; simp)]
  exact wpAny_pure (h _ t hp hs (by rw [hs]; exact e5) e3 e4 e2 hd)

theorem s_relay {a : Addr} {es : Array (Int × Value)} {ep : Nat} {t : SetTable} {wanted : Nat} {Q : Unit → Shared → Prop} (ho : s.heap.get? a = some (setO es ep t)) (hf : t.fits es.size = true) (hw : wanted < 256) (hn : es.size ≤ wanted)
    (h : ∀ h' es' ep' t', Heap.SameBut a s.heap h' → h'.get? a = some (setO es' ep' t') → es'.toList.Perm es.toList → es'.size = es.size → t'.fits es'.size = true → t'.led = t.led → t'.plain = t.plain → t'.mask + 1 ∈ goodM → wanted ≤ t'.mask → t'.dummies = #[] → Q () { s with heap := h' }) :
    wpAny (model prog w) A (setRelay a wanted) Q E s := by
  obtain ⟨g1, g2⟩ := sizeAbove_good wanted hw
  have e1 : SetTable.sizeAbove wanted - 1 + 1 = SetTable.sizeAbove wanted := by omega
  unfold setRelay
  refine wpAny_bind (wpAny_setState_of ho rfl hf ?_)
  dsimp only
  rw [if_neg (sizeAbove_line wanted hw)]
  refine wpAny_bind ?_
  unfold SetTable.relaid
  refine reorder_ok (mask := SetTable.sizeAbove wanted - 1) (by rw [e1]; exact g1) (by omega) rfl fun es' t' p1 p2 p3 p4 p5 p6 p7 => ?_
  dsimp only
  refine store_setO ho (by rw [p2]; exact Nat.le_trans hn (by rw [sizeLine_eq]; omega)) fun h' sb hg => ?_
  exact h h' es' _ t' sb hg p1 p2 p3 p4 p5 (by rw [p6, e1]; exact g1) (by rw [p6]; omega) p7

/-- an empty new set, asked for room -/
theorem s_room_new {a : Addr} {n : Nat} {led : Bool} {Q : Unit → Shared → Prop} (ho : s.heap.get? a = some (setO #[] 0 (.fresh 0 0 led))) (hn : n ≤ 100)
    (h : ∀ h' ep' t', Heap.SameBut a s.heap h' → h'.get? a = some (setO #[] ep' t') → t'.fits 0 = true → t'.led = led → t'.plain = true → t'.mask + 1 ∈ goodM → n ≤ t'.mask → t'.fill = 0 → Q () { s with heap := h' }) :
    wpAny (model prog w) A (setRoomFor a n) Q E s := by
  unfold setRoomFor
  refine wpAny_bind (wpAny_setState_of ho rfl rfl ?_)
  dsimp only
  by_cases hc : (0 + n) * 5 ≥ 7 * 3
  · have : (SetTable.fresh 0 0 led).roomFor n = some ((0 + n) * 2) := if_pos hc
    rw [this]
    refine s_relay ho rfl (by omega) (Nat.zero_le _) fun h' es' ep' t' sb hg p1 p2 p3 p4 p5 p6 p7 p8 => ?_
    have hes : es' = #[] := by
      have : es'.size = 0 := p2
      exact Array.size_eq_zero_iff.mp this
    subst hes
    refine h h' ep' t' sb hg p3 p4 p5 p6 (by omega) ?_
    unfold SetTable.fill
    rw [p8, fits_place p3]; rfl
  · have : (SetTable.fresh 0 0 led).roomFor n = none := if_neg hc
    rw [this]
    exact wpAny_pure (h s.heap 0 _ (Heap.SameBut.refl ..) ho rfl rfl rfl (by show 7 + 1 ∈ goodM; decide) (by show n ≤ 7; omega) rfl)

theorem s_copy {r a : Addr} {o : Obj} {xs : List Str} {Q : Unit → Shared → Prop} (hr : s.heap.get? r = some (setO #[] 0 (.fresh 0 0 (!byT w)))) (ho : s.heap.get? a = some o) (hS : SObj prog w o xs) (hne : r ≠ a) (hx : xs ≠ []) (hlen : xs.length ≤ 100)
    (h : ∀ h' o' xs', Heap.SameBut r s.heap h' → h'.get? r = some o' → SObj prog w o' xs' → xs'.Perm xs → Q () { s with heap := h' }) :
    wpAny (model prog w) A (setMerge r a) Q E s := by
  obtain ⟨es, ep, t, rfl, hel, rfl, hnd, hsz, hf, hl, hp⟩ := hS.open
  have h0 : es.size ≠ 0 := by
    rw [hsz]; intro e; exact hx (List.length_eq_zero_iff.mp e)
  unfold setMerge
  rw [if_neg (by simpa using hne)]
  refine wpAny_bind (wpAny_setState_of ho rfl hf ?_)
  dsimp only
  rw [if_neg (by simpa using h0)]
  refine wpAny_bind (s_room_new hr (by omega) fun h1 ep1 t1 sb1 hg1 q1 q2 q3 q4 q5 q6 => ?_)
  have ho1 : h1.get? a = some (setO es ep t) := (sb1.2 a (Ne.symm hne)).trans ho
  refine wpAny_bind (wpAny_setState_of (s := { s with heap := h1 }) hg1 rfl q1 ?_)
  dsimp only
  have led1 : byT w = false → (t1.led && t.led) = true := fun b => by rw [q2, hl b, b]; rfl
  have pl1 : (t1.plain && t.plain) = false := by rw [q3, hp h0]; rfl
  cases hroad : t1.road t with
  | slotForSlot =>
    dsimp only
    refine store_setO (s := { s with heap := h1 }) hg1 (fits_of_scanBound (by unfold scanBound; omega)) fun h' sb hg => ?_
    exact h h' _ (es.toList.map txt) (sb1.trans sb) hg (SObj.mk' hel hnd hf led1 fun _ => pl1) (List.Perm.refl _)
  | clean =>
    dsimp only
    refine wpAny_bind (reorder_ok (mask := t1.mask) q4 (by omega) rfl fun es' t' p1 p2 p3 p4 p5 p6 p7 => ?_)
    dsimp only
    refine store_setO (s := { s with heap := h1 }) hg1 (fits_of_scanBound (by unfold scanBound; omega)) fun h' sb hg => ?_
    refine h h' _ (es'.toList.map txt) (sb1.trans sb) hg (SObj.mk' (hel.perm p1) ((p1.map txt).nodup_iff.mpr hnd) p3 (fun b => by rw [p4]; exact led1 b) fun _ => by rw [p5]; exact pl1) (p1.map txt)
  | oneByOne =>
    unfold SetTable.road at hroad
    rw [q6] at hroad
    simp at hroad
    split at hroad <;> cases hroad
end
end Mine
end partSetE

section partSetF
open PySem PySem.W PySem.Spec PySem.Calls PyProof.Rows
namespace Mine
set_option maxRecDepth 100000
set_option maxHeartbeats 2000000
section
variable {prog : Program} {w : World} {A : Around} {E : Value → Shared → Prop} {s : Shared}

theorem s_walk {a : Addr} {es : Array (Int × Value)} {ep : Nat} {t : SetTable} {Q : Array (Int × Value) → Shared → Prop} (ho : s.heap.get? a = some (setO es ep t)) (hf : t.fits es.size = true) (hl : byT w = false → t.led = true)
    (h : ∀ es' dr', es'.toList.Perm es.toList → Q es' { s with drawn := dr' }) : wpAny (model prog w) A (setWalk a) Q E s := by
  unfold setWalk
  refine wpAny_bind (wpAny_setState_of ho rfl hf ?_)
  dsimp only
  refine byText_ ?_
  cases hb : byT w with
  | true =>
    simp only [if_true]
    exact wpAny_bind (wpAny_askSetting (wpAny_pure (h _ s.drawn (pick_perm _ _))))
  | false =>
    simp only [Bool.false_eq_true, if_false]
    refine wpAny_ite_split (fun _ => ?_) fun _ => ?_
    · refine wpAny_bind (wpAny_drawOrder es.size es.toList _ _ (by simp) fun ys dr hp => wpAny_pure (h _ dr ?_))
      simpa using hp
    · refine wpAny_bind ?_
      show wpAny _ _ (if (!t.led && decide (es.size > 1)) = true then _ else _) _ _ _
      rw [hl hb]
      simp only [Bool.not_true, Bool.false_and, Bool.false_eq_true, if_false]
      exact wpAny_pure (wpAny_pure (h _ s.drawn (List.Perm.refl _)))

theorem s_quiet (as : List Addr) (has : ∀ a ∈ as, ∃ o xs, s.heap.get? a = some o ∧ SObj prog w o xs) {Q : Bool → Shared → Prop} (hQ : Q true s) : wpAny (model prog w) A (setsQuiet as) Q E s := by
  unfold setsQuiet
  refine wpAny_bind (wpAny_forIn_list _ (fun rest b s' => b.1 = none ∧ s' = s ∧ ∀ a ∈ rest, ∃ o xs, s.heap.get? a = some o ∧ SObj prog w o xs) _ ?_ ?_ as _ ⟨rfl, rfl, has⟩)
  · rintro a rest b s' ⟨hb, rfl, hr⟩
    obtain ⟨o, xs, ho, hS⟩ := hr a (List.mem_cons_self ..)
    obtain ⟨es, ep, t, rfl, hel, rfl, hnd, hsz, hf, hl, hp⟩ := hS.open
    have hr' : ∀ a ∈ rest, ∃ o xs, s'.heap.get? a = some o ∧ SObj prog w o xs := fun x hx => hr x (List.mem_cons_of_mem _ hx)
    refine wpAny_bind (wpAny_setEntries_of ho rfl hf ?_)
    refine wpAny_bind (PySem.MeetsSeq2.wpAny_forIn_array _ (fun l b s'' => b.1 = none ∧ s'' = s' ∧ ∀ e ∈ l, e ∈ es.toList) _ ?_ ?_ es _ ⟨rfl, rfl, fun _ h => h⟩)
    · rintro e l b1 s1 ⟨hb1, rfl, hm⟩
      obtain ⟨⟨tk, ht⟩, _⟩ := elem_txt hel (hm e (List.mem_cons_self ..))
      obtain ⟨h, v⟩ := e
      generalize txt (h, v) = u at ht
      simp only at ht
      subst ht
      exact wpAny_pure ⟨rfl, rfl, fun x hx => hm x (List.mem_cons_of_mem _ hx)⟩
    · rintro b1 s1 ⟨hb1, rfl, _⟩
      obtain ⟨b1, u1⟩ := b1
      simp only at hb1
      subst hb1
      exact wpAny_pure ⟨rfl, rfl, hr'⟩
  · rintro b s1 ⟨hb, rfl, _⟩
    obtain ⟨b, u⟩ := b
    simp only at hb
    subst hb
    exact wpAny_pure hQ

/-- the walk over a that fills f -/
theorem s_unseen {a f : Addr} {oa of : Obj} {xa xf : List Str} {Q : Array (Int × Value) → Shared → Prop} (ha : s.heap.get? a = some oa) (hA : SObj prog w oa xa) (hf : s.heap.get? f = some of) (hF : SObj prog w of xf) (hne : a ≠ f) (hsz : xf.length ≤ 1000)
    (h : ∀ es' h' dr' of', ElemsOf (PySem.strKind prog w) es'.toList → (es'.toList.map txt).Perm xa → Heap.SameBut f s.heap h' → h'.get? f = some of' → SObj prog w of' xf → Q es' { s with heap := h', drawn := dr' }) :
    wpAny (model prog w) A (setWalkUnseen a [f] (some f)) Q E s := by
  obtain ⟨es, ep, t, rfl, hel, rfl, hnd, hsa, hft, hl, hp⟩ := hA.open
  have done : wpAny (model prog w) A (setWalk a) Q E s := s_walk ha hft hl fun es' dr' p => h es' s.heap dr' _ (hel.perm p) (p.map txt) (Heap.SameBut.refl ..) hf hF
  unfold setWalkUnseen
  refine wpAny_bind (wpAny_setState_of ha rfl hft ?_)
  dsimp only
  refine byText_ ?_
  refine wpAny_ite_split (fun _ => ?_) fun hc => ?_
  · exact done
  refine wpAny_bind (s_quiet [a, f] ?_ ?_)
  · intro x hx
    simp only [List.mem_cons, List.not_mem_nil, or_false] at hx
    rcases hx with rfl | rfl
    · exact ⟨_, _, ha, hA⟩
    · exact ⟨_, _, hf, hF⟩
  simp only [Bool.not_true, Bool.false_eq_true, if_false]
  refine wpAny_bind (wpAny_rule ?_)
  obtain ⟨ef, epf, tf, rfl, hef, rfl, hnf, hsf, hff, hlf, hpf⟩ := hF.open
  refine wpAny_bind (wpAny_setState_of hf rfl hff ?_)
  dsimp only
  have key : ∀ h' of', Heap.SameBut f s.heap h' → h'.get? f = some of' → SObj prog w of' (ef.toList.map txt) → Q es { s with heap := h', drawn := s.drawn } := fun h' of' sb hg hS => h es h' s.drawn of' hel (List.Perm.refl _) sb hg hS
  refine wpAny_ite_split (fun _ => ?_) fun _ => ?_
  · refine wpAny_bind (store_setO hf (by rw [hsf, sizeLine_eq]; omega) fun h' sb hg => wpAny_pure (key h' _ sb hg (SObj.mk' hef hnf ?_ ?_ ?_)))
    · exact hff
    · intro b; show (tf.led && t.led) = true; rw [hlf b, hl b]; rfl
    · intro q; show (tf.plain && t.plain) = false; rw [hpf q]; rfl
  · first
      | exact wpAny_pure (key s.heap _ (Heap.SameBut.refl ..) hf hF)
      | exact wpAny_bind (wpAny_pure (wpAny_pure (key s.heap _ (Heap.SameBut.refl ..) hf hF)))
end
end Mine
end partSetF

section partSetG
open PySem PySem.W PySem.Spec PySem.Calls PyProof.Rows
namespace Mine
set_option maxRecDepth 100000
set_option maxHeartbeats 2000000
section
variable {prog : Program} {w : World} {A : Around} {E : Value → Shared → Prop} {s : Shared}

theorem s_add' {a : Addr} {o : Obj} {xs : List Str} {x : Str} {tk : Tok} {Q : Bool → Shared → Prop} (ho : s.heap.get? a = some o) (hS : SObj prog w o xs) (hroom : xs.length + 1 < scanBound)
    (h : ∀ h' o' xs' b, Heap.SameBut a s.heap h' → h'.get? a = some o' → SObj prog w o' xs' → (∀ y, y ∈ xs' ↔ y = x ∨ y ∈ xs) → xs'.length ≤ xs.length + 1 → Q b { s with heap := h' }) :
    wpAny (model prog w) A (setAddHashed a (.str x tk) (hashStr w x)) Q E s := by
  refine s_add ho hS hroom fun h' o' xs' b sb hg hS' hp => h h' o' xs' b sb hg hS' ?_ ?_
  · intro y
    rw [hp.mem_iff]
    split
    · rename_i hx
      exact ⟨.inr, fun q => q.elim (fun e => e ▸ hx) id⟩
    · exact List.mem_cons
  · rw [hp.length_eq]
    split
    · exact Nat.le_succ _
    · exact Nat.le_refl _

theorem SObj.nodup {o : Obj} {xs : List Str} (h : SObj prog w o xs) : xs.Nodup := let ⟨_, _, _, _, _, _, _, hn, _⟩ := h; hn

/-- a set filled from another, item by item -/
theorem s_merge {r a : Addr} {or oa : Obj} {xr xa : List Str} {id : String} {was : Nat} {Q : Unit → Shared → Prop} (hr : s.heap.get? r = some or) (hR : SObj prog w or xr) (ha : s.heap.get? a = some oa) (hA : SObj prog w oa xa) (hne : r ≠ a) (hxr : xr ≠ [])
    (hlen : xr.length + xa.length ≤ 120) (hwas : ∃ es t, oa = setO es was t)
    (h : ∀ h' o' xs', Heap.SameBut r s.heap h' → h'.get? r = some o' → SObj prog w o' xs' → (∀ y, y ∈ xs' ↔ y ∈ xa ∨ y ∈ xr) → xs'.length ≤ xr.length + xa.length → ∀ dr', Q () { s with heap := h', drawn := dr' }) :
    wpAny (model prog w) A (setMerge r a (Builtin.Frozenset.unchanged id a was)) Q E s := by
  obtain ⟨es, ep, t, rfl, hel, rfl, hnd, hsz, hf, hl, hp⟩ := hA.open
  have hwas' : was = ep := by
    obtain ⟨es', t', e⟩ := hwas
    have := congrArg Obj.data e
    simp at this
    exact this.2.1.symm
  subst hwas'
  unfold setMerge
  rw [if_neg (by simpa using hne)]
  refine wpAny_bind (wpAny_setState_of ha rfl hf ?_)
  dsimp only
  refine wpAny_ite_split (fun hc => ?_) fun hc => ?_
  · have : es = #[] := by simpa using hc
    subst this
    exact wpAny_pure (h s.heap or xr (Heap.SameBut.refl ..) hr hR (fun y => by simp) (by simp) s.drawn)
  have hx0 : es.size ≠ 0 := by simpa using hc
  -- room
  have room : ∀ {Q' : Unit → Shared → Prop}, (∀ h1 o1 xr1, Heap.SameBut r s.heap h1 → h1.get? r = some o1 → SObj prog w o1 xr1 → xr1.Perm xr → Q' () { s with heap := h1 }) → wpAny (model prog w) A (setRoomFor r es.size) Q' E s := by
    intro Q' hq
    obtain ⟨er, epr, tr, rfl, her, rfl, hnr, hsr, hfr, hlr, hpr⟩ := hR.open
    unfold setRoomFor
    refine wpAny_bind (wpAny_setState_of hr rfl hfr ?_)
    dsimp only
    have hplace := fits_place hfr
    by_cases hc : (tr.fill + es.size) * 5 ≥ tr.mask * 3
    · have : tr.roomFor es.size = some ((tr.place.size + es.size) * 2) := if_pos hc
      rw [this]
      dsimp only
      have hxl : er.size = (er.toList.map txt).length := hsr
      have hw1 : (tr.place.size + es.size) * 2 < 256 := by rw [hplace]; omega
      have hw2 : er.size ≤ (tr.place.size + es.size) * 2 := by rw [hplace]; omega
      refine s_relay hr hfr hw1 hw2 fun h1 es1 ep1 t1 sb hg p1 p2 p3 p4 p5 p6 p7 p8 => ?_
      refine hq h1 _ (es1.toList.map txt) sb hg (SObj.mk' (her.perm p1) ((p1.map txt).nodup_iff.mpr hnr) p3 (fun b => by rw [p4]; exact hlr b) fun q => by rw [p5]; exact hpr (by rw [← p2]; exact q)) (p1.map txt)
    · have : tr.roomFor es.size = none := if_neg hc
      rw [this]
      exact wpAny_pure (hq s.heap _ _ (Heap.SameBut.refl ..) hr hR (List.Perm.refl _))
  refine wpAny_bind (room fun h1 o1 xr1 sb1 hg1 hS1 hp1 => ?_)
  have ha1 : h1.get? a = some (setO es was t) := (sb1.2 a (Ne.symm hne)).trans ha
  obtain ⟨er, epr, tr, rfl, her, rfl, hnr, hsr, hfr, hlr, hpr⟩ := hS1.open
  have hrl := hp1.length_eq
  have hr0 : er.size ≠ 0 := by
    rw [hsr, hrl]; intro e; exact hxr (List.length_eq_zero_iff.mp e)
  refine wpAny_bind (wpAny_setState_of (s := { s with heap := h1 }) hg1 rfl hfr ?_)
  dsimp only
  have hroad : tr.road t = .oneByOne := by
    unfold SetTable.road SetTable.fill
    rw [fits_place hfr, if_pos (by rw [bne_iff_ne]; intro e; exact hr0 (Nat.eq_zero_of_add_eq_zero_right e))]
  rw [hroad]
  dsimp only
  refine wpAny_bind (s_unseen (s := { s with heap := h1 }) ha1 hA hg1 hS1 (Ne.symm hne) (by omega) fun es2 h2 dr2 o2 hel2 hp2 sb2 hg2 hS2 => ?_)
  dsimp only at sb2
  have ha2 : h2.get? a = some (setO es was t) := (sb2.2 a (Ne.symm hne)).trans ha1
  have hlen2 : es2.size = es.size := by
    have := hp2.length_eq
    simpa using this
  refine wpAny_bind (PySem.MeetsSeq2.wpAny_forIn_array _ (fun l _ s' => ∃ h3 o3 xs3 pre, s' = { s with heap := h3, drawn := dr2 } ∧ es2.toList = pre ++ l ∧ Heap.SameBut r s.heap h3 ∧ h3.get? r = some o3 ∧ SObj prog w o3 xs3 ∧
      (∀ y, y ∈ xs3 ↔ y ∈ pre.map txt ∨ y ∈ er.toList.map txt) ∧ xs3.length ≤ er.size + pre.length) _ ?_ ?_ es2 _ ⟨h2, o2, _, [], rfl, rfl, sb1.trans sb2, hg2, hS2, fun y => by simp, by simp⟩)
  · rintro ⟨hsh, x⟩ rest b s' ⟨h3, o3, xs3, pre, rfl, hpre, sb3, hg3, hS3, hm3, hl3⟩
    have hmem : (hsh, x) ∈ es2.toList := by rw [hpre]; exact List.mem_append_right _ (List.mem_cons_self ..)
    obtain ⟨⟨tk, ht⟩, hh⟩ := elem_txt hel2 hmem
    have hpl : pre.length + (rest.length + 1) = es2.size := by
      have := congrArg List.length hpre
      simpa using this.symm
    have hel' : es.size = (es.toList.map txt).length := hsz
    have her' : er.size = (er.toList.map txt).length := hsr
    generalize hx : txt (hsh, x) = u at ht hh
    simp only at ht hh
    subst ht hh
    have ha3 : h3.get? a = some (setO es was t) := (sb3.2 a (Ne.symm hne)).trans ha
    refine wpAny_bind (wpAny_holding (s_add' (s := { s with heap := h3, drawn := dr2 }) hg3 hS3 (by unfold scanBound; omega) fun h4 o4 xs4 b4 sb4 hg4 hS4 hm4 hl4 => ?_))
    dsimp only at sb4
    have ha4 : h4.get? a = some (setO es was t) := (sb4.2 a (Ne.symm hne)).trans ha3
    refine wpAny_bind ?_
    unfold Builtin.Frozenset.unchanged
    refine wpAny_bind (wpAny_setEpoch_of (s := { s with heap := h4, drawn := dr2 }) ha4 rfl hf ?_)
    rw [if_neg (by simp)]
    refine wpAny_pure ?_
    refine wpAny_bind (wpAny_setState_of (s := { s with heap := h4, drawn := dr2 }) ha4 rfl hf ?_)
    dsimp only
    rw [if_neg (by simp)]
    refine wpAny_pure ⟨h4, o4, xs4, pre ++ [(hashStr w u, .str u tk)], rfl, by rw [hpre]; simp, sb3.trans sb4, hg4, hS4, ?_, by rw [List.length_append, List.length_singleton]; omega⟩
    intro y
    rw [hm4, hm3, List.map_append, List.mem_append]
    have : txt (hashStr w u, Value.str u tk) = u := rfl
    simp only [List.map_cons, List.map_nil, List.mem_singleton, this]
    constructor
    · rintro (rfl | q | q)
      · exact .inl (.inr rfl)
      · exact .inl (.inl q)
      · exact .inr q
    · rintro ((q | rfl) | q)
      · exact .inr (.inl q)
      · exact .inl rfl
      · exact .inr (.inr q)
  · rintro b s' ⟨h3, o3, xs3, pre, rfl, hpre, sb3, hg3, hS3, hm3, hl3⟩
    refine wpAny_pure (h h3 o3 xs3 sb3 hg3 hS3 (fun y => ?_) ?_ dr2)
    · rw [hm3, ← hp1.mem_iff, ← hp2.mem_iff, hpre, List.append_nil]
    · have hpl : pre.length = es2.size := by
        have := congrArg List.length hpre
        simpa using this.symm
      omega
end
end Mine
namespace Mine
section
variable {prog : Program} {w : World} {A : Around} {E : Value → Shared → Prop} {s : Shared}
theorem sub_set_set : isSubtype (.type "set") (.type "set") = pure true := by rw [isSubtype_type]; kernel_rfl

theorem newSet_by {Q : Value → Shared → Prop} (h : Q (.ref s.heap.objs.size) { s with heap := s.heap.push (setO #[] 0 (.fresh 0 0 (!byT w))) }) : wpAny (model prog w) A (newSet (.type "set")) Q E s := by
  unfold newSet
  refine wpAny_bind ?_
  refine byText_ (wpAny_pure ?_)
  dsimp only
  exact wpAny_newObj_type h

theorem anySet_ {a : Addr} {Q : Bool → Shared → Prop} (hT : s.TypeIs (.ref a) "set") (h : Q true s) : wpAny (model prog w) A (Builtin.Frozenset.isAnySet (.ref a)) Q E s := by
  unfold Builtin.Frozenset.isAnySet
  refine wpAny_bind (wpAny_isInstance hT sub_set_set ?_)
  exact wpAny_pure h

theorem s_or {h₀ : Heap} {L : Addr} {m : Str → Option Value} {news : List (Addr × Obj)} {a b : Addr} {oa ob : Obj} {xa xb : List Str} {Q : Value → Shared → Prop}
    (F : Fr h₀ L s.heap m) (N : News h₀ L s.heap news) (ha : s.heap.get? a = some oa) (hA : SObj prog w oa xa) (hb : s.heap.get? b = some ob) (hB : SObj prog w ob xb) (hne : a ≠ b) (hxa : xa ≠ []) (hlen : xa.length + xb.length ≤ 100)
    (h : ∀ D h' dr' o' xs, Fr h₀ L h' m → News h₀ L h' ((D, o') :: news) → (∀ p ∈ news, p.1 < D) → SObj prog w o' xs → (∀ y, y ∈ xs ↔ y ∈ xa ∨ y ∈ xb) → xs.length ≤ xa.length + xb.length → Q (.ref D) { s with heap := h', drawn := dr' }) :
    wpAny (model prog w) A (binaryOp .BitOr (.ref a) (.ref b)) Q E s := by
  have hTa : s.TypeIs (.ref a) "set" := ⟨oa, ha, by obtain ⟨_, _, _, hex, _⟩ := hA; exact hex.1⟩
  have hTb : s.TypeIs (.ref b) "set" := ⟨ob, hb, by obtain ⟨_, _, _, hex, _⟩ := hB; exact hex.1⟩
  refine wpAny_binaryOp_same hTa hTb PySem.F.fills_set_or PySem.F.slot_set_or (wpAny_call_entry PySem.F.slot_set_or hTa entry_set_or ?_ (PySem.F.args_set_or_2 _ _))
  show wpAny _ _ (Builtin.Frozenset.slot1 "__or__" ⟨[.ref a, .ref b], []⟩ >>= _) _ _ _
  unfold Builtin.Frozenset.slot1 slotArgs
  refine wpAny_bind (wpAny_bind (wpAny_pure (wpAny_pure ?_)))
  refine wpAny_bind (wpAny_bind (anySet_ hTa (anySet_ hTb ?_)))
  refine wpAny_ite_split (fun hc => absurd hc (by decide)) fun _ => ?_
  refine wpAny_bind (m := Builtin.Frozenset.addrOf (.ref a)) (wpAny_pure ?_)
  refine wpAny_bind ?_
  show wpAny _ _ (Builtin.Frozenset.copyOf a >>= _) _ _ _
  refine wpAny_bind ?_
  unfold Builtin.Frozenset.copyOf
  refine wpAny_bind ?_
  unfold Builtin.Frozenset.baseOf
  refine wpAny_bind (wpAny_isInstance hTa sub_set_set (wpAny_pure ?_))
  simp only [if_true]
  refine wpAny_bind (newSet_by ?_)
  refine wpAny_bind (m := Builtin.Frozenset.addrOf (.ref s.heap.objs.size)) (wpAny_pure ?_)
  have hn := Heap.get?_push_size s.heap (o := setO #[] 0 (.fresh 0 0 (!byT w))) rfl
  have ha1 := Heap.get?_push_of_some (setO #[] 0 (.fresh 0 0 (!byT w))) ha
  have hb1 := Heap.get?_push_of_some (setO #[] 0 (.fresh 0 0 (!byT w))) hb
  have nea : s.heap.objs.size ≠ a := Nat.ne_of_gt (Heap.lt_size ha)
  have neb : s.heap.objs.size ≠ b := Nat.ne_of_gt (Heap.lt_size hb)
  refine wpAny_bind (s_copy (s := { s with heap := s.heap.push (setO #[] 0 (.fresh 0 0 (!byT w))) }) hn ha1 hA nea hxa (by omega) fun h1 o1 x1 sb1 hg1 hS1 hp1 => ?_)
  dsimp only at sb1
  refine wpAny_pure ?_
  rw [if_pos (by simp; exact Ne.symm hne)]
  have hb2 : h1.get? b = some ob := (sb1.2 b (Ne.symm neb)).trans hb1
  have hl1 := hp1.length_eq
  have x1ne : x1 ≠ [] := by
    intro e
    rw [e] at hl1
    exact hxa (List.length_eq_zero_iff.mp hl1.symm)
  have hob : ∃ es ep t, ob = setO es ep t := by obtain ⟨es, ep, t, e, _⟩ := hB.open; exact ⟨es, ep, t, e⟩
  obtain ⟨eb, epb, tb, eob⟩ := hob
  have hfb : tb.fits eb.size = true := by
    obtain ⟨es, ep, t, e, _, _, _, _, hf, _⟩ := hB.open
    rw [eob] at e
    have := congrArg Obj.data e
    simp at this
    obtain ⟨rfl, rfl, rfl⟩ := this
    exact hf
  refine wpAny_bind (m := Builtin.Frozenset.addrOf (.ref s.heap.objs.size)) (wpAny_pure ?_)
  refine wpAny_bind (wpAny_holding ?_)
  unfold Builtin.Frozenset.updateFrom
  refine wpAny_bind (anySet_ (s := { s with heap := h1 }) ⟨ob, hb2, by obtain ⟨_, _, _, hex, _⟩ := hB; exact hex.1⟩ ?_)
  simp only [if_true]
  refine wpAny_bind (m := Builtin.Frozenset.addrOf (.ref b)) (wpAny_pure ?_)
  unfold Builtin.Frozenset.merge
  refine wpAny_bind (wpAny_setEpoch_of (s := { s with heap := h1 }) (hb2.trans (by rw [eob])) rfl hfb ?_)
  refine s_merge (s := { s with heap := h1 }) hg1 hS1 hb2 hB neb x1ne (by omega) ⟨eb, tb, eob⟩ fun h2 o2 x2 sb2 hg2 hS2 hm2 hl2 dr2 => ?_
  dsimp only at sb2
  have hk : ∀ b' o', s.heap.get? b' = some o' → h2.get? b' = some o' := fun b' o' e => by
    have q : b' ≠ s.heap.objs.size := Nat.ne_of_lt (Heap.lt_size e)
    exact (sb2.2 b' q).trans ((sb1.2 b' q).trans (Heap.get?_push_of_some _ e))
  refine wpAny_pure (wpAny_pure ⟨_, rfl, (fun e => nomatch e), h s.heap.objs.size h2 dr2 o2 x2 (frk F hk) (nw_new F N hk hg2 (Nat.le_refl _)) (fun p hp => Heap.lt_size (N p hp).1) hS2 (fun y => ?_) (by omega)⟩)
  rw [hm2, hp1.mem_iff, or_comm]
end
end Mine
end partSetG

section partSetH
open PySem PySem.W PySem.Spec PySem.Calls PyProof.Rows
namespace Mine
set_option maxRecDepth 100000
set_option maxHeartbeats 2000000

theorem str_at {vs : List Value} {ys : List Str} (h : StrsAre vs ys) {i : Nat} {v : Value} (hv : vs[i]? = some v) : ∃ y tk, ys[i]? = some y ∧ v = .str y tk := by
  have hl := StrsAre.length h
  have hi : i < vs.length := by
    rcases Nat.lt_or_ge i vs.length with q | q
    · exact q
    · rw [List.getElem?_eq_none q] at hv; cases hv
  have hy : ys[i]? = some ys[i] := List.getElem?_eq_getElem (by omega)
  obtain ⟨tk, ht⟩ := StrsAre.get h i _ hy
  rw [hv] at ht
  exact ⟨_, tk, hy, Option.some.inj ht⟩

theorem compTurn_set1 (elt target iter : PySem.Expr) (scope : Scope) (pos : Pos) (it acc : Value) (env : Env) :
    compTurn (.SetComp elt [⟨target, iter, [], 0⟩] scope pos) 0 it acc env = (standAt iter.pos >>= fun _ => pyNext it >>= fun r => match r with
      | none => pure (.done .next)
      | some v => letOwnedTupleGo target it v >>= fun _ => assign target env v >>= fun _ =>
        (eval elt env >>= fun x => standAt elt.pos >>= fun _ => call (.builtin "set.add") [acc, x] >>= fun _ => pure ()) >>= fun _ =>
          again (.compLoop (.SetComp elt [⟨target, iter, [], 0⟩] scope pos) 0 it acc env)) := by rfl
section
variable {prog : Program} {w : World} {A : Around} {E : Value → Shared → Prop} {s : Shared} {R : Result → Shared → Prop}

theorem s_call_add {a : Addr} {o : Obj} {xs : List Str} {x : Str} {tk : Tok} {Q : Value → Shared → Prop} (ho : s.heap.get? a = some o) (hS : SObj prog w o xs) (hroom : xs.length + 1 < scanBound)
    (h : ∀ h' o' xs', Heap.SameBut a s.heap h' → h'.get? a = some o' → SObj prog w o' xs' → (∀ y, y ∈ xs' ↔ y = x ∨ y ∈ xs) → xs'.length ≤ xs.length + 1 → Q .none { s with heap := h', toks := s.toks + 1 }) :
    wpAny (model prog w) A (call (.builtin "set.add") [.ref a, .str x tk]) Q E s := by
  have hT : s.TypeIs (.ref a) "set" := ⟨o, ho, by obtain ⟨_, _, _, hex, _⟩ := hS; exact hex.1⟩
  refine wpAny_call_entry PySem.F.slot_set_add hT PySem.F.entry_set_add ?_ (PySem.F.args_set_add_2 _ _)
  unfold Builtin.«set.add» Builtin.Frozenset.oneOther
  simp only [List.isEmpty_nil, bind_assoc]
  refine wpAny_bind (m := Builtin.Frozenset.addrOf (.ref a)) (wpAny_pure ?_)
  try simp only [pure_bind]
  refine wpAny_bind ?_
  unfold setAdd
  refine wpAny_holding (wpAny_bind (wpAny_pyHash_str ?_))
  refine s_add' (s := { s with toks := s.toks + 1 }) ho hS hroom fun h' o' xs' b sb hg hS' hm hl => ?_
  exact wpAny_pure ⟨_, rfl, h h' o' xs' sb hg hS' hm hl⟩

theorem codeAny_compStart_set {elt target iter ifs rest scope pos it acc env}
    (h0 : codeAny (model prog w) A (.compLoop (.SetComp elt (⟨target, iter, ifs, 0⟩ :: rest) scope pos) 0 it acc env) R s)
    (h : wpAny (model prog w) A (pyIter it) (fun it' s' => codeAny (model prog w) A (.compLoop (.SetComp elt (⟨target, iter, ifs, 0⟩ :: rest) scope pos) 0 it' acc env) R s')
      (notedBy (model prog w) A env fun x s' => R (.error x) s') s) :
    codeAny (model prog w) A (.compStart (.SetComp elt (⟨target, iter, ifs, 0⟩ :: rest) scope pos) 0 it acc env) R s := by
  refine codeAny_of_tree ?_
  show wpAny _ A ((compStart (.SetComp elt (⟨target, iter, ifs, 0⟩ :: rest) scope pos) 0 it acc env).onRaise (fun x => do noteFrame x env; standAt theWindowsPlace)) _ _ s
  refine wpAny_notedAt ?_
  unfold compStart
  show wpAny _ A (ask >>= _) _ _ s
  refine wpAny_bind (wpAny_askSetting (wpAny_ite ?_))
  split
  · exact wpAny_bind (wpAny_pure (wpAny_pure ⟨rfl, h0⟩))
  · refine wpAny_bind (wpAny_rule ?_)
    show wpAny _ _ (standAt iter.pos >>= _) _ _ s
    exact wpAny_bind (wpAny_standAt (wpAny_bind (wpAny_mono h (fun it' s' h' => wpAny_pure ⟨rfl, h'⟩) fun _ _ x => x)))

theorem codeAny_compLoop_set {elt target iter : PySem.Expr} {scope : Scope} {pos : Pos} {it acc : Value} {env : Env} (I : Nat → Shared → Prop)
    (turn : ∀ n s, I n s → wpAny (model prog w) A (pyNext it) (fun r s₁ => match r with
      | none => R (.ok .next) s₁
      | some v => wpAny (model prog w) A (assign target env v) (fun _ s₂ => wpAny (model prog w) A (eval elt env) (fun x s₃ =>
          wpAny (model prog w) A (call (.builtin "set.add") [acc, x]) (fun _ s₄ => ∃ m, m < n ∧ I m s₄) (notedBy (model prog w) A env fun e s' => R (.error e) s') s₃)
          (notedBy (model prog w) A env fun e s' => R (.error e) s') s₂) (notedBy (model prog w) A env fun e s' => R (.error e) s') s₁) (notedBy (model prog w) A env fun e s' => R (.error e) s') s)
    (n : Nat) (h : I n s) (ht : ∀ v, letOwnedTupleGo target it v = pure () := by intro _; rfl) :
    codeAny (model prog w) A (.compLoop (.SetComp elt [⟨target, iter, [], 0⟩] scope pos) 0 it acc env) R s := by
  refine codeAny_loop rfl I (fun n s hI => ?_) n h
  show wpAny _ _ ((compTurn (.SetComp elt [⟨target, iter, [], 0⟩] scope pos) 0 it acc env).onRaise (fun x => do noteFrame x env; theTreesLotGoes x)) _ _ s
  refine wpAny_noted ?_
  rw [compTurn_set1]
  refine wpAny_bind (wpAny_standAt (wpAny_bind (wpAny_mono (turn n s hI) (fun r s₁ h₁ => ?_) fun _ _ h' => h')))
  cases r with
  | none => exact wpAny_pure h₁
  | some v =>
    refine wpAny_bind (wpAny_of_eq (ht v) ?_)
    exact wpAny_bind (wpAny_mono h₁ (fun _ s₂ h₂ => wpAny_bind (wpAny_bind (wpAny_mono h₂ (fun x s₃ h₃ => wpAny_bind (wpAny_standAt (wpAny_bind (wpAny_mono h₃
      (fun _ s₄ h₄ => wpAny_pure (wpAny_pure ⟨rfl, h₄⟩)) fun _ _ h' => h')))) fun _ _ h' => h'))) fun _ _ h' => h')

theorem s_comp {env : Env} {elt iter : PySem.Expr} {x : Str} {px : Pos} {scope : Scope} {cl : List (Str × Addr)} {pos : Pos} {Q : Value → Shared → Prop} (f : Str → Str)
    (hh : A.handled = none) (hclos : closureFor scope env = pure cl) (hcell : ∀ y ∈ scope.names, y.2 ≠ .cell) (hkind : scope.kind = .function)
    (hnames : ∀ y ∈ scope.names, y.2 = .local → scope.names.lookup y.1 = some .local) (hx : scope.names.lookup x = some .local)
    (h : wpAny (model prog w) A (eval iter env) (fun v s₁ => ∃ a o xs, v = .ref a ∧ s₁.heap.get? a = some o ∧ SObj prog w o xs ∧ xs.length ≤ 1000 ∧
      (∀ C s₃ m₃ y tk E', y ∈ xs → s₁.heap.objs.size ≤ C → s₃.heap.Ns C m₃ → m₃ x = some (.str y tk) → (∀ b o, s₁.heap.get? b = some o → s₃.heap.get? b = some o) →
        wpAny (model prog w) A (eval elt (compEnvC scope cl C env)) (fun r s₄ => (∃ tk, r = .str (f y) tk) ∧ Keeps s₃ s₄) E' s₃) ∧
      (∀ D h' dr' tk' o' zs, s₁.heap.objs.size ≤ D → h'.get? D = some o' → (∀ b o, s₁.heap.get? b = some o → h'.get? b = some o) → SObj prog w o' zs → (∀ z, z ∈ zs ↔ ∃ y ∈ xs, z = f y) → zs.length ≤ xs.length →
        Q (.ref D) { s₁ with heap := h', drawn := dr', toks := tk' })) E s)
    (hs : ∀ x, foldedSetIterable iter env x = pure x := by intro _; rfl) :
    wpAny (model prog w) A (eval (.SetComp elt [⟨.Name x px, iter, [], 0⟩] scope pos) env) Q E s := by
  rw [arm_eval_SetComp]
  refine wpAny_comprehension_free (use := none) rfl hs hclos hkind hnames (wpAny_mono h (fun v s₁ h₁ => ?_) fun _ _ e => e)
  obtain ⟨a, o, xs, rfl, ho, hS, hlen, helt, hQ⟩ := h₁
  refine s_iter ho hS (by unfold scanBound; omega) fun I H dr' vs ys fp St hIle hI hk hfp W st hvl hst hp => ?_
  refine newSet_by ?_
  refine wpAny_newFunctionEnv hcell (by intro y hy; simp at hy) (fun h₁ hns₁ hsb₁ => ?_) hkind
  dsimp only at hns₁ hsb₁ ⊢
  -- D = H.objs.size, C = D + 1
  have hDn := Heap.get?_push_size H (o := setO #[] 0 (.fresh 0 0 (!byT w))) rfl
  have hCs : (H.push (setO #[] 0 (.fresh 0 0 (!byT w)))).objs.size = H.objs.size + 1 := size_push' _ _
  have hHle : s₁.heap.objs.size ≤ H.objs.size := Nat.le_of_lt (Nat.lt_of_le_of_lt hIle hI)
  generalize hC : (H.push (setO #[] 0 (.fresh 0 0 (!byT w)))).objs.size = C at hns₁ hsb₁ ⊢
  rw [hC] at hCs
  have hDC : H.objs.size ≠ C := by rw [hCs]; exact Nat.ne_of_lt (Nat.lt_succ_self _)
  have old₁ : ∀ b o, H.get? b = some o → h₁.get? b = some o := fun b o e =>
    hsb₁.extBut b o (by rw [hCs]; exact Nat.ne_of_lt (Nat.lt_succ_of_lt (Heap.lt_size e))) (Heap.get?_push_of_some _ (Heap.get?_push_of_some _ e))
  have hD₁ : h₁.get? H.objs.size = some (setO #[] 0 (.fresh 0 0 (!byT w))) := hsb₁.extBut _ _ hDC (Heap.get?_push_of_some _ hDn)
  have hDf : H.objs.size ∉ fp := fun hm => Nat.lt_irrefl _ (hfp _ hm).1
  have hCf : C ∉ fp := fun hm => by have := (hfp _ hm).1; rw [hCs] at this; exact absurd (Nat.lt_of_succ_lt this) (Nat.lt_irrefl _)
  have hIC : I ≠ C := by rw [hCs]; exact Nat.ne_of_lt (Nat.lt_succ_of_lt hI)
  have hID : I ≠ H.objs.size := Nat.ne_of_lt hI
  have W1 := W A hh
  have st₁ : St 0 h₁ := W1.frame _ _ _ st fun b _ o e => old₁ b o e
  have hyl : ys.length = xs.length := hp.length_eq
  have loop : codeAny (model prog w) A (.compLoop (.SetComp elt [⟨.Name x px, iter, [], 0⟩] scope pos) 0 (.ref I) (.ref H.objs.size) (compEnvC scope cl C env))
      (compPost (model prog w) A E none Q (.ref H.objs.size) C) { s₁ with heap := h₁, drawn := dr', toks := s₁.toks + ([] : List (Str × Value)).length } := by
    refine codeAny_compLoop_set (fun k s' => ∃ h' tk i oD zs m', s' = { s₁ with heap := h', drawn := dr', toks := tk } ∧ i ≤ xs.length ∧ k = xs.length + 1 - i ∧ St i h' ∧ h'.get? H.objs.size = some oD ∧ SObj prog w oD zs ∧
        (∀ z, z ∈ zs ↔ ∃ y ∈ ys.take i, z = f y) ∧ zs.length ≤ i ∧ h'.Ns C m' ∧ ∀ b o, s₁.heap.get? b = some o → h'.get? b = some o) ?_ (xs.length + 1)
      ⟨h₁, _, 0, _, [], _, rfl, Nat.zero_le _, rfl, st₁, hD₁, ⟨#[], 0, _, ⟨rfl, rfl, rfl⟩, rfl, fun e he => by simp at he, rfl, List.nodup_nil, rfl, fun b => by rw [b]; rfl, fun q => absurd rfl q⟩, fun z => by simp, Nat.le_refl _, hns₁, fun b o e => old₁ b o (hk b o e)⟩
    rintro k s' ⟨h', tk, i, oD, zs, m', rfl, hi, rfl, st', hD', hS', hm', hl', hn', hk'⟩
    by_cases hlt : i < xs.length
    · refine W1.item i _ _ _ hlt st' fun v h₂ tk₂ hv st₂ hk₂ => ?_
      obtain ⟨y, tk', hy, rfl⟩ := str_at hst hv
      have hyx : y ∈ xs := hp.mem_iff.mp (List.mem_of_getElem? hy)
      refine wpAny_assign_Name (wpAny_storeName_local (lookup_relabel_local hx) (hn'.at' fun o e => hk₂ _ o (by simpa using Ne.symm hIC) e) (fun h₃ hn₃ hs₃ => ?_) (by simp [compEnvC, relabel, hkind]))
      dsimp only at hs₃
      have st₃ : St (i + 1) h₃ := W1.frame _ _ _ st₂ fun b hb o e => hs₃.extBut b o (fun q => hCf (by have q' : b = C := q; rw [← q']; exact hb)) e
      have hk₃ : ∀ b o, s₁.heap.get? b = some o → h₃.get? b = some o := fun b o e => by
        have hb := Nat.lt_of_lt_of_le (Heap.lt_size e) hHle
        refine hs₃.extBut b o (by rw [show (compEnvC scope cl C env).locals = C from rfl, hCs]; exact Nat.ne_of_lt (Nat.lt_succ_of_lt hb)) (hk₂ b o ?_ (hk' b o e))
        intro q
        rw [List.mem_singleton.mp q] at e
        exact absurd (Heap.lt_size e) (Nat.not_lt.mpr hIle)
      refine wpAny_mono (helt C _ _ y tk' _ hyx (by rw [hCs]; exact Nat.le_succ_of_le hHle) hn₃ (by simp) hk₃) (fun r s₄ hr => ?_) fun _ _ e => e
      obtain ⟨⟨tk₄, rfl⟩, h₄, tk₅, rfl, hk₄⟩ := hr
      dsimp only at hk₄
      have hD₄ : h₄.get? H.objs.size = some oD := hk₄ _ _ (hs₃.extBut _ _ hDC (hk₂ _ _ (by simpa using Ne.symm hID) hD'))
      refine s_call_add (s := { s₁ with heap := h₄, drawn := dr', toks := tk₅ }) hD₄ hS' (by unfold scanBound; omega) fun h₅ oD' zs' sb₅ hD₅ hS₅ hm₅ hl₅ => ?_
      dsimp only at sb₅
      have hns₄ : h₄.Ns C _ := hn₃.at' fun o e => hk₄ _ o e
      refine ⟨xs.length + 1 - (i + 1), by omega, h₅, _, i + 1, oD', zs', _, rfl, hlt, rfl, ?_, hD₅, hS₅, ?_, by omega, hns₄.sameBut sb₅ (Ne.symm hDC), ?_⟩
      · exact W1.frame _ _ _ st₃ fun b hb o e => (sb₅.2 b (fun q => hDf (by rw [← q]; exact hb))).trans (hk₄ b o e)
      · intro z
        rw [hm₅, hm', List.take_succ, hy]
        simp only [Option.toList, List.mem_append, List.mem_singleton]
        constructor
        · rintro (rfl | ⟨u, hu, rfl⟩)
          · exact ⟨y, .inr rfl, rfl⟩
          · exact ⟨u, .inl hu, rfl⟩
        · rintro ⟨u, hu | rfl, rfl⟩
          · exact .inr ⟨u, hu, rfl⟩
          · exact .inl rfl
      · intro b o e
        exact (sb₅.2 b (Nat.ne_of_lt (Nat.lt_of_lt_of_le (Heap.lt_size e) hHle))).trans (hk₄ b o (hk₃ b o e))
    · have hin : i = xs.length := by omega
      subst hin
      refine W1.done _ _ _ st' fun h₂ tk₂ hk₂ => ?_
      refine ⟨m', hn'.at' fun o e => hk₂ _ o (by simpa using Ne.symm hIC) e, fun h'' hs'' => ?_⟩
      dsimp only at hs''
      refine hQ H.objs.size h'' dr' tk₂ oD zs hHle (hs''.extBut _ _ hDC (hk₂ _ _ (by simpa using Ne.symm hID) hD')) ?_ hS' ?_ hl'
      · intro b o e
        have hb := Nat.lt_of_lt_of_le (Heap.lt_size e) hHle
        refine hs''.extBut b o (by rw [hCs]; exact Nat.ne_of_lt (Nat.lt_succ_of_lt hb)) (hk₂ b o ?_ (hk' b o e))
        intro q
        rw [List.mem_singleton.mp q] at e
        exact absurd (Heap.lt_size e) (Nat.not_lt.mpr hIle)
      · intro z
        rw [hm', List.take_of_length_le (by omega)]
        constructor
        · rintro ⟨y, hy, rfl⟩; exact ⟨y, hp.mem_iff.mp hy, rfl⟩
        · rintro ⟨y, hy, rfl⟩; exact ⟨y, hp.mem_iff.mpr hy, rfl⟩
  exact codeAny_compStart_set loop (W1.self 0 _ _ _ st₁ loop)
end
end Mine
end partSetH

section partSetI
open PySem PySem.W PySem.Spec PySem.Calls PyProof.Rows
namespace Mine
set_option maxRecDepth 100000
set_option maxHeartbeats 2000000
section
variable {prog : Program} {w : World} {A : Around} {E : Value → Shared → Prop} {s : Shared}

theorem SObj.objOf {o : Obj} {xs : List Str} (h : SObj prog w o xs) : o.SetObjOf (PySem.strKind prog w) (fun k => decide (k ∈ xs)) xs.length := by
  obtain ⟨es, ep, t, hex, hd, hel, rfl, hnd, hf, hl, hp⟩ := h
  refine ⟨hex, es, ep, t, hd, hel, fun k => ?_, by simp, hf⟩
  rw [decide_eq_true_eq]
  constructor
  · intro hk
    obtain ⟨e, he, rfl⟩ := List.mem_map.mp hk
    exact ⟨e, he, by rw [is_txt hel he]; simp⟩
  · rintro ⟨e, he, hk⟩
    rw [is_txt hel he, decide_eq_true_eq] at hk
    exact List.mem_map.mpr ⟨e, he, hk.symm⟩

theorem s_in {a : Addr} {o : Obj} {xs : List Str} {x : Str} {tk : Tok} {Q : Value → Shared → Prop} (ho : s.heap.get? a = some o) (hS : SObj prog w o xs) (hlen : xs.length < 1000) (h : Q (.bool (decide (x ∈ xs))) { s with toks := s.toks + 1 }) :
    wpAny (model prog w) A (compareOp .In (.str x tk) (.ref a)) Q E s :=
  wpAny_inSet_of (knd := PySem.strKind prog w) (k := x) (strKind_is prog w x tk) rfl (hS.objOf.setOf ho (by unfold scanBound; omega)) h

theorem s_display1 {K : Frag} {e : PySem.Expr} {x : Str} {pos : Pos} {env : Env} {Q : Value → Shared → Prop} (X : K.In s.heap) (hc : kdsCode K env.code = true) (hp : kdsPlain e = true)
    (he : ∀ (s' : Shared) (Q' : Value → Shared → Prop), (∀ tk tk', Q' (.str x tk) { s' with toks := tk' }) → wpAny (model prog w) A (eval e env) Q' E s')
    (h : ∀ D h' tk' o', s.heap.objs.size ≤ D → (∀ b o, s.heap.get? b = some o → h'.get? b = some o) → h'.get? D = some o' → SObj prog w o' [x] → Q (.ref D) { s with heap := h', toks := tk' }) :
    wpAny (model prog w) A (eval (.Set [e] 0 pos) env) Q E s := by
  rw [arm_eval_Set]
  refine wpAny_bind (wpAny_standAt ?_)
  refine wpAny_bind (kds_main X hc fun b => ?_)
  rw [kds_star [e] (by simp [hp])]
  unfold setDisplay
  have d1 : (displayRoad 0 [e] == DisplayRoad.constants) = false := rfl
  have d2 : (displayRoad 0 [e] == DisplayRoad.unsure) = false := rfl
  rw [d1, d2]
  simp only [Bool.false_eq_true, if_false]
  refine wpAny_bind (newSet_by ?_)
  dsimp only
  refine wpAny_bind (wpAny_holding ?_)
  show wpAny _ _ (evalAll [do let v ← eval e env; standAt pos; pure v] >>= _) _ _ _
  refine wpAny_bind ?_
  show wpAny _ _ ((eval e env >>= fun v => standAt pos >>= fun _ => pure v) >>= fun v => holding [v] (evalAll []) >>= fun r => pure (v :: r)) _ _ _
  refine wpAny_bind (wpAny_bind (he _ _ fun tk tk' => ?_))
  refine wpAny_bind (wpAny_standAt (wpAny_pure ?_))
  refine wpAny_bind (wpAny_holding (wpAny_pure (wpAny_pure ?_)))
  have hn := Heap.get?_push_size s.heap (o := setO #[] 0 (.fresh 0 0 (!byT w))) rfl
  have hS0 : SObj prog w (setO #[] 0 (.fresh 0 0 (!byT w))) [] := ⟨#[], 0, _, ⟨rfl, rfl, rfl⟩, rfl, fun e he => by simp at he, rfl, List.nodup_nil, rfl, fun b => by rw [b]; rfl, fun q => absurd rfl q⟩
  refine wpAny_bind (wpAny_holding ?_)
  rw [List.forIn_cons]
  refine wpAny_bind (wpAny_bind ?_)
  refine wpAny_bind ?_
  unfold setAdd
  refine wpAny_holding (wpAny_bind (wpAny_pyHash_str ?_))
  refine s_add' (s := { s with heap := s.heap.push (setO #[] 0 (.fresh 0 0 (!byT w))), toks := tk' + 1 }) hn hS0 (by decide) fun h' o' xs' b' sb hg hS' hm hl => ?_
  dsimp only at sb
  refine wpAny_pure ?_
  dsimp only
  rw [List.forIn_nil]
  refine wpAny_pure ?_
  refine wpAny_pure ?_
  show wpAny _ _ (forIn [] _ _ >>= _) _ _ _
  rw [List.forIn_nil]
  refine wpAny_bind (wpAny_pure (wpAny_pure (wpAny_pure (h s.heap.objs.size h' _ o' (Nat.le_refl _) (fun b o e => (sb.2 b (Nat.ne_of_lt (Heap.lt_size e))).trans (Heap.get?_push_of_some _ e)) hg ?_))))
  have hx : xs' = [x] := by
    match xs', hl, hm with
    | [], _, hm => exact absurd ((hm x).mpr (.inl rfl)) (by simp)
    | [y], _, hm =>
      have := (hm y).mp (List.mem_singleton.mpr rfl)
      simp at this
      rw [this]
    | y :: z :: r, hl, _ => simp at hl
  rw [← hx]; exact hS'
end
end Mine
end partSetI

section partForl
open PySem PySem.W PySem.Spec PySem.Calls PyProof.Rows
namespace Mine
set_option maxRecDepth 100000
section
variable {prog : Program} {w : World} {A : Around} {s : Shared} {env : Env}
noncomputable abbrev nof : Value → Shared → Prop := fun _ _ => False
theorem toE {α : Type} {M : Model} {t : Sem α} {Q : α → Shared → Prop} {E : Value → Shared → Prop} (h : wpAny M A t Q nof s) : wpAny M A t Q E s := wpAny_mono h (fun _ _ x => x) fun _ _ x => x.elim

noncomputable def TurnEnd (I : Nat → Shared → Prop) (n : Nat) (s : Shared) : Prop := ∃ m, m < n ∧ I m s
/-- an iterator kept in the ledger -/
theorem keep_it {J : Addr} {n i : Nat} {P : Nat → Value → Prop} {St : Nat → Heap → Prop} (W : Walks prog w A J [J] [J] n P St) {h : Heap} (st : St i h) (hIo : ∃ o, h.get? J = some o) :
    ∃ oJ, h.get? J = some oJ ∧ ∀ h', h'.get? J = some oJ → St i h' := by
  obtain ⟨oJ, e⟩ := hIo
  refine ⟨oJ, e, fun h' e' => W.frame _ _ _ st fun b hb o q => ?_⟩
  rw [List.mem_singleton.mp hb, e] at q
  rw [List.mem_singleton.mp hb, ← q]
  exact e'
theorem pyIter_str' {E : Value → Shared → Prop} {x : Str} {t : Tok} {Q : Value → Shared → Prop}
    (hQ : ∀ (o : Obj) (St : Nat → Heap → Prop), (∀ i h, St i h → ∃ o, h.get? s.heap.objs.size = some o) → (∀ A' : Around, A'.handled = none → Walks prog w A' s.heap.objs.size [s.heap.objs.size] [s.heap.objs.size] x.cps.size (SignAt x) St) → St 0 (s.heap.push o) →
      Q (.ref s.heap.objs.size) { s with heap := s.heap.push o }) : wpAny (model prog w) A (pyIter (.str x t)) Q E s := by
  cases ha : x.cps.all (· < 128)
  · exact wpAny_pyIter_wide ha (hQ _ (fun i h => h.IsStrIter s.heap.objs.size "str_iterator" x t i) (fun _ _ st => let ⟨o, ho, _⟩ := st; ⟨o, ho⟩) (fun A' hA => Walks.strWide hA _ x t) ⟨_, Heap.get?_push_size _ rfl, rfl, rfl⟩)
  · exact wpAny_pyIter_ascii ha (hQ _ (fun i h => h.IsStrIter s.heap.objs.size "str_ascii_iterator" x t i) (fun _ _ st => let ⟨o, ho, _⟩ := st; ⟨o, ho⟩) (fun A' hA => Walks.strAscii hA _ x t) ⟨_, Heap.get?_push_size _ rfl, rfl, rfl⟩)

/-- a for loop by a statement over the whole state -/
theorem For_my {target iter : PySem.Expr} {body : List Stmt} {pos : Pos} {Q : Flow → Shared → Prop}
    (h : wpAny (model prog w) A (eval iter env) (fun x s₁ => wpAny (model prog w) A (pyIter x) (fun it s₂ => ∃ I : Nat → Shared → Prop, (∃ n, I n s₂) ∧
      ∀ n s, I n s → wpAny (model prog w) A (pyNext it) (fun r s₁ => match r with
        | none => Q .next s₁
        | some v => wpAny (model prog w) A (assign target env v) (fun _ s₂ => wpAny (model prog w) A (execs body env) (fun f s₃ => match f with
          | .next | .cont => TurnEnd I n s₃
          | .brk => Q .next s₃
          | .ret v => Q (.ret v) s₃) nof s₂) nof s₁) nof s) nof s₁) nof s)
    (hs : ∀ x, foldedSetIterable iter env x = pure x := by intro _; rfl) (ht : ∀ it v, letOwnedTupleGo target it v = pure () := by intro _ _; rfl) :
    wpAny (model prog w) A (exec (.For target iter body [] pos) env) Q nof s := by
  refine wpAny_For (wpAny_mono h (fun x s₁ h₁ => wpAny_mono h₁ (fun it s₂ h₂ => ?_) fun _ _ e => e) fun _ _ e => e) hs
  obtain ⟨I, ⟨n, hn⟩, turn⟩ := h₂
  refine codeAny_forLoop I (fun n s hI => ?_) n hn (ht it)
  refine wpAny_mono (turn n s hI) (fun r s₁ h₁ => ?_) fun _ _ e => e.elim
  cases r with
  | none => exact wpAny_pure h₁
  | some v => exact wpAny_mono h₁ (fun _ s₂ h₂ => toE h₂) fun _ _ e => e.elim
end
end Mine
end partForl

section partLcomp
open PySem PySem.W PySem.Spec PySem.Calls PyProof.Rows
namespace Mine
set_option maxRecDepth 100000
set_option maxHeartbeats 2000000
section
variable {prog : Program} {w : World} {A : Around} {E : Value → Shared → Prop} {s : Shared} {R : Result → Shared → Prop}

theorem l_append {l : Addr} {items : Array Value} {n : Nat} {x : Value} {Q : Value → Shared → Prop} (ho : s.heap.get? l = some (PySem.W.listOf items n)) (hsz : items.size ≤ 100000)
    (h : ∀ h' n', Heap.SameBut l s.heap h' → h'.get? l = some (PySem.W.listOf (items.push x) n') → Q .none { s with heap := h' }) :
    wpAny (model prog w) A (call (.builtin "list.append") [.ref l, x]) Q E s := by
  refine wpAny_call_entry slot_list_append (T := "list") ⟨_, ho, rfl⟩ entry_list_append ?_ (args_list_append _ _)
  show wpAny _ _ (updateSeq l (·.push x) >>= fun _ => ret .none) _ _ s
  have hs : items.size + 1 ≤ sizeLine := by rw [sizeLine_eq]; omega
  refine wpAny_bind (wpAny_updateSeq ho rfl (wpAny_pure ⟨.none, rfl, h _ _ (Heap.SameBut.update ..) (get?_update_seq ho (·.push x))⟩) (by omega) (by show (items.push x).size ≤ sizeLine + 1; rw [Array.size_push]; omega))

theorem l_comp {env : Env} {elt iter : PySem.Expr} {x : Str} {px : Pos} {scope : Scope} {cl : List (Str × Addr)} {pos : Pos} {Q : Value → Shared → Prop} (RR : Addr → Nat → Heap → Value → Prop)
    (hst : ∀ C i h h' y, RR C i h y → (∀ b o, C < b → h.get? b = some o → h'.get? b = some o) → RR C i h' y)
    (hclos : closureFor scope env = pure cl) (hcell : ∀ y ∈ scope.names, y.2 ≠ .cell) (hkind : scope.kind = .function)
    (hnames : ∀ y ∈ scope.names, y.2 = .local → scope.names.lookup y.1 = some .local) (hx : scope.names.lookup x = some .local)
    (h : wpAny (model prog w) A (eval iter env) (fun xv s₁ => wpAny (model prog w) A (pyIter xv) (fun it s₂ => ∃ (I : Addr) (fp : List Addr) (n : Nat) (P : Nat → Value → Prop) (St : Nat → Heap → Prop), it = .ref I ∧ Walks prog w A I fp [I] n P St ∧ n ≤ 1000 ∧ St 0 s₂.heap ∧ I < s₂.heap.objs.size ∧ (∀ b ∈ fp, b < s₂.heap.objs.size) ∧
      (∀ C i v s₃ m₃ E', i < n → P i v → s₂.heap.objs.size ≤ C → C < s₃.heap.objs.size → s₃.heap.Ns C m₃ → m₃ x = some v → (∀ b o, b ≠ I → s₂.heap.get? b = some o → s₃.heap.get? b = some o) →
        wpAny (model prog w) A (eval elt (compEnvC scope cl C env)) (fun r s₄ => RR C i s₄.heap r ∧ Keeps s₃ s₄) E' s₃) ∧
      (∀ D C h' tk' vs c, s₂.heap.objs.size ≤ D → D < C → h'.get? D = some (PySem.W.listOf vs c) → (∀ b o, b ≠ I → s₂.heap.get? b = some o → h'.get? b = some o) → vs.size = n → (∀ i, i < n → ∃ v, vs[i]? = some v ∧ RR C i h' v) →
        Q (.ref D) { s₂ with heap := h', toks := tk' })) E s₁) E s)
    (hs : ∀ x, foldedSetIterable iter env x = pure x := by intro _; rfl) :
    wpAny (model prog w) A (eval (.ListComp elt [⟨.Name x px, iter, [], 0⟩] scope pos) env) Q E s := by
  rw [eval_ListComp]
  refine wpAny_comprehension_free (use := none) rfl hs hclos hkind hnames (wpAny_mono h (fun xv s₁ h₁ => wpAny_mono h₁ (fun it s₂ h₂ => ?_) fun _ _ e => e) fun _ _ e => e)
  obtain ⟨I, fp, n, P, St, rfl, W, hn, st, hI, hfp, helt, hQ⟩ := h₂
  refine wpAny_newObj_type (wpAny_newFunctionEnv hcell (by intro y hy; simp at hy) (fun h₁ hns₁ hsb₁ => ?_) hkind)
  dsimp only at hns₁ hsb₁ ⊢
  have hDn := Heap.get?_push_size s₂.heap (o := PySem.W.listOf #[] 0) rfl
  have hCs : (s₂.heap.push (PySem.W.listOf #[] 0)).objs.size = s₂.heap.objs.size + 1 := size_push' _ _
  change h₁.Ns (s₂.heap.push (PySem.W.listOf #[] 0)).objs.size _ at hns₁
  change Heap.SameBut (s₂.heap.push (PySem.W.listOf #[] 0)).objs.size ((s₂.heap.push (PySem.W.listOf #[] 0)).push _) h₁ at hsb₁
  show codeAny (model prog w) A (.compStart _ 0 (.ref I) (.ref s₂.heap.objs.size) (compEnvC scope cl (s₂.heap.push (PySem.W.listOf #[] 0)).objs.size env)) (compPost (model prog w) A E none Q (.ref s₂.heap.objs.size) (s₂.heap.push (PySem.W.listOf #[] 0)).objs.size) _
  generalize hC : (s₂.heap.push (PySem.W.listOf #[] 0)).objs.size = C at hns₁ hsb₁ ⊢
  rw [hC] at hCs
  have hDC : s₂.heap.objs.size ≠ C := by rw [hCs]; exact Nat.ne_of_lt (Nat.lt_succ_self _)
  have old₁ : ∀ b o, s₂.heap.get? b = some o → h₁.get? b = some o := fun b o e =>
    hsb₁.extBut b o (by rw [hCs]; exact Nat.ne_of_lt (Nat.lt_succ_of_lt (Heap.lt_size e))) (Heap.get?_push_of_some _ (Heap.get?_push_of_some _ e))
  have hD₁ : h₁.get? s₂.heap.objs.size = some (PySem.W.listOf #[] 0) := hsb₁.extBut _ _ hDC (Heap.get?_push_of_some _ hDn)
  have hDf : s₂.heap.objs.size ∉ fp := fun hm => Nat.lt_irrefl _ (hfp _ hm)
  have hCf : C ∉ fp := fun hm => by have := hfp _ hm; rw [hCs] at this; exact absurd (Nat.lt_of_succ_lt this) (Nat.lt_irrefl _)
  have hIC : I ≠ C := by rw [hCs]; exact Nat.ne_of_lt (Nat.lt_succ_of_lt hI)
  have hID : I ≠ s₂.heap.objs.size := Nat.ne_of_lt hI
  have st₁ : St 0 h₁ := W.frame _ _ _ st fun b _ o e => old₁ b o e
  have loop : ∀ tk₀, codeAny (model prog w) A (.compLoop (.ListComp elt [⟨.Name x px, iter, [], 0⟩] scope pos) 0 (.ref I) (.ref s₂.heap.objs.size) (compEnvC scope cl C env))
      (compPost (model prog w) A E none Q (.ref s₂.heap.objs.size) C) { s₂ with heap := h₁, toks := tk₀ } := by
    intro tk₀
    refine codeAny_compLoop_list (fun k s' => ∃ h' tk i vs c m', s' = { s₂ with heap := h', toks := tk } ∧ i ≤ n ∧ k = n + 1 - i ∧ St i h' ∧ h'.get? s₂.heap.objs.size = some (PySem.W.listOf vs c) ∧ vs.size = i ∧
        (∀ j, j < i → ∃ v, vs[j]? = some v ∧ RR C j h' v) ∧ h'.Ns C m' ∧ ∀ b o, b ≠ I → s₂.heap.get? b = some o → h'.get? b = some o) ?_ (n + 1)
      ⟨h₁, _, 0, _, _, _, rfl, Nat.zero_le _, rfl, st₁, hD₁, rfl, fun j hj => absurd hj (Nat.not_lt_zero _), hns₁, fun b o _ e => old₁ b o e⟩
    rintro k s' ⟨h', tk, i, vs, c, m', rfl, hi, rfl, st', hD', hvs, hR', hn', hk'⟩
    by_cases hlt : i < n
    · refine W.item i _ _ _ hlt st' fun v h₂ tk₂ hv st₂ hk₂ => ?_
      dsimp only at hk₂
      refine wpAny_assign_Name (wpAny_storeName_local (lookup_relabel_local hx) (hn'.at' fun o e => hk₂ _ o (by simpa using Ne.symm hIC) e) (fun h₃ hn₃ hs₃ => ?_) (by simp [compEnvC, relabel, hkind]))
      dsimp only at hs₃
      have hs₃' : Heap.SameBut C h₂ h₃ := hs₃
      have st₃ : St (i + 1) h₃ := W.frame _ _ _ st₂ fun b hb o e => hs₃'.extBut b o (fun q => hCf (by rw [← q]; exact hb)) e
      have hk₃ : ∀ b o, b ≠ I → s₂.heap.get? b = some o → h₃.get? b = some o := fun b o hb e => by
        refine hs₃'.extBut b o (by rw [hCs]; exact Nat.ne_of_lt (Nat.lt_succ_of_lt (Heap.lt_size e))) (hk₂ b o (by simpa using hb) (hk' b o hb e))
      have hCl : C < h₃.objs.size := hn₃.lt
      refine wpAny_mono (helt C i v _ _ _ hlt hv (by rw [hCs]; exact Nat.le_succ _) hCl hn₃ (by simp) hk₃) (fun r s₄ hr => ?_) fun _ _ e => e
      obtain ⟨hRR, h₄, tk₅, rfl, hk₄⟩ := hr
      dsimp only at hk₄ hRR
      have hD₄ : h₄.get? s₂.heap.objs.size = some (PySem.W.listOf vs c) := hk₄ _ _ (hs₃'.extBut _ _ hDC (hk₂ _ _ (by simpa using Ne.symm hID) hD'))
      refine l_append (s := { s₂ with heap := h₄, toks := tk₅ }) hD₄ (by omega) fun h₅ c' sb₅ hD₅ => ?_
      dsimp only at sb₅
      have hns₄ : h₄.Ns C _ := hn₃.at' fun o e => hk₄ _ o e
      have up : ∀ b o, C < b → h'.get? b = some o → h₅.get? b = some o := fun b o hb e => by
        have hbI : b ≠ I := fun q => by rw [q, hCs] at hb; exact absurd (Nat.lt_of_succ_lt hb) (Nat.not_lt.mpr (Nat.le_of_lt hI))
        have hbD : b ≠ s₂.heap.objs.size := fun q => by rw [q, hCs] at hb; exact absurd (Nat.lt_of_succ_lt hb) (Nat.lt_irrefl _)
        exact (sb₅.2 b hbD).trans (hk₄ b o (hs₃'.extBut b o (Nat.ne_of_gt hb) (hk₂ b o (by simpa using hbI) e)))
      have up4 : ∀ b o, C < b → h₄.get? b = some o → h₅.get? b = some o := fun b o hb e =>
        (sb₅.2 b (fun q => by rw [q, hCs] at hb; exact absurd (Nat.lt_of_succ_lt hb) (Nat.lt_irrefl _))).trans e
      refine ⟨n + 1 - (i + 1), by omega, h₅, _, i + 1, vs.push r, c', _, rfl, hlt, rfl, ?_, hD₅, by rw [Array.size_push, hvs], ?_, hns₄.sameBut sb₅ (Ne.symm hDC), ?_⟩
      · exact W.frame _ _ _ st₃ fun b hb o e => (sb₅.2 b (fun q => hDf (by rw [← q]; exact hb))).trans (hk₄ b o e)
      · intro j hj
        rcases Nat.lt_or_ge j i with q | q
        · obtain ⟨v', hv', hr'⟩ := hR' j q
          refine ⟨v', ?_, hst _ _ _ _ _ hr' up⟩
          rw [Array.getElem?_push, if_neg (by omega)]; exact hv'
        · have : j = i := by omega
          subst this
          refine ⟨r, ?_, hst _ _ _ _ _ hRR up4⟩
          rw [Array.getElem?_push, if_pos hvs.symm]
      · intro b o hb e
        exact (sb₅.2 b (Nat.ne_of_lt (Heap.lt_size e))).trans (hk₄ b o (hk₃ b o hb e))
    · have hin : i = n := by omega
      subst hin
      refine W.done _ _ _ st' fun h₂ tk₂ hk₂ => ?_
      dsimp only at hk₂
      refine ⟨m', hn'.at' fun o e => hk₂ _ o (by simpa using Ne.symm hIC) e, fun h'' hs'' => ?_⟩
      dsimp only at hs''
      have up : ∀ b o, C < b → h'.get? b = some o → h''.get? b = some o := fun b o hb e => by
        have hbI : b ≠ I := fun q => by rw [q, hCs] at hb; exact absurd (Nat.lt_of_succ_lt hb) (Nat.not_lt.mpr (Nat.le_of_lt hI))
        exact hs''.extBut b o (Nat.ne_of_gt hb) (hk₂ b o (by simpa using hbI) e)
      refine hQ s₂.heap.objs.size C h'' tk₂ vs c (Nat.le_refl _) (by rw [hCs]; exact Nat.lt_succ_self _) (hs''.extBut _ _ hDC (hk₂ _ _ (by simpa using Ne.symm hID) hD')) ?_ hvs ?_
      · intro b o hb e
        exact hs''.extBut b o (by rw [hCs]; exact Nat.ne_of_lt (Nat.lt_succ_of_lt (Heap.lt_size e))) (hk₂ b o (by simpa using hb) (hk' b o hb e))
      · intro j hj
        obtain ⟨v', hv', hr'⟩ := hR' j hj
        exact ⟨v', hv', hst _ _ _ _ _ hr' up⟩
  exact codeAny_compStart_list (loop _) (W.self 0 _ _ _ st₁ (loop _))
end
end Mine
end partLcomp

section partFors
open PySem PySem.W PySem.Spec PySem.Calls PyProof.Rows
namespace Mine
set_option maxRecDepth 100000
section
variable {prog : Program} {w : World} {A : Around} {s : Shared} {env : Env}

/-- the end of a turn over a list of the ledger -/
noncomputable def LEnd (h₀ : Heap) (L : Addr) (s : Shared) (I : Addr) (oI : Obj) (P : (Str → Option Value) → List (Addr × Obj) → Prop) (s' : Shared) : Prop :=
  ∃ h' tk' m' news', s' = { s with heap := h', toks := tk' } ∧ Fr h₀ L h' m' ∧ News h₀ L h' ((I, oI) :: news') ∧ (∀ p ∈ news', p.1 ≠ I) ∧ P m' news'
theorem LEnd.intro {h₀ : Heap} {L : Addr} {s : Shared} {I : Addr} {oI : Obj} {P : (Str → Option Value) → List (Addr × Obj) → Prop} {h' : Heap} {tk' : Nat} {m' : Str → Option Value} {all : List (Addr × Obj)} (F : Fr h₀ L h' m') (N : News h₀ L h' all) (news' : List (Addr × Obj))
    (hs : ∀ p ∈ (I, oI) :: news', p ∈ all) (hI : ∀ p ∈ news', p.1 ≠ I) (p : P m' news') : LEnd h₀ L s I oI P { s with heap := h', toks := tk' } :=
  ⟨h', tk', m', news', rfl, F, fun q hq => N q (hs q hq), hI, p⟩
noncomputable def LPost (h₀ : Heap) (L : Addr) (s : Shared) (I : Addr) (oI : Obj) (P : (Str → Option Value) → List (Addr × Obj) → Prop) (Q : Flow → Shared → Prop) (f : Flow) (s' : Shared) : Prop :=
  match f with
  | .next | .cont => LEnd h₀ L s I oI P s'
  | .brk => Q .next s'
  | .ret v => Q (.ret v) s'

end
end Mine
end partFors

section partFort
open PySem PySem.W PySem.Spec PySem.Calls PyProof.Rows
namespace Mine
set_option maxRecDepth 100000
section
variable {prog : Program} {w : World} {A : Around} {s : Shared} {env : Env}
theorem For_listU {elts : List PySem.Expr} {x1 : Nat} {tp : Pos} {iter : PySem.Expr} {body : List Stmt} {pos : Pos} {Q : Flow → Shared → Prop} {h₀ : Heap} {m : Str → Option Value} {news : List (Addr × Obj)} {D : Addr} {vs : List Value} {n : Nat}
    (J : Nat → (Str → Option Value) → List (Addr × Obj) → Prop)
    (hh : A.handled = none)
    (hit : ∀ Q' : Value → Shared → Prop, (∀ tk, Q' (.ref D) { s with toks := tk }) → wpAny (model prog w) A (eval iter env) Q' nof s) (hrefs : ∀ v ∈ vs, ∃ T, v = .ref T)
    (F : Fr h₀ env.locals s.heap m) (N : News h₀ env.locals s.heap news) (hJ : ∀ i m₁ news₁, J i m₁ news₁ → (D, PySem.W.listOf vs.toArray n) ∈ news₁) (h0 : J 0 m news)
    (turn : ∀ i v m₁ news₁ h tk I oI, vs[i]? = some v → J i m₁ news₁ → Fr h₀ env.locals h m₁ → News h₀ env.locals h ((I, oI) :: news₁) → (∀ p ∈ news₁, p.1 ≠ I) → (∀ p ∈ news, p.1 < I) →
      wpAny (model prog w) A (assign (.Tuple elts x1 tp) env v) (fun _ s₂ => wpAny (model prog w) A (execs body env) (LPost h₀ env.locals s I oI (J (i + 1)) Q) nof s₂) nof { s with heap := h, toks := tk })
    (done : ∀ h tk m' news', Fr h₀ env.locals h m' → News h₀ env.locals h news' → J vs.length m' news' → Q .next { s with heap := h, toks := tk })
    (hs : ∀ x, foldedSetIterable iter env x = pure x := by intro _; rfl) :
    wpAny (model prog w) A (exec (.For (.Tuple elts x1 tp) iter body [] pos) env) Q nof s := by
  refine wpAny_For (wpAny_mono (hit (fun x s₁ => x = .ref D ∧ ∃ tk, s₁ = { s with toks := tk }) fun tk => ⟨rfl, tk, rfl⟩) (fun x s₁ h₁ => ?_) fun _ _ e => e.elim) hs
  obtain ⟨rfl, tk0, rfl⟩ := h₁
  have hD := N _ (hJ _ _ _ h0)
  have hl : s.heap.IsList D vs.toArray := ⟨_, hD.1, rfl, n, rfl⟩
  refine wpAny_pyIter_list hl ?_
  have hnew : h₀.get? s.heap.objs.size = none := next_is_new F
  have hLlt : env.locals < s.heap.objs.size := F.ns.lt
  have W : Walks prog w A s.heap.objs.size [s.heap.objs.size, D] [s.heap.objs.size] vs.toArray.size (fun i v => vs.toArray[i]? = some v) (fun i h => h.IsListIter s.heap.objs.size D i ∧ h.IsList D vs.toArray) :=
    Walks.list hh _ D (Nat.ne_of_lt (Heap.lt_size hD.1)) vs.toArray
  have nI : ∀ p ∈ news, p.1 < s.heap.objs.size := fun p hp => Heap.lt_size (N p hp).1
  refine codeAny_forLoop_any (fun k s' => ∃ h' tk i m' news', s' = { s with heap := h', toks := tk } ∧ i ≤ vs.length ∧ k = vs.length + 1 - i ∧ h'.IsListIter s.heap.objs.size D i ∧ Fr h₀ env.locals h' m' ∧ News h₀ env.locals h' news' ∧ (∀ p ∈ news', p.1 ≠ s.heap.objs.size) ∧ J i m' news') ?_ (vs.length + 1)
    ⟨_, _, 0, m, news, rfl, Nat.zero_le _, rfl, ⟨_, Heap.get?_push_size _ rfl, rfl, rfl⟩, F.push _, fun p hp => ⟨Heap.get?_push_of_some _ (N p hp).1, (N p hp).2⟩, fun p hp => Nat.ne_of_lt (nI p hp), h0⟩
  rintro k s' ⟨h', tk, i, m', news', rfl, hi, rfl, hit', F', N', off, hj⟩
  have hl' : h'.IsList D vs.toArray := ⟨_, (N' _ (hJ _ _ _ hj)).1, rfl, n, rfl⟩
  by_cases hlt : i < vs.length
  · refine W.item i _ _ _ (by simpa using hlt) ⟨hit', hl'⟩ fun v h1 tk1 hv st1 hk1 => ?_
    dsimp only at hk1
    have hv' : vs[i]? = some v := by simpa using hv
    obtain ⟨T, rfl⟩ := hrefs v (List.mem_of_getElem? hv')
    have F1 := LCg.fr_but F' hk1 (Nat.ne_of_lt hLlt) hnew
    have N1 := LCg.news_but N' hk1 off
    refine wpAny_letOwnedTupleGo_listiter (s := { s with heap := h1, toks := tk1 }) st1.1 ?_
    obtain ⟨oI, hoI, hcI, hdI⟩ := st1.1
    have N2 : News h₀ env.locals h1 ((s.heap.objs.size, oI) :: news') := fun p hp => by
      rcases List.mem_cons.mp hp with rfl | hp
      · exact ⟨hoI, Nat.ne_of_gt hLlt, hnew⟩
      · exact N1 p hp
    refine wpAny_mono (turn i _ m' news' h1 tk1 s.heap.objs.size oI hv' hj F1 N2 off nI) (fun _ s2 h2 => wpAny_mono h2 (fun f s3 h3 => ?_) fun _ _ e => e.elim) fun _ _ e => e.elim
    have fin : LEnd h₀ env.locals s s.heap.objs.size oI (J (i + 1)) s3 → ∃ mm, mm < vs.length + 1 - i ∧ (∃ h' tk i m' news', s3 = { s with heap := h', toks := tk } ∧ i ≤ vs.length ∧ mm = vs.length + 1 - i ∧ h'.IsListIter s.heap.objs.size D i ∧ Fr h₀ env.locals h' m' ∧ News h₀ env.locals h' news' ∧ (∀ p ∈ news', p.1 ≠ s.heap.objs.size) ∧ J i m' news') := by
      rintro ⟨h4, tk4, m4, news4, rfl, F4, N4, off4, p4⟩
      exact ⟨vs.length + 1 - (i + 1), by omega, h4, tk4, i + 1, m4, news4, rfl, hlt, rfl, ⟨oI, (N4 _ (List.mem_cons_self ..)).1, hcI, hdI⟩, F4, fun p hp => N4 p (List.mem_cons_of_mem _ hp), off4, p4⟩
    cases f with
    | next => exact fin h3
    | cont => exact fin h3
    | brk => exact h3
    | ret v => exact h3
  · have hin : i = vs.length := by omega
    subst hin
    refine W.done _ _ _ (by rw [List.size_toArray]; exact ⟨hit', hl'⟩) fun h1 tk1 hk1 => ?_
    dsimp only at hk1
    exact wpAny_execs_nil (done h1 tk1 m' news' (LCg.fr_but F' hk1 (Nat.ne_of_lt hLlt) hnew) (LCg.news_but N' hk1 off) hj)
theorem For_listT {elts : List PySem.Expr} {x1 : Nat} {tp : Pos} {iter : PySem.Expr} {body : List Stmt} {pos : Pos} {Q : Flow → Shared → Prop} {h₀ : Heap} {m : Str → Option Value} {news : List (Addr × Obj)} {D : Addr} {vs : List Value} {n : Nat}
    (J : Nat → (Str → Option Value) → List (Addr × Obj) → Prop)
    (hh : A.handled = none)
    (hit : ∀ Q' : Value → Shared → Prop, Q' (.ref D) s → wpAny (model prog w) A (eval iter env) Q' nof s) (hrefs : ∀ v ∈ vs, ∃ T, v = .ref T)
    (F : Fr h₀ env.locals s.heap m) (N : News h₀ env.locals s.heap news) (hJ : ∀ i m₁ news₁, J i m₁ news₁ → (D, PySem.W.listOf vs.toArray n) ∈ news₁) (h0 : J 0 m news)
    (turn : ∀ i v m₁ news₁ h tk I oI, vs[i]? = some v → J i m₁ news₁ → Fr h₀ env.locals h m₁ → News h₀ env.locals h ((I, oI) :: news₁) → (∀ p ∈ news₁, p.1 ≠ I) → (∀ p ∈ news, p.1 < I) →
      wpAny (model prog w) A (assign (.Tuple elts x1 tp) env v) (fun _ s₂ => wpAny (model prog w) A (execs body env) (LPost h₀ env.locals s I oI (J (i + 1)) Q) nof s₂) nof { s with heap := h, toks := tk })
    (done : ∀ h tk m' news', Fr h₀ env.locals h m' → News h₀ env.locals h news' → J vs.length m' news' → Q .next { s with heap := h, toks := tk })
    (hs : ∀ x, foldedSetIterable iter env x = pure x := by intro _; rfl) :
    wpAny (model prog w) A (exec (.For (.Tuple elts x1 tp) iter body [] pos) env) Q nof s :=
  For_listU J hh (fun Q' h => hit Q' (h s.toks)) hrefs F N hJ h0 turn done hs
end
end Mine
end partFort

section partRex
open PySem PySem.W PySem.Spec PySem.Calls PyProof.Rows
namespace Mine
set_option maxRecDepth 100000
set_option maxHeartbeats 2000000

/-- a search's run to its end -/
noncomputable def runRe : Nat → Sre.M → Option Sre.M
  | 0, _ => none
  | n + 1, m => if (m.runFor Builtin.Re.reTurnSteps).outcome.isSome then some (m.runFor Builtin.Re.reTurnSteps) else runRe n (m.runFor Builtin.Re.reTurnSteps)
noncomputable def failed (m : Option Sre.M) : Bool := match m with | some m => (match m.outcome with | some .failed => true | _ => false) | none => false
noncomputable def noHit (code text : Array Nat) : Bool := failed (runRe 20 (Sre.forSearch code text 0 0 text.size false))

theorem plainAttrs_rep : PlainAttrs "re.Pattern" :=
  ⟨⟨"object.__getattribute__", by rw [typeLookup_type, builtinLookup_eq_fast]; kernel_rfl, by decide +kernel⟩, by rw [typeLookup_type, builtinLookup_eq_fast]; kernel_rfl⟩
theorem slot_rep_search : Slot "re.Pattern" "search" "re.Pattern.search" :=
  .of (owner := "re.Pattern") (n := "search") (by rw [typeLookup_type, builtinLookup_eq_fast]; kernel_rfl) (by decide +kernel) (by decide +kernel) (by decide +kernel)
    (by first | exact .inl (by decide +kernel) | exact .inr (by decide +kernel)) (by rw [isSubtype_type]; kernel_rfl)
theorem type_rep_search : typeOf (.builtin "re.Pattern.search") = pure (.type "method_descriptor") := by show builtinType _ = _; rw [builtinType_eq_fast]; kernel_rfl
theorem entry_rep_search : entryFor table "re.Pattern.search" = some Builtin.«re.Pattern.search» := entryFor_of_tree (by kernel_rfl)
theorem args_rep_search (a b : Value) : argsOk "re.Pattern.search" ⟨[a, b], []⟩ := by unfold argsOk; kernel_rfl
theorem named_one (v : Value) : Builtin.Re.reNamed "re.Pattern.search" "search" ["string", "pos", "endpos"] 1 [v] [] = pure [some v, none, none] := by rfl

noncomputable abbrev patO (pt : Value) (fl : Value) (t0 t1 : Tok) (c : Addr) : Obj := { cls := .type "re.Pattern", data := .fields #[pt, fl, .int 0 t0, .none, .none, .ref c, .int 0 t1] }
section
variable {prog : Program} {w : World} {A : Around} {E : Value → Shared → Prop} {s : Shared}
theorem drive_ {m' : Sre.M} {Q : Sre.M → Shared → Prop} : ∀ (n k : Nat) (m : Sre.M), n ≤ k → runRe n m = some m' → Q m' s → wpAny (model prog w) A (Builtin.Re.reDrive k m) Q E s
  | 0, _, _, _, h, _ => by cases h
  | n + 1, k, m, hk, h, hq => by
    obtain ⟨k', rfl⟩ : ∃ k', k = k' + 1 := ⟨k - 1, by omega⟩
    unfold runRe at h
    unfold Builtin.Re.reDrive
    dsimp only
    cases ho : (m.runFor Builtin.Re.reTurnSteps).outcome.isSome with
    | true =>
      rw [ho, if_pos rfl] at h
      rw [if_pos rfl, Option.some.inj h]
      exact wpAny_pure hq
    | false =>
      rw [ho, if_neg Bool.false_ne_true] at h
      rw [if_neg Bool.false_ne_true]
      exact wpAny_bind (wpAny_rule (drive_ n k' _ (by omega) h hq))

theorem search_none {p c : Addr} {pt fl : Value} {t0 t1 : Tok} {words : Array Value} {n : Nat} {code : Array Nat} {x : Str} {t : Tok} {Q : Value → Shared → Prop} (hp : s.heap.get? p = some (patO pt fl t0 t1 c))
    (hc : s.heap.get? c = some { cls := .type "tuple", data := .seq words n }) (hw : (words.map Builtin.Re.reRawOf).map (·.toNat) = code) (hx : x.cps.size ≤ 1000) (hok : noHit code x.cps = true) (h : Q .none s) :
    wpAny (model prog w) A (call (.builtin "re.Pattern.search") [.ref p, .str x t]) Q E s := by
  have hT : s.TypeIs (.ref p) "re.Pattern" := ⟨_, hp, rfl⟩
  refine wpAny_call_entry slot_rep_search hT entry_rep_search ?_ (args_rep_search _ _)
  unfold Builtin.«re.Pattern.search» Builtin.Re.reTarget
  simp only [bind_assoc]
  rw [named_one]
  simp only [pure_bind]
  refine wpAny_bind ?_
  refine wpAny_bind (wpAny_fieldsOf hp rfl ?_)
  refine wpAny_bind (m := Builtin.Re.reTextOf (.str x t)) (wpAny_pure ?_)
  show wpAny _ _ (if (((0 : Nat) == 0) && ((0 : Nat) == 1)) = true then _ else _) _ _ _
  rw [if_neg (by decide)]
  show wpAny _ _ (if (((0 : Nat) == 1) && ((0 : Nat) == 0)) = true then _ else _) _ _ _
  rw [if_neg (by decide)]
  refine wpAny_bind (m := Builtin.Re.reNoCollectionInside (.str x t) 0) (wpAny_pure ?_)
  refine wpAny_bind ?_
  show wpAny _ _ (seqItems? (.ref c) >>= _) _ _ _
  refine wpAny_bind (wpAny_seqItems hc rfl (wpAny_pure (wpAny_pure ?_)))
  have hlim : min (2 ^ 63 - 1 : Int).toNat x.cps.size = x.cps.size := by
    have : (2 ^ 63 - 1 : Int).toNat = 9223372036854775807 := by decide
    omega
  have hpos : min (Int.toNat 0) x.cps.size = 0 := Nat.zero_min _
  show wpAny _ _ (Builtin.Re.reAnswer _ (Sre.forSearch ((words.map Builtin.Re.reRawOf).map (·.toNat)) x.cps 0 (min (Int.toNat 0) x.cps.size) (min (2 ^ 63 - 1 : Int).toNat x.cps.size) false)) _ _ _
  rw [hw, hpos, hlim]
  unfold noHit at hok
  cases hr : runRe 20 (Sre.forSearch code x.cps 0 0 x.cps.size false) with
  | none => rw [hr] at hok; cases hok
  | some m' =>
    rw [hr] at hok
    unfold Builtin.Re.reAnswer
    refine wpAny_bind ?_
    unfold Builtin.Re.reRunToEnd
    refine wpAny_bind (drive_ 20 (2 ^ 64) _ (by decide) hr ?_)
    refine wpAny_bind (wpAny_forIn_list _ (fun _ _ s' => s' = s) _ ?_ ?_ _ _ rfl)
    · rintro i rest b s' rfl
      refine wpAny_ite_split (fun _ => wpAny_bind (wpAny_rule (wpAny_pure rfl))) fun _ => wpAny_pure rfl
    · rintro b s' rfl
      unfold failed at hok
      dsimp only at hok
      cases ho : m'.outcome with
      | none => rw [ho] at hok; cases hok
      | some oc =>
        rw [ho] at hok
        cases oc with
        | matched => cases hok
        | failed => exact wpAny_pure (wpAny_pure ⟨_, rfl, h⟩)
        | stuck why => cases hok
end
end Mine
end partRex

section partConv
open PySem PySem.W PySem.Spec PySem.Calls PyProof.Rows
namespace Mine
set_option maxRecDepth 100000
set_option maxHeartbeats 8000000
local macro_rules | `(tactic| walk_at "getMethod ref") => `(tactic| refine Stop.of ?_)
local macro_rules | `(tactic| walk_at "call builtin:re.Pattern.search") => `(tactic| refine Stop.of ?_)
noncomputable def nameCode : Array Nat := #[14, 10, 4, 1, 1, 22, 0, 31, 16, 127, 0, 13, 7, 22, 0, 31, 16, 127, 0, 1]
noncomputable def valueCode : Array Nat := #[14, 14, 4, 1, 1, 9, 4294966783, 0, 0, 2147483648, 0, 0, 0, 0, 0, 13, 11, 9, 4294966783, 0, 0, 2147483648, 0, 0, 0, 0, 0, 1]
theorem conv_ok {w : World} {mean : ExcName → Option Value} {mg mb : Str → Option Value} {x : Str} {tkx : Tok} {self : Value} {news : Led} (hx : x.cps.size ≤ 1000) (hn : noHit nameCode x.cps = true) :
    CallOK w mean mg mb (.ref 70) [self, .str x tkx] [(Str.ofString "name", .bool true)] news 1 8 (fun r n => n = news ∧ r = .str x tkx) := by
  refine fill fun hfill => ?_
  revert hfill; k_fill; intro _
  k_dflt (refine' fn_ok ?ho ?hcd ?hb ?hloc ?h1 ?h2 ?h3 ?h4 ?h5 ?h6 ?_; (case ho => k_is); (case hcd => k_is); (case hb => first | exact fun _ _ => BindsTo.of_eq rfl | exact fun _ hX => kp_binds hX (fun _ => rfl)); (case hloc => exact locs rfl); (case h1 => exact rfl); (case h2 => exact rfl); (case h3 => exact rfl); (case h4 => decide); (case h5 => decide); (case h6 => decide); k_whole)
  intro dp un gd outer A₀ base g L' s B F X N T hk hdp hun
  try dsimp only
  k_fold
  have h43 := X _ _ (show (hd.heap_39 w.params).lookup 43 = some _ by k_is)
  have h42 := X _ _ (show (hd.heap_39 w.params).lookup 42 = some _ by k_is)
  w_strict (k_steps)
  unfold Stop
  rename Fr g L' _ _ => F1
  refine getMethod_builtin (T := "re.Pattern") ⟨_, F1.keep _ _ h43, rfl⟩ plainAttrs_rep slot_rep_search type_rep_search (fun a e => ⟨_, by cases e; exact F1.keep _ _ h43, rfl⟩) ?_
  w_strict (k_steps)
  unfold Stop
  rename Fr g L' _ _ => F2
  rename News g L' _ _ => N2
  refine search_none (code := nameCode) (F2.keep _ _ h43) (F2.keep _ _ h42) (by decide +kernel) hx hn ?_
  w_strict (k_steps)
  change qk (Flow.ret (Value.str x tkx)) _
  exact BodyEnd.mk' F2 N2 ⟨rfl, rfl⟩
theorem conv_val {w : World} {mean : ExcName → Option Value} {mg mb : Str → Option Value} {x : Str} {tkx : Tok} {self : Value} {news : Led} (hx : x.cps.size ≤ 1000) (hn : noHit valueCode x.cps = true) :
    CallOK w mean mg mb (.ref 70) [self, .str x tkx] [(Str.ofString "name", .bool false)] news 1 8 (fun r n => n = news ∧ r = .str x tkx) := by
  refine fill fun hfill => ?_
  revert hfill; k_fill; intro _
  k_dflt (refine' fn_ok ?ho ?hcd ?hb ?hloc ?h1 ?h2 ?h3 ?h4 ?h5 ?h6 ?_; (case ho => k_is); (case hcd => k_is); (case hb => first | exact fun _ _ => BindsTo.of_eq rfl | exact fun _ hX => kp_binds hX (fun _ => rfl)); (case hloc => exact locs rfl); (case h1 => exact rfl); (case h2 => exact rfl); (case h3 => exact rfl); (case h4 => decide); (case h5 => decide); (case h6 => decide); k_whole)
  intro dp un gd outer A₀ base g L' s B F X N T hk hdp hun
  try dsimp only
  k_fold
  have h48 := X _ _ (show (hd.heap_39 w.params).lookup 48 = some _ by k_is)
  have h47 := X _ _ (show (hd.heap_39 w.params).lookup 47 = some _ by k_is)
  w_strict (k_steps)
  unfold Stop
  rename Fr g L' _ _ => F1
  refine getMethod_builtin (T := "re.Pattern") ⟨_, F1.keep _ _ h48, rfl⟩ plainAttrs_rep slot_rep_search type_rep_search (fun a e => ⟨_, by cases e; exact F1.keep _ _ h48, rfl⟩) ?_
  w_strict (k_steps)
  unfold Stop
  rename Fr g L' _ _ => F2
  rename News g L' _ _ => N2
  refine search_none (code := valueCode) (F2.keep _ _ h48) (F2.keep _ _ h47) (by decide +kernel) hx hn ?_
  w_strict (k_steps)
  change qk (Flow.ret (Value.str x tkx)) _
  exact BodyEnd.mk' F2 N2 ⟨rfl, rfl⟩
end Mine
end partConv

section partBis
open PySem PySem.W PySem.Spec PySem.Calls PyProof.Rows
namespace Mine
set_option maxRecDepth 100000
set_option maxHeartbeats 8000000
local macro_rules | `(tactic| walk_at "exec While Compare cons nil") => `(tactic| refine Stop.of ?_)

noncomputable def bisGo (ns : List Int) (x : Int) : Nat → Nat → Nat → Nat
  | 0, lo, _ => lo
  | f + 1, lo, hi => if lo < hi then (if x < ns.getD ((lo + hi) / 2) 0 then bisGo ns x f lo ((lo + hi) / 2) else bisGo ns x f ((lo + hi) / 2 + 1) hi) else lo

theorem bisect_ok {w : World} {mean : ExcName → Option Value} {mg mb : Str → Option Value} {a : Addr} {vs : List Value} {ns : List Int} (hi : IntsAre vs ns) {n : Nat} {x : Int} {tkx : Tok} {news : Led} (hl : ns.length ≤ 100)
    (hm : (a, PySem.W.listOf vs.toArray n) ∈ news) :
    CallOK w mean mg mb (.ref 184) [.ref a, .int x tkx] [] news 1 8 (fun r n => n = news ∧ ∃ t, r = .int (bisGo ns x ns.length 0 ns.length) t) := by
  refine fill fun hfill => ?_
  revert hfill; k_fill; intro _
  k_dflt (refine' fn_ok ?ho ?hcd ?hb ?hloc ?h1 ?h2 ?h3 ?h4 ?h5 ?h6 ?_; (case ho => k_is); (case hcd => k_is); (case hb => first | exact fun _ _ => BindsTo.of_eq rfl | exact fun _ hX => kp_binds hX (fun _ => rfl)); (case hloc => exact locs rfl); (case h1 => exact rfl); (case h2 => exact rfl); (case h3 => exact rfl); (case h4 => decide); (case h5 => decide); (case h6 => decide); k_whole)
  intro dp un gd outer A₀ base g L' s B F X N T hk hdp hun
  try dsimp only
  k_fold
  have hvl := hi.length
  w_strict (k_steps)
  refine len_list (News.isList N hm) (by simp only [List.size_toArray]; omega) ?_
  w_strict (k_steps)
  unfold Stop
  rename Fr g L' _ _ => F1
  rename News g L' _ _ => N1
  refine While_inv2 (n₀ := ns.length) (fun k m nw => nw = news ∧ ∃ (lo hh : Nat) (t1 t2 : Tok), m (Str.ofString "a") = some (.ref a) ∧ m (Str.ofString "x") = some (.int x tkx) ∧ m (Str.ofString "lo") = some (.int lo t1) ∧ m (Str.ofString "hi") = some (.int hh t2) ∧
    lo ≤ hh ∧ hh ≤ ns.length ∧ hh - lo ≤ k ∧ bisGo ns x k lo hh = bisGo ns x ns.length 0 ns.length) F1 N1 ?_ ?_ (hE := passes_false)
  · refine ⟨rfl, 0, ns.length, _, _, rfl, rfl, rfl, by simp only [List.size_toArray, hvl]; rfl, ?_, ?_, ?_, rfl⟩ <;> omega
  · rintro k m₁ news₁ h₁ tk₁ F₁ N₁ ⟨rfl, lo, hh, t1, t2, e1, e2, e3, e4, b1, b2, b3, b4⟩
    have F₂ := Fr_pin (Fr_pin (Fr_pin (Fr_pin F₁ e1) (x := Str.ofString "x") (by exact e2)) (x := Str.ofString "lo") (by exact e3)) (x := Str.ofString "hi") (by exact e4)
    clear F₁ F1 N1
    have hf : ((lo : Int) + (hh : Int)).fdiv 2 = (((lo + hh) / 2 : Nat) : Int) := by rw [Int.fdiv_eq_ediv_of_nonneg _ (by omega)]; omega
    w_strict k_steps
    · rename x < _ => c2
      rename (lo : Int) < _ => c1
      rw [hf, Int.toNat_natCast] at c2
      obtain ⟨k', rfl⟩ : ∃ k', k = k' + 1 := ⟨k - 1, by omega⟩
      rw [bisGo, if_pos (by omega), if_pos c2] at b4
      exact ⟨_, _, _, _, k', rfl, by k_asm, by k_asm, by omega, rfl, lo, (lo + hh) / 2, _, _, rfl, rfl, rfl, by rw [← hf]; rfl, by omega, by omega, by omega, b4⟩
    · rename ¬ (x < _) => c2
      rename (lo : Int) < _ => c1
      rw [hf, Int.toNat_natCast] at c2
      obtain ⟨k', rfl⟩ : ∃ k', k = k' + 1 := ⟨k - 1, by omega⟩
      rw [bisGo, if_pos (by omega), if_neg c2] at b4
      exact ⟨_, _, _, _, k', rfl, by k_asm, by k_asm, by omega, rfl, (lo + hh) / 2 + 1, hh, _, _, rfl, rfl, by rw [show (((lo + hh) / 2 + 1 : Nat) : Int) = (((lo + hh) / 2 : Nat) : Int) + 1 from rfl, ← hf]; rfl, rfl, by omega, by omega, by omega, b4⟩
    · rename ¬ ((lo : Int) < _) => c1
      refine BodyEnd.mk' F₂ N₁ ⟨rfl, t1, ?_⟩
      have e : bisGo ns x k lo hh = lo := by cases k with
        | zero => rfl
        | succ k => rw [bisGo, if_neg (by omega)]
      rw [← b4, e]
      rfl
end Mine
end partBis

section partSpl
open PySem PySem.W PySem.Spec PySem.Calls PyProof.Rows
namespace Mine
set_option maxRecDepth 100000
set_option maxHeartbeats 8000000

noncomputable abbrev tupO (vs : List Value) : Obj := { cls := .type "tuple", data := .seq vs.toArray }
/-- a list of the ledger, item by item -/
noncomputable def LsOf {α : Type} (P : Value → α → Prop) (news : Led) (v : Value) (xs : List α) : Prop :=
  ∃ (a : Addr) (vs : List Value) (n : Nat), v = .ref a ∧ (a, PySem.W.listOf vs.toArray n) ∈ news ∧ vs.length = xs.length ∧ ∀ (i : Nat) (x : α), xs[i]? = some x → ∃ u, vs[i]? = some u ∧ P u x
noncomputable def PairOf (news : Led) (v : Value) (p : Nat × Nat) : Prop := ∃ (t : Addr) (tk1 tk2 : Tok), v = .ref t ∧ (t, tupO [.str ⟨#[p.1]⟩ tk1, .int (p.2 : Int) tk2]) ∈ news
noncomputable def IntsOf (news : Led) (v : Value) (ns : List Int) : Prop := ∃ (a : Addr) (vs : List Value) (n : Nat), v = .ref a ∧ (a, PySem.W.listOf vs.toArray n) ∈ news ∧ IntsAre vs ns
noncomputable def WaysOf (news : Led) (v : Value) (W : List (List (Nat × Nat))) : Prop := LsOf (LsOf (PairOf news) news) news v W
noncomputable def BegsOf (news : Led) (v : Value) (B : List (List Int)) : Prop := LsOf (IntsOf news) news v B
theorem LsOf.mono {α : Type} {P P' : Value → α → Prop} {news news' : Led} {v : Value} {xs : List α} (h : LsOf P news v xs) (hs : ∀ p ∈ news, p ∈ news') (hp : ∀ u x, P u x → P' u x) : LsOf P' news' v xs := by
  obtain ⟨a, vs, n, e, hm, hl, hx⟩ := h
  exact ⟨a, vs, n, e, hs _ hm, hl, fun i x hi => let ⟨u, hu, q⟩ := hx i x hi; ⟨u, hu, hp _ _ q⟩⟩
theorem PairOf.mono {news news' : Led} {v : Value} {p : Nat × Nat} (h : PairOf news v p) (hs : ∀ p ∈ news, p ∈ news') : PairOf news' v p := let ⟨t, a, b, e, hm⟩ := h; ⟨t, a, b, e, hs _ hm⟩
theorem IntsOf.mono {news news' : Led} {v : Value} {ns : List Int} (h : IntsOf news v ns) (hs : ∀ p ∈ news, p ∈ news') : IntsOf news' v ns := let ⟨t, a, b, e, hm, r⟩ := h; ⟨t, a, b, e, hs _ hm, r⟩
theorem WaysOf.mono {news news' : Led} {v : Value} {W : List (List (Nat × Nat))} (h : WaysOf news v W) (hs : ∀ p ∈ news, p ∈ news') : WaysOf news' v W := LsOf.mono h hs fun _ _ q => LsOf.mono q hs fun _ _ z => z.mono hs
theorem BegsOf.mono {news news' : Led} {v : Value} {W : List (List Int)} (h : BegsOf news v W) (hs : ∀ p ∈ news, p ∈ news') : BegsOf news' v W := LsOf.mono h hs fun _ _ q => q.mono hs

/-- the number's word, by the ways and the begins -/
noncomputable def spellL (W : List (List (Nat × Nat))) (B : List (List Int)) : Nat → Nat → Int → List Nat → Option (List Nat)
  | 0, _, _, _ => none
  | f + 1, place, number, word =>
    match B[place]? with
    | none => none
    | some b =>
      match bisGo b number b.length 0 b.length with
      | 0 => none
      | 1 => some word
      | k + 2 =>
        match W[place]?, b[k + 1]? with
        | some row, some g =>
          match row[k]? with
          | some (c, behind) => spellL W B f behind (number - g) (word ++ [c])
          | none => none
        | _, _ => none

section
variable {prog : Program} {w : World} {A : Around} {E : Value → Shared → Prop} {s : Shared}
theorem itemK {value slice : PySem.Expr} {D : Addr} {its : List Value} {n : Nat} {u : Tok} {v : Value} {k : Int} {j : Nat} {Q : Value → Shared → Prop} (ho : s.heap.get? D = some (PySem.W.listOf its.toArray n)) (hj : its[j]? = some v) (hk : k = (j : Int)) (hlt : j < 1000) (h : Q v s)
    (hs : subscripted slice false (.ref D) (.int k u) = operate [.ref D, .int k u] (getItem (.ref D) (.int k u)) := by with_unfolding_all rfl) :
    wpAny (model prog w) A (subscriptTail value slice (.ref D) (.int k u)) Q E s := by
  have hl : s.heap.IsList D its.toArray := ⟨_, ho, rfl, n, rfl⟩
  exact tail_any hl.typeIs slot_list_getitem.lookup (wpAny_getItem_list hl (by omega) (by omega) (by rw [hk, Int.toNat_natCast]; simpa using hj) h) hs
end
theorem ints_at : ∀ {vs : List Value} {ns : List Int}, IntsAre vs ns → ∀ {i : Nat} {g : Int}, ns[i]? = some g → ∃ t, vs[i]? = some (.int g t)
  | _, _, .nil, i, g, h => by simp at h
  | _, _, .cons n t r, 0, g, h => by simp at h; subst h; exact ⟨t, rfl⟩
  | _, _, .cons n t r, i + 1, g, h => ints_at r (by simpa using h)
local macro_rules | `(tactic| walk_at "exec While Constant cons nil") => `(tactic| refine Stop.of ?_)
local macro_rules | `(tactic| walk_at "subscriptTail") => `(tactic| refine Stop.of ?_)
local macro_rules | `(tactic| walk_at "call ref") => `(tactic| refine Stop.of ?_)

theorem spell_ok {w : World} {mean : ExcName → Option Value} {mg mb : Str → Option Value} {vw vb : Value} {W : List (List (Nat × Nat))} {B : List (List Int)} {number : Int} {tkn : Tok} {news : Led} {f : Nat} {word : List Nat}
    (hW : WaysOf news vw W) (hB : BegsOf news vb B) (hf : f ≤ 20) (hbl : ∀ b ∈ B, b.length ≤ 100) (hwl : ∀ r ∈ W, r.length ≤ 100) (hWl : W.length ≤ 100) (hBl : B.length ≤ 100) (hs : spellL W B f 0 number [] = some word) :
    CallOK w mean mg mb (.ref 213) [vw, vb, .int number tkn] [] news 2 20 (fun r n => n = news ∧ ∃ t, r = .str ⟨word.toArray⟩ t) := by
  obtain ⟨aW, vW, nW, rfl, hmW, hlW, hW⟩ := hW
  obtain ⟨aB, vB, nB, rfl, hmB, hlB, hB⟩ := hB
  refine fill fun hfill => ?_
  revert hfill; k_fill; intro _
  k_dflt (refine' fn_ok ?ho ?hcd ?hb ?hloc ?h1 ?h2 ?h3 ?h4 ?h5 ?h6 ?_; (case ho => k_is); (case hcd => k_is); (case hb => first | exact fun _ _ => BindsTo.of_eq rfl | exact fun _ hX => kp_binds hX (fun _ => rfl)); (case hloc => exact locs rfl); (case h1 => exact rfl); (case h2 => exact rfl); (case h3 => exact rfl); (case h4 => decide); (case h5 => decide); (case h6 => decide); k_whole)
  intro dp un gd outer A₀ base g L' s Bw F X N T hk hdp hun
  try dsimp only
  k_fold
  w_strict (k_steps)
  unfold Stop
  rename Fr g L' _ _ => F1
  rename News g L' _ _ => N1
  refine While_inv2 (n₀ := f) (fun k m nw => nw = news ∧ ∃ (place : Nat) (num : Int) (wd : List Nat) (t1 t2 t3 : Tok), m (Str.ofString "ways") = some (.ref aW) ∧ m (Str.ofString "begins") = some (.ref aB) ∧ m (Str.ofString "number") = some (.int num t1) ∧ m (Str.ofString "place") = some (.int (place : Int) t2) ∧
    m (Str.ofString "word") = some (.str ⟨wd.toArray⟩ t3) ∧ spellL W B k place num wd = some word ∧ wd.length + k ≤ 20) F1 N1 ?_ ?_ (hE := passes_false)
  · exact ⟨rfl, 0, number, [], _, _, _, rfl, rfl, rfl, rfl, rfl, hs, by simpa using hf⟩
  · rintro k m₁ news₁ h₁ tk₁ F₁ N₁ ⟨rfl, place, num, wd, t1, t2, t3, e1, e2, e3, e4, e5, hsp, hwd⟩
    have F₂ := Fr_pin (Fr_pin (Fr_pin (Fr_pin (Fr_pin F₁ e1) (x := Str.ofString "begins") (by exact e2)) (x := Str.ofString "number") (by exact e3)) (x := Str.ofString "place") (by exact e4)) (x := Str.ofString "word") (by exact e5)
    clear F₁ F1 N1
    obtain ⟨k', rfl⟩ : ∃ k', k = k' + 1 := by
      cases k with
      | zero => cases hsp
      | succ k => exact ⟨k, rfl⟩
    rw [spellL] at hsp
    cases hbp : B[place]? with
    | none => rw [hbp] at hsp; cases hsp
    | some b =>
      rw [hbp] at hsp
      dsimp only at hsp
      obtain ⟨ub, hub, ab, wsb, mb', rfl, hmb, hib⟩ := hB place b hbp
      have hblen : b.length ≤ 100 := hbl b (List.mem_of_getElem? hbp)
      have hplt : place < 1000 := by
        have := (List.getElem?_eq_some_iff.mp hbp).1
        omega
      w_strict (k_steps)
      unfold Stop
      refine itemK (N₁ _ hmB).1 hub rfl hplt ?_
      w_strict (k_steps)
      unfold Stop
      refine use_call (bisect_ok hib hblen hmb) Bw F₂ X N₁ T hk (by omega) (by omega) fun r news' h' tk' F' N' P => ?_
      obtain ⟨rfl, tb, rfl⟩ := P
      generalize hkk : bisGo b num b.length 0 b.length = kk at hsp ⊢
      clear F₂ N₁
      match kk, hsp with
      | 1, hsp =>
        w_strict (k_steps)
        rename Fr g _ _ _ => F8
        rename News g _ _ _ => N8
        change qk (Flow.ret (Value.str ⟨wd.toArray⟩ t3)) _
        exact BodyEnd.mk' F8 N8 ⟨rfl, t3, by cases hsp; rfl⟩
      | k + 2, hsp =>
        dsimp only at hsp
        cases hwp : W[place]? with
        | none => rw [hwp] at hsp; cases hsp
        | some row =>
        cases hbk : b[k + 1]? with
        | none => rw [hwp, hbk] at hsp; cases hsp
        | some gb =>
        rw [hwp, hbk] at hsp
        dsimp only at hsp
        cases hrk : row[k]? with
        | none => rw [hrk] at hsp; cases hsp
        | some cb =>
        obtain ⟨c, behind⟩ := cb
        rw [hrk] at hsp
        dsimp only at hsp
        obtain ⟨uw, huw, ar, vr, nr, rfl, hmr, hlr, hrow⟩ := hW place row hwp
        obtain ⟨ut, hut, at', tc, tb2, rfl, hmt⟩ := hrow k (c, behind) hrk
        obtain ⟨tg, htg⟩ := ints_at hib hbk
        have hklt : k + 1 < 1000 := by
          have := (List.getElem?_eq_some_iff.mp hbk).1
          omega
        w_strict (k_steps)
        · exfalso; rename ((k + 2 : Nat) : Int) - 1 = 0 => hz; omega
        unfold Stop
        rename Fr g _ _ _ => F8
        rename News g _ _ _ => N8
        refine itemK (N8 _ hmW).1 huw rfl hplt ?_
        w_strict (k_steps)
        unfold Stop
        refine itemK (j := k) (N8 _ hmr).1 hut (by omega) (by omega) ?_
        have N9 : News g L' _ ((at', tupO [.str ⟨#[c]⟩ tc, .int (behind : Int) tb2]) :: news') := fun p hp => by
          rcases List.mem_cons.mp hp with rfl | hp
          · exact N8 _ hmt
          · exact N8 p hp
        clear N8
        w_strict (k_steps)
        unfold Stop
        rename News g _ _ _ => N10
        refine itemK (N10 _ (List.mem_cons_of_mem _ hmB)).1 hub rfl hplt ?_
        w_strict (k_steps)
        unfold Stop
        refine itemK (j := k + 1) (N10 _ (List.mem_cons_of_mem _ hmb)).1 htg (by omega) hklt ?_
        w_strict (k_steps)
        rename Fr g _ _ _ => F11
        rename News g _ _ _ => N11
        have ew : (⟨wd.toArray⟩ : Str) ++ ⟨#[c]⟩ = ⟨(wd ++ [c]).toArray⟩ := by
          apply Str.ext'
          rw [Str.cps_append]
          simp
        rw [ew] at F11
        exact ⟨_, _, _, _, k', rfl, F11, (fun p hp => N11 p (List.mem_cons_of_mem _ hp)), by omega, rfl, behind, num - gb, wd ++ [c], _, _, _, rfl, rfl, rfl, rfl, rfl, hsp, by simp; omega⟩
end Mine
end partSpl

section partHini
open PySem PySem.W PySem.Spec PySem.Calls PyProof.Rows
namespace Mine
set_option maxRecDepth 100000
set_option maxHeartbeats 8000000

/-- a def's contract, of its code -/
noncomputable abbrev CodeG (dd : Prop) (w : World) (mean : ExcName → Option Value) (mg mb : Str → Option Value) (f : Value) (pos : List Value) (kw : List (Str × Value)) (news : Led) (dn un' : Nat) (Post : Value → Led → Prop) : Prop :=
  ∀ (dp un : Nat) (gd : Option (List Code)) (cn : Str) (cs : Scope) (a : Addr) (ccd : Value) (cl : List (Str × Addr)) (outer : List Env) (A₀ : Around) (base h₀ : Heap) (L : Addr) (m : Str → Option Value) (s : Shared) (R : Result → Shared → Prop),
    Below A₀ base outer h₀ → Fr h₀ L s.heap m → (hd.heap_39 w.params).In h₀ → News h₀ L s.heap news → TopM mean mg mb h₀ → cs.kind = .function →
    dp + dn < recursionLimit → un + un' < cLine →
    (∀ (r : Value) (news' : Led) (h' : Heap) (dr' : Drawn) (tk' : Nat), (dd ∨ dr' = s.drawn) → Fr h₀ L h' m → News h₀ L h' news' → Post r news' → R (.ok (.ret r)) { s with heap := h', drawn := dr', toks := tk' }) →
    codeAny (model PG w) (ktrTop dp un gd cn cs L a ccd cl outer) (.call f ⟨pos, kw⟩) R s

section
variable {w : World} {mean : ExcName → Option Value} {mg mb : Str → Option Value} {dd : Prop}
theorem fn_code {f : Addr} {pos : List Value} {kw : List (Str × Value)} {news : Led} {dn un' : Nat} {Post : Value → Led → Prop}
    {name qual : Str} {params : Arguments} {body : List Stmt} {scope : Scope} {dV kV doc pm cdv ct oc : Value} {an od : Option Addr} {osl : Array (Option Value)} {binds : List (Str × Value)}
    (ho : (hd.heap_39 w.params).lookup f = some ⟨oc, od, .func (fnOf name qual params body scope dV kV doc pm an cdv ct), osl⟩) (hcd : codeIn (hd.heap_39 w.params) cdv qual = true)
    (hb : ∀ s : Shared, (hd.heap_39 w.params).In s.heap → BindsTo s (fnOf name qual params body scope dV kV doc pm an cdv ct) ⟨pos, kw⟩ binds)
    (hloc : ∀ y ∈ binds, scope.names.lookup y.1 = some .local)
    (hco : scope.isCoroutine = false) (hgen : scope.isGenerator = false) (hk : scope.kind = .function) (hcell : ∀ x ∈ scope.names, x.2 ≠ .cell)
    (hdn : 0 < dn) (hun : 3 ≤ un')
    (h : ∀ (dp un : Nat) (gd : Option (List Code)) (outer : List Env) (A₀ : Around) (base g : Heap) (L' : Addr) (s : Shared),
      Below A₀ base outer g → Fr g L' s.heap (fun y => binds.reverse.lookup y) → (hd.heap_39 w.params).In g → News g L' s.heap news → TopM mean mg mb g →
      scope.kind = .function → dp + (dn - 1) < recursionLimit → un + (un' - 3) < cLine →
      wpAny (model PG w) (ktrTop dp un gd qual scope L' f cdv [] outer) (execs body (envX qual scope L' f cdv [])) (BodyG dd g L' s Post) (fun _ _ => False) s) :
    CodeG dd w mean mg mb (.ref f) pos kw news dn un' Post := by
  intro dp un gd cn cs a ccd cl outer A₀ base h₀ L m s R B F X N T hks hd hu hret
  refine code_def (env := envX cn cs L a ccd cl) B F X N T rfl rfl hks ho hcd (by show dp < recursionLimit; omega) (hb s (X.keeps F.keep)) hloc ?_ hco hgen hk hcell
  intro g L' h₁ FG F' N' B' X' T'
  refine wpAny_mono (h (dp + 1) (un + 3) gd (envX cn cs L a ccd cl :: outer) _ _ g L' _ B' F' X' N' T' hk (by omega) (by omega)) (fun fl s' hq => ?_) fun _ _ x => x.elim
  obtain ⟨m', news', h', dr', tk', hdr, rfl, F₂, N₂, P₂⟩ := hq
  refine ⟨L', m', news', F₂, N₂, fun F₃ N₃ => ?_⟩
  cases fl <;> exact hret _ news' h' dr' tk' hdr F₃ N₃ P₂
end
local macro_rules | `(tactic| k_all) => `(tactic| assumption)

noncomputable def StrPair (news : Led) (v : Value) (p : Str × Str) : Prop := ∃ (t : Addr) (tk1 tk2 : Tok), v = .ref t ∧ (t, tupO [.str p.1 tk1, .str p.2 tk2]) ∈ news
noncomputable def okPair (p : Str × Str) : Prop := (p.1.cps.size ≤ 100 ∧ noHit nameCode p.1.cps = true) ∧ (p.2.cps.size ≤ 100 ∧ noHit valueCode p.2.cps = true)
noncomputable abbrev hdrD (w : World) (tk : Tok) (v : Value) : Obj := dictOf [⟨PyData.keyHash w.params (Str.ofString "_headers"), .str (Str.ofString "_headers") tk, v⟩] 1
local macro_rules | `(tactic| walk_at "exec For Tuple Name cons nil") => `(tactic| refine Stop.of ?_)
theorem init_ok {w : World} {mean : ExcName → Option Value} {mg mb : Str → Option Value} {x dx : Addr} {vl : Value} {pairs : List (Str × Str)} {news : Led} (hp : LsOf (StrPair news) news vl pairs) (hok : ∀ p ∈ pairs, okPair p) (hdx : dx < x) (hlt : ∀ p ∈ news, p.1 < dx) :
    CodeG False w mean mg mb (.ref 63) [.ref x, vl] [] ((x, instObj 171 dx) :: (dx, dictOf [] 0) :: news) 2 20 (fun r n => r = .none ∧ ∃ tk, n = (x, instObj 171 dx) :: (dx, hdrD w tk vl) :: news) := by
  obtain ⟨l, vs, nl, rfl, hml, hll, hitems⟩ := hp
  refine fill fun hfill => ?_
  revert hfill; k_fill; intro _
  k_dflt (refine' fn_code ?ho ?hcd ?hb ?hloc ?h1 ?h2 ?h3 ?h4 ?h5 ?h6 ?_; (case ho => k_is); (case hcd => k_is); (case hb => first | exact fun _ _ => BindsTo.of_eq rfl | exact fun _ hX => kp_binds hX (fun _ => rfl)); (case hloc => exact locs rfl); (case h1 => exact rfl); (case h2 => exact rfl); (case h3 => exact rfl); (case h4 => decide); (case h5 => decide); (case h6 => decide); k_whole)
  intro dp un gd outer A₀ base g L' s Bw F X N T hk hdp hun
  try dsimp only
  k_fold
  have hne : ∀ p ∈ news, p.1 ≠ dx := fun p hp => Nat.ne_of_lt (hlt p hp)
  have N0 : News g L' s.heap ((x, instObj 171 dx) :: (dx, dictOf [] 0) :: (l, PySem.W.listOf vs.toArray nl) :: news) := fun p hp => by
    simp only [List.mem_cons] at hp
    rcases hp with rfl | rfl | rfl | hp
    · exact N _ (by simp)
    · exact N _ (by simp)
    · exact N _ (by simp [hml])
    · exact N _ (by simp [hp])
  have hl1 : l < dx := hlt _ hml
  clear N
  w_strict (k_steps)
  rename Fr g L' _ _ => F1
  rename News g L' _ _ => N1
  refine set_dict (K := hd.heap_39 w.params) (C := 171) (dx := dx) (es := []) (n := 0) F1 X N1 (InstAt.of_news N1 (List.mem_cons_self ..) (List.mem_cons_of_mem _ (List.mem_cons_self ..))) rfl (by k_is) (by k_is) (by k_is) (by k_is) rfl rfl (Upd.tail (Nat.ne_of_gt hdx) (Upd.head ?_)) (Nat.le_of_ble_eq_true rfl) fun h' F2 N2 => ?_
  · intro p hp; rcases List.mem_cons.mp hp with rfl | hp
    · exact Nat.ne_of_lt hl1
    · exact hne p hp
  clear F1 N1
  dsimp only
  w_strict (k_steps)
  unfold Stop
  obtain ⟨tkh, N2⟩ : ∃ tkh, News g L' h' ((x, instObj 171 dx) :: (dx, hdrD w tkh (.ref l)) :: (l, PySem.W.listOf vs.toArray nl) :: news) := ⟨_, N2⟩
  refine For_listT (news := ((x, instObj 171 dx) :: (dx, hdrD w tkh (.ref l)) :: (l, PySem.W.listOf vs.toArray nl) :: news)) (D := l) (vs := vs) (n := nl) (fun i m₁ news₁ => news₁ = ((x, instObj 171 dx) :: (dx, hdrD w tkh (.ref l)) :: (l, PySem.W.listOf vs.toArray nl) :: news) ∧ m₁ (Str.ofString "self") = some (.ref x)) ?hh ?hit ?hrefs F2 N2 (fun i m₁ n₁ h => ?_) ⟨rfl, rfl⟩ ?_ ?_ (by intro _; rfl)
  case hh => exact rfl
  case hit => exact fun Q' hq => wpAny_Name (wpAny_loadName_local rfl rfl F2.ns rfl hq)
  case hrefs =>
    intro v hv
    obtain ⟨i, hi⟩ := List.getElem?_of_mem hv
    have hlt := (List.getElem?_eq_some_iff.mp hi).1
    obtain ⟨u, hu, t, _, _, rfl, _⟩ := hitems i (pairs[i]'(hll ▸ hlt)) (List.getElem?_eq_getElem _)
    rw [hi] at hu
    exact ⟨t, Option.some.inj hu⟩
  · rw [h.1]; simp
  · rintro i v m₁ news₁ h tk I oI hv ⟨rfl, hm⟩ F3 N3 off lt3
    obtain ⟨q, hq1, hq2⟩ : ∃ q, pairs[i]? = some q ∧ StrPair news v q := by
      have hlt := (List.getElem?_eq_some_iff.mp hv).1
      obtain ⟨u, hu, hs⟩ := hitems i (pairs[i]'(hll ▸ hlt)) (List.getElem?_eq_getElem _)
      rw [hv] at hu
      cases hu
      exact ⟨_, List.getElem?_eq_getElem _, hs⟩
    obtain ⟨t, tk1, tk2, rfl, htm⟩ := hq2
    obtain ⟨p1, p2⟩ := q
    dsimp only at htm
    have hq : okPair (p1, p2) := hok _ (List.mem_of_getElem? hq1)
    have F4 := Fr_pin F3 hm
    have N4 : News g L' h ((t, tupO [.str p1 tk1, .str p2 tk2]) :: (I, oI) :: (x, instObj 171 dx) :: (dx, hdrD w tkh (.ref l)) :: (l, PySem.W.listOf vs.toArray nl) :: news) := fun p hp => by
      rcases List.mem_cons.mp hp with rfl | hp
      · exact N3 _ (List.mem_cons_of_mem _ (by simp [htm]))
      · exact N3 p hp
    clear F3 F2 N2 N3
    w_strict (k_steps)
    rename Fr g L' _ _ => F5
    rename News g L' _ _ => N5
    have hq1s : p1.cps.size ≤ 1000 := by have := hq.1.1; simp only at this; omega
    have hq2s : p2.cps.size ≤ 1000 := by have := hq.2.1; simp only at this; omega
    refine use_call (kw := [(Str.ofString "name", .bool true)]) (conv_ok (self := .ref x) (x := p1) (tkx := tk1) hq1s hq.1.2) Bw F5 X N5 T hk (by omega) (by omega) fun r n h' tk' F6 N6 hr => ?_
    obtain ⟨rfl, rfl⟩ := hr
    clear F5 N5
    dsimp only
    w_strict (k_steps)
    rename Fr g L' _ _ => F5
    rename News g L' _ _ => N5
    refine use_call (kw := [(Str.ofString "name", .bool false)]) (conv_val (self := .ref x) (x := p2) (tkx := tk2) hq2s hq.2.2) Bw F5 X N5 T hk (by omega) (by omega) fun r n h' tk' F6 N6 hr => ?_
    obtain ⟨rfl, rfl⟩ := hr
    clear F5 N5
    dsimp only
    w_strict (k_steps)
    rename Fr g L' _ _ => F8
    rename News g L' _ _ => N8
    exact LEnd.intro F8 N8 _ (fun p hp => List.mem_cons_of_mem _ hp) off ⟨rfl, rfl⟩
  · rintro h tk m' news' F6 N6 ⟨rfl, hm⟩
    clear F2 N2
    dsimp only
    w_strict (k_steps)
    change qk Flow.next _
    exact BodyEnd.mk' F6 (fun p hp => N6 p (by simp only [List.mem_cons] at hp ⊢; rcases hp with h | h | h <;> simp [h])) ⟨rfl, tkh, rfl⟩
end Mine
end partHini

section partHcls
open PySem PySem.W PySem.Spec PySem.Calls PyProof.Rows
namespace Mine
set_option maxRecDepth 100000
set_option maxHeartbeats 8000000
theorem cls_ok {w : World} {mean : ExcName → Option Value} {mg mb : Str → Option Value} {vl : Value} {pairs : List (Str × Str)} {news : Led} (hp : LsOf (StrPair news) news vl pairs) (hok : ∀ p ∈ pairs, okPair p) :
    CallOK w mean mg mb (.ref 171) [vl] [] news 5 30 (fun r n => ∃ x dx tk, r = .ref x ∧ n = (x, instObj 171 dx) :: (dx, hdrD w tk vl) :: news ∧ (∀ p ∈ news, p.1 < dx) ∧ dx < x) := by
  refine fill fun hfill => ?_
  revert hfill; k_fill; intro _
  intro dp un gd cn cs a ccd cl outer A₀ base h₀ L m s Q E B F X N T hks hd1 hu hret
  refine call_cls (K := hd.heap_39 w.params) (fI := 63) F X N (by k_is) (by k_is) (by k_is) fun x dx h' F1 N1 hlt hdx => ?_
  refine init_ok (w := w) hp hok hdx hlt (dp + 1) _ _ _ _ _ _ _ _ _ _ _ _ _ _ _ B F1 X N1 T hks ?_ ?_ fun r n h' dr tk hdr F2 N2 hr => ?_
  · omega
  · have e : (Code.builtin "type.__call__" ⟨.ref 171 :: [vl], []⟩).cUnits ≤ 6 := by first | exact Nat.le_of_ble_eq_true rfl | decide | simp [Code.cUnits]
    show un + _ + 20 < cLine
    omega
  · obtain ⟨rfl, tk, rfl⟩ := hr
    exact ⟨rfl, hret _ _ _ _ _ hdr F2 N2 ⟨x, dx, tk, rfl, rfl, hlt, hdx⟩⟩
end Mine
end partHcls

section partHget
open PySem PySem.W PySem.Spec PySem.Calls PyProof.Rows
namespace Mine
set_option maxRecDepth 100000
set_option maxHeartbeats 8000000
local macro_rules | `(tactic| k_all) => `(tactic| assumption)
local macro_rules | `(tactic| walk_at "exec For Tuple Name cons nil") => `(tactic| refine Stop.of ?_)
local macro_rules | `(tactic| walk_at "call ref") => `(tactic| refine Stop.of ?_)
local macro_rules | `(tactic| walk_at "call builtin:str.lower") => `(tactic| refine Stop.of ?_)

noncomputable def lowS (x : Str) : Str := Txt.lower x
noncomputable def lowOk (x : Str) : Prop := PySem.Builtin.Str.tooLong (Txt.lower x).length = false
noncomputable def getH (pairs : List (Str × Str)) (nm : Str) (d : Str) : Str := match pairs.find? (fun p => lowS p.1 == nm) with | some p => p.2 | none => d
theorem getH_pos {p : Str × Str} {r : List (Str × Str)} {nm d : Str} (h : (lowS p.1 == nm) = true) : getH (p :: r) nm d = p.2 := by
  unfold getH
  rw [List.find?_cons_of_pos (p := fun p : Str × Str => lowS p.1 == nm) h]
theorem getH_neg {p : Str × Str} {r : List (Str × Str)} {nm d : Str} (h : (lowS p.1 == nm) = false) : getH (p :: r) nm d = getH r nm d := by
  unfold getH
  rw [List.find?_cons_of_neg (p := fun p : Str × Str => lowS p.1 == nm) (by rw [h]; exact Bool.false_ne_true)]
theorem get_ok {w : World} {mean : ExcName → Option Value} {mg mb : Str → Option Value} {x dx : Addr} {tkH tkn tkd : Tok} {nm dv : Str} {vl : Value} {pairs : List (Str × Str)} {news : Led} (hx : (x, instObj 171 dx) ∈ news) (hdx : (dx, hdrD w tkH vl) ∈ news) (hp : LsOf (StrPair news) news vl pairs)
    (hok : ∀ p ∈ pairs, lowOk p.1) (hn : lowOk nm) (hn2 : (lowS nm).cps.size ≤ 1000) (hn3 : noHit nameCode (lowS nm).cps = true) :
    CallOK w mean mg mb (.ref 118) [.ref x, .str nm tkn, .str dv tkd] [] news 2 20 (fun r n => n = news ∧ ∃ tk', r = .str (getH pairs (lowS nm) dv) tk') := by
  obtain ⟨l, vs, nl, rfl, hml, hll, hitems⟩ := hp
  refine fill fun hfill => ?_
  revert hfill; k_fill; intro _
  k_dflt (refine' fn_ok ?ho ?hcd ?hb ?hloc ?h1 ?h2 ?h3 ?h4 ?h5 ?h6 ?_; (case ho => k_is); (case hcd => k_is); (case hb => first | exact fun _ _ => BindsTo.of_eq rfl | exact fun _ hX => kp_binds hX (fun _ => rfl)); (case hloc => exact locs rfl); (case h1 => exact rfl); (case h2 => exact rfl); (case h3 => exact rfl); (case h4 => decide); (case h5 => decide); (case h6 => decide); k_whole)
  intro dp un gd outer A₀ base g L' s Bw F X N T hk hdp hun
  try dsimp only
  k_fold
  have N0 : News g L' s.heap ((x, instObj 171 dx) :: (dx, hdrD w tkH (.ref l)) :: (l, PySem.W.listOf vs.toArray nl) :: news) := fun p hp => by
    simp only [List.mem_cons] at hp
    rcases hp with rfl | rfl | rfl | hp
    · exact N _ hx
    · exact N _ hdx
    · exact N _ hml
    · exact N _ hp
  clear N
  w_strict (k_steps)
  unfold Stop
  refine KXw.lower (x := nm) (y := lowS nm) (t := tkn) rfl hn fun t' k => ?_
  dsimp only
  w_strict (k_steps)
  unfold Stop
  rename Fr g L' _ _ => F5
  rename News g L' _ _ => N5
  refine use_call (kw := [(Str.ofString "name", .bool true)]) (conv_ok (self := .ref x) (x := lowS nm) (tkx := t') hn2 hn3) Bw F5 X N5 T hk (by omega) (by omega) fun r n h' tk' F6 N6 hr => ?_
  obtain ⟨rfl, rfl⟩ := hr
  clear F5 N5
  dsimp only
  w_strict (k_steps)
  rename Fr g L' _ _ => F2
  rename News g L' _ _ => N2
  refine For_listU (news := ((x, instObj 171 dx) :: (dx, hdrD w tkH (.ref l)) :: (l, PySem.W.listOf vs.toArray nl) :: news)) (D := l) (vs := vs) (n := nl) (fun i m₁ news₁ => news₁ = ((x, instObj 171 dx) :: (dx, hdrD w tkH (.ref l)) :: (l, PySem.W.listOf vs.toArray nl) :: news) ∧ m₁ (Str.ofString "self") = some (.ref x) ∧ m₁ (Str.ofString "name") = some (.str (lowS nm) t') ∧ m₁ (Str.ofString "default") = some (.str dv tkd) ∧ getH pairs (lowS nm) dv = getH (pairs.drop i) (lowS nm) dv) ?hh ?hit ?hrefs F2 N2 (fun i m₁ n₁ h => ?_) ⟨rfl, rfl, rfl, rfl, by rw [List.drop_zero]⟩ ?_ ?_ (by intro _; rfl)
  case hh => exact rfl
  case hit =>
    intro Q' hq
    w_strict (k_steps)
    exact hq _
  case hrefs =>
    intro v hv
    obtain ⟨i, hi⟩ := List.getElem?_of_mem hv
    have hlt := (List.getElem?_eq_some_iff.mp hi).1
    obtain ⟨u, hu, t, _, _, rfl, _⟩ := hitems i (pairs[i]'(hll ▸ hlt)) (List.getElem?_eq_getElem _)
    rw [hi] at hu
    exact ⟨t, Option.some.inj hu⟩
  · rw [h.1]; simp
  · rintro i v m₁ news₁ h tk2 I oI hv ⟨rfl, hm1, hm2, hm3, hget⟩ F3 N3 off lt3
    obtain ⟨q, hq1, hq2⟩ : ∃ q, pairs[i]? = some q ∧ StrPair news v q := by
      have hlt := (List.getElem?_eq_some_iff.mp hv).1
      obtain ⟨u, hu, hs⟩ := hitems i (pairs[i]'(hll ▸ hlt)) (List.getElem?_eq_getElem _)
      rw [hv] at hu
      cases hu
      exact ⟨_, List.getElem?_eq_getElem _, hs⟩
    obtain ⟨t, tk1, tk3, rfl, htm⟩ := hq2
    obtain ⟨p1, p2⟩ := q
    dsimp only at htm
    have hq : lowOk p1 := hok (p1, p2) (List.mem_of_getElem? hq1)
    have F4 := Fr_pin (Fr_pin (Fr_pin F3 (x := Str.ofString "default") (by exact hm3)) (x := Str.ofString "name") (by exact hm2)) (x := Str.ofString "self") (by exact hm1)
    have N4 : News g L' h ((t, tupO [.str p1 tk1, .str p2 tk3]) :: (I, oI) :: (x, instObj 171 dx) :: (dx, hdrD w tkH (.ref l)) :: (l, PySem.W.listOf vs.toArray nl) :: news) := fun p hp => by
      rcases List.mem_cons.mp hp with rfl | hp
      · exact N3 _ (List.mem_cons_of_mem _ (by simp [htm]))
      · exact N3 p hp
    clear F3 F2 N2 N3
    have hdrop : pairs.drop i = (p1, p2) :: pairs.drop (i + 1) := by
      obtain ⟨hlt, h2⟩ := List.getElem?_eq_some_iff.mp hq1
      rw [← h2]; exact List.drop_eq_getElem_cons hlt
    rw [hdrop] at hget
    w_strict (k_steps)
    unfold Stop
    refine KXw.lower (x := p1) (y := lowS p1) (t := tk1) rfl hq fun t2 k2 => ?_
    dsimp only
    w_strict (k_steps)
    · rename (lowS p1 == lowS nm) = true => hb
      rename Fr g _ _ _ => F8
      rename News g _ _ _ => N8
      change qk (Flow.ret _) _
      refine BodyEnd.mk' F8 (fun p hp => N8 p (by simp [hp])) ⟨rfl, tk3, ?_⟩
      rw [hget, getH_pos (p := (p1, p2)) hb]
      rfl
    · rename (lowS p1 == lowS nm) = false => hb
      rename Fr g _ _ _ => F8
      rename News g _ _ _ => N8
      refine LEnd.intro F8 N8 _ (fun p hp => List.mem_cons_of_mem _ hp) off ⟨rfl, by exact rfl, by exact rfl, by exact rfl, ?_⟩
      rw [hget, getH_neg (p := (p1, p2)) hb]
  · rintro h tk2 m' news' F6 N6 ⟨rfl, hm1, hm2, hm3, hget⟩
    clear F2 N2
    have F7 := Fr_pin F6 hm3
    clear F6
    dsimp only
    w_strict (k_steps)
    change qk (Flow.ret _) _
    refine BodyEnd.mk' F7 (fun p hp => N6 p (by simp [hp])) ⟨rfl, tkd, ?_⟩
    rw [hget, List.drop_of_length_le (Nat.le_of_eq hll.symm)]
    rfl
end Mine
end partHget

section partForg
open PySem PySem.W PySem.Spec PySem.Calls PyProof.Rows
namespace Mine
set_option maxRecDepth 100000
theorem wpAny_pyIter_rngiter {prog : Program} {w : World} {A : Around} {E : Value → Shared → Prop} {s : Shared} {it : Addr} {x left step : Int} {Q : Value → Shared → Prop} (hit : IsRangeIter s.heap it x left step) (h : Q (.ref it) s) : wpAny (model prog w) A (pyIter (.ref it)) Q E s := by
  have hT : s.TypeIs (.ref it) "range_iterator" := ⟨_, hit, rfl⟩
  refine wpAny_pyIter_slot hT F.slot_range_iterator_iter (wpAny_call_entry F.slot_range_iterator_iter hT F.entry_range_iterator_iter ?_ (F.args_range_iterator_iter_1 _))
  show wpAny _ _ (ret (.ref it)) _ _ s
  exact wpAny_pure ⟨_, rfl, "range_iterator", _, hT, F.slot_range_iterator_next.lookup, h⟩
theorem Walks.rng {prog : Program} {w : World} {A : Around} (hh : A.handled = none) (I : Addr) (a c : Int) (n : Nat) :
    Walks prog w A I [I] [I] n (fun i v => ∃ t, v = .int (a + i * c) t) (fun i h => IsRangeIter h I (a + (i : Nat) * c) ((n : Int) - (i : Nat)) c) where
  sub := fun _ hb => hb
  frame := fun _ _ _ st hk => hk I (by simp) _ st
  item := fun i s Q E hi st hQ => by
    refine wpAny_pyNext_range_item st (by omega) fun h' hit' hs' => ?_
    refine hQ _ h' _ ⟨_, rfl⟩ ?_ fun b o hb e => hs'.extBut b o (fun h => hb (by simp [h])) e
    have e1 : a + ((i + 1 : Nat) : Int) * c = a + (i : Int) * c + c := by push_cast; rw [Int.add_mul, Int.one_mul, Int.add_assoc]
    have e2 : (n : Int) - ((i + 1 : Nat) : Int) = (n : Int) - (i : Int) - 1 := by push_cast; omega
    rw [e1, e2]; exact hit'
  done := fun s Q E st hQ => wpAny_pyNext_range_end hh st (by omega) fun h' he' => hQ h' s.toks fun b o hb e => he' b o (fun h => hb (by simp [h])) e
  self := fun _ _ _ _ st hQ => wpAny_pyIter_rngiter st hQ
section
variable {prog : Program} {w : World} {A : Around} {s : Shared} {env : Env}
/-- a `for` loop's pass, from the state after `iter()` -/
theorem For_pass {x : Str} {px : Pos} {body : List Stmt} {Q : Flow → Shared → Prop} {h₀ : Heap} {m : Str → Option Value} {news : List (Addr × Obj)} {I : Addr} {oI : Obj} {fp : List Addr} {n : Nat} {P : Nat → Value → Prop} {St : Nat → Heap → Prop}
    (J : Nat → (Str → Option Value) → List (Addr × Obj) → Prop)
    (hx : env.kindOf x = some .local) (hp : (env.scope.kind == .class || (env.scope.kind == .module && env.locals != env.globals)) = false)
    (W : Walks prog w A I fp [I] n P St)
    (hst : ∀ i h h' m₁ news₁, J i m₁ news₁ → News h₀ env.locals h' news₁ → St i h → h'.get? I = h.get? I → St i h')
    (hsI : ∀ i h, St i h → ∃ o, h.get? I = some o) (hLf : env.locals ∉ fp)
    (st0 : St 0 s.heap) (F : Fr h₀ env.locals s.heap m) (N : News h₀ env.locals s.heap ((I, oI) :: news)) (hoff : ∀ p ∈ news, p.1 ≠ I) (h0 : J 0 m news)
    (turn : ∀ i v m₁ news₁ h tk oI, i < n → P i v → J i m₁ news₁ → Fr h₀ env.locals h (fun y => if y = x then some v else m₁ y) → News h₀ env.locals h ((I, oI) :: news₁) → (∀ p ∈ news₁, p.1 ≠ I) →
      wpAny (model prog w) A (execs body env) (LPost h₀ env.locals s I oI (J (i + 1)) Q) nof { s with heap := h, toks := tk })
    (done : ∀ h tk m' news', Fr h₀ env.locals h m' → News h₀ env.locals h news' → J n m' news' → Q .next { s with heap := h, toks := tk }) :
    ∃ Inv : Nat → Shared → Prop, (∃ k, Inv k s) ∧
      ∀ k s, Inv k s → wpAny (model prog w) A (pyNext (.ref I)) (fun r s₁ => match r with
        | none => Q .next s₁
        | some v => wpAny (model prog w) A (assign (.Name x px) env v) (fun _ s₂ => wpAny (model prog w) A (execs body env) (fun f s₃ => match f with
          | .next | .cont => TurnEnd Inv k s₃
          | .brk => Q .next s₃
          | .ret v => Q (.ret v) s₃) nof s₂) nof s₁) nof s := by
  have hnew : h₀.get? I = none := (N _ (List.mem_cons_self ..)).2.2
  have hIL : I ≠ env.locals := (N _ (List.mem_cons_self ..)).2.1
  refine ⟨fun k s' => ∃ h' tk i m' news' oI, s' = { s with heap := h', toks := tk } ∧ i ≤ n ∧ k = n + 1 - i ∧ St i h' ∧ Fr h₀ env.locals h' m' ∧ News h₀ env.locals h' ((I, oI) :: news') ∧ (∀ p ∈ news', p.1 ≠ I) ∧ J i m' news',
    ⟨n + 1, _, _, 0, m, news, _, rfl, Nat.zero_le _, rfl, st0, F, N, hoff, h0⟩, ?_⟩
  rintro k s' ⟨h', tk, i, m', news', oI', rfl, hi, rfl, hit', F', N', off, hj⟩
  have N'' : News h₀ env.locals h' news' := fun p hp => N' p (List.mem_cons_of_mem _ hp)
  by_cases hlt : i < n
  · refine W.item i _ _ _ hlt hit' fun v h1 tk1 hv st1 hk1 => ?_
    dsimp only at hk1
    have F1 := LCg.fr_but F' hk1 (Ne.symm hIL) hnew
    have N1 := LCg.news_but N'' hk1 off
    have hI1 := hsI _ _ st1
    obtain ⟨o1, ho1⟩ := hI1
    refine wpAny_assign_Name (wpAny_storeName_local hx F1.ns (fun h2 hn2 sb2 => ?_) hp)
    have F2 : Fr h₀ env.locals h2 (fun y => if y = x then some v else m' y) := F1.set hn2 sb2
    have hI2 := sb2.2 I hIL
    have N2 : News h₀ env.locals h2 ((I, o1) :: news') := fun p hp => by
      rcases List.mem_cons.mp hp with rfl | hp
      · exact ⟨hI2.trans ho1, hIL, hnew⟩
      · exact N1.set sb2 p hp
    have st2 : St (i + 1) h2 := W.frame _ _ _ st1 fun b hb o e => (sb2.2 b (fun q => hLf (q ▸ hb))).trans e
    refine wpAny_mono (turn i v m' news' h2 _ o1 hlt hv hj F2 N2 off) (fun f s3 h3 => ?_) fun _ _ e => e
    have fin : LEnd h₀ env.locals s I o1 (J (i + 1)) s3 → TurnEnd (fun k s' => ∃ h' tk i m' news' oI, s' = { s with heap := h', toks := tk } ∧ i ≤ n ∧ k = n + 1 - i ∧ St i h' ∧ Fr h₀ env.locals h' m' ∧ News h₀ env.locals h' ((I, oI) :: news') ∧ (∀ p ∈ news', p.1 ≠ I) ∧ J i m' news') (n + 1 - i) s3 := by
      rintro ⟨h4, tk4, m4, news4, rfl, F4, N4, off4, p4⟩
      refine ⟨n + 1 - (i + 1), by omega, h4, tk4, i + 1, m4, news4, o1, rfl, hlt, rfl, hst _ _ _ _ _ p4 (fun p hp => N4 p (List.mem_cons_of_mem _ hp)) st2 ?_, F4, N4, off4, p4⟩
      exact (N4 _ (List.mem_cons_self ..)).1.trans (hI2.trans ho1).symm
    cases f with
    | next => exact fin h3
    | cont => exact fin h3
    | brk => exact h3
    | ret v => exact h3
  · have hin : i = n := by omega
    subst hin
    refine W.done _ _ _ hit' fun h1 tk1 hk1 => ?_
    dsimp only at hk1
    exact done h1 tk1 m' news' (LCg.fr_but F' hk1 (Ne.symm hIL) hnew) (LCg.news_but N'' hk1 off) hj
noncomputable def RngPost (prog : Program) (w : World) (A : Around) (env : Env) (x : Str) (body : List Stmt) (h₀ : Heap) (Q : Flow → Shared → Prop) (xv : Value) (s₁ : Shared) : Prop :=
  ∃ (r : Addr) (a c : Int) (b : Int) (tu tv tw : Tok) (n : Nat) (m : Str → Option Value) (news : List (Addr × Obj)) (J : Nat → (Str → Option Value) → List (Addr × Obj) → Prop),
      xv = .ref r ∧ IsRange s₁.heap r a b c tu tv tw ∧ Builtin.Range.small a b c = true ∧ Builtin.Range.rangeSize a b c = n ∧ Fr h₀ env.locals s₁.heap m ∧ News h₀ env.locals s₁.heap news ∧ J 0 m news ∧
      env.kindOf x = some .local ∧ (env.scope.kind == .class || (env.scope.kind == .module && env.locals != env.globals)) = false ∧ A.handled = none ∧
      (∀ i t m₁ news₁ h tk I oI, i < n → J i m₁ news₁ → Fr h₀ env.locals h (fun y => if y = x then some (.int (a + i * c) t) else m₁ y) → News h₀ env.locals h ((I, oI) :: news₁) → (∀ p ∈ news₁, p.1 ≠ I) →
        wpAny (model prog w) A (execs body env) (LPost h₀ env.locals s₁ I oI (J (i + 1)) Q) nof { s₁ with heap := h, toks := tk }) ∧
      (∀ h tk m' news', Fr h₀ env.locals h m' → News h₀ env.locals h news' → J n m' news' → Q .next { s₁ with heap := h, toks := tk })
theorem For_rng {x : Str} {px : Pos} {iter : PySem.Expr} {body : List Stmt} {pos : Pos} {Q : Flow → Shared → Prop} {h₀ : Heap} {E : Value → Shared → Prop}
    (hs : ∀ x, foldedSetIterable iter env x = pure x) (hE : E = nof)
    (h : wpAny (model prog w) A (eval iter env) (RngPost prog w A env x body h₀ Q) nof s) :
    wpAny (model prog w) A (exec (.For (.Name x px) iter body [] pos) env) Q E s := by
  subst hE
  refine For_my (wpAny_mono h (fun xv s₁ h₁ => ?_) fun _ _ e => e) hs
  obtain ⟨r, a, c, b, tu, tv, tw, n, m, news, J, rfl, hr, hsm, hsz, F, N, h0, hx, hp, hh, turn, done⟩ := h₁
  refine wpAny_pyIter_range hr hsm ?_
  have hnew : h₀.get? s₁.heap.objs.size = none := next_is_new F
  have hLlt : env.locals < s₁.heap.objs.size := F.ns.lt
  have nI : ∀ p ∈ news, p.1 < s₁.heap.objs.size := fun p hp => Heap.lt_size (N p hp).1
  have hpush := Heap.get?_push_size s₁.heap (o := ({ cls := .type "range_iterator", data := .fields #[rawInt a, rawInt (Builtin.Range.rangeSize a b c), rawInt c] } : Obj)) rfl
  refine For_pass (h₀ := h₀) (m := m) (news := news) (oI := { cls := .type "range_iterator", data := .fields #[rawInt a, rawInt (Builtin.Range.rangeSize a b c), rawInt c] }) J hx hp (Walks.rng hh _ a c n) (fun i h h' m₁ news₁ _ _ st e => ?_) (fun i h st => ⟨_, st⟩) ?_ ?_ (F.push _) ?_ (fun p hp => Nat.ne_of_lt (nI p hp)) h0 ?_ ?_
  · show h'.get? _ = _
    rw [e]; exact st
  · intro hm; exact absurd (List.mem_singleton.mp hm) (Nat.ne_of_lt hLlt)
  · show Heap.get? _ _ = _
    rw [hpush, hsz]
    simp
  · intro p hp
    rcases List.mem_cons.mp hp with rfl | hp
    · exact ⟨hpush, Nat.ne_of_gt hLlt, hnew⟩
    · exact ⟨Heap.get?_push_of_some _ (N p hp).1, (N p hp).2⟩
  · rintro i v m₁ news₁ h tk oI hi ⟨t, rfl⟩ hj F1 N1 off
    exact turn i t m₁ news₁ h tk _ oI hi hj F1 N1 off
  · intro h tk m' news' F1 N1 hj
    exact done h tk m' news' F1 N1 hj
noncomputable def LstPost (prog : Program) (w : World) (A : Around) (env : Env) (x : Str) (body : List Stmt) (h₀ : Heap) (Q : Flow → Shared → Prop) (xv : Value) (s₁ : Shared) : Prop :=
  ∃ (D : Addr) (vs : List Value) (c : Nat) (m : Str → Option Value) (news : List (Addr × Obj)) (J : Nat → (Str → Option Value) → List (Addr × Obj) → Prop),
      xv = .ref D ∧ Fr h₀ env.locals s₁.heap m ∧ News h₀ env.locals s₁.heap news ∧ J 0 m news ∧ (∀ i m₁ news₁, J i m₁ news₁ → (D, PySem.W.listOf vs.toArray c) ∈ news₁) ∧
      env.kindOf x = some .local ∧ (env.scope.kind == .class || (env.scope.kind == .module && env.locals != env.globals)) = false ∧ A.handled = none ∧
      (∀ i v m₁ news₁ h tk I oI, vs[i]? = some v → J i m₁ news₁ → Fr h₀ env.locals h (fun y => if y = x then some v else m₁ y) → News h₀ env.locals h ((I, oI) :: news₁) → (∀ p ∈ news₁, p.1 ≠ I) →
        wpAny (model prog w) A (execs body env) (LPost h₀ env.locals s₁ I oI (J (i + 1)) Q) nof { s₁ with heap := h, toks := tk }) ∧
      (∀ h tk m' news', Fr h₀ env.locals h m' → News h₀ env.locals h news' → J vs.length m' news' → Q .next { s₁ with heap := h, toks := tk })
/-- a `for` loop over a list: the rule from the state after the iterable's value -/
theorem For_lst {x : Str} {px : Pos} {iter : PySem.Expr} {body : List Stmt} {pos : Pos} {Q : Flow → Shared → Prop} {h₀ : Heap} {E : Value → Shared → Prop}
    (hs : ∀ x, foldedSetIterable iter env x = pure x) (hE : E = nof)
    (h : wpAny (model prog w) A (eval iter env) (LstPost prog w A env x body h₀ Q) nof s) :
    wpAny (model prog w) A (exec (.For (.Name x px) iter body [] pos) env) Q E s := by
  subst hE
  refine For_my (wpAny_mono h (fun xv s₁ h₁ => ?_) fun _ _ e => e) hs
  obtain ⟨D, vs, c, m, news, J, rfl, F, N, h0, hJ, hx, hp, hh, turn, done⟩ := h₁
  have hD := N _ (hJ _ _ _ h0)
  have hl : s₁.heap.IsList D vs.toArray := ⟨_, hD.1, rfl, c, rfl⟩
  refine wpAny_pyIter_list hl ?_
  have hnew : h₀.get? s₁.heap.objs.size = none := next_is_new F
  have hLlt : env.locals < s₁.heap.objs.size := F.ns.lt
  have nI : ∀ p ∈ news, p.1 < s₁.heap.objs.size := fun p hp => Heap.lt_size (N p hp).1
  have hDne : D ≠ s₁.heap.objs.size := Nat.ne_of_lt (Heap.lt_size hD.1)
  refine For_pass (h₀ := h₀) (m := m) (news := news) (oI := { cls := Value.type "list_iterator", data := Data.fields #[Value.ref D, Value.int 0 0] }) J hx hp (Walks.list hh _ D hDne vs.toArray) (fun i h h' m₁ news₁ hj hn st e => ?_) (fun i h st => ?_) ?_ ?_ (F.push _) ?_ (fun p hp => Nat.ne_of_lt (nI p hp)) h0 ?_ ?_
  · refine ⟨?_, ⟨_, (hn _ (hJ _ _ _ hj)).1, rfl, c, rfl⟩⟩
    obtain ⟨oI, hoI, hcI, hdI⟩ := st.1
    exact ⟨oI, e.trans hoI, hcI, hdI⟩
  · obtain ⟨oI, hoI, hcI, hdI⟩ := st.1
    exact ⟨oI, hoI⟩
  · intro hm
    rcases List.mem_cons.mp hm with h | h
    · exact absurd h (Nat.ne_of_lt hLlt)
    · exact (hD.2.1) (List.mem_singleton.mp h).symm
  · exact ⟨⟨_, Heap.get?_push_size _ rfl, rfl, rfl⟩, hl.push _⟩
  · intro p hp
    rcases List.mem_cons.mp hp with rfl | hp
    · exact ⟨Heap.get?_push_size _ rfl, Nat.ne_of_gt hLlt, hnew⟩
    · exact ⟨Heap.get?_push_of_some _ (N p hp).1, (N p hp).2⟩
  · rintro i v m₁ news₁ h tk oI hi hv hj F1 N1 off
    exact turn i v m₁ news₁ h tk _ oI (by simpa using hv) hj F1 N1 off
  · intro h tk m' news' F1 N1 hj
    rw [List.size_toArray] at hj
    exact done h tk m' news' F1 N1 hj
theorem For_list {x : Str} {px : Pos} {iter : PySem.Expr} {body : List Stmt} {pos : Pos} {Q : Flow → Shared → Prop} {h₀ : Heap} {m : Str → Option Value} {news : List (Addr × Obj)} {D : Addr} {vs : List Value} {n : Nat}
    (J : Nat → (Str → Option Value) → List (Addr × Obj) → Prop)
    (hx : env.kindOf x = some .local) (hp : (env.scope.kind == .class || (env.scope.kind == .module && env.locals != env.globals)) = false) (hh : A.handled = none)
    (hit : ∀ Q' : Value → Shared → Prop, Q' (.ref D) s → wpAny (model prog w) A (eval iter env) Q' nof s)
    (F : Fr h₀ env.locals s.heap m) (N : News h₀ env.locals s.heap news) (hJ : ∀ i m₁ news₁, J i m₁ news₁ → (D, PySem.W.listOf vs.toArray n) ∈ news₁) (h0 : J 0 m news)
    (turn : ∀ i v m₁ news₁ h tk I oI, vs[i]? = some v → J i m₁ news₁ → Fr h₀ env.locals h (fun y => if y = x then some v else m₁ y) → News h₀ env.locals h ((I, oI) :: news₁) → (∀ p ∈ news₁, p.1 ≠ I) →
      wpAny (model prog w) A (execs body env) (LPost h₀ env.locals s I oI (J (i + 1)) Q) nof { s with heap := h, toks := tk })
    (done : ∀ h tk m' news', Fr h₀ env.locals h m' → News h₀ env.locals h news' → J vs.length m' news' → Q .next { s with heap := h, toks := tk })
    (hs : ∀ x, foldedSetIterable iter env x = pure x := by intro _; rfl) :
    wpAny (model prog w) A (exec (.For (.Name x px) iter body [] pos) env) Q nof s := by
  refine For_lst (h₀ := h₀) hs rfl (hit (LstPost prog w A env x body h₀ Q) ?_)
  exact ⟨D, vs, n, m, news, J, rfl, F, N, h0, hJ, hx, hp, hh, turn, done⟩
end
end Mine
end partForg

section partLcompA
open PySem PySem.W PySem.Spec PySem.Calls PyProof.Rows
namespace Mine
set_option maxRecDepth 100000
set_option maxHeartbeats 2000000
section
variable {prog : Program} {w : World} {A : Around} {E : Value → Shared → Prop} {s : Shared} {R : Result → Shared → Prop}

theorem l_compA {y : Str} {py spos : Pos} {m : Str → Option Value} {env : Env} {elt iter : PySem.Expr} {x : Str} {px : Pos} {scope : Scope} {cl : List (Str × Addr)} {pos : Pos} {Q : Flow → Shared → Prop} (RR : Addr → Nat → Heap → Value → Prop)
    (hst : ∀ C i h h' y, RR C i h y → (∀ b o, C < b → h.get? b = some o → h'.get? b = some o) → RR C i h' y)
    (hclos : closureFor scope env = pure cl) (hcell : ∀ y ∈ scope.names, y.2 ≠ .cell) (hkind : scope.kind = .function)
    (hnames : ∀ y ∈ scope.names, y.2 = .local → scope.names.lookup y.1 = some .local) (hx : scope.names.lookup x = some .local)
    (hsw : swapsWith (.ListComp elt [⟨.Name x px, iter, [], 0⟩] scope pos) (some (.Name y py)) spos.line env = pure true) (hy : env.kindOf y = some .local) (hp : (env.scope.kind == .class || (env.scope.kind == .module && env.locals != env.globals)) = false)
    (h : wpAny (model prog w) A (eval iter env) (fun xv s₁ => wpAny (model prog w) A (pyIter xv) (fun it s₂ => ∃ (I : Addr) (fp : List Addr) (n : Nat) (P : Nat → Value → Prop) (St : Nat → Heap → Prop), it = .ref I ∧ Walks prog w A I fp [I] n P St ∧ n ≤ 1000 ∧ s₂.heap.Ns env.locals m ∧ env.locals ≠ I ∧ St 0 s₂.heap ∧ I < s₂.heap.objs.size ∧ (∀ b ∈ fp, b < s₂.heap.objs.size) ∧
      (∀ C i v s₃ m₃ E', i < n → P i v → s₂.heap.objs.size ≤ C → C < s₃.heap.objs.size → s₃.heap.Ns C m₃ → m₃ x = some v → (∀ b o, b ≠ I → s₂.heap.get? b = some o → s₃.heap.get? b = some o) →
        wpAny (model prog w) A (eval elt (compEnvC scope cl C env)) (fun r s₄ => RR C i s₄.heap r ∧ Keeps s₃ s₄) E' s₃) ∧
      (∀ D C h' tk' vs c, s₂.heap.objs.size ≤ D → D < C → h'.get? D = some (PySem.W.listOf vs c) → h'.Ns env.locals (fun z => if z = y then some (.ref D) else m z) → (∀ b o, b ≠ env.locals → b ≠ I → s₂.heap.get? b = some o → h'.get? b = some o) → vs.size = n → (∀ i, i < n → ∃ v, vs[i]? = some v ∧ RR C i h' v) →
        Q .next { s₂ with heap := h', toks := tk' })) E s₁) E s)
    (hs : ∀ x, foldedSetIterable iter env x = pure x := by intro _; rfl) :
    wpAny (model prog w) A (exec (.Assign [.Name y py] (.ListComp elt [⟨.Name x px, iter, [], 0⟩] scope pos) spos) env) Q E s := by
  rw [exec_Assign_Name_used _ _ _ _ hsw]
  refine wpAny_bind (wpAny_standAt (wpAny_bind ?_))
  show wpAny _ A (do let _ ← comprehension (.ListComp elt [⟨.Name x px, iter, [], 0⟩] scope pos) scope env _ (newList []) false (eval iter env) (some (assign (.Name y py) env))) _ _ s
  refine wpAny_bind (wpAny_mono (wpAny_comprehension_free (use := some (assign (.Name y py) env)) (Q := fun _ s' => Q .next s') rfl hs hclos hkind hnames
    (wpAny_mono h (fun xv s₁ h₁ => wpAny_mono h₁ (fun it s₂ h₂ => ?_) fun _ _ e => e) fun _ _ e => e)) (fun _ s' hq => wpAny_pure (wpAny_pure hq)) fun _ _ e => e)
  obtain ⟨I, fp, n, P, St, rfl, W, hn, hnE, hEI, st, hI, hfp, helt, hQ⟩ := h₂
  refine wpAny_newObj_type (wpAny_newFunctionEnv hcell (by intro y hy; simp at hy) (fun h₁ hns₁ hsb₁ => ?_) hkind)
  dsimp only at hns₁ hsb₁ ⊢
  have hDn := Heap.get?_push_size s₂.heap (o := PySem.W.listOf #[] 0) rfl
  have hCs : (s₂.heap.push (PySem.W.listOf #[] 0)).objs.size = s₂.heap.objs.size + 1 := size_push' _ _
  change h₁.Ns (s₂.heap.push (PySem.W.listOf #[] 0)).objs.size _ at hns₁
  change Heap.SameBut (s₂.heap.push (PySem.W.listOf #[] 0)).objs.size ((s₂.heap.push (PySem.W.listOf #[] 0)).push _) h₁ at hsb₁
  show codeAny (model prog w) A (.compStart _ 0 (.ref I) (.ref s₂.heap.objs.size) (compEnvC scope cl (s₂.heap.push (PySem.W.listOf #[] 0)).objs.size env)) (compPost (model prog w) A E (some (assign (.Name y py) env)) (fun _ s' => Q .next s') (.ref s₂.heap.objs.size) (s₂.heap.push (PySem.W.listOf #[] 0)).objs.size) _
  generalize hC : (s₂.heap.push (PySem.W.listOf #[] 0)).objs.size = C at hns₁ hsb₁ ⊢
  rw [hC] at hCs
  have hDC : s₂.heap.objs.size ≠ C := by rw [hCs]; exact Nat.ne_of_lt (Nat.lt_succ_self _)
  have old₁ : ∀ b o, s₂.heap.get? b = some o → h₁.get? b = some o := fun b o e =>
    hsb₁.extBut b o (by rw [hCs]; exact Nat.ne_of_lt (Nat.lt_succ_of_lt (Heap.lt_size e))) (Heap.get?_push_of_some _ (Heap.get?_push_of_some _ e))
  have hD₁ : h₁.get? s₂.heap.objs.size = some (PySem.W.listOf #[] 0) := hsb₁.extBut _ _ hDC (Heap.get?_push_of_some _ hDn)
  have hDf : s₂.heap.objs.size ∉ fp := fun hm => Nat.lt_irrefl _ (hfp _ hm)
  have hCf : C ∉ fp := fun hm => by have := hfp _ hm; rw [hCs] at this; exact absurd (Nat.lt_of_succ_lt this) (Nat.lt_irrefl _)
  have hIC : I ≠ C := by rw [hCs]; exact Nat.ne_of_lt (Nat.lt_succ_of_lt hI)
  have hID : I ≠ s₂.heap.objs.size := Nat.ne_of_lt hI
  have st₁ : St 0 h₁ := W.frame _ _ _ st fun b _ o e => old₁ b o e
  have loop : ∀ tk₀, codeAny (model prog w) A (.compLoop (.ListComp elt [⟨.Name x px, iter, [], 0⟩] scope pos) 0 (.ref I) (.ref s₂.heap.objs.size) (compEnvC scope cl C env))
      (compPost (model prog w) A E (some (assign (.Name y py) env)) (fun _ s' => Q .next s') (.ref s₂.heap.objs.size) C) { s₂ with heap := h₁, toks := tk₀ } := by
    intro tk₀
    refine codeAny_compLoop_list (fun k s' => ∃ h' tk i vs c m', s' = { s₂ with heap := h', toks := tk } ∧ i ≤ n ∧ k = n + 1 - i ∧ St i h' ∧ h'.get? s₂.heap.objs.size = some (PySem.W.listOf vs c) ∧ vs.size = i ∧
        (∀ j, j < i → ∃ v, vs[j]? = some v ∧ RR C j h' v) ∧ h'.Ns C m' ∧ ∀ b o, b ≠ I → s₂.heap.get? b = some o → h'.get? b = some o) ?_ (n + 1)
      ⟨h₁, _, 0, _, _, _, rfl, Nat.zero_le _, rfl, st₁, hD₁, rfl, fun j hj => absurd hj (Nat.not_lt_zero _), hns₁, fun b o _ e => old₁ b o e⟩
    rintro k s' ⟨h', tk, i, vs, c, m', rfl, hi, rfl, st', hD', hvs, hR', hn', hk'⟩
    by_cases hlt : i < n
    · refine W.item i _ _ _ hlt st' fun v h₂ tk₂ hv st₂ hk₂ => ?_
      dsimp only at hk₂
      refine wpAny_assign_Name (wpAny_storeName_local (lookup_relabel_local hx) (hn'.at' fun o e => hk₂ _ o (by simpa using Ne.symm hIC) e) (fun h₃ hn₃ hs₃ => ?_) (by simp [compEnvC, relabel, hkind]))
      dsimp only at hs₃
      have hs₃' : Heap.SameBut C h₂ h₃ := hs₃
      have st₃ : St (i + 1) h₃ := W.frame _ _ _ st₂ fun b hb o e => hs₃'.extBut b o (fun q => hCf (by rw [← q]; exact hb)) e
      have hk₃ : ∀ b o, b ≠ I → s₂.heap.get? b = some o → h₃.get? b = some o := fun b o hb e => by
        refine hs₃'.extBut b o (by rw [hCs]; exact Nat.ne_of_lt (Nat.lt_succ_of_lt (Heap.lt_size e))) (hk₂ b o (by simpa using hb) (hk' b o hb e))
      have hCl : C < h₃.objs.size := hn₃.lt
      refine wpAny_mono (helt C i v _ _ _ hlt hv (by rw [hCs]; exact Nat.le_succ _) hCl hn₃ (by simp) hk₃) (fun r s₄ hr => ?_) fun _ _ e => e
      obtain ⟨hRR, h₄, tk₅, rfl, hk₄⟩ := hr
      dsimp only at hk₄ hRR
      have hD₄ : h₄.get? s₂.heap.objs.size = some (PySem.W.listOf vs c) := hk₄ _ _ (hs₃'.extBut _ _ hDC (hk₂ _ _ (by simpa using Ne.symm hID) hD'))
      refine l_append (s := { s₂ with heap := h₄, toks := tk₅ }) hD₄ (by omega) fun h₅ c' sb₅ hD₅ => ?_
      dsimp only at sb₅
      have hns₄ : h₄.Ns C _ := hn₃.at' fun o e => hk₄ _ o e
      have up : ∀ b o, C < b → h'.get? b = some o → h₅.get? b = some o := fun b o hb e => by
        have hbI : b ≠ I := fun q => by rw [q, hCs] at hb; exact absurd (Nat.lt_of_succ_lt hb) (Nat.not_lt.mpr (Nat.le_of_lt hI))
        have hbD : b ≠ s₂.heap.objs.size := fun q => by rw [q, hCs] at hb; exact absurd (Nat.lt_of_succ_lt hb) (Nat.lt_irrefl _)
        exact (sb₅.2 b hbD).trans (hk₄ b o (hs₃'.extBut b o (Nat.ne_of_gt hb) (hk₂ b o (by simpa using hbI) e)))
      have up4 : ∀ b o, C < b → h₄.get? b = some o → h₅.get? b = some o := fun b o hb e =>
        (sb₅.2 b (fun q => by rw [q, hCs] at hb; exact absurd (Nat.lt_of_succ_lt hb) (Nat.lt_irrefl _))).trans e
      refine ⟨n + 1 - (i + 1), by omega, h₅, _, i + 1, vs.push r, c', _, rfl, hlt, rfl, ?_, hD₅, by rw [Array.size_push, hvs], ?_, hns₄.sameBut sb₅ (Ne.symm hDC), ?_⟩
      · exact W.frame _ _ _ st₃ fun b hb o e => (sb₅.2 b (fun q => hDf (by rw [← q]; exact hb))).trans (hk₄ b o e)
      · intro j hj
        rcases Nat.lt_or_ge j i with q | q
        · obtain ⟨v', hv', hr'⟩ := hR' j q
          refine ⟨v', ?_, hst _ _ _ _ _ hr' up⟩
          rw [Array.getElem?_push, if_neg (by omega)]; exact hv'
        · have : j = i := by omega
          subst this
          refine ⟨r, ?_, hst _ _ _ _ _ hRR up4⟩
          rw [Array.getElem?_push, if_pos hvs.symm]
      · intro b o hb e
        exact (sb₅.2 b (Nat.ne_of_lt (Heap.lt_size e))).trans (hk₄ b o (hk₃ b o hb e))
    · have hin : i = n := by omega
      subst hin
      refine W.done _ _ _ st' fun h₂ tk₂ hk₂ => ?_
      dsimp only at hk₂
      have hEs : env.locals < s₂.heap.objs.size := hnE.lt
      have hEC : env.locals ≠ C := by rw [hCs]; exact Nat.ne_of_lt (Nat.lt_succ_of_lt hEs)
      have hED : env.locals ≠ s₂.heap.objs.size := Nat.ne_of_lt hEs
      show wpAny _ A (assign (.Name y py) env (.ref s₂.heap.objs.size)) _ _ _
      refine wpAny_assign_Name (wpAny_storeName_local hy (hnE.at' fun o e => hk₂ _ o (by simpa using hEI) (hk' _ o hEI e)) (fun h₃ hn₃ hs₃ => ?_) hp)
      dsimp only at hs₃
      refine ⟨m', (hn'.at' fun o e => hk₂ _ o (by simpa using Ne.symm hIC) e).sameBut hs₃ (Ne.symm hEC), fun h'' hs'' => ?_⟩
      dsimp only at hs''
      have up : ∀ b o, C < b → h'.get? b = some o → h''.get? b = some o := fun b o hb e => by
        have hbI : b ≠ I := fun q => by rw [q, hCs] at hb; exact absurd (Nat.lt_of_succ_lt hb) (Nat.not_lt.mpr (Nat.le_of_lt hI))
        have hbE : b ≠ env.locals := fun q => by rw [q, hCs] at hb; exact absurd (Nat.lt_of_succ_lt hb) (Nat.not_lt.mpr (Nat.le_of_lt hEs))
        exact hs''.extBut b o (Nat.ne_of_gt hb) (hs₃.extBut b o hbE (hk₂ b o (by simpa using hbI) e))
      refine hQ s₂.heap.objs.size C h'' _ vs c (Nat.le_refl _) (by rw [hCs]; exact Nat.lt_succ_self _) (hs''.extBut _ _ hDC (hs₃.extBut _ _ (Ne.symm hED) (hk₂ _ _ (by simpa using Ne.symm hID) hD'))) (hn₃.sameBut hs'' hEC) ?_ hvs ?_
      · intro b o hbL hb e
        exact hs''.extBut b o (by rw [hCs]; exact Nat.ne_of_lt (Nat.lt_succ_of_lt (Heap.lt_size e))) (hs₃.extBut b o hbL (hk₂ b o (by simpa using hb) (hk' b o hb e)))
      · intro j hj
        obtain ⟨v', hv', hr'⟩ := hR' j hj
        exact ⟨v', hv', hst _ _ _ _ _ hr' up⟩
  exact codeAny_compStart_list (loop _) (W.self 0 _ _ _ st₁ (loop _))
end
end Mine
end partLcompA

section partLad
open PySem PySem.W PySem.Spec PySem.Calls PyProof.Rows
namespace Mine
set_option maxRecDepth 100000
set_option maxHeartbeats 8000000
local macro_rules | `(tactic| walk_at "eval ListComp") => `(tactic| refine Stop.of ?_)
local macro_rules | `(tactic| walk_at "exec For Name Call cons nil") => `(tactic| refine Stop.of ?_)
local macro_rules | `(tactic| walk_at "exec For Name List cons nil") => `(tactic| refine Stop.of ?_)
local macro_rules | `(tactic| walk_at "call ref") => `(tactic| refine Stop.of ?_)
local macro_rules | `(tactic| walk_at "loadName") => `(tactic| refine Stop.of ?_)
local macro_rules | `(tactic| walk_at "eval IfExp") => `(tactic| refine Stop.of ?_)
local macro_rules | `(tactic| walk_at "call builtin:str.upper") => `(tactic| refine Stop.of ?_)
local macro_rules | `(tactic| walk_at "call builtin:list.append") => `(tactic| refine Stop.of ?_)
local macro_rules | `(tactic| walk_at "call builtin:list.insert") => `(tactic| refine Stop.of ?_)
local macro_rules | `(tactic| walk_at "call type:int") => `(tactic| refine Stop.of ?_)
local macro_rules | `(tactic| walk_at "newTuple") => `(tactic| refine Stop.of ?_)
local macro_rules | `(tactic| walk_at "subscriptTail") => `(tactic| refine Stop.of ?_)
local macro_rules | `(tactic| walk_at "exec Assign cons ListComp") => `(tactic| refine Stop.of ?_)
noncomputable def istr (k : Int) : Str := Str.ofString (toString k)
theorem fresh_none {g : Heap} {b : Addr} (ha : g.objs.size ≤ b) : g.get? b = none := by
  cases q : g.get? b with
  | none => rfl
  | some o => exact absurd (Heap.lt_size q) (Nat.not_lt.mpr ha)
noncomputable def pairsL (sp : List Str) : List (Str × Str) := sp.mapIdx fun i x => (x, istr (i : Int))
theorem tup_led {h' : Heap} {sp : List Str} {vs2 : Array Value} {C : Addr} {n : Nat} (hel : ∀ i, i < n → ∃ v, vs2[i]? = some v ∧ ∃ (t : Addr) (x : Str) (tk1 tk2 : Tok), v = .ref t ∧ C < t ∧ sp[i]? = some x ∧ h'.get? t = some (tupO [.str x tk1, .str (istr (i : Int)) tk2])) :
    ∀ k, k ≤ n → ∃ TL : Led, (∀ p ∈ TL, C < p.1 ∧ h'.get? p.1 = some p.2) ∧ ∀ i, i < k → ∃ (t : Addr) (x : Str) (tk1 tk2 : Tok), vs2[i]? = some (.ref t) ∧ sp[i]? = some x ∧ (t, tupO [.str x tk1, .str (istr (i : Int)) tk2]) ∈ TL
  | 0, _ => ⟨[], by simp, fun i h => absurd h (Nat.not_lt_zero _)⟩
  | k + 1, hk => by
    obtain ⟨TL, h1, h2⟩ := tup_led hel k (by omega)
    obtain ⟨v, hv, t, x, tk1, tk2, rfl, hC, hx, ht⟩ := hel k (by omega)
    refine ⟨(t, tupO [.str x tk1, .str (istr (k : Int)) tk2]) :: TL, ?_, ?_⟩
    · intro p hp
      rcases List.mem_cons.mp hp with rfl | hp
      · exact ⟨hC, ht⟩
      · exact h1 p hp
    · intro i hi
      rcases Nat.lt_or_ge i k with q | q
      · obtain ⟨t, x, tk1, tk2, a, b, c⟩ := h2 i q
        exact ⟨t, x, tk1, tk2, a, b, List.mem_cons_of_mem _ c⟩
      · have : i = k := by omega
        subst this
        exact ⟨t, x, tk1, tk2, hv, hx, List.mem_cons_self ..⟩
/-- the first place from i on where name nm stands -/
noncomputable def nxt (sp : List Str) (i : Nat) (nm : Str) : Option Nat := ((sp.drop i).findIdx? fun x => lowS x == nm).map (· + i)
noncomputable def nameA : Str := Str.ofString "a"
noncomputable def nameB : Str := Str.ofString "ab"
noncomputable def nameC : Str := Str.ofString "abc"
noncomputable abbrev Row3 := List (Nat × Nat) × List Int × Int
noncomputable def stepN (sp : List Str) (counts : List Int) (i : Nat) (st : Row3) (nl : Str × Nat) : Row3 :=
  match nxt sp i nl.1 with
  | none => st
  | some j => (st.1 ++ [(nl.2, j + 1)], st.2.1 ++ [st.2.2], st.2.2 + counts.getD (j - i) 0)
noncomputable def names3 : List (Str × Nat) := [(nameA, 97), (nameB, 98), (nameC, 99)]
noncomputable def rowAt (sp : List Str) (counts : List Int) (i : Nat) : Row3 := names3.foldl (stepN sp counts i) ([], [0], 1)
structure Lad3 where
  counts : List Int
  ways : List (List (Nat × Nat))
  begs : List (List Int)
noncomputable def ladK (sp : List Str) : Nat → Lad3
  | 0 => ⟨[1], [[]], [[0]]⟩
  | k + 1 =>
    let L := ladK sp k
    let r := rowAt sp L.counts (sp.length - 1 - k)
    ⟨r.2.2 :: L.counts, r.1 :: L.ways, r.2.1 :: L.begs⟩
noncomputable def ItemsOf {α : Type} (P : Value → α → Prop) (vs : List Value) (xs : List α) : Prop := vs.length = xs.length ∧ ∀ (i : Nat) (x : α), xs[i]? = some x → ∃ u, vs[i]? = some u ∧ P u x
noncomputable def LadJ (sp : List Str) (D2 Dc Dw Db : Addr) (vs2 : Array Value) (c : Nat) (news1 : Led) (k : Nat) (m₁ : Str → Option Value) (news₁ : Led) : Prop :=
  ∃ (cvs wvs bvs : List Value) (nc nw nb : Nat) (R : Led), news₁ = (Dc, PySem.W.listOf cvs.toArray nc) :: (Dw, PySem.W.listOf wvs.toArray nw) :: (Db, PySem.W.listOf bvs.toArray nb) :: R ∧
    IntsAre cvs (ladK sp k).counts ∧ ItemsOf (LsOf (PairOf R) R) wvs (ladK sp k).ways ∧ ItemsOf (IntsOf R) bvs (ladK sp k).begs ∧ (D2, PySem.W.listOf vs2 c) ∈ R ∧ (∀ p ∈ news1, p ∈ R) ∧ (∀ p ∈ R, p.1 ≠ Dc ∧ p.1 ≠ Dw ∧ p.1 ≠ Db) ∧
    m₁ (Str.ofString "pairs") = some (.ref D2) ∧ m₁ (Str.ofString "counts") = some (.ref Dc) ∧ m₁ (Str.ofString "ways") = some (.ref Dw) ∧ m₁ (Str.ofString "begins") = some (.ref Db)
noncomputable def ladPost (news : Led) (sp : List Str) (r : Value) (n : Led) : Prop :=
  ∃ (t Dc Dw Db : Addr), r = .ref t ∧ (t, tupO [.ref Dc, .ref Dw, .ref Db]) ∈ n ∧ IntsOf n (.ref Dc) (ladK sp sp.length).counts ∧ WaysOf n (.ref Dw) (ladK sp sp.length).ways ∧ BegsOf n (.ref Db) (ladK sp sp.length).begs ∧ ∀ p ∈ news, p ∈ n
theorem small_dn : ∀ k : Nat, k ≤ 6 → Builtin.Range.small ((k : Int) - 1) (-1) (-1) = true ∧ Builtin.Range.rangeSize ((k : Int) - 1) (-1) (-1) = (k : Int) := by decide
theorem allLt_at {d : Nat} : ∀ {l : List (Addr × Obj)}, AllLt d l → ∀ p ∈ l, p.1 < d
  | [], _, p, hp => by cases hp
  | q :: r, h, p, hp => by
    rcases List.mem_cons.mp hp with rfl | hp
    · exact h.1
    · exact allLt_at h.2 p hp
noncomputable def SpOk (x : Str) : Prop := (x.cps.size ≤ 100 ∧ noHit nameCode x.cps = true) ∧ lowOk x
theorem istr_ok : ∀ j : Nat, j < 6 → (istr (j : Int)).cps.size ≤ 100 ∧ noHit valueCode (istr (j : Int)).cps = true := by decide +kernel
theorem pick_drop (l : List Value) (i : Nat) (h : i ≤ l.length) : kms_pick l (some (i : Int)) none = l.drop i := by
  unfold kms_pick kms_lo kms_hi
  have h1 : ¬ ((i : Int) < 0) := by omega
  simp only [if_neg h1, Int.toNat_natCast, Nat.min_eq_left h]
  rw [List.take_of_length_le (by rw [List.length_drop]; exact Nat.le_refl _)]
theorem pairsL_at {sp : List Str} {i : Nat} {p : Str × Str} (h : (pairsL sp)[i]? = some p) : sp[i]? = some p.1 ∧ p.2 = istr (i : Int) := by
  unfold pairsL at h
  rw [List.getElem?_mapIdx] at h
  cases e : sp[i]? with
  | none => rw [e] at h; cases h
  | some x => rw [e] at h; cases h; exact ⟨rfl, rfl⟩
structure NmOk (nm : Str) (lt : Nat) : Prop where
  low : lowS nm = nm
  lowok : lowOk nm
  sz : nm.cps.size ≤ 1000
  hit : noHit nameCode nm.cps = true
  upok : PySem.Builtin.Str.tooLong (Txt.upper nm).length = false
  lowup : lowS (Txt.upper nm) = nm
  lowokup : lowOk (Txt.upper nm)
  len1 : 1 ≤ nm.length ∧ nm.length ≤ 3
  last : Txt.item nm (-1) = ⟨#[lt]⟩
theorem nmA : NmOk nameA 97 := ⟨by decide +kernel, by unfold lowOk; decide +kernel, by decide +kernel, by decide +kernel, by decide +kernel, by decide +kernel, by unfold lowOk; decide +kernel, by decide +kernel, by decide +kernel⟩
theorem nmB : NmOk nameB 98 := ⟨by decide +kernel, by unfold lowOk; decide +kernel, by decide +kernel, by decide +kernel, by decide +kernel, by decide +kernel, by unfold lowOk; decide +kernel, by decide +kernel, by decide +kernel⟩
theorem nmC : NmOk nameC 99 := ⟨by decide +kernel, by unfold lowOk; decide +kernel, by decide +kernel, by decide +kernel, by decide +kernel, by decide +kernel, by unfold lowOk; decide +kernel, by decide +kernel, by decide +kernel⟩
theorem nm_at {j : Nat} {v : Value} {t1 t2 t3 : Tok} (h : [Value.str nameA t1, Value.str nameB t2, Value.str nameC t3][j]? = some v) : ∃ (nm : Str) (lt : Nat) (tk : Tok), names3[j]? = some (nm, lt) ∧ v = .str nm tk ∧ NmOk nm lt := by
  match j, h with
  | 0, h => cases h; exact ⟨_, _, _, rfl, rfl, nmA⟩
  | 1, h => cases h; exact ⟨_, _, _, rfl, rfl, nmB⟩
  | 2, h => cases h; exact ⟨_, _, _, rfl, rfl, nmC⟩
  | n + 3, h => simp at h
theorem fold_take {α β : Type} (f : α → β → α) (a : α) {l : List β} {j : Nat} {b : β} (h : l[j]? = some b) : (l.take (j + 1)).foldl f a = f ((l.take j).foldl f a) b := by
  rw [List.take_add_one, h, List.foldl_append]; rfl
noncomputable def toldS (sp : List Str) (i : Nat) (nm : Str) : Str := match nxt sp i nm with | none => Str.ofString "" | some j => istr (j : Int)
theorem told_eq {sp : List Str} {i : Nat} {nm : Str} : getH ((pairsL sp).drop i) nm (Str.ofString "") = toldS sp i nm := by
  unfold getH toldS nxt
  have key : ∀ (l : List Str) (m : Nat), (match (l.mapIdx fun k x => (x, istr ((k + m : Nat) : Int))).find? (fun p : Str × Str => lowS p.1 == nm) with | some p => p.2 | none => Str.ofString "") = (match (l.findIdx? fun x => lowS x == nm).map (· + m) with | none => Str.ofString "" | some j => istr (j : Int)) := by
    intro l
    induction l with
    | nil => intro m; rfl
    | cons a r ih =>
      intro m
      rw [List.mapIdx_cons, List.findIdx?_cons]
      by_cases h : (lowS a == nm) = true
      · rw [List.find?_cons_of_pos (by exact h), if_pos h]
        simp
      · rw [List.find?_cons_of_neg (by exact h), if_neg h]
        have e : (r.mapIdx fun k x => (x, istr ((k + 1 + m : Nat) : Int))) = (r.mapIdx fun k x => (x, istr ((k + (m + 1) : Nat) : Int))) := by
          congr 1; funext k x; rw [Nat.add_assoc, Nat.add_comm 1 m]
        rw [e, ih (m + 1)]
        cases r.findIdx? fun x => lowS x == nm with
        | none => rfl
        | some q =>
          show istr ((q + (m + 1) : Nat) : Int) = istr ((q + 1 + m : Nat) : Int)
          rw [Nat.add_assoc, Nat.add_comm 1 m]
  have e2 : (pairsL sp).drop i = ((sp.drop i).mapIdx fun k x => (x, istr ((k + i : Nat) : Int))) := by
    unfold pairsL
    apply List.ext_getElem?
    intro j
    rw [List.getElem?_drop, List.getElem?_mapIdx, List.getElem?_mapIdx, List.getElem?_drop, Nat.add_comm i j]
  rw [e2]
  exact key _ i
theorem nxt_lt {sp : List Str} {i j : Nat} {nm : Str} (h : nxt sp i nm = some j) : i ≤ j ∧ j < sp.length := by
  unfold nxt at h
  cases e : (sp.drop i).findIdx? fun x => lowS x == nm with
  | none => rw [e] at h; cases h
  | some k =>
    rw [e] at h
    have h2 := (List.findIdx?_eq_some_iff_getElem.mp e).1
    rw [List.length_drop] at h2
    simp only [Option.map_some, Option.some.injEq] at h
    omega
theorem step_none {sp : List Str} {c : List Int} {i : Nat} {st : Row3} {nm : Str} {lt : Nat} (h : nxt sp i nm = none) : stepN sp c i st (nm, lt) = st := by
  unfold stepN; rw [h]
theorem step_some {sp : List Str} {c : List Int} {i j : Nat} {st : Row3} {nm : Str} {lt : Nat} (h : nxt sp i nm = some j) : stepN sp c i st (nm, lt) = (st.1 ++ [(lt, j + 1)], st.2.1 ++ [st.2.2], st.2.2 + c.getD (j - i) 0) := by
  unfold stepN; rw [h]
theorem StrPair.mono {news news' : Led} {v : Value} {p : Str × Str} (h : StrPair news v p) (hs : ∀ p ∈ news, p ∈ news') : StrPair news' v p := let ⟨t, a, b, e, hm⟩ := h; ⟨t, a, b, e, hs _ hm⟩
theorem lad_len (sp : List Str) : ∀ k, (ladK sp k).counts.length = k + 1 ∧ (ladK sp k).ways.length = k + 1 ∧ (ladK sp k).begs.length = k + 1
  | 0 => ⟨rfl, rfl, rfl⟩
  | k + 1 => by
    obtain ⟨a, b, c⟩ := lad_len sp k
    exact ⟨by simp [ladK, a], by simp [ladK, b], by simp [ladK, c]⟩
theorem ints_snoc {vs : List Value} {ns : List Int} (h : IntsAre vs ns) (n : Int) (t : Tok) : IntsAre (vs ++ [.int n t]) (ns ++ [n]) := by
  induction h with
  | nil => exact .cons n t .nil
  | cons m u r ih => exact .cons m u ih
theorem items_snoc {α : Type} {P : Value → α → Prop} {vs : List Value} {xs : List α} (h : ItemsOf P vs xs) {v : Value} {x : α} (hv : P v x) : ItemsOf P (vs ++ [v]) (xs ++ [x]) := by
  refine ⟨by rw [List.length_append, List.length_append, h.1]; rfl, fun i y hy => ?_⟩
  rcases Nat.lt_or_ge i xs.length with q | q
  · rw [List.getElem?_append_left q] at hy
    obtain ⟨u, hu, hp⟩ := h.2 i y hy
    exact ⟨u, by rw [List.getElem?_append_left (by rw [h.1]; exact q)]; exact hu, hp⟩
  · rw [List.getElem?_append_right q] at hy
    have hi : i = xs.length := by
      rcases Nat.lt_or_ge (i - xs.length) 1 with r | r
      · omega
      · rw [List.getElem?_eq_none (by simpa using r)] at hy; cases hy
    subst hi
    rw [Nat.sub_self] at hy
    cases hy
    exact ⟨v, by rw [← h.1, List.getElem?_append_right (Nat.le_refl _), Nat.sub_self]; rfl, hv⟩
theorem items_mono {α : Type} {P P' : Value → α → Prop} {vs : List Value} {xs : List α} (h : ItemsOf P vs xs) (hp : ∀ u x, P u x → P' u x) : ItemsOf P' vs xs :=
  ⟨h.1, fun i x hx => let ⟨u, hu, q⟩ := h.2 i x hx; ⟨u, hu, hp _ _ q⟩⟩
theorem ins0 (l : List Value) (y : Value) : kl_ins l 0 y = y :: l := by
  unfold kl_ins
  simp
theorem items_cons {α : Type} {P : Value → α → Prop} {vs : List Value} {xs : List α} (h : ItemsOf P vs xs) {v : Value} {x : α} (hv : P v x) : ItemsOf P (v :: vs) (x :: xs) := by
  refine ⟨by simp [h.1], fun i y hy => ?_⟩
  cases i with
  | zero => simp at hy; subst hy; exact ⟨v, rfl, hv⟩
  | succ i => exact h.2 i y (by simpa using hy)
theorem items_one {α : Type} {P : Value → α → Prop} {v : Value} {x : α} (hv : P v x) : ItemsOf P [v] [x] :=
  ⟨rfl, fun i y h => by
    cases i with
    | zero => simp at h; subst h; exact ⟨v, rfl, hv⟩
    | succ i => simp at h⟩
theorem istr_ne : ∀ j : Nat, j < 6 → (istr (j : Int) == Str.ofString "") = false := by decide +kernel
noncomputable def IfPost (nm : Str) (s : Shared) (v : Value) (s' : Shared) : Prop := ∃ (nm' : Str) (tk' : Tok) (tkk : Nat), v = .str nm' tk' ∧ lowS nm' = nm ∧ lowOk nm' ∧ s' = { s with toks := tkk }
theorem if_mono {prog : Program} {w : World} {A : Around} {t : Sem Value} {nm : Str} {s : Shared} {Q E : Value → Shared → Prop} (h : wpAny (model prog w) A t (IfPost nm s) E s) (k : ∀ nm' tk' tkk, lowS nm' = nm → lowOk nm' → Q (.str nm' tk') { s with toks := tkk }) : wpAny (model prog w) A t Q E s :=
  wpAny_mono h (fun v s1 hv => by obtain ⟨nm', tk', tkk, rfl, a, b, rfl⟩ := hv; exact k _ _ _ a b) fun _ _ e => e
noncomputable def LadJ2 (sp : List Str) (counts : List Int) (i0 : Nat) (ti : Tok) (Dlad Drow Dc Dw Db x D2 I2 : Addr) (BL : Led) (j : Nat) (m₁ : Str → Option Value) (news₁ : Led) : Prop :=
  ∃ (rvs lvs : List Value) (nr nla : Nat) (tokc : Tok) (TLs : Led), news₁ = (Dlad, PySem.W.listOf lvs.toArray nla) :: (Drow, PySem.W.listOf rvs.toArray nr) :: (TLs ++ BL) ∧
    IntsAre lvs ((names3.take j).foldl (stepN sp counts i0) ([], [0], 1)).2.1 ∧ ItemsOf (PairOf TLs) rvs ((names3.take j).foldl (stepN sp counts i0) ([], [0], 1)).1 ∧ (∀ p ∈ TLs, (p.1 ≠ Dlad ∧ p.1 ≠ Drow) ∧ (p.1 ≠ Dc ∧ p.1 ≠ Dw ∧ p.1 ≠ Db) ∧ p.1 ≠ I2) ∧
    m₁ (Str.ofString "count") = some (.int ((names3.take j).foldl (stepN sp counts i0) ([], [0], 1)).2.2 tokc) ∧ m₁ (Str.ofString "table") = some (.ref x) ∧ m₁ (Str.ofString "counts") = some (.ref Dc) ∧ m₁ (Str.ofString "ways") = some (.ref Dw) ∧ m₁ (Str.ofString "begins") = some (.ref Db) ∧
    m₁ (Str.ofString "pairs") = some (.ref D2) ∧ m₁ (Str.ofString "i") = some (.int (i0 : Int) ti) ∧ m₁ (Str.ofString "row") = some (.ref Drow) ∧ m₁ (Str.ofString "ladder") = some (.ref Dlad) ∧ (lvs.length ≤ j + 1 ∧ rvs.length ≤ j)
theorem small_up : ∀ k : Nat, k ≤ 6 → Builtin.Range.small 0 (k : Int) 1 = true := by decide
theorem size_up (k : Nat) : Builtin.Range.rangeSize 0 (k : Int) 1 = (k : Int) := by
  rw [rangeSize_nat]; simp
theorem lad_ok {w : World} {mean : ExcName → Option Value} {mg mb : Str → Option Value} {D : Addr} {vs : List Value} {nl : Nat} {sp : List Str} {news : Led} (hs : StrsAre vs sp) (hD : (D, PySem.W.listOf vs.toArray nl) ∈ news) (hlen : vs.length ≤ 6) (hsp : ∀ x ∈ sp, SpOk x) :
    CallOK w mean mg mb (.ref 206) [.ref D] [] news 10 60 (ladPost news sp) := by
  refine fill fun hfill => ?_
  revert hfill; k_fill; intro _
  k_dflt (refine' fn_okC ?ho ?hcd ?hb ?hkind ?hnd ?h1 ?h2 ?h3 ?h5 ?h6 ?_; (case ho => k_is); (case hcd => k_is); (case hb => first | exact fun _ _ => BindsTo.of_eq rfl | exact fun _ hX => kp_binds hX (fun _ => rfl)); (case hkind => exact rfl); (case hnd => decide +kernel); (case h1 => exact rfl); (case h2 => exact rfl); (case h3 => exact rfl); (case h5 => decide); (case h6 => decide); k_whole)
  intro dp un gd outer A₀ base g L' s cells B F X N T Y hlt hk hdp hun
  try dsimp only
  k_fold
  have hY := CellsAre.one Y
  obtain ⟨oc, rfl, hoc⟩ := hY
  clear Y
  w_strict (k_steps)
  unfold Stop
  have hoc' : oc.data = .cell (some (.ref D)) := hoc
  clear hoc
  obtain ⟨m0, F0⟩ : ∃ m0, Fr g L' s.heap m0 := ⟨_, F⟩
  clear F
  have N0 : News g L' s.heap ((D, PySem.W.listOf vs.toArray nl) :: (L' + 1, oc) :: news) := fun p hp => by
    rcases List.mem_cons.mp hp with rfl | hp
    · exact N _ (by simp [hD])
    · exact N p (by simpa using hp)
  refine l_compA (cl := [(Str.ofString "spelled", L' + 1)]) (m := m0) (fun C i h v => ∃ (t : Addr) (x : Str) (tk1 tk2 : Tok), v = .ref t ∧ C < t ∧ sp[i]? = some x ∧ h.get? t = some (tupO [.str x tk1, .str (istr i) tk2])) ?hst (by exact rfl) (by decide) rfl (by decide) rfl (by exact rfl) (by exact rfl) (by exact rfl) ?_
  case hst =>
    rintro C i h h' v ⟨t, x, tk1, tk2, rfl, hlt, hx, ht⟩ hk
    exact ⟨t, x, tk1, tk2, rfl, hlt, hx, hk _ _ hlt ht⟩
  clear N
  w_strict (k_steps)
  have hN1 : (D, PySem.W.listOf vs.toArray nl) ∈ (D, PySem.W.listOf vs.toArray nl) :: (L' + 1, oc) :: news := List.mem_cons_self ..
  refine len_list (News.isList N0 hN1) (by simp only [List.size_toArray]; omega) ?_
  rw [List.size_toArray]
  w_strict (k_steps)
  rename IsRange _ _ _ _ _ _ _ _ => hr
  rename Fr g L' _ _ => F1
  rename News g L' _ _ => N1
  refine wpAny_pyIter_range hr (small_up _ hlen) ?_
  generalize hI : (Shared.heap _).objs.size = I
  rename Heap => hp1
  have hI' : hp1.objs.size = I := hI
  have hpush := Heap.get?_push_size hp1 (o := ({ cls := .type "range_iterator", data := .fields #[rawInt 0, rawInt (Builtin.Range.rangeSize 0 (vs.length : Int) 1), rawInt 1] } : Obj)) rfl
  rw [hI'] at hpush
  have F2 := F1.push ({ cls := .type "range_iterator", data := .fields #[rawInt 0, rawInt (Builtin.Range.rangeSize 0 (vs.length : Int) 1), rawInt 1] } : Obj)
  have N2 : News g L' (hp1.push ({ cls := .type "range_iterator", data := .fields #[rawInt 0, rawInt (Builtin.Range.rangeSize 0 (vs.length : Int) 1), rawInt 1] } : Obj)) ((D, PySem.W.listOf vs.toArray nl) :: (L' + 1, oc) :: news) := fun p hp => ⟨Heap.get?_push_of_some _ (N1 p hp).1, (N1 p hp).2⟩
  have hL : L' < I := hI' ▸ F1.ns.lt
  have hlts : ∀ p ∈ (D, PySem.W.listOf vs.toArray nl) :: (L' + 1, oc) :: news, p.1 < I := fun p hp => hI' ▸ Heap.lt_size (N1 p hp).1
  have hsz : (hp1.push ({ cls := .type "range_iterator", data := .fields #[rawInt 0, rawInt (Builtin.Range.rangeSize 0 (vs.length : Int) 1), rawInt 1] } : Obj)).objs.size = I + 1 := by rw [size_push', hI']
  have gI : g.get? I = none := by rw [← hI']; exact next_is_new F1
  refine ⟨I, [I], vs.length, _, _, rfl, Walks.rng rfl I 0 1 vs.length, by omega, F2.ns, Nat.ne_of_lt hL, ?_, ?_, ?_, ?_, ?_⟩
  · show Heap.get? _ _ = _
    refine hpush.trans ?_
    rw [size_up]; simp
  · show I < (Heap.push _ _).objs.size
    rw [hsz]; omega
  · intro b hb
    rw [List.mem_singleton.mp hb]
    show I < (Heap.push _ _).objs.size
    rw [hsz]; omega
  · rintro C i v s₃ m₃ E' hi ⟨t, rfl⟩ hC hC3 hns hm hk
    dsimp only at hC hk
    rw [hsz] at hC
    have F3 : Fr g C s₃.heap m₃ := ⟨hns, fun b o e => hk b o (fun q => by rw [q, gI] at e; cases e) (F2.keep b o e), Nat.le_trans F1.above (Nat.le_of_lt (Nat.lt_of_lt_of_le hL (Nat.le_of_succ_le hC)))⟩
    have N3 : News g C s₃.heap ((D, PySem.W.listOf vs.toArray nl) :: (L' + 1, oc) :: news) := fun p hp => ⟨hk _ _ (Nat.ne_of_lt (hlts p hp)) (N2 p hp).1, fun q => by have := hlts p hp; rw [q] at this; exact absurd this (Nat.not_lt.mpr (Nat.le_of_succ_le hC)), (N2 p hp).2.2⟩
    clear F1 N1 F2 N2
    have F4 := Fr_pin F3 hm
    clear F3
    w_strict (k_steps)
    rotate_left 4
    unfold Stop
    obtain ⟨x, hx⟩ : ∃ x, sp[i]? = some x := ⟨_, List.getElem?_eq_getElem (by have := StrsAre.length hs; omega)⟩
    obtain ⟨tx, htx⟩ : ∃ tx, vs[i]? = some (.str x tx) := by
      obtain ⟨q, tv, hq, hv⟩ := str_at hs (List.getElem?_eq_getElem hi)
      rw [hx] at hq
      cases hq
      exact ⟨tv, by rw [List.getElem?_eq_getElem hi, hv]⟩
    refine itemK (j := i) (N3 _ (List.mem_cons_self ..)).1 htx (by omega) (by omega) ?_
    w_strict (k_steps)
    rotate_left 4
    unfold Stop
    refine wpAny_newTuple ?_ (by show 2 ≤ sizeLine; rw [sizeLine_eq]; decide)
    refine ⟨⟨s₃.heap.objs.size, x, tx, s₃.toks, rfl, hC3, hx, ?_⟩, _, _, rfl, fun b o e => Heap.get?_push_of_some _ e⟩
    · refine (Heap.get?_push_size _ rfl).trans ?_
      rw [show (0 : Int) + (i : Int) * 1 = (i : Int) by omega]
      rfl
    all_goals first | exact (0 : Nat) | exact Value.none | exact Str.ofString "" | exact []
  · intro D2 C h' tk' vs2 c hD2 hDC hg2 hns hk hsz2 hel
    dsimp only at hD2 hk
    rw [hsz] at hD2
    have hIle : I ≤ D2 := Nat.le_of_succ_le hD2
    have hLD : L' < D2 := Nat.lt_of_lt_of_le hL hIle
    have gD2 : ∀ b, D2 ≤ b → b ≠ L' ∧ g.get? b = none := fun b hb => ⟨fun q => by rw [q] at hb; exact absurd hLD (Nat.not_lt.mpr hb), fresh_none (Nat.le_trans F1.above (Nat.le_of_lt (Nat.lt_of_lt_of_le hLD hb)))⟩
    obtain ⟨TL, hTL1, hTL2⟩ := tup_led hel vs.length (Nat.le_refl _)
    have F3 : Fr g L' h' (fun z => if z = Str.ofString "pairs" then some (Value.ref D2) else m0 z) :=
      ⟨hns, fun b o e => hk b o (Nat.ne_of_lt (Nat.lt_of_lt_of_le (Heap.lt_size e) F1.above)) (fun q => by rw [q, gI] at e; cases e) (F2.keep b o e), F1.above⟩
    have N3 : News g L' h' ((D2, PySem.W.listOf vs2 c) :: (D, PySem.W.listOf vs.toArray nl) :: (L' + 1, oc) :: (TL ++ news)) := by
      intro p hp
      have old : p ∈ (D, PySem.W.listOf vs.toArray nl) :: (L' + 1, oc) :: news → h'.get? p.1 = some p.2 ∧ p.1 ≠ L' ∧ g.get? p.1 = none := fun hp => ⟨hk _ _ (N2 p hp).2.1 (Nat.ne_of_lt (hlts p hp)) (N2 p hp).1, (N2 p hp).2⟩
      simp only [List.mem_cons, List.mem_append] at hp
      rcases hp with rfl | rfl | rfl | hp | hp
      · exact ⟨hg2, gD2 D2 (Nat.le_refl _)⟩
      · exact old (by simp)
      · exact old (by simp)
      · exact ⟨(hTL1 p hp).2, gD2 _ (Nat.le_of_lt (Nat.lt_trans hDC (hTL1 p hp).1))⟩
      · exact old (by simp [hp])
    have hvs2 : ∀ i, i < vs.length → ∃ (t : Addr) (x : Str) (tk1 tk2 : Tok), vs2[i]? = some (.ref t) ∧ sp[i]? = some x ∧ (t, tupO [.str x tk1, .str (istr (i : Int)) tk2]) ∈ TL ++ news := fun i hi => by
      obtain ⟨t, x, tk1, tk2, a, b, cc⟩ := hTL2 i hi
      exact ⟨t, x, tk1, tk2, a, b, List.mem_append_left _ cc⟩
    clear F1 N1 F2 N2 hpush hk hns hTL1 hTL2 hel hlts
    have hnews1 : ∀ p ∈ news, p ∈ TL ++ news := fun p hp => List.mem_append_right _ hp
    generalize TL ++ news = news1 at N3 hvs2 hnews1
    w_strict (k_steps)
    unfold Stop
    have hvl : vs.length = sp.length := StrsAre.length hs
    rename Fr g L' _ _ => F4
    rename News g L' _ _ => N4
    rename_i Dc _ qc _ tkc l1 _ q1 Dw _ qw _ tk0 l0 _ q0 Db _ qb hB
    refine For_rng (h₀ := g) (by intro _; rfl) (by exact rfl) ?_
    w_strict (k_steps)
    have hN4 : (D, PySem.W.listOf vs.toArray nl) ∈ (Db, PySem.W.listOf #[Value.ref l0] 0) :: (l0, PySem.W.listOf #[Value.int 0 tk0] 0) :: (Dw, PySem.W.listOf #[Value.ref l1] 0) :: (l1, PySem.W.listOf #[] 0) :: (Dc, PySem.W.listOf #[Value.int 1 tk'] 0) :: (D2, PySem.W.listOf vs2 c) :: (D, PySem.W.listOf vs.toArray nl) :: (L' + 1, oc) :: news1 := by simp
    refine len_list (News.isList N4 hN4) (by simp only [List.size_toArray]; omega) ?_
    rw [List.size_toArray]
    w_strict (k_steps)
    rename IsRange _ _ _ _ _ _ _ _ => hr2
    rename Fr g L' _ _ => F5
    rename News g L' _ _ => N5
    have N6 : News g L' _ ((Dc, PySem.W.listOf [Value.int 1 tk'].toArray 0) :: (Dw, PySem.W.listOf [Value.ref l1].toArray 0) :: (Db, PySem.W.listOf [Value.ref l0].toArray 0) :: (l0, PySem.W.listOf #[Value.int 0 tk0] 0) :: (l1, PySem.W.listOf #[] 0) :: (D2, PySem.W.listOf vs2 c) :: news1) := fun p hp => N5 p (by
      simp only [List.mem_cons] at hp ⊢
      rcases hp with h | h | h | h | h | h | h <;> simp [h])
    have hm6 := small_dn vs.length hlen
    unfold RngPost
    refine ⟨_, _, _, _, _, _, _, vs.length, _, _, LadJ sp D2 Dc Dw Db vs2 c news1, rfl, hr2, hm6.1, hm6.2, F5, N6, ?_, by exact rfl, by exact rfl, by exact rfl, ?_, ?_⟩
    · refine ⟨_, _, _, _, _, _, _, rfl, .cons 1 tk' .nil, ?_, ?_, ?_, ?_, ?_, rfl, rfl, rfl, rfl⟩
      · show ItemsOf _ [Value.ref l1] ([[]] : List (List (Nat × Nat)))
        refine items_one ?_
        exact ⟨l1, [], 0, rfl, by simp, rfl, fun i x h => by simp at h⟩
      · show ItemsOf _ [Value.ref l0] ([[0]] : List (List Int))
        refine items_one ?_
        exact ⟨l0, [.int 0 tk0], 0, rfl, by simp, .cons 0 tk0 .nil⟩
      · simp
      · intro p hp; simp [hp]
      · obtain ⟨c1, c2, c3, c4⟩ := qc
        obtain ⟨d1, _⟩ := q1
        obtain ⟨w1, w2, w3, w4, w5, w6⟩ := qw
        obtain ⟨z1, z2, z3, _⟩ := q0
        obtain ⟨b1, b2, b3, b4, b5, b6, b7, b8⟩ := qb
        intro p hp
        simp only [List.mem_cons] at hp
        rcases hp with rfl | rfl | rfl | hp
        · exact ⟨Nat.ne_of_gt z3, Nat.ne_of_gt z1, Nat.ne_of_lt b1⟩
        · exact ⟨Nat.ne_of_gt d1, Nat.ne_of_lt w1, Nat.ne_of_lt b3⟩
        · exact ⟨Nat.ne_of_lt c1, Nat.ne_of_lt w3, Nat.ne_of_lt b5⟩
        · exact ⟨Nat.ne_of_lt (allLt_at c4 p hp), Nat.ne_of_lt (allLt_at w6 p hp), Nat.ne_of_lt (allLt_at b8 p hp)⟩
    · rintro k t m₁ news₁ h tk I2 oI hk2 ⟨cvs, wvs, bvs, nc, nw, nb, R, rfl, hcvs, hwvs, hbvs, hD2R, hR1, hRd, em1, em2, em3, em4⟩ F7 N7 off
      have hi0 : ∃ i0 : Nat, i0 = sp.length - 1 - k := ⟨_, rfl⟩
      obtain ⟨i0, hi0⟩ := hi0
      have ei : ((vs.length : Int) - 1 + (k : Int) * -1) = (i0 : Int) := by omega
      rw [ei] at F7
      have F8 := Fr_pin (Fr_pin (Fr_pin (Fr_pin F7 (x := Str.ofString "begins") (by exact em4)) (x := Str.ofString "ways") (by exact em3)) (x := Str.ofString "counts") (by exact em2)) (x := Str.ofString "pairs") (by exact em1)
      clear F7 F5 N5 N6
      w_strict (k_steps)
      unfold Stop
      have hk3 : i0 ≤ vs2.toList.length := by rw [Array.length_toList]; omega
      refine kms_slice_lit (zs := vs2.toList.drop i0) F8 N7 (News.isList N7 (show (D2, PySem.W.listOf vs2 c) ∈ _ by simp [hD2R])) (by constructor) (by constructor) (pick_drop _ _ hk3) ?_ (by with_unfolding_all rfl) (by intro _; rfl) (by rw [hsz2, sizeLine_eq]; omega)
      intro D3 h3 F9 N9 l9
      dsimp only
      w_strict (k_steps)
      unfold Stop
      have hLs : LsOf (StrPair ((D3, PySem.W.listOf (vs2.toList.drop i0).toArray 0) :: (I2, oI) :: (Dc, PySem.W.listOf cvs.toArray nc) :: (Dw, PySem.W.listOf wvs.toArray nw) :: (Db, PySem.W.listOf bvs.toArray nb) :: R)) ((D3, PySem.W.listOf (vs2.toList.drop i0).toArray 0) :: (I2, oI) :: (Dc, PySem.W.listOf cvs.toArray nc) :: (Dw, PySem.W.listOf wvs.toArray nw) :: (Db, PySem.W.listOf bvs.toArray nb) :: R) (.ref D3) ((pairsL sp).drop i0) := by
        refine ⟨D3, _, _, rfl, List.mem_cons_self .., ?_, ?_⟩
        · rw [List.length_drop, List.length_drop, Array.length_toList, hsz2, hvl]
          simp [pairsL]
        · intro j p hp
          rw [List.getElem?_drop] at hp
          obtain ⟨h1, h2⟩ := pairsL_at hp
          have hjn : i0 + j < vs.length := by
            rcases Nat.lt_or_ge (i0 + j) sp.length with q | q
            · omega
            · rw [List.getElem?_eq_none q] at h1; cases h1
          obtain ⟨t2, x2, tk1, tk2, a1, a2, a3⟩ := hvs2 _ hjn
          rw [h1] at a2
          cases a2
          refine ⟨_, by rw [List.getElem?_drop, Array.getElem?_toList]; exact a1, t2, tk1, tk2, rfl, ?_⟩
          rw [h2]
          have hin := hR1 _ a3
          simp only [List.mem_cons, hin, or_true]
      have hoks : ∀ p ∈ (pairsL sp).drop i0, okPair p := by
        intro p hp
        obtain ⟨j, hj⟩ := List.getElem?_of_mem (List.mem_of_mem_drop hp)
        obtain ⟨h1, h2⟩ := pairsL_at hj
        have hjn : j < 6 := by
          rcases Nat.lt_or_ge j sp.length with q | q
          · omega
          · rw [List.getElem?_eq_none q] at h1; cases h1
        exact ⟨(hsp _ (List.mem_of_getElem? h1)).1, by rw [h2]; exact istr_ok j hjn⟩
      rename Fr g L' _ _ => F10
      rename News g L' _ _ => N10
      refine use_call (cls_ok hLs hoks) B F10 X N10 T hk (by omega) (by omega) fun r n h' tk' F11 N11 hr => ?_
      obtain ⟨x, dx, tkx, rfl, rfl, hdx1, hdx2⟩ := hr
      clear F10 N10
      dsimp only
      w_strict (k_steps)
      unfold Stop
      rename Fr g L' _ _ => F12
      rename News g L' _ _ => N12
      rename_i Drow _ qrow _ tkl Dlad _ qlad hx1 hB2
      refine For_lst (h₀ := g) (by intro _; rfl) (by exact rfl) ?_
      w_strict (k_steps)
      rename Fr g L' _ _ => F13
      rename News g L' _ _ => N13
      rename_i D4 h4 q4
      have nameEq : (#[Value.str (Str.ofString "a") (tk + 1 + 1), Value.str (Str.ofString "ab") (tk + 1 + 1 + 1), Value.str (Str.ofString "abc") (tk + 1 + 1 + 1 + 1)] : Array Value) = [Value.str nameA (tk + 1 + 1), Value.str nameB (tk + 1 + 1 + 1), Value.str nameC (tk + 1 + 1 + 1 + 1)].toArray := rfl
      rw [nameEq] at N13
      generalize hBL : ((D4, PySem.W.listOf [Value.str nameA (tk + 1 + 1), Value.str nameB (tk + 1 + 1 + 1), Value.str nameC (tk + 1 + 1 + 1 + 1)].toArray 0) :: (x, instObj 171 dx) :: (dx, hdrD w tkx (Value.ref D3)) :: (D3, PySem.W.listOf (vs2.toList.drop i0).toArray 0) :: (I2, oI) :: (Dc, PySem.W.listOf cvs.toArray nc) :: (Dw, PySem.W.listOf wvs.toArray nw) :: (Db, PySem.W.listOf bvs.toArray nb) :: R : Led) = BL
      have N14 : News g L' h4 ((Dlad, PySem.W.listOf [Value.int 0 tkl].toArray 0) :: (Drow, PySem.W.listOf ([] : List Value).toArray 0) :: ([] ++ BL)) := fun p hp => N13 p (by
        rw [← hBL] at hp
        simp only [List.mem_cons, List.nil_append] at hp ⊢
        rcases hp with h | h | h | h
        · simp [h]
        · simp [h]
        · simp [h]
        · rcases h with h | h | h | h | h | h | h | h <;> simp [h])
      have hBLd : ∀ p ∈ BL, p.1 ≠ Dlad ∧ p.1 ≠ Drow := by
        intro p hp
        rw [← hBL] at hp
        simp only [List.mem_cons] at hp
        obtain ⟨r1, r2, r3, r4, r5, r6, r7, r8⟩ := qrow
        obtain ⟨s0, s1, s2, s3, s4, s5, s6, s7, s8⟩ := qlad
        obtain ⟨u0, u1, _⟩ := q4
        rcases hp with rfl | rfl | rfl | rfl | rfl | rfl | rfl | rfl | hp
        · exact ⟨Nat.ne_of_gt u0, Nat.ne_of_gt u1⟩
        · exact ⟨Nat.ne_of_lt s1, Nat.ne_of_lt r1⟩
        · exact ⟨Nat.ne_of_lt s2, Nat.ne_of_lt r2⟩
        · exact ⟨Nat.ne_of_lt s3, Nat.ne_of_lt r3⟩
        · exact ⟨Nat.ne_of_lt s4, Nat.ne_of_lt r4⟩
        · exact ⟨Nat.ne_of_lt s5, Nat.ne_of_lt r5⟩
        · exact ⟨Nat.ne_of_lt s6, Nat.ne_of_lt r6⟩
        · exact ⟨Nat.ne_of_lt s7, Nat.ne_of_lt r7⟩
        · exact ⟨Nat.ne_of_lt (allLt_at s8 p hp), Nat.ne_of_lt (allLt_at r8 p hp)⟩
      have hIn : ∀ p ∈ (D4, PySem.W.listOf [Value.str nameA (tk + 1 + 1), Value.str nameB (tk + 1 + 1 + 1), Value.str nameC (tk + 1 + 1 + 1 + 1)].toArray 0) :: (x, instObj 171 dx) :: (dx, hdrD w tkx (Value.ref D3)) :: (D3, PySem.W.listOf (vs2.toList.drop i0).toArray 0) :: (I2, oI) :: (Dc, PySem.W.listOf cvs.toArray nc) :: (Dw, PySem.W.listOf wvs.toArray nw) :: (Db, PySem.W.listOf bvs.toArray nb) :: R, p ∈ BL := fun p hp => hBL ▸ hp
      unfold LstPost
      refine ⟨D4, [Value.str nameA (tk + 1 + 1), Value.str nameB (tk + 1 + 1 + 1), Value.str nameC (tk + 1 + 1 + 1 + 1)], 0, _, _, LadJ2 sp (ladK sp k).counts i0 t Dlad Drow Dc Dw Db x D2 I2 BL, rfl, F13, N14, ?_, ?_, by exact rfl, by exact rfl, by exact rfl, ?_, ?_⟩
      · refine ⟨[], [Value.int 0 tkl], 0, 0, _, [], rfl, .cons 0 tkl .nil, ⟨rfl, fun i x h => ?_⟩, (fun p hp => by cases hp), rfl, rfl, rfl, rfl, rfl, rfl, rfl, rfl, rfl, by simp⟩
        simp at h
      · rintro j m₂ news₂ ⟨rvs, lvs, nr, nla, tokc, TLs, rfl, _⟩
        have := hIn (D4, _) (List.mem_cons_self ..)
        simp [this]
      · rintro j v m₂ news₂ h5 tk5 I3 oI3 hv ⟨rvs, lvs, nr, nla, tokc, TLs, rfl, hlvs, hrvs, hTL, f1, f2, f3, f4, f5, f6, f7, f8, f9, hll, hlr⟩ F15 N15 off3
        obtain ⟨nm, lt, tkv, hnm, rfl, ok⟩ := nm_at hv
        obtain ⟨⟨srow, slad, scnt⟩, hst⟩ : ∃ st, (names3.take j).foldl (stepN sp (ladK sp k).counts i0) ([], [0], 1) = st := ⟨_, rfl⟩
        rw [hst] at hlvs hrvs f1
        dsimp only at hlvs hrvs f1
        have hcvl : (ladK sp k).counts.length = k + 1 := (lad_len sp k).1
        obtain ⟨cts, hcts⟩ : ∃ cts, (ladK sp k).counts = cts := ⟨_, rfl⟩
        rw [hcts] at hcvs hcvl
        have F16 := Fr_pin (Fr_pin (Fr_pin (Fr_pin (Fr_pin (Fr_pin (Fr_pin (Fr_pin (Fr_pin F15 (x := Str.ofString "count") (by exact f1)) (x := Str.ofString "table") (by exact f2)) (x := Str.ofString "counts") (by exact f3)) (x := Str.ofString "ways") (by exact f4)) (x := Str.ofString "begins") (by exact f5)) (x := Str.ofString "pairs") (by exact f6)) (x := Str.ofString "i") (by exact f7)) (x := Str.ofString "row") (by exact f8)) (x := Str.ofString "ladder") (by exact f9)
        have inBL : ∀ p ∈ BL, p ∈ (I3, oI3) :: (Dlad, PySem.W.listOf lvs.toArray nla) :: (Drow, PySem.W.listOf rvs.toArray nr) :: (TLs ++ BL) := fun p hp => by simp [hp]
        have N16 : News g L' h5 ((Dlad, PySem.W.listOf lvs.toArray nla) :: (Drow, PySem.W.listOf rvs.toArray nr) :: (x, instObj 171 dx) :: (dx, hdrD w tkx (Value.ref D3)) :: (Dc, PySem.W.listOf cvs.toArray nc) :: (I3, oI3) :: (TLs ++ BL)) := fun p hp => N15 p (by
          simp only [List.mem_cons] at hp
          rcases hp with h | h | h | h | h | h | h
          · simp [h]
          · simp [h]
          · exact inBL _ (hIn _ (by simp [h]))
          · exact inBL _ (hIn _ (by simp [h]))
          · exact inBL _ (hIn _ (by simp [h]))
          · simp [h]
          · exact List.mem_cons_of_mem _ (List.mem_cons_of_mem _ (List.mem_cons_of_mem _ h)))
        clear F15 N15 F13 N13 N14
        have hLs2 : LsOf (StrPair ((Dlad, PySem.W.listOf lvs.toArray nla) :: (Drow, PySem.W.listOf rvs.toArray nr) :: (x, instObj 171 dx) :: (dx, hdrD w tkx (Value.ref D3)) :: (Dc, PySem.W.listOf cvs.toArray nc) :: (I3, oI3) :: (TLs ++ BL))) ((Dlad, PySem.W.listOf lvs.toArray nla) :: (Drow, PySem.W.listOf rvs.toArray nr) :: (x, instObj 171 dx) :: (dx, hdrD w tkx (Value.ref D3)) :: (Dc, PySem.W.listOf cvs.toArray nc) :: (I3, oI3) :: (TLs ++ BL)) (.ref D3) ((pairsL sp).drop i0) := by
          have hsub : ∀ p ∈ (D3, PySem.W.listOf (vs2.toList.drop i0).toArray 0) :: (I2, oI) :: (Dc, PySem.W.listOf cvs.toArray nc) :: (Dw, PySem.W.listOf wvs.toArray nw) :: (Db, PySem.W.listOf bvs.toArray nb) :: R, p ∈ ((Dlad, PySem.W.listOf lvs.toArray nla) :: (Drow, PySem.W.listOf rvs.toArray nr) :: (x, instObj 171 dx) :: (dx, hdrD w tkx (Value.ref D3)) :: (Dc, PySem.W.listOf cvs.toArray nc) :: (I3, oI3) :: (TLs ++ BL)) := fun p hp => by
            have := hIn p (List.mem_cons_of_mem _ (List.mem_cons_of_mem _ (List.mem_cons_of_mem _ hp)))
            simp [this]
          exact hLs.mono hsub fun u x hx => hx.mono hsub
        have hladrow : Dlad ≠ Drow := Nat.ne_of_gt qlad.1
        have hrest : ∀ p ∈ (x, instObj 171 dx) :: (dx, hdrD w tkx (Value.ref D3)) :: (Dc, PySem.W.listOf cvs.toArray nc) :: (I3, oI3) :: (TLs ++ BL), p.1 ≠ Dlad ∧ p.1 ≠ Drow := by
          intro p hp
          simp only [List.mem_cons, List.mem_append] at hp
          rcases hp with rfl | rfl | rfl | rfl | hp | hp
          · exact hBLd _ (hIn _ (by simp))
          · exact hBLd _ (hIn _ (by simp))
          · exact hBLd _ (hIn _ (by simp))
          · exact ⟨Ne.symm (off3 (Dlad, PySem.W.listOf lvs.toArray nla) (List.mem_cons_self ..)), Ne.symm (off3 (Drow, PySem.W.listOf rvs.toArray nr) (List.mem_cons_of_mem _ (List.mem_cons_self ..)))⟩
          · exact (hTL p hp).1
          · exact hBLd p hp
        have hokl : ∀ p ∈ (pairsL sp).drop i0, lowOk p.1 := by
          intro p hp
          obtain ⟨j, hj⟩ := List.getElem?_of_mem (List.mem_of_mem_drop hp)
          exact (hsp _ (List.mem_of_getElem? (pairsL_at hj).1)).2
        w_strict (k_steps)
        unfold Stop
        refine if_mono (nm := nm) ?_ fun nm' tk' tkk hlow hlow2 => ?_
        · refine wpAny_IfExp ?_
          w_strict (k_steps)
          · unfold Stop
            refine KXw.upper (x := nm) (y := Txt.upper nm) (t := tkv) rfl ok.upok fun t9 k9 => ?_
            exact ⟨_, _, _, rfl, ok.lowup, ok.lowokup, rfl⟩
          · exact ⟨_, _, _, rfl, ok.low, ok.lowok, rfl⟩
        have hj3 : j < 3 := (List.getElem?_eq_some_iff.mp hnm).1
        dsimp only
        w_strict (k_steps)
        unfold Stop
        rename Fr g L' _ _ => F17
        rename News g L' _ _ => N17
        refine use_call (get_ok (x := x) (dx := dx) (tkH := tkx) (nm := nm') (dv := Str.ofString "") (vl := .ref D3) (pairs := (pairsL sp).drop i0) (List.mem_cons_of_mem _ (List.mem_cons_of_mem _ (List.mem_cons_self ..))) (List.mem_cons_of_mem _ (List.mem_cons_of_mem _ (List.mem_cons_of_mem _ (List.mem_cons_self ..)))) hLs2 hokl hlow2 (by rw [hlow]; exact ok.sz) (by rw [hlow]; exact ok.hit)) B F17 X N17 T hk (by omega) (by omega) fun r n h6 tk6 F18 N18 hr => ?_
        obtain ⟨rfl, tkr, rfl⟩ := hr
        rw [show getH ((pairsL sp).drop i0) (lowS nm') (Str.ofString "") = toldS sp i0 nm by rw [hlow]; exact told_eq]
        clear F17 N17
        dsimp only
        unfold toldS
        cases hn : nxt sp i0 nm with
        | none =>
          dsimp only
          w_strict (k_steps)
          rename Fr g L' _ _ => F17
          rename News g L' _ _ => N17
          refine LEnd.intro F17 N17 ((Dlad, PySem.W.listOf lvs.toArray nla) :: (Drow, PySem.W.listOf rvs.toArray nr) :: (TLs ++ BL)) ?_ off3 ?_
          · intro p hp
            rcases List.mem_cons.mp hp with h | hp
            · simp [h]
            rcases List.mem_cons.mp hp with h | hp
            · simp [h]
            rcases List.mem_cons.mp hp with h | hp
            · simp [h]
            · simp only [List.mem_cons, hp, or_true]
          · unfold LadJ2
            rw [fold_take _ _ hnm, hst, step_none hn]
            exact ⟨rvs, lvs, nr, nla, tokc, TLs, rfl, hlvs, hrvs, hTL, rfl, rfl, rfl, rfl, rfl, rfl, rfl, rfl, rfl, by omega, by omega⟩
        | some jj =>
          dsimp only
          obtain ⟨hj1, hj2⟩ := nxt_lt hn
          have hj6 : jj < 6 := by omega
          w_strict (k_steps)
          · unfold Stop
            refine KXi.item (n := nm.length) rfl (by have := ok.len1; omega) (by have := ok.len1; omega) (by have := ok.len1; omega) fun _ => ?_
            rw [ok.last]
            dsimp only
            w_strict (k_steps)
            unfold Stop
            refine KIN.call_num (n := (jj : Int)) (by omega) (by omega) ?_
            dsimp only
            w_strict (k_steps)
            unfold Stop
            rename Fr g L' _ _ => F17
            rename News g L' _ _ => N17
            rw [show ((jj : Int) + 1) = ((jj + 1 : Nat) : Int) from rfl]
            refine kup_newTuple F17 N17 ?_ (by show 2 ≤ sizeLine; rw [sizeLine_eq]; decide)
            intro t7 h7 F18 N18 l18
            have ht7 : ∀ {p : Addr × Obj}, p ∈ (Dlad, PySem.W.listOf lvs.toArray nla) :: (Drow, PySem.W.listOf rvs.toArray nr) :: (x, instObj 171 dx) :: (dx, hdrD w tkx (Value.ref D3)) :: (Dc, PySem.W.listOf cvs.toArray nc) :: (I3, oI3) :: (TLs ++ BL) → t7 ≠ p.1 := fun hp => Nat.ne_of_gt (l18 _ hp)
            have t7lad : t7 ≠ Dlad := ht7 (p := (Dlad, PySem.W.listOf lvs.toArray nla)) (List.mem_cons_self ..)
            have t7row : t7 ≠ Drow := ht7 (p := (Drow, PySem.W.listOf rvs.toArray nr)) (List.mem_cons_of_mem _ (List.mem_cons_self ..))
            have t7BL : ∀ p ∈ BL, t7 ≠ p.1 := fun p hp => ht7 (by simp [hp])
            have t7I : t7 ≠ I3 := ht7 (p := (I3, oI3)) (by simp)
            clear F17 N17 l18
            dsimp only
            w_strict (k_steps)
            unfold Stop
            rename Fr g L' _ _ => F17
            rename News g L' _ _ => N17
            refine append_K (D := Drow) (its := rvs.toArray) (n := nr) F17 N17 (Upd.tail t7row (Upd.tail hladrow (Upd.head fun p hp => (hrest p hp).2))) ?_ (by rw [List.size_toArray, sizeLine_eq]; omega)
            intro h8 F19 N19
            rw [List.push_toArray] at N19
            clear F17 N17
            dsimp only
            w_strict (k_steps)
            unfold Stop
            rename Fr g L' _ _ => F17
            rename News g L' _ _ => N17
            refine append_K (D := Dlad) (its := lvs.toArray) (n := nla) F17 N17 (Upd.tail t7lad (Upd.head fun p hp => ?_)) ?_ (by rw [List.size_toArray, sizeLine_eq]; omega)
            · rcases List.mem_cons.mp hp with rfl | hp
              · exact hladrow.symm
              · exact (hrest p hp).1
            intro h9 F20 N20
            rw [List.push_toArray] at N20
            clear F17 N17
            dsimp only
            w_strict (k_steps)
            try unfold Stop
            refine wpAny_loadName_local rfl rfl F20.ns (v := .int scnt tokc) rfl ?_
            w_strict (k_steps)
            unfold Stop
            rename Fr g L' _ _ => F17
            rename News g L' _ _ => N17
            refine KIN.call_num (n := (jj : Int)) (by omega) (by omega) ?_
            dsimp only
            w_strict (k_steps)
            rename Fr g L' _ _ => F21
            rename News g L' _ _ => N21
            rw [show ((jj : Int) - (i0 : Int)).toNat = jj - i0 by omega] at F21
            obtain ⟨ta, tb, htup⟩ : ∃ ta tb, News g L' _ ((t7, tupO [.str ⟨#[lt]⟩ ta, .int ((jj + 1 : Nat) : Int) tb]) :: (Dlad, PySem.W.listOf (lvs ++ [Value.int scnt tokc]).toArray (nla + 1)) :: (Drow, PySem.W.listOf (rvs ++ [Value.ref t7]).toArray (nr + 1)) :: (x, instObj 171 dx) :: (dx, hdrD w tkx (Value.ref D3)) :: (Dc, PySem.W.listOf cvs.toArray nc) :: (I3, oI3) :: (TLs ++ BL)) := ⟨_, _, N21⟩
            refine LEnd.intro F21 htup ((Dlad, PySem.W.listOf (lvs ++ [Value.int scnt tokc]).toArray (nla + 1)) :: (Drow, PySem.W.listOf (rvs ++ [Value.ref t7]).toArray (nr + 1)) :: (((t7, tupO [.str ⟨#[lt]⟩ ta, .int ((jj + 1 : Nat) : Int) tb]) :: TLs) ++ BL)) ?_ ?_ ?_
            · intro p hp
              simp only [List.mem_cons, List.cons_append] at hp ⊢
              rcases hp with h | h | h | h | h
              · simp [h]
              · simp [h]
              · simp [h]
              · simp [h]
              · simp only [h, or_true]
            · intro p hp
              simp only [List.mem_cons, List.cons_append] at hp
              rcases hp with rfl | rfl | rfl | hp
              · exact off3 (Dlad, PySem.W.listOf lvs.toArray nla) (List.mem_cons_self ..)
              · exact off3 (Drow, PySem.W.listOf rvs.toArray nr) (List.mem_cons_of_mem _ (List.mem_cons_self ..))
              · exact t7I
              · exact off3 p (List.mem_cons_of_mem _ (List.mem_cons_of_mem _ hp))
            · unfold LadJ2
              rw [fold_take _ _ hnm, hst, step_some hn, hcts]
              refine ⟨rvs ++ [.ref t7], lvs ++ [.int scnt tokc], nr + 1, nla + 1, _, (t7, tupO [.str ⟨#[lt]⟩ ta, .int ((jj + 1 : Nat) : Int) tb]) :: TLs, rfl, ints_snoc hlvs scnt tokc, items_snoc (items_mono hrvs fun u x h => h.mono fun p hp => List.mem_cons_of_mem _ hp) ⟨t7, ta, tb, rfl, List.mem_cons_self ..⟩, ?_, rfl, rfl, rfl, rfl, rfl, rfl, rfl, rfl, rfl, by rw [List.length_append]; simp; omega, by rw [List.length_append]; simp; omega⟩
              intro p hp
              rcases List.mem_cons.mp hp with rfl | hp
              · exact ⟨⟨t7lad, t7row⟩, ⟨t7BL _ (hIn (Dc, PySem.W.listOf cvs.toArray nc) (by simp)), t7BL _ (hIn (Dw, PySem.W.listOf wvs.toArray nw) (by simp)), t7BL _ (hIn (Db, PySem.W.listOf bvs.toArray nb) (by simp))⟩, t7BL _ (hIn (I2, oI) (by simp))⟩
              · exact hTL p hp
          · rename (istr (jj : Int) != Str.ofString "") = false => hne
            rw [bne, istr_ne jj hj6] at hne
            cases hne
      · rintro h6 tk6 m₂ news₂ F15 N15 ⟨rvs, lvs, nr, nla, tokc, TLs, rfl, hlvs, hrvs, hTL, f1, f2, f3, f4, f5, f6, f7, f8, f9, hll, hlr⟩
        have hst : (names3.take 3).foldl (stepN sp (ladK sp k).counts i0) ([], [0], 1) = rowAt sp (ladK sp k).counts i0 := rfl
        change IntsAre lvs ((names3.take 3).foldl (stepN sp (ladK sp k).counts i0) ([], [0], 1)).2.1 at hlvs
        change ItemsOf _ rvs ((names3.take 3).foldl (stepN sp (ladK sp k).counts i0) ([], [0], 1)).1 at hrvs
        change m₂ _ = some (.int ((names3.take 3).foldl (stepN sp (ladK sp k).counts i0) ([], [0], 1)).2.2 tokc) at f1
        rw [hst] at hlvs hrvs f1
        generalize hrr : rowAt sp (ladK sp k).counts i0 = rr at hlvs hrvs f1
        obtain ⟨srow, slad, scnt⟩ := rr
        dsimp only at hlvs hrvs f1
        have F16 := Fr_pin (Fr_pin (Fr_pin (Fr_pin (Fr_pin (Fr_pin (Fr_pin (Fr_pin F15 (x := Str.ofString "count") (by exact f1)) (x := Str.ofString "counts") (by exact f3)) (x := Str.ofString "ways") (by exact f4)) (x := Str.ofString "begins") (by exact f5)) (x := Str.ofString "pairs") (by exact f6)) (x := Str.ofString "i") (by exact f7)) (x := Str.ofString "row") (by exact f8)) (x := Str.ofString "ladder") (by exact f9)
        have inBL : ∀ p ∈ BL, p ∈ (Dlad, PySem.W.listOf lvs.toArray nla) :: (Drow, PySem.W.listOf rvs.toArray nr) :: (TLs ++ BL) := fun p hp => by simp [hp]
        have N16 : News g L' h6 ((Dc, PySem.W.listOf cvs.toArray nc) :: (Dw, PySem.W.listOf wvs.toArray nw) :: (Db, PySem.W.listOf bvs.toArray nb) :: (I2, oI) :: (Dlad, PySem.W.listOf lvs.toArray nla) :: (Drow, PySem.W.listOf rvs.toArray nr) :: (TLs ++ R)) := fun p hp => N15 p (by
          simp only [List.mem_cons, List.mem_append] at hp
          rcases hp with h | h | h | h | h | h | h | h
          · exact inBL _ (hIn _ (by simp [h]))
          · exact inBL _ (hIn _ (by simp [h]))
          · exact inBL _ (hIn _ (by simp [h]))
          · exact inBL _ (hIn _ (by simp [h]))
          · simp [h]
          · simp [h]
          · simp [h]
          · exact inBL _ (hIn _ (by simp [h])))
        have hdis : ∀ p ∈ (Dlad, PySem.W.listOf lvs.toArray nla) :: (Drow, PySem.W.listOf rvs.toArray nr) :: (TLs ++ R), p.1 ≠ Dc ∧ p.1 ≠ Dw ∧ p.1 ≠ Db := by
          intro p hp
          simp only [List.mem_cons, List.mem_append] at hp
          obtain ⟨r1, r2, r3, r4, r5, r6, r7, r8⟩ := qrow
          obtain ⟨s0, s1, s2, s3, s4, s5, s6, s7, s8⟩ := qlad
          rcases hp with rfl | rfl | hp | hp
          · exact ⟨Nat.ne_of_gt s5, Nat.ne_of_gt s6, Nat.ne_of_gt s7⟩
          · exact ⟨Nat.ne_of_gt r5, Nat.ne_of_gt r6, Nat.ne_of_gt r7⟩
          · exact (hTL p hp).2.1
          · exact hRd p hp
        have hcw : Dc ≠ Dw := Nat.ne_of_lt qw.2.1
        have hwb : Dw ≠ Db := Nat.ne_of_lt qb.2.1
        have hcb : Dc ≠ Db := Nat.ne_of_lt qb.2.2.2.1
        have hI2 : I2 ≠ Dc ∧ I2 ≠ Dw ∧ I2 ≠ Db := ⟨Ne.symm (off (Dc, PySem.W.listOf cvs.toArray nc) (by simp)), Ne.symm (off (Dw, PySem.W.listOf wvs.toArray nw) (by simp)), Ne.symm (off (Db, PySem.W.listOf bvs.toArray nb) (by simp))⟩
        obtain ⟨lc1, lc2, lc3⟩ := lad_len sp k
        have zc : cvs.length ≤ 7 := by rw [IntsAre.length hcvs, lc1]; omega
        have zw : wvs.length ≤ 7 := by rw [hwvs.1, lc2]; omega
        have zb : bvs.length ≤ 7 := by rw [hbvs.1, lc3]; omega
        clear F15 N15 F13 N13 N14
        dsimp only
        w_strict (k_steps)
        unfold Stop
        rename Fr g L' _ _ => F17
        rename News g L' _ _ => N17
        refine kl_insert (D := Dc) (its := cvs.toArray) (n := nc) F17 N17 (by decide) (ins0 _ _) (Upd.head fun p hp => ?_) (by rw [sizeLine_eq]; show cvs.length ≤ _; omega) ?_
        · simp only [List.mem_cons, List.mem_append] at hp
          rcases hp with rfl | rfl | rfl | hp
          · exact Ne.symm hcw
          · exact Ne.symm hcb
          · exact hI2.1
          · exact (hdis p (by simpa only [List.mem_cons, List.mem_append] using hp)).1
        intro h8 F19 N19
        clear F17 N17
        dsimp only at N19 ⊢
        w_strict (k_steps)
        unfold Stop
        rename Fr g L' _ _ => F17
        rename News g L' _ _ => N17
        refine kl_insert (D := Dw) (its := wvs.toArray) (n := nw) F17 N17 (by decide) (ins0 _ _) (Upd.tail hcw (Upd.head fun p hp => ?_)) (by rw [sizeLine_eq]; show wvs.length ≤ _; omega) ?_
        · simp only [List.mem_cons, List.mem_append] at hp
          rcases hp with rfl | rfl | hp
          · exact Ne.symm hwb
          · exact hI2.2.1
          · exact (hdis p (by simpa only [List.mem_cons, List.mem_append] using hp)).2.1
        intro h9 F20 N20
        clear F17 N17
        dsimp only at N20 ⊢
        w_strict (k_steps)
        unfold Stop
        rename Fr g L' _ _ => F17
        rename News g L' _ _ => N17
        refine kl_insert (D := Db) (its := bvs.toArray) (n := nb) F17 N17 (by decide) (ins0 _ _) (Upd.tail hcb (Upd.tail hwb (Upd.head fun p hp => ?_))) (by rw [sizeLine_eq]; show bvs.length ≤ _; omega) ?_
        · simp only [List.mem_cons, List.mem_append] at hp
          rcases hp with rfl | hp
          · exact hI2.2.2
          · exact (hdis p (by simpa only [List.mem_cons, List.mem_append] using hp)).2.2
        intro h10 F21 N21
        clear F17 N17
        dsimp only at N21 ⊢
        w_strict (k_steps)
        rename Fr g L' _ _ => F17
        rename News g L' _ _ => N17
        refine LEnd.intro F17 N17 ((Dc, PySem.W.listOf (Value.int scnt tokc :: cvs).toArray (nc + 1)) :: (Dw, PySem.W.listOf (Value.ref Drow :: wvs).toArray (nw + 1)) :: (Db, PySem.W.listOf (Value.ref Dlad :: bvs).toArray (nb + 1)) :: (Dlad, PySem.W.listOf lvs.toArray nla) :: (Drow, PySem.W.listOf rvs.toArray nr) :: (TLs ++ R)) ?_ ?_ ?_
        · intro p hp
          simp only [List.mem_cons] at hp ⊢
          rcases hp with h | h | h | h | h
          · exact Or.inr (Or.inr (Or.inr (Or.inl h)))
          · exact Or.inl h
          · exact Or.inr (Or.inl h)
          · exact Or.inr (Or.inr (Or.inl h))
          · exact Or.inr (Or.inr (Or.inr (Or.inr h)))
        · intro p hp
          rcases List.mem_cons.mp hp with rfl | hp
          · exact Ne.symm hI2.1
          rcases List.mem_cons.mp hp with rfl | hp
          · exact Ne.symm hI2.2.1
          rcases List.mem_cons.mp hp with rfl | hp
          · exact Ne.symm hI2.2.2
          simp only [List.mem_cons, List.mem_append] at hp
          obtain ⟨r1, r2, r3, r4, r5, r6, r7, r8⟩ := qrow
          obtain ⟨s0, s1, s2, s3, s4, s5, s6, s7, s8⟩ := qlad
          rcases hp with rfl | rfl | hp | hp
          · exact Nat.ne_of_gt s4
          · exact Nat.ne_of_gt r4
          · exact (hTL p hp).2.2
          · exact off p (by simp [hp])
        · have hsub : ∀ p ∈ R, p ∈ (Dlad, PySem.W.listOf lvs.toArray nla) :: (Drow, PySem.W.listOf rvs.toArray nr) :: (TLs ++ R) := fun p hp => by simp [hp]
          have hsub2 : ∀ p ∈ TLs, p ∈ (Dlad, PySem.W.listOf lvs.toArray nla) :: (Drow, PySem.W.listOf rvs.toArray nr) :: (TLs ++ R) := fun p hp => by simp [hp]
          have hlk : ladK sp (k + 1) = ⟨scnt :: (ladK sp k).counts, srow :: (ladK sp k).ways, slad :: (ladK sp k).begs⟩ := by
            show (let L := ladK sp k; let r := rowAt sp L.counts (sp.length - 1 - k); (⟨r.2.2 :: L.counts, r.1 :: L.ways, r.2.1 :: L.begs⟩ : Lad3)) = _
            dsimp only
            rw [← hi0, hrr]
          unfold LadJ
          rw [hlk]
          refine ⟨_, _, _, _, _, _, (Dlad, PySem.W.listOf lvs.toArray nla) :: (Drow, PySem.W.listOf rvs.toArray nr) :: (TLs ++ R), rfl, .cons scnt tokc hcvs, items_cons (items_mono hwvs fun u x q => LsOf.mono q hsub fun u x q => PairOf.mono q hsub) ?_, items_cons (items_mono hbvs fun u x q => IntsOf.mono q hsub) ⟨Dlad, lvs, nla, rfl, by simp, hlvs⟩, hsub _ hD2R, fun p hp => hsub _ (hR1 _ hp), hdis, rfl, rfl, rfl, rfl⟩
          exact ⟨Drow, rvs, nr, rfl, by simp, hrvs.1, fun i x hx => let ⟨u, hu, p⟩ := hrvs.2 i x hx; ⟨u, hu, PairOf.mono p hsub2⟩⟩
    · rintro h6 tk6 m₂ news₂ F15 N15 ⟨cvs, wvs, bvs, nc, nw, nb, R, rfl, hcvs, hwvs, hbvs, hD2R, hR1, hRd, em1, em2, em3, em4⟩
      have F16 := Fr_pin (Fr_pin (Fr_pin F15 (x := Str.ofString "begins") (by exact em4)) (x := Str.ofString "ways") (by exact em3)) (x := Str.ofString "counts") (by exact em2)
      clear F15 F5 N5 N6
      dsimp only
      w_strict (k_steps)
      unfold Stop
      refine kup_newTuple F16 N15 ?_ (by show 3 ≤ sizeLine; rw [sizeLine_eq]; decide)
      intro t7 h7 F18 N18 _
      rw [hvl] at hcvs hwvs hbvs
      change qk (Flow.ret _) _
      have sub : ∀ p ∈ R, p ∈ (t7, tupO [.ref Dc, .ref Dw, .ref Db]) :: (Dc, PySem.W.listOf cvs.toArray nc) :: (Dw, PySem.W.listOf wvs.toArray nw) :: (Db, PySem.W.listOf bvs.toArray nb) :: R := fun p hp => by simp [hp]
      refine BodyEnd.mk' F18 N18 ⟨t7, Dc, Dw, Db, rfl, List.mem_cons_self .., ⟨Dc, cvs, nc, rfl, by simp, hcvs⟩, ?_, ?_, fun p hp => sub _ (hR1 _ (hnews1 _ hp))⟩
      · exact ⟨Dw, wvs, nw, rfl, by simp, hwvs.1, fun i x hx => let ⟨u, hu, p⟩ := hwvs.2 i x hx; ⟨u, hu, LsOf.mono p sub fun u x q => PairOf.mono q sub⟩⟩
      · exact ⟨Db, bvs, nb, rfl, by simp, hbvs.1, fun i x hx => let ⟨u, hu, p⟩ := hbvs.2 i x hx; ⟨u, hu, IntsOf.mono p sub⟩⟩
end Mine
end partLad

section partDot
open PySem PySem.W PySem.Spec PySem.Calls PyProof.Rows
namespace Mine
set_option maxRecDepth 100000
set_option maxHeartbeats 8000000
local macro_rules | `(tactic| walk_at "eval ListComp") => `(tactic| refine Stop.of ?_)
local macro_rules | `(tactic| walk_at "call builtin:str.join") => `(tactic| refine Stop.of ?_)

theorem strs_of_at : ∀ {vs : List Value} {ys : List Str}, vs.length = ys.length → (∀ (i : Nat) (y : Str), ys[i]? = some y → ∃ tk, vs[i]? = some (Value.str y tk)) → StrsAre vs ys
  | [], [], _, _ => .nil
  | v :: vs, y :: ys, hl, h => by
    obtain ⟨tk, ht⟩ := h 0 y rfl
    simp at ht
    subst ht
    exact .cons y tk (strs_of_at (by simpa using hl) fun i z hz => h (i + 1) z hz)
noncomputable def dots : Str := Str.ofString "..."
noncomputable def dotted (x : Str) : Str := dots ++ Str.join (Str.ofString "") (x.cps.toList.map fun c => (⟨#[c]⟩ : Str) ++ dots)
theorem dotted_ok {w : World} {mean : ExcName → Option Value} {mg mb : Str → Option Value} {x : Str} {tkx : Tok} {news : Led} (hl : x.cps.size ≤ 100) :
    CallOK w mean mg mb (.ref 201) [.str x tkx] [] news 1 8 (fun r n => n = news ∧ ∃ t, r = .str (dotted x) t) := by
  refine fill fun hfill => ?_
  revert hfill; k_fill; intro _
  k_dflt (refine' fn_ok ?ho ?hcd ?hb ?hloc ?h1 ?h2 ?h3 ?h4 ?h5 ?h6 ?_; (case ho => k_is); (case hcd => k_is); (case hb => first | exact fun _ _ => BindsTo.of_eq rfl | exact fun _ hX => kp_binds hX (fun _ => rfl)); (case hloc => exact locs rfl); (case h1 => exact rfl); (case h2 => exact rfl); (case h3 => exact rfl); (case h4 => decide); (case h5 => decide); (case h6 => decide); k_whole)
  intro dp un gd outer A₀ base g L' s B F X N T hk hdp hun
  try dsimp only
  k_fold
  w_strict (k_steps)
  unfold Stop
  refine l_comp (cl := []) (fun _ i _ y => ∃ tk c, x.cps[i]? = some c ∧ y = .str ((⟨#[c]⟩ : Str) ++ dots) tk) (fun _ _ _ _ _ h _ => h) (by exact rfl) (by decide) rfl (by decide) rfl ?_
  refine wpAny_Name (wpAny_loadName_local rfl rfl F.ns (v := Value.str x tkx) rfl ?_)
  refine pyIter_str' fun oI St hIo W st0 => ?_
  dsimp only at W hIo st0 ⊢
  refine ⟨s.heap.objs.size, _, x.cps.size, _, St, rfl, W _ (by exact rfl), by omega, st0, by rw [Heap.size_push]; exact Nat.lt_succ_self _, ?_, ?_, ?_⟩
  · intro b hb
    rw [List.mem_singleton.mp hb, Heap.size_push]; exact Nat.lt_succ_self _
  · intro C i v s₃ m₃ E' hi hv hC hC3 hn hmx hk
    obtain ⟨c, u, hc, rfl⟩ := hv
    refine wpAny_BinOp (wpAny_Name (wpAny_loadName_local rfl rfl hn hmx (Constant_str ?_)))
    refine PyProof.Rows.add_str (fun t' tk' => ⟨⟨t', c, hc, rfl⟩, s₃.heap, tk', rfl, fun _ _ e => e⟩) ?_
    show 1 + (Str.ofString "...").length ≤ sizeLine
    rw [sizeLine_eq]; decide
  intro D C h1 tk1 vs c hD hDC hgD hk1 hvs hvv
  try dsimp only at hD hk1
  have F1 : Fr g L' h1 _ := frk F fun b o e => hk1 b o (Nat.ne_of_lt (Heap.lt_size e)) (Heap.get?_push_of_some _ e)
  have N1 : News g L' h1 ((D, PySem.W.listOf vs c) :: news) := nw_new F N (fun b o e => hk1 b o (Nat.ne_of_lt (Heap.lt_size e)) (Heap.get?_push_of_some _ e)) hgD (by rw [Heap.size_push] at hD; exact Nat.le_of_succ_le hD)
  have hstr : StrsAre vs.toList (x.cps.toList.map fun c => (⟨#[c]⟩ : Str) ++ dots) := by
    refine strs_of_at (by simp [hvs]) fun i y hy => ?_
    rw [List.getElem?_map] at hy
    cases e : x.cps.toList[i]? with
    | none => rw [e] at hy; cases hy
    | some c =>
      rw [e] at hy
      have hi : i < x.cps.size := by
        rcases Nat.lt_or_ge i x.cps.size with q | q
        · exact q
        · rw [List.getElem?_eq_none (by simpa using q)] at e; cases e
      obtain ⟨v, hv, tk, c', hc', rfl⟩ := hvv i hi
      rw [Array.getElem?_toList] at e
      rw [e] at hc'
      cases hc'
      cases hy
      exact ⟨tk, by rw [Array.getElem?_toList]; exact hv⟩
  w_strict (k_steps)
  unfold Stop
  have hsum : ∀ l : List Nat, ((l.map fun c => (⟨#[c]⟩ : Str) ++ dots).map (·.length)).sum = 4 * l.length := by
    intro l
    induction l with
    | nil => rfl
    | cons a r ih =>
      rw [List.map_cons, List.map_cons, List.sum_cons, ih, Str.length_append]
      have : dots.length = 3 := by decide
      have h1 : Str.length ⟨#[a]⟩ = 1 := rfl
      rw [List.length_cons, this, h1]; omega
  refine join_listC ⟨_, (N1 _ (List.mem_cons_self ..)).1, rfl, c, rfl⟩ hstr (by decide) ?_ fun t' k => ?_
  · rw [hsum, List.length_map]
    have : x.cps.toList.length = x.cps.size := Array.length_toList
    omega
  have e1 : Txt.join (Str.ofString "") (x.cps.toList.map fun c => (⟨#[c]⟩ : Str) ++ dots) = Str.join (Str.ofString "") (x.cps.toList.map fun c => (⟨#[c]⟩ : Str) ++ dots) := PySem.StrLaws.glued_eq_join _ _
  refine PyProof.Rows.add_str (fun t2 k2 => ?_) ?_
  · exact BodyEnd.mk' F1 (fun p hp => N1 p (List.mem_cons_of_mem _ hp)) ⟨rfl, t2, by rw [e1]; rfl⟩
  · have q := StrLaws.join_length_le (Str.ofString "") (x.cps.toList.map fun c => (⟨#[c]⟩ : Str) ++ dots)
    rw [hsum, e1.symm] at q
    have h0 : (Str.ofString "").length = 0 := by decide
    have h3 : (Str.ofString "...").length = 3 := by decide
    have : x.cps.toList.length = x.cps.size := Array.length_toList
    rw [h0] at q
    rw [h3, sizeLine_eq]
    omega
end Mine
end partDot

section partCis
open PySem PySem.W PySem.Spec PySem.Calls PyProof.Rows
namespace Mine
set_option maxRecDepth 100000
section
variable {prog : Program} {w : World} {A : Around} {E : Value → Shared → Prop} {s : Shared}
/-- a list comprehension over a list of whole numbers, making texts -/
theorem comp_ints {env : Env} {elt iter : PySem.Expr} {x : Str} {px : Pos} {scope : Scope} {pos : Pos} {Q : Value → Shared → Prop} {h₀ : Heap} {m : Str → Option Value} {news : Led} {D : Addr} {vs : List Value} {c : Nat} {cs : List Int} (f : Int → Str)
    (hh : A.handled = none) (hclos : closureFor scope env = pure []) (hcell : ∀ y ∈ scope.names, y.2 ≠ .cell) (hkind : scope.kind = .function)
    (hnames : ∀ y ∈ scope.names, y.2 = .local → scope.names.lookup y.1 = some .local) (hx : scope.names.lookup x = some .local)
    (F : Fr h₀ env.locals s.heap m) (N : News h₀ env.locals s.heap news) (hD : (D, PySem.W.listOf vs.toArray c) ∈ news) (hc : IntsAre vs cs) (hl : cs.length ≤ 100)
    (hit : ∀ Q' : Value → Shared → Prop, Q' (.ref D) s → wpAny (model prog w) A (eval iter env) Q' E s)
    (helt : ∀ C z t s₃ m₃ E', z ∈ cs → Fr h₀ C s₃.heap m₃ → m₃ x = some (.int z t) → wpAny (model prog w) A (eval elt (compEnvC scope [] C env)) (fun r s₄ => (∃ tk, r = .str (f z) tk) ∧ Keeps s₃ s₄) E' s₃)
    (hQ : ∀ D2 h' tk' rs c', Fr h₀ env.locals h' m → News h₀ env.locals h' ((D2, PySem.W.listOf (rs : List Value).toArray c') :: news) → (∀ p ∈ news, p.1 < D2) → StrsAre rs (cs.map f) → Q (.ref D2) { s with heap := h', toks := tk' })
    (hs : ∀ x, foldedSetIterable iter env x = pure x := by intro _; rfl) :
    wpAny (model prog w) A (eval (.ListComp elt [⟨.Name x px, iter, [], 0⟩] scope pos) env) Q E s := by
  refine l_comp (cl := []) (fun _ i _ y => ∃ tk z, cs[i]? = some z ∧ y = .str (f z) tk) (fun _ _ _ _ _ h _ => h) hclos hcell hkind hnames hx (hit _ ?_) hs
  have hDl := N _ hD
  have hl' : s.heap.IsList D vs.toArray := ⟨_, hDl.1, rfl, c, rfl⟩
  refine wpAny_pyIter_list hl' ?_
  have hnew : h₀.get? s.heap.objs.size = none := next_is_new F
  have hLlt : env.locals < s.heap.objs.size := F.ns.lt
  have hDlt : D < s.heap.objs.size := Heap.lt_size hDl.1
  have hvl : vs.length = cs.length := IntsAre.length hc
  refine ⟨s.heap.objs.size, [s.heap.objs.size, D], vs.toArray.size, _, _, rfl, Walks.list hh _ D (Nat.ne_of_lt hDlt) vs.toArray, by rw [List.size_toArray]; omega, ⟨⟨_, Heap.get?_push_size _ rfl, rfl, rfl⟩, hl'.push _⟩, by rw [Heap.size_push]; exact Nat.lt_succ_self _, ?_, ?_, ?_⟩
  · intro b hb
    rw [Heap.size_push]
    rcases List.mem_cons.mp hb with rfl | hb
    · exact Nat.lt_succ_self _
    · rw [List.mem_singleton.mp hb]; exact Nat.lt_succ_of_lt hDlt
  · intro C i v s₃ m₃ E' hi hv hC hC3 hns hmx hk
    have hv' : vs[i]? = some v := by simpa using hv
    have hi' : i < cs.length := by rw [← hvl]; simpa using hi
    obtain ⟨t, ht⟩ := ints_at hc (List.getElem?_eq_getElem hi')
    rw [hv'] at ht
    cases ht
    rw [Heap.size_push] at hC
    have F3 : Fr h₀ C s₃.heap m₃ := ⟨hns, fun b o e => hk b o (fun q => by rw [q, hnew] at e; cases e) (Heap.get?_push_of_some _ (F.keep b o e)), Nat.le_trans F.above (Nat.le_of_lt (Nat.lt_of_lt_of_le hLlt (Nat.le_of_succ_le hC)))⟩
    refine wpAny_mono (helt C (cs[i]) t s₃ m₃ E' (List.getElem_mem _) F3 hmx) (fun r s₄ h => ?_) fun _ _ e => e
    obtain ⟨⟨tk, rfl⟩, hk⟩ := h
    exact ⟨⟨tk, cs[i], List.getElem?_eq_getElem hi', rfl⟩, hk⟩
  intro D2 C h' tk' rs c' hD2 hDC hg hk hsz hel
  dsimp only at hD2 hk
  rw [Heap.size_push] at hD2
  have hold : ∀ b o, s.heap.get? b = some o → h'.get? b = some o := fun b o e => hk b o (Nat.ne_of_lt (Heap.lt_size e)) (Heap.get?_push_of_some _ e)
  have F1 := frk F hold
  have N1 := nw_new F N hold hg (Nat.le_of_succ_le hD2)
  obtain ⟨rl, rfl⟩ : ∃ rl : List Value, rs = rl.toArray := ⟨rs.toList, by rw [Array.toArray_toList]⟩
  refine hQ D2 h' tk' rl c' F1 N1 (fun p hp => Nat.lt_of_lt_of_le (Heap.lt_size (N p hp).1) (Nat.le_of_succ_le hD2)) (strs_of_at ?_ fun i y hy => ?_)
  · rw [List.size_toArray, List.size_toArray] at hsz
    rw [List.length_map, ← hvl, hsz]
  · rw [List.getElem?_map] at hy
    cases e : cs[i]? with
    | none => rw [e] at hy; cases hy
    | some z =>
      rw [e] at hy
      cases hy
      have hi : i < vs.toArray.size := by
        rw [List.size_toArray, hvl]; exact (List.getElem?_eq_some_iff.mp e).1
      obtain ⟨v, hv, tk, z', hz, rfl⟩ := hel i hi
      rw [e] at hz
      cases hz
      exact ⟨tk, by simpa using hv⟩
end
end Mine
end partCis

section partNelt
open PySem PySem.W PySem.Spec PySem.Calls PyProof.Rows
namespace Mine
set_option maxRecDepth 100000
set_option maxHeartbeats 4000000
local macro_rules | `(tactic| walk_at "eval BinOp") => `(tactic| refine Stop.of ?_)
local macro_rules | `(tactic| walk_at "le") => `(tactic| refine Stop.of ?_)
local macro_rules | `(tactic| walk_at "newList") => `(tactic| refine Stop.of ?_)
local macro_rules | `(tactic| walk_at "subscriptTail") => `(tactic| refine Stop.of ?_)
noncomputable def names6 : List Str := [Str.ofString "a", Str.ofString "ab", Str.ofString "abc", Str.ofString "A", Str.ofString "aB", Str.ofString "AbC"]
noncomputable def name6 (z : Int) : Str := names6.getD (z.fmod 6).toNat (Str.ofString "a")
theorem name_elt {prog : Program} {w : World} {A : Around} {env : Env} {scope : Scope} {C : Addr} {h₀ : Heap} {s₃ : Shared} {m₃ : Str → Option Value} {z : Int} {t : Tok} {E' : Value → Shared → Prop} {p1 p2 p3 p4 p5 p6 p7 p8 p9 p10 p11 : Pos}
    (hkd : (compEnvC scope [] C env).scope.kind = .function) (hk : (compEnvC scope [] C env).kindOf (Str.ofString "v") = some .local) (F3 : Fr h₀ C s₃.heap m₃) (hm : m₃ (Str.ofString "v") = some (.int z t)) :
    wpAny (model prog w) A (eval (.Subscript (.List [.Constant (.str (Str.ofString "a")) 0 p1, .Constant (.str (Str.ofString "ab")) 0 p2, .Constant (.str (Str.ofString "abc")) 0 p3, .Constant (.str (Str.ofString "A")) 0 p4, .Constant (.str (Str.ofString "aB")) 0 p5, .Constant (.str (Str.ofString "AbC")) 0 p6] p7) (.BinOp (.Name (Str.ofString "v") p8) .Mod (.Constant (.int 6) 0 p9) p10) p11) (compEnvC scope [] C env))
      (fun r s₄ => (∃ tk, r = .str (name6 z) tk) ∧ Keeps s₃ s₄) E' s₃ := by
  refine Subscript_ ?_
  refine wpAny_List ?_
  w_strict (k_steps)
  · unfold Stop
    show 6 ≤ sizeLine
    rw [sizeLine_eq]; decide
  unfold Stop
  have hpush := Heap.get?_push_size s₃.heap (o := PySem.W.listOf [Value.str (Str.ofString "a") s₃.toks, .str (Str.ofString "ab") (s₃.toks + 1), .str (Str.ofString "abc") (s₃.toks + 1 + 1), .str (Str.ofString "A") (s₃.toks + 1 + 1 + 1), .str (Str.ofString "aB") (s₃.toks + 1 + 1 + 1 + 1), .str (Str.ofString "AbC") (s₃.toks + 1 + 1 + 1 + 1 + 1)].toArray 0) rfl
  have F4 := F3.push (PySem.W.listOf [Value.str (Str.ofString "a") s₃.toks, .str (Str.ofString "ab") (s₃.toks + 1), .str (Str.ofString "abc") (s₃.toks + 1 + 1), .str (Str.ofString "A") (s₃.toks + 1 + 1 + 1), .str (Str.ofString "aB") (s₃.toks + 1 + 1 + 1 + 1), .str (Str.ofString "AbC") (s₃.toks + 1 + 1 + 1 + 1 + 1)].toArray 0)
  have h0 : 0 ≤ z.fmod 6 := Int.fmod_nonneg_of_pos z (by decide)
  have h6 : z.fmod 6 < 6 := Int.fmod_lt_of_pos z (by decide)
  have hlt : (z.fmod 6).toNat < 6 := by omega
  have hcast : z.fmod 6 = ((z.fmod 6).toNat : Int) := by omega
  refine wpAny_BinOp (wpAny_Name (wpAny_loadName_local hkd hk F4.ns hm (wpAny_Constant_int (mod_int (by decide) ?_))))
  have key : ∀ n : Nat, n < 6 → ∃ tk, [Value.str (Str.ofString "a") s₃.toks, .str (Str.ofString "ab") (s₃.toks + 1), .str (Str.ofString "abc") (s₃.toks + 1 + 1), .str (Str.ofString "A") (s₃.toks + 1 + 1 + 1), .str (Str.ofString "aB") (s₃.toks + 1 + 1 + 1 + 1), .str (Str.ofString "AbC") (s₃.toks + 1 + 1 + 1 + 1 + 1)][n]? = some (.str (names6.getD n (Str.ofString "a")) tk) := by
    intro n hn
    match n, hn with
    | 0, _ => exact ⟨_, rfl⟩
    | 1, _ => exact ⟨_, rfl⟩
    | 2, _ => exact ⟨_, rfl⟩
    | 3, _ => exact ⟨_, rfl⟩
    | 4, _ => exact ⟨_, rfl⟩
    | 5, _ => exact ⟨_, rfl⟩
  obtain ⟨tk, htk⟩ := key _ hlt
  refine itemK (j := (z.fmod 6).toNat) hpush htk hcast (by omega) ?_
  exact ⟨⟨tk, rfl⟩, _, _, rfl, fun b o e => Heap.get?_push_of_some _ e⟩
end Mine
namespace Mine
/-- the letter of a cell -/
noncomputable def ltr (z : Int) : Nat := 97 + (z.fmod 3).toNat
noncomputable def textOf (cs : List Int) : Str := ⟨(cs.map ltr).toArray⟩
theorem item_abc (z : Int) : Txt.item (Str.ofString "abc") (z.fmod 3) = ⟨#[ltr z]⟩ := by
  have h0 : 0 ≤ z.fmod 3 := Int.fmod_nonneg_of_pos z (by decide)
  have h6 : z.fmod 3 < 3 := Int.fmod_lt_of_pos z (by decide)
  unfold ltr
  generalize z.fmod 3 = r at h0 h6
  have h : r = 0 ∨ r = 1 ∨ r = 2 := by omega
  rcases h with rfl | rfl | rfl <;> decide +kernel
theorem join_text (cs : List Int) : Txt.join (Str.ofString "") (cs.map fun z => (⟨#[ltr z]⟩ : Str)) = textOf cs := by
  have e1 : Txt.join (Str.ofString "") (cs.map fun z => (⟨#[ltr z]⟩ : Str)) = Str.join (Str.ofString "") (cs.map fun z => (⟨#[ltr z]⟩ : Str)) := PySem.StrLaws.glued_eq_join _ _
  rw [e1]
  have key : ∀ l : List Int, (Str.join (Str.ofString "") (l.map fun z => (⟨#[ltr z]⟩ : Str))).cps.toList = l.map ltr := by
    intro l
    induction l with
    | nil => rfl
    | cons a r ih =>
      cases r with
      | nil => rfl
      | cons b r =>
        show ((⟨#[ltr a]⟩ : Str) ++ Str.ofString "" ++ Str.join (Str.ofString "") ((b :: r).map fun z => (⟨#[ltr z]⟩ : Str))).cps.toList = _
        rw [cps_toList_append, cps_toList_append, ih]
        rfl
  unfold textOf
  have h := key cs
  cases e : Str.join (Str.ofString "") (cs.map fun z => (⟨#[ltr z]⟩ : Str)) with
  | mk c =>
    rw [e] at h
    simp only at h
    rw [← h]
end Mine
end partNelt

section partScat
open PySem PySem.W PySem.Spec PySem.Calls PyProof.Rows
namespace Mine
set_option maxRecDepth 100000
set_option maxHeartbeats 8000000
local macro_rules | `(tactic| walk_at "mine pad0") => `(tactic| refine Stop.of ?_)
local macro_rules | `(tactic| walk_at "eval Set") => `(tactic| refine Stop.of ?_)
local macro_rules | `(tactic| walk_at "exec For Name Name cons nil") => `(tactic| refine Stop.of ?_)
local macro_rules | `(tactic| walk_at "eval SetComp") => `(tactic| refine Stop.of ?_)
local macro_rules | `(tactic| walk_at "binaryOp BitOr ref ref") => `(tactic| refine Stop.of ?_)

noncomputable def scatPost (w : World) (news : Led) (x : Str) (r : Value) (n : Led) : Prop :=
  ∃ D o xs, r = .ref D ∧ n = (D, o) :: news ∧ (∀ p ∈ news, p.1 < D) ∧ SObj PG w o xs ∧ (∀ y, y ∈ xs ↔ y.cps.toList.Sublist x.cps.toList)
theorem scat_ok {w : World} {mean : ExcName → Option Value} {mg mb : Str → Option Value} {x : Str} {tkx : Tok} {news : Led} (hl : x.cps.size ≤ 6) :
    CallG True w mean mg mb (.ref 196) [.str x tkx] [] news 1 8 (scatPost w news x) := by
  refine fill fun hfill => ?_
  revert hfill; k_fill; intro _
  k_dflt (refine' fn_okC ?ho ?hcd ?hb ?hkind ?hnd ?h1 ?h2 ?h3 ?h5 ?h6 ?_; (case ho => k_is); (case hcd => k_is); (case hb => first | exact fun _ _ => BindsTo.of_eq rfl | exact fun _ hX => kp_binds hX (fun _ => rfl)); (case hkind => exact rfl); (case hnd => decide +kernel); (case h1 => exact rfl); (case h2 => exact rfl); (case h3 => exact rfl); (case h5 => decide); (case h6 => decide); k_whole)
  intro dp un gd outer A₀ base g L' s cells B F X N T Y hlt hk hdp hun
  try dsimp only
  k_fold
  have hY := CellsAre.one Y
  obtain ⟨oc, rfl, hoc⟩ := hY
  clear Y
  w_strict (k_steps)
  unfold Stop
  refine s_display1 (K := hd.heap_39 w.params) (X.keeps F.keep) (by first | k_is | kernel_rfl!) rfl (fun s' Q' hq => Constant_str (hq _ _)) fun D h1 tk1 o1 hD hk1 hg1 hS1 => ?_
  have F1 := frk F hk1
  have N1 := nw_new F N hk1 hg1 hD
  have hD1 : ∀ p ∈ news, p.1 < D := fun p hp => Nat.lt_of_lt_of_le (Heap.lt_size (N p (List.mem_append_right _ hp)).1) hD
  have hDc : L' + 1 < D := Nat.lt_of_lt_of_le (Heap.lt_size (N (L' + 1, oc) (List.mem_cons_self ..)).1) hD
  clear N F
  w_strict (k_steps)
  unfold Stop
  rename Fr g L' _ _ => F2
  rename News g L' _ _ => N2
  clear hg1 hk1 hD
  have hL0 : g.get? (L' + 1) = none := (N2 (L' + 1, oc) (by simp)).2.2
  refine For_my ?_
  refine wpAny_Name (wpAny_loadName_local rfl rfl F2.ns (v := Value.str x tkx) rfl ?_)
  refine pyIter_str' fun oI St hIo W st0 => ?_
  dsimp only
  generalize hJ : (Heap.objs _).size = J at W hIo ⊢
  have ltJ : ∀ b o, Heap.get? _ b = some o → b < J := fun b o e => hJ ▸ Heap.lt_size e
  have F3 := F2.push oI
  have N3 : News g L' _ ((D, o1) :: (L' + 1, oc) :: news) := fun p hp => ⟨Heap.get?_push_of_some oI (N2 p hp).1, (N2 p hp).2⟩
  have gJ : g.get? J = none := by
    cases q : g.get? J with
    | none => rfl
    | some o => exact absurd (ltJ _ _ (F2.keep _ _ q)) (Nat.lt_irrefl _)
  have LJ : L' ≠ J := by
    obtain ⟨oL, _, _, hL, _⟩ := F2.ns
    exact Nat.ne_of_lt (ltJ _ _ hL)
  have cJ : L' + 1 ≠ J := Nat.ne_of_lt (ltJ _ _ (N2 (L' + 1, oc) (by simp)).1)
  have DJ : D < J := ltJ _ _ (N2 (D, o1) (by simp)).1
  have nJ : ∀ p ∈ news, p.1 < J := fun p hp => ltJ _ _ (N2 p (by simp [hp])).1
  generalize Heap.push _ oI = H at st0 F3 N3 ⊢
  clear F2 N2
  refine ⟨fun k s' => ∃ (h' : Heap) (dr : Drawn) (tk : Nat) (i D : Nat) (o oc : Obj) (xs : List Str) (m : Str → Option Value), s' = { s with heap := h', drawn := dr, toks := tk } ∧ i ≤ x.cps.size ∧ k = x.cps.size + 1 - i ∧ St i h' ∧ Fr g L' h' m ∧ m (Str.ofString "words") = some (.ref D) ∧
      News g L' h' ((D, o) :: (L' + 1, oc) :: news) ∧ (∃ v, oc.data = .cell v) ∧ SObj PG w o xs ∧ xs ≠ [] ∧ xs.length ≤ 2 ^ i ∧ (∀ y : Str, y ∈ xs ↔ y.cps.toList.Sublist (x.cps.toList.take i)) ∧ (∀ p ∈ news, p.1 < D) ∧ L' + 1 < D ∧ D ≠ J,
    ⟨x.cps.size + 1, H, s.drawn, _, 0, D, o1, oc, [Str.ofString ""], _, rfl, Nat.zero_le _, rfl, st0, F3, rfl, N3, ⟨_, hoc⟩, hS1, by simp, by simp, ?_, hD1, hDc, Nat.ne_of_lt DJ⟩, ?_⟩
  · intro y
    simp only [List.mem_singleton, List.take_zero, List.sublist_nil]
    constructor
    · rintro rfl; rfl
    · intro q
      have : y.cps = #[] := by simpa using q
      obtain ⟨c⟩ := y
      simp only at this
      rw [this]; rfl
  rintro k s' ⟨h', dr, tk, i, D, o, oc, xs, m, rfl, hi, rfl, st, F, hm, N, ⟨vc, hoc⟩, hS, hne, hlen, hmem, hDn, hDc, hDJ⟩
  by_cases hlt2 : i < x.cps.size
  · refine (W _ (by exact rfl)).item i _ _ _ hlt2 st fun v h1 tk1 hv st1 hk1 => ?_
    obtain ⟨c, u, hc, rfl⟩ := hv
    dsimp only at hk1
    have F1 := LCg.fr_but F hk1 LJ gJ
    have N1 := LCg.news_but N hk1 (fun p hp => by
      rcases List.mem_cons.mp hp with rfl | hp
      · exact hDJ
      · rcases List.mem_cons.mp hp with rfl | hp
        · exact cJ
        · exact Nat.ne_of_lt (nJ p hp))
    refine wpAny_assign_Name (wpAny_storeName_cell rfl rfl rfl ⟨oc, (N1 (L' + 1, oc) (by simp)).1, hoc⟩ fun h2 hcell sb => ?_)
    dsimp only at sb
    obtain ⟨oc2, hg2, hoc2⟩ := hcell
    have F2 := Fr_pin (Fr.change F1 sb (Nat.succ_ne_self L') hL0) hm
    have N2 : News g L' h2 ((D, o) :: (L' + 1, oc2) :: news) := fun p hp => by
      rcases List.mem_cons.mp hp with rfl | hp
      · have q := N1 (D, o) (by simp)
        exact ⟨(sb.2 D (Nat.ne_of_gt hDc)).trans q.1, q.2⟩
      · rcases List.mem_cons.mp hp with rfl | hp
        · exact ⟨hg2, Nat.succ_ne_self L', hL0⟩
        · have q := N1 p (by simp [hp])
          exact ⟨(sb.2 p.1 (Nat.ne_of_lt (Nat.lt_succ_of_lt (hlt p hp)))).trans q.1, q.2⟩
    have st2 : St i.succ h2 := (W callerA rfl).frame _ _ _ st1 fun b hb o e => (sb.2 b (by rw [List.mem_singleton.mp hb]; exact Ne.symm cJ)).trans e
    obtain ⟨oJ, heJ, hJl⟩ := keep_it (W callerA rfl) st2 (hIo _ _ st2)
    have N2' : News g L' h2 ((D, o) :: (L' + 1, oc2) :: (J, oJ) :: news) := fun p hp => by
      simp only [List.mem_cons] at hp
      rcases hp with rfl | rfl | rfl | hp
      · exact N2 _ (by simp)
      · exact N2 _ (by simp)
      · exact ⟨heJ, Ne.symm LJ, gJ⟩
      · exact N2 p (by simp [hp])
    clear N N1 F F1 F3 N3 st st1 N2
    rename News g L' h2 _ => N2
    w_strict (k_steps)
    unfold Stop
    refine s_comp (fun y => y ++ ⟨#[c]⟩) (by exact rfl) (cl := [(Str.ofString "letter", L' + 1)]) (by exact rfl) (by decide) rfl (by decide) rfl ?_
    refine wpAny_Name (wpAny_loadName_local rfl rfl F2.ns (v := Value.ref D) rfl ?_)
    refine ⟨D, o, xs, rfl, (N2 (D, o) (by simp)).1, hS, by have := Nat.pow_le_pow_right (n := 2) (by decide) (show i ≤ 5 by omega); omega, ?_, ?_⟩
    · intro C s₃ m₃ y tk E' hy hC hn hmx hk
      refine wpAny_BinOp (wpAny_Name (wpAny_loadName_local rfl rfl hn hmx (wpAny_Name (wpAny_loadName_cell rfl rfl rfl ⟨oc2, hk _ _ hg2, hoc2⟩ ?_))))
      refine PyProof.Rows.add_str (fun t' tk' => ⟨⟨t', rfl⟩, s₃.heap, tk', rfl, fun _ _ e => e⟩) ?_
      have q := ((hmem y).mp hy).length_le
      rw [List.length_take] at q
      show y.cps.size + 1 ≤ sizeLine
      rw [sizeLine_eq]
      have : y.cps.toList.length = y.cps.size := Array.length_toList
      omega
    intro D1 h3 dr3 tk3 o3 zs hD1le hg3 hk3 hS3 hm3 hl3
    dsimp only at hD1le hk3
    have F3 := frk F2 hk3
    have N3 := nw_new F2 N2 hk3 hg3 hD1le
    have hDD1 : D < D1 := Nat.lt_of_lt_of_le (Heap.lt_size (N2 (D, o) (by simp)).1) hD1le
    refine s_or F3 N3 (N3 (D, o) (by simp)).1 hS hg3 hS3 (Nat.ne_of_lt hDD1) hne (by have := Nat.pow_le_pow_right (n := 2) (by decide) (show i ≤ 5 by omega); omega) fun D2 h4 dr4 o4 us F4 N4 hlt4 hS4 hm4 hl4 => ?_
    clear F2 N2 F3 N3
    w_strict (k_steps)
    rename Fr g L' _ _ => F5
    rename News g L' _ _ => N5
    refine ⟨x.cps.size + 1 - (i + 1), by omega, _, dr4, _, i + 1, D2, o4, oc2, us, _, rfl, hlt2, rfl, hJl _ (N5 (J, oJ) (by simp)).1, F5, rfl, ?_, ⟨_, hoc2⟩, hS4, ?_, ?_, ?_, ?_, ?_, ?_⟩
    · intro p hp
      rcases List.mem_cons.mp hp with rfl | hp
      · exact N5 _ (by simp)
      · rcases List.mem_cons.mp hp with rfl | hp
        · exact N5 _ (by simp)
        · exact N5 _ (by simp [hp])
    · intro e
      obtain ⟨y, hy⟩ := List.exists_mem_of_ne_nil _ hne
      have := (hm4 y).mpr (.inl hy)
      rw [e] at this; cases this
    · rw [Nat.pow_succ]; omega
    · intro y
      have hci : x.cps.toList[i]? = some c := by rw [Array.getElem?_toList]; exact hc
      rw [hm4, hm3, List.take_add_one, hci]
      show _ ↔ y.cps.toList.Sublist (x.cps.toList.take i ++ [c])
      rw [List.sublist_append_iff]
      constructor
      · rintro (q | ⟨u, hu, rfl⟩)
        · exact ⟨_, [], (List.append_nil _).symm, (hmem y).mp q, List.nil_sublist _⟩
        · exact ⟨u.cps.toList, [c], by rw [Str.cps_append]; simp, (hmem u).mp hu, List.Sublist.refl _⟩
      · rintro ⟨l1, l2, e, q1, q2⟩
        have q3 : l2 = [] ∨ l2 = [c] := by
          cases q2 with
          | cons _ h => left; exact List.sublist_nil.mp h
          | cons_cons _ h => right; rw [List.sublist_nil.mp h]
        rcases q3 with rfl | rfl
        · left; rw [List.append_nil] at e; rw [hmem, e]; exact q1
        · right
          refine ⟨⟨l1.toArray⟩, (hmem _).mpr (by simpa using q1), ?_⟩
          obtain ⟨yc⟩ := y
          have : yc = (l1 ++ [c]).toArray := by rw [← e]
          rw [this]
          apply Str.ext'
          rw [Str.cps_append]
          simp
    · exact fun p hp => hlt4 p (by simp [hp])
    · exact hlt4 (L' + 1, oc2) (by simp)
    · exact Nat.ne_of_gt (hlt4 (J, oJ) (by simp))
  · refine (W _ (by exact rfl)).done _ _ _ ((show i = x.cps.size from by omega) ▸ st) fun h1 tk1 hk1 => ?_
    dsimp only at hk1
    have F1 := Fr_pin (LCg.fr_but F hk1 LJ gJ) hm
    have N1 := LCg.news_but N hk1 (fun p hp => by
      rcases List.mem_cons.mp hp with rfl | hp
      · exact hDJ
      · rcases List.mem_cons.mp hp with rfl | hp
        · exact cJ
        · exact Nat.ne_of_lt (nJ p hp))
    dsimp only
    w_strict (k_steps)
    refine ⟨_, _, _, dr, _, .inl trivial, rfl, F1, (fun p hp => N1 p (by
      rcases List.mem_cons.mp hp with rfl | hp
      · simp
      · simp [hp]) : News g L' h1 ((D, o) :: news)), D, o, xs, rfl, rfl, hDn, hS, fun y => ?_⟩
    rw [hmem, List.take_of_length_le (by simp; omega)]
end Mine
end partScat

section partTxl
open PySem PySem.StrLaws Builtin.Str
namespace Mine
set_option maxRecDepth 100000

noncomputable abbrev tl (x : PySem.Str) : List Nat := x.cps.toList
noncomputable def atB (y w : List Nat) (ep i : Nat) : Bool := decide (i + w.length ≤ ep) && ((y.drop i).take w.length == w)
/-- the first place of w in y from sp on, ending at ep at the latest -/
noncomputable def fnd (y w : List Nat) (sp ep : Nat) : Option Nat := (List.range' sp (ep + 1 - sp)).find? (atB y w ep)
theorem len_tl (x : PySem.Str) : (tl x).length = x.length := Array.length_toList
theorem at_atB {s sub : PySem.Str} {hi i : Nat} : At s sub hi i ↔ atB (tl s) (tl sub) hi i = true := by
  unfold At atB
  rw [Bool.and_eq_true, decide_eq_true_eq, len_tl, subAt_eq]
theorem find?_split {α : Type} {p : α → Bool} : ∀ {pre : List α} {a : α} {post : List α}, (∀ x ∈ pre, p x = false) → p a = true → (pre ++ a :: post).find? p = some a
  | [], a, post, _, h => by simp [h]
  | x :: pre, a, post, hp, h => by
    rw [List.cons_append, List.find?_cons, hp x (List.mem_cons_self ..)]
    exact find?_split (fun y hy => hp y (List.mem_cons_of_mem _ hy)) h
theorem occ_find (s sub : PySem.Str) (lo hi : Nat) : occurrences s sub lo hi 1 = (fnd (tl s) (tl sub) lo hi).toList := by
  have hlen := occ_length_le s sub lo hi 1
  rw [occ_eq] at hlen ⊢
  unfold fnd
  have hf : ∀ i ∈ List.range' lo (hi + 1 - lo), lo ≤ i := fun i h => by
    have := List.mem_range'.mp h
    omega
  rcases occ_first s sub hi 1 (Nat.le_refl 1) (List.range' lo (hi + 1 - lo)) lo hf with ⟨h0, hn⟩ | ⟨pre, a, post, e, h0, ha, hn⟩
  · rw [h0]
    have : (List.range' lo (hi + 1 - lo)).find? (atB (tl s) (tl sub) hi) = none := by
      rw [List.find?_eq_none]
      intro i hi' h
      exact hn i hi' (at_atB.mpr h)
    rw [this]; rfl
  · have : (List.range' lo (hi + 1 - lo)).find? (atB (tl s) (tl sub) hi) = some a := by
      rw [e]
      refine find?_split (fun i hi' => ?_) (at_atB.mp ha)
      cases q : atB (tl s) (tl sub) hi i with
      | false => rfl
      | true => exact absurd (at_atB.mpr q) (hn i hi')
    rw [this]
    generalize (forIn (List.range' lo (hi + 1 - lo)) (#[], lo) (occBody s sub hi 1)).run.fst = arr at h0 hlen
    obtain ⟨l⟩ := arr
    match l, hlen, h0 with
    | [], _, h0 => simp at h0
    | [b], _, h0 =>
      simp at h0
      rw [h0]; rfl
    | _ :: _ :: _, hlen, _ => simp at hlen

theorem fnd_some {y w : List Nat} {sp ep i : Nat} (h : fnd y w sp ep = some i) : sp ≤ i ∧ i + w.length ≤ ep ∧ (y.drop i).take w.length = w ∧ ∀ j, sp ≤ j → j < i → ¬ (j + w.length ≤ ep ∧ (y.drop j).take w.length = w) := by
  unfold fnd at h
  have h1 := List.find?_some h
  obtain ⟨_, k, hk, hget, hpre⟩ := List.find?_eq_some_iff_getElem.mp h
  rw [List.getElem_range'] at hget
  unfold atB at h1
  rw [Bool.and_eq_true, decide_eq_true_eq, beq_iff_eq] at h1
  refine ⟨by omega, h1.1, h1.2, fun j hj1 hj2 hc => ?_⟩
  have hjl : j - sp < k := by omega
  have := hpre (j - sp) hjl
  rw [List.getElem_range'] at this
  unfold atB at this
  rw [show sp + 1 * (j - sp) = j from by omega] at this
  simp [hc.1, hc.2] at this
theorem fnd_none {y w : List Nat} {sp ep : Nat} (h : fnd y w sp ep = none) : ∀ j, sp ≤ j → ¬ (j + w.length ≤ ep ∧ (y.drop j).take w.length = w) := by
  intro j hj hc
  unfold fnd at h
  rw [List.find?_eq_none] at h
  refine h j (List.mem_range'.mpr ⟨j - sp, by omega, by omega⟩) ?_
  unfold atB
  simp [hc.1, hc.2]

/-- the loop of the ellipsis match -/
noncomputable def emLoop (y : List Nat) : List (List Nat) → Nat → Nat → Bool
  | [], _, _ => true
  | w :: ws, sp, ep => match fnd y w sp ep with
    | none => false
    | some i => emLoop y ws (i + w.length) ep
end Mine
namespace Mine
noncomputable abbrev D3 : PySem.Str := PySem.Str.ofString "..."
theorem tl_D3 : tl D3 = [46, 46, 46] := by decide
theorem len_D3 : D3.length = 3 := by decide
noncomputable def joinL : List (List Nat) → List Nat
  | [] => []
  | [x] => x
  | x :: r => x ++ [46, 46, 46] ++ joinL r
theorem tl_join : ∀ ps : List PySem.Str, tl (PySem.Str.join D3 ps) = joinL (ps.map tl)
  | [] => rfl
  | [x] => rfl
  | x :: y :: r => by
    show tl (x ++ D3 ++ PySem.Str.join D3 (y :: r)) = tl x ++ [46, 46, 46] ++ joinL ((y :: r).map tl)
    rw [← tl_join (y :: r)]
    simp only [tl, PySem.Str.cps_append, Array.toList_append]
    rw [show D3.cps.toList = [46, 46, 46] from tl_D3]
theorem dot_head {l r : List Nat} {a k : Nat} (hk : k < l.length) (hf : 46 ∉ l) {y : List Nat} (e : y.drop a = l ++ r) : ¬ (y.drop (a + k)).take 3 = [46, 46, 46] := by
  intro h
  rw [← List.drop_drop, e] at h
  have h0 := congrArg (fun z => z[0]?) h
  simp only [List.getElem?_take, List.getElem?_drop, Nat.add_zero, List.getElem?_cons_zero] at h0
  rw [List.getElem?_append_left hk] at h0
  have h1 : l[k]? = some 46 := by simpa using h0
  exact hf (List.mem_of_getElem? h1)
theorem parts_join {x : PySem.Str} : ∀ (ps : List (List Nat)) (a : Nat) (cuts : List Nat) (f : Nat), ps ≠ [] → (∀ p ∈ ps, 46 ∉ p) → (tl x).drop a = joinL ps → a ≤ (tl x).length → ChainG x D3 x.length a cuts f → (∀ k, f ≤ k → ¬ At x D3 x.length k) →
    (partsFrom x 3 a cuts).map tl = ps
  | [], _, _, _, h, _, _, _, _, _ => absurd rfl h
  | [p], a, [], f, _, hf, e, _, hc, hn => by
    show [tl (strSub x a x.length)] = [p]
    congr 1
    rw [show tl (strSub x a x.length) = _ from strSub_toList x a x.length]
    have e' : (tl x).drop a = p := e
    rw [show x.cps.toList = tl x from rfl, e', List.take_of_length_le]
    have := congrArg List.length e'
    rw [List.length_drop, len_tl] at this
    omega
  | [p], a, c :: r, f, _, hf, e, _, hc, hn => by
    exfalso
    obtain ⟨h1, h2, h3, h4⟩ := hc
    have hA := at_atB.mp h2
    unfold atB at hA
    rw [Bool.and_eq_true, decide_eq_true_eq, beq_iff_eq, tl_D3] at hA
    have e' : (tl x).drop a = p ++ [] := by rw [List.append_nil]; exact e
    have hl := congrArg List.length e'
    rw [List.length_drop, len_tl, List.append_nil] at hl
    have hlt : c - a < p.length := by
      have : [46, 46, 46].length = 3 := rfl
      have q := hA.1
      rw [this] at q
      omega
    have hd := dot_head hlt (hf p (List.mem_cons_self ..)) e'
    rw [show a + (c - a) = c from by omega] at hd
    exact hd hA.2
  | p :: q :: r, a, [], f, _, hf, e, ha, hc, hn => by
    exfalso
    have hfa : f = a := hc
    subst hfa
    refine hn (f + p.length) (by omega) (at_atB.mpr ?_)
    have e' : (tl x).drop f = p ++ ([46, 46, 46] ++ joinL (q :: r)) := by rw [e]; show p ++ [46, 46, 46] ++ joinL (q :: r) = _; rw [List.append_assoc]
    unfold atB
    rw [Bool.and_eq_true, decide_eq_true_eq, beq_iff_eq, tl_D3]
    have hl := congrArg List.length e'
    rw [List.length_drop, len_tl, List.length_append, List.length_append] at hl
    refine ⟨by simp at hl ⊢; rw [len_tl] at ha; omega, ?_⟩
    rw [← List.drop_drop, e']
    simp
  | p :: q :: r, a, c :: cs, f, _, hf, e, ha, hc, hn => by
    obtain ⟨h1, h2, h3, h4⟩ := hc
    have e' : (tl x).drop a = p ++ ([46, 46, 46] ++ joinL (q :: r)) := by rw [e]; show p ++ [46, 46, 46] ++ joinL (q :: r) = _; rw [List.append_assoc]
    have hl := congrArg List.length e'
    rw [List.length_drop, len_tl, List.length_append, List.length_append] at hl
    have hA := at_atB.mp h2
    unfold atB at hA
    rw [Bool.and_eq_true, decide_eq_true_eq, beq_iff_eq, tl_D3] at hA
    have hce : c = a + p.length := by
      rcases Nat.lt_trichotomy c (a + p.length) with q | q | q
      · exfalso
        have hd := dot_head (k := c - a) (by omega) (hf p (List.mem_cons_self ..)) e'
        rw [show a + (c - a) = c from by omega] at hd
        exact hd hA.2
      · exact q
      · exfalso
        refine h3 (a + p.length) (by omega) q (at_atB.mpr ?_)
        unfold atB
        rw [Bool.and_eq_true, decide_eq_true_eq, beq_iff_eq, tl_D3]
        refine ⟨by simp at hl ⊢; rw [len_tl] at ha; omega, ?_⟩
        rw [← List.drop_drop, e']
        simp
    subst hce
    show tl (strSub x a (a + p.length)) :: (partsFrom x 3 (a + p.length + 3) cs).map tl = p :: q :: r
    rw [len_D3] at h4
    have hd2 : (tl x).drop (a + p.length + 3) = joinL (q :: r) := by
      rw [show a + p.length + 3 = a + (p.length + 3) from by omega, ← List.drop_drop, e', ← List.append_assoc]
      rw [List.drop_append]
      simp
    rw [parts_join (q :: r) (a + p.length + 3) cs f (by simp) (fun z hz => hf z (List.mem_cons_of_mem _ hz)) hd2 (by simp at hl; rw [len_tl] at ha ⊢; omega) h4 hn]
    congr 1
    rw [show tl (strSub x a (a + p.length)) = _ from strSub_toList x a (a + p.length), show x.cps.toList = tl x from rfl, e', show a + p.length - a = p.length from by omega]
    simp
end Mine
namespace Mine
theorem kind_D3 (x : PySem.Str) : ¬ Builtin.Str.strKind x < Builtin.Str.strKind D3 := by
  have h : Builtin.Str.strKind D3 = 1 := by decide +kernel
  rw [h]
  unfold Builtin.Str.strKind
  split
  · omega
  · split <;> omega
theorem no_dots {x : PySem.Str} (hf : 46 ∉ tl x) (i : Nat) : ¬ At x D3 x.length i := by
  intro h
  have hA := at_atB.mp h
  unfold atB at hA
  rw [Bool.and_eq_true, decide_eq_true_eq, beq_iff_eq, tl_D3] at hA
  have hl : i < (tl x).length := by rw [len_tl]; have := hA.1; simp at this; omega
  have hd := dot_head (l := (tl x).drop i) (r := []) (a := i) (k := 0) (by rw [List.length_drop]; omega) (fun m => hf (List.mem_of_mem_drop m)) (by rw [List.append_nil])
  exact hd hA.2
theorem has_dots {x : PySem.Str} {p q : List Nat} {r : List (List Nat)} (e : tl x = joinL (p :: q :: r)) : At x D3 x.length p.length := by
  refine at_atB.mpr ?_
  have e' : tl x = p ++ ([46, 46, 46] ++ joinL (q :: r)) := by rw [e]; show p ++ [46, 46, 46] ++ joinL (q :: r) = _; rw [List.append_assoc]
  unfold atB
  rw [Bool.and_eq_true, decide_eq_true_eq, beq_iff_eq, tl_D3]
  have hl := congrArg List.length e'
  rw [len_tl, List.length_append, List.length_append] at hl
  refine ⟨by simp at hl ⊢; omega, ?_⟩
  rw [e']
  simp
/-- no dots: the marker is not in it -/
theorem in_none {x : PySem.Str} (hf : 46 ∉ tl x) : (occurrences x D3 0 x.length 1).isEmpty = true := by
  cases h : (occurrences x D3 0 x.length 1).isEmpty with
  | true => rfl
  | false =>
    obtain ⟨i, h1, h2⟩ := (found_iff x D3).mp (by rw [h]; rfl)
    exact absurd ⟨h1, h2⟩ (no_dots hf i)
theorem in_some {x : PySem.Str} {p q : List Nat} {r : List (List Nat)} (e : tl x = joinL (p :: q :: r)) : (occurrences x D3 0 x.length 1).isEmpty = false := by
  have := (found_iff x D3).mpr ⟨p.length, has_dots e⟩
  simpa using this
theorem split_parts {x : PySem.Str} {p q : List Nat} {r : List (List Nat)} (e : tl x = joinL (p :: q :: r)) (hf : ∀ z ∈ p :: q :: r, 46 ∉ z) : (Txt.split x D3).map tl = p :: q :: r := by
  obtain ⟨f, hc, hn⟩ := occ_tight x D3 (by rw [len_D3]; omega)
  have hA := has_dots e
  unfold Txt.split
  rw [if_neg, if_neg]
  · rw [partsBetween_eq, len_D3]
    exact parts_join (p :: q :: r) 0 _ f (by simp) hf (by rw [List.drop_zero]; exact e) (Nat.zero_le _) hc hn
  · intro h
    have h0 : occurrences x D3 0 x.length (x.length + 1) = [] := by simpa using h
    rw [h0] at hc
    have : f = 0 := hc
    exact hn p.length (by omega) hA
  · simp only [Bool.or_eq_true, decide_eq_true_eq]
    rintro (h | h)
    · have := hA.1; rw [len_D3] at this h; omega
    · exact kind_D3 x h
end Mine
namespace Mine
theorem joinL_len : ∀ ps : List (List Nat), 3 * ps.length ≤ (joinL ps).length + 3
  | [] => by simp
  | [x] => by simp
  | x :: y :: r => by
    have := joinL_len (y :: r)
    show 3 * (r.length + 1 + 1) ≤ (x ++ [46, 46, 46] ++ joinL (y :: r)).length + 3
    rw [List.length_append, List.length_append]
    simp at this ⊢
    omega
end Mine
namespace Mine
theorem joinL_mem : ∀ {ps : List (List Nat)} {p : List Nat}, p ∈ ps → p.length ≤ (joinL ps).length
  | [x], p, h => by
    rw [List.mem_singleton.mp h]; exact Nat.le_refl _
  | x :: y :: r, p, h => by
    show p.length ≤ (x ++ [46, 46, 46] ++ joinL (y :: r)).length
    rw [List.length_append, List.length_append]
    rcases List.mem_cons.mp h with rfl | h
    · omega
    · have := joinL_mem h
      omega
end Mine
end partTxl

section partEll
open PySem PySem.W PySem.Spec PySem.Calls PyProof.Rows
namespace Mine
set_option maxRecDepth 100000
set_option maxHeartbeats 8000000
section
variable {prog : Program} {w : World} {A : Around} {E : Value → Shared → Prop} {s : Shared}
theorem item0 {value slice : PySem.Expr} {D : Addr} {its : List Value} {n : Nat} {u : Tok} {v : Value} {Q : Value → Shared → Prop} (ho : s.heap.get? D = some (PySem.W.listOf its.toArray n)) (hx : its[0]? = some v) (h : Q v s)
    (hs : subscripted slice false (.ref D) (.int 0 u) = operate [.ref D, .int 0 u] (getItem (.ref D) (.int 0 u)) := by with_unfolding_all rfl) :
    wpAny (model prog w) A (subscriptTail value slice (.ref D) (.int 0 u)) Q E s :=
  have hl : s.heap.IsList D its.toArray := ⟨_, ho, rfl, n, rfl⟩
  tail_any hl.typeIs slot_list_getitem.lookup (wpAny_getItem_list hl (by decide) (by decide) (by simpa using hx) h) hs
theorem itemN {value slice : PySem.Expr} {D : Addr} {its : List Value} {n : Nat} {u : Tok} {v : Value} {Q : Value → Shared → Prop} (ho : s.heap.get? D = some (PySem.W.listOf (its ++ [v]).toArray n)) (h : Q v s)
    (hs : subscripted slice false (.ref D) (.int (-1) u) = operate [.ref D, .int (-1) u] (getItem (.ref D) (.int (-1) u)) := by with_unfolding_all rfl) :
    wpAny (model prog w) A (subscriptTail value slice (.ref D) (.int (-1) u)) Q E s := by
  have hl : s.heap.IsList D (its ++ [v]).toArray := ⟨_, ho, rfl, n, rfl⟩
  have hsz : ((its ++ [v]).toArray.size : Int) = its.length + 1 := by simp
  refine tail_any hl.typeIs slot_list_getitem.lookup (wpAny_getItem_list_neg hl (by decide) (by rw [hsz]; omega) (by decide) (x := v) ?_ h) hs
  rw [hsz, show ((-1 : Int) + (its.length + 1)).toNat = its.length from by omega]
  simp
theorem truthy0 {x : Str} {t : Tok} {Q : Bool → Shared → Prop} (h0 : x.length = 0) (h : ∀ k, Q false { s with toks := k }) : wpAny (model prog w) A (truthy (.str x t)) Q E s :=
  P.truthy_str (by omega) (by rw [h0]; exact h _)
theorem truthy1 {x : Str} {t : Tok} {Q : Bool → Shared → Prop} (h0 : 1 ≤ x.length ∧ x.length ≤ 100) (h : ∀ k, Q true { s with toks := k }) : wpAny (model prog w) A (truthy (.str x t)) Q E s :=
  P.truthy_str (by omega) (by rw [show ((x.length : Int) != 0) = true from bne_iff_ne.mpr (by omega)]; exact h _)
theorem gives_find_se (x y : Str) (i j : Nat) (t u v v' : Tok) (hj : j ≤ x.length) : Gives (Builtin.«str.find» ⟨[.str x t, .str y u, .int i v, .int j v'], []⟩) (.int (match Builtin.Str.occurrences x y i j 1 with | k :: _ => (k : Int) | [] => -1)) := by
  have e : ∀ (n len : Nat), fromIndex len (n : Int) = n := fun n len => by unfold fromIndex; rw [if_neg (by omega)]; omega
  show Gives (match Builtin.Str.occurrences x y (fromIndex x.length i) (min (fromIndex x.length j) x.length) 1 with | k :: _ => retInt k | [] => (do rule "str.find.not-found"; retInt (-1))) _
  rw [e, e, Nat.min_eq_left hj]
  cases Builtin.Str.occurrences x y i j 1 with
  | nil => exact .rule (.of_eq rfl)
  | cons k _ => exact .of_eq rfl
theorem find_se {x y : Str} {i j : Nat} {t u v v' : Tok} {Q : Value → Shared → Prop} (hj : j ≤ x.length)
    (hq : Q (.int (match fnd (tl x) (tl y) i j with | some k => (k : Int) | none => -1) s.toks) { s with toks := s.toks + 1 }) : wpAny (model prog w) A (call (.builtin "str.find") [.str x t, .str y u, .int i v, .int j v']) Q E s := by
  refine call_gives PySem.F.slot_str_find (typeIs_str _ _ _) PySem.F.entry_str_find (PySem.F.args_str_find_4 _ _ _ _) (gives_find_se x y i j t u v v' hj) ?_
  have e : (match Builtin.Str.occurrences x y i j 1 with | k :: _ => (k : Int) | [] => -1) = (match fnd (tl x) (tl y) i j with | some k => (k : Int) | none => -1) := by
    rw [occ_find]
    cases fnd (tl x) (tl y) i j <;> rfl
  rw [e]; exact hq
end
theorem strs_snoc {ql : Str} : ∀ {qm : List Str} {vr : List Value}, StrsAre vr (qm ++ [ql]) → ∃ vm tL, vr = vm ++ [.str ql tL] ∧ StrsAre vm qm
  | [], _, h => by
    cases h with | cons _ t h => cases h; exact ⟨[], t, rfl, .nil⟩
  | a :: qm, _, h => by
    cases h with
    | cons _ t h =>
      obtain ⟨vm, tL, rfl, h2⟩ := strs_snoc h
      exact ⟨.str a t :: vm, tL, rfl, .cons a t h2⟩
theorem emLoop_cons (y w : List Nat) (ws : List (List Nat)) (sp ep : Nat) : emLoop y (w :: ws) sp ep = (match fnd y w sp ep with | none => false | some i => emLoop y ws (i + w.length) ep) := rfl
noncomputable def startsB (y p : List Nat) : Bool := decide (p.length ≤ y.length) && ((y.take p.length) == p)
noncomputable def endsB (y p : List Nat) : Bool := decide (p.length ≤ y.length) && ((y.drop (y.length - p.length)) == p)
noncomputable def emEnds (y p0 : List Nat) (mid : List (List Nat)) (pl : List Nat) : Bool := startsB y p0 && endsB y pl && decide (p0.length ≤ y.length - pl.length) && emLoop y mid p0.length (y.length - pl.length)
theorem starts_eq (y p : Str) : Txt.startswith y p = startsB (tl y) (tl p) := by
  unfold Txt.startswith startsB
  rw [PySem.StrLaws.subAt_eq, len_tl, len_tl, Nat.zero_add, List.drop_zero]
theorem ends_eq (y p : Str) : Txt.endswith y p = endsB (tl y) (tl p) := by
  unfold Txt.endswith endsB
  rw [PySem.StrLaws.subAt_eq, len_tl, len_tl, Nat.zero_add]
  by_cases h : p.length ≤ y.length
  · have e : ((tl y).drop (y.length - p.length)).take p.length = (tl y).drop (y.length - p.length) := by
      refine List.take_of_length_le ?_
      rw [List.length_drop, len_tl]; omega
    rw [show y.cps.toList = tl y from rfl, e]
  · simp [h]
theorem delL_last {v : Value} : ∀ {vm : List Value}, ki_delL (vm ++ [v]) vm.length = some vm
  | [] => rfl
  | a :: vm => by
    show (match ki_delL (vm ++ [v]) vm.length with | some q => some (a :: q) | none => none) = _
    rw [delL_last]
local macro_rules | `(tactic| walk_at "call builtin:str.split") => `(tactic| refine Stop.of ?_)
local macro_rules | `(tactic| walk_at "subscriptTail") => `(tactic| refine Stop.of ?_)
local macro_rules | `(tactic| walk_at "exec For Name Name cons nil") => `(tactic| refine Stop.of ?_)
local macro_rules | `(tactic| walk_at "delItem ref int") => `(tactic| refine Stop.of ?_)
local macro_rules | `(tactic| walk_at "truthy str") => `(tactic| first | (refine truthy0 (by assumption) ?_; intro _) | (refine truthy1 (by assumption) ?_; intro _))

local macro_rules | `(tactic| walk_at "call builtin:len") => `(tactic| ((with_reducible show wpAny _ _ (call (Value.builtin "len") [Value.ref _]) _ _ _); refine Stop.of ?_))

local macro_rules | `(tactic| walk_at "call builtin:str.find") => `(tactic| refine Stop.of ?_)

theorem ell_one {w : World} {mean : ExcName → Option Value} {mg mb : Str → Option Value} {x y : Str} {tkx tky : Tok} {news : Led} (hx : 46 ∉ tl x) :
    CallOK w mean mg mb (.ref 191) [.str x tkx, .str y tky] [] news 1 8 (fun r n => n = news ∧ r = .bool (x == y)) := by
  refine fill fun hfill => ?_
  revert hfill; k_fill; intro _
  k_dflt (refine' fn_ok ?ho ?hcd ?hb ?hloc ?h1 ?h2 ?h3 ?h4 ?h5 ?h6 ?_; (case ho => k_is); (case hcd => k_is); (case hb => first | exact fun _ _ => BindsTo.of_eq rfl | exact fun _ hX => kp_binds hX (fun _ => rfl)); (case hloc => exact locs rfl); (case h1 => exact rfl); (case h2 => exact rfl); (case h3 => exact rfl); (case h4 => decide); (case h5 => decide); (case h6 => decide); k_whole)
  intro dp un gd outer A₀ base g L' s B F X N T hk hdp hun
  try dsimp only
  k_fold
  have hin := in_none hx
  w_strict (k_steps)
  exact BodyEnd.mk' F N ⟨rfl, rfl⟩
theorem ell_dots {w : World} {mean : ExcName → Option Value} {mg mb : Str → Option Value} {x y : Str} {tkx tky : Tok} {news : Led} {mid : List (List Nat)} (hx : tl x = joinL ([] :: (mid ++ [[]]))) (hf : ∀ z ∈ mid, 46 ∉ z) (hxl : x.length ≤ 100) (hyl : y.length ≤ 100) :
    CallOK w mean mg mb (.ref 191) [.str x tkx, .str y tky] [] news 1 8 (fun r n => n = news ∧ r = .bool (emLoop (tl y) ([] :: (mid ++ [[]])) 0 (tl y).length)) := by
  refine fill fun hfill => ?_
  revert hfill; k_fill; intro _
  k_dflt (refine' fn_ok ?ho ?hcd ?hb ?hloc ?h1 ?h2 ?h3 ?h4 ?h5 ?h6 ?_; (case ho => k_is); (case hcd => k_is); (case hb => first | exact fun _ _ => BindsTo.of_eq rfl | exact fun _ hX => kp_binds hX (fun _ => rfl)); (case hloc => exact locs rfl); (case h1 => exact rfl); (case h2 => exact rfl); (case h3 => exact rfl); (case h4 => decide); (case h5 => decide); (case h6 => decide); k_whole)
  intro dp un gd outer A₀ base g L' s B F X N T hk hdp hun
  try dsimp only
  k_fold
  obtain ⟨q, r, e⟩ : ∃ q r, mid ++ [[]] = q :: r := by cases mid <;> exact ⟨_, _, rfl⟩
  have hin := in_some (e ▸ hx)
  have hff : ∀ z ∈ ([] : List Nat) :: q :: r, 46 ∉ z := by
    rw [← e]
    intro z hz
    simp only [List.mem_cons, List.mem_append, List.not_mem_nil, or_false] at hz
    rcases hz with rfl | hz | rfl
    · simp
    · exact hf z hz
    · simp
  have hsp := split_parts (e ▸ hx) hff
  w_strict (k_steps)
  unfold Stop
  refine splitN1 F N (by decide) (fun l h1 k1 hl F1 N1 => ?_) (by rw [sizeLine_eq]; omega)
  -- the list of the pieces
  have hst : StrsAre (strValues l) (Txt.split x D3) := hl ▸ strsAre_of_values l
  rw [← e] at hsp
  obtain ⟨q0, qs, eqs, hq0⟩ : ∃ q0 qs, Txt.split x D3 = q0 :: qs ∧ tl q0 = [] ∧ qs.map tl = mid ++ [[]] := by
    cases hc : Txt.split x D3 with
    | nil => rw [hc] at hsp; cases hsp
    | cons a b => rw [hc] at hsp; injection hsp with h1 h2; exact ⟨a, b, rfl, h1, h2⟩
  obtain ⟨hq0, hqs⟩ := hq0
  obtain ⟨qm, ql, rfl, hqm, hql⟩ : ∃ qm ql, qs = qm ++ [ql] ∧ qm.map tl = mid ∧ tl ql = [] := by
    obtain ⟨l1, l2, rfl, e1, e2⟩ := List.map_eq_append_iff.mp hqs
    match l2, e2 with
    | [ql], e2 => exact ⟨l1, ql, rfl, e1, by simpa using e2⟩
    | [], e2 => simp at e2
    | _ :: _ :: _, e2 => simp at e2
  have z0 : q0.length = 0 := by rw [← len_tl, hq0]; rfl
  have zl : ql.length = 0 := by rw [← len_tl, hql]; rfl
  rw [eqs] at hst
  obtain ⟨t0, vr, hv0, hstr⟩ : ∃ t0 vr, strValues l = .str q0 t0 :: vr ∧ StrsAre vr (qm ++ [ql]) := by
    generalize strValues l = V at hst
    cases hst with | cons _ t h => exact ⟨t, _, rfl, h⟩
  obtain ⟨vm, tL, rfl, hstm⟩ : ∃ vm tL, vr = vm ++ [.str ql tL] ∧ StrsAre vm qm := strs_snoc hstr
  rw [hv0] at N1
  have hll : l.length = vm.length + 2 := by
    have := congrArg List.length hv0
    simpa [strValues] using this
  w_strict (k_steps)
  unfold Stop
  rename News g L' _ _ => N2
  have hlv : (Value.str q0 t0 :: (vm ++ [Value.str ql tL])).length = vm.length + 2 := by simp
  have hvl : vm.length ≤ 1000 := by
    have h1 := joinL_len ([] :: (mid ++ [[]]))
    rw [← hx, len_tl] at h1
    have h2 := StrsAre.length hstm
    have h3 := congrArg List.length hqm
    simp at h1 h3
    omega
  refine len_list (News.isList N2 (List.mem_cons_self ..)) (by rw [List.size_toArray, hlv]; omega) ?_
  rw [List.size_toArray, hlv]
  w_strict (k_steps)
  unfold Stop
  rename News g L' _ _ => N3
  refine item0 (N3 (_, PySem.W.listOf (Value.str q0 t0 :: (vm ++ [Value.str ql tL])).toArray 0) (by simp)).1 rfl ?_
  w_strict (k_steps)
  unfold Stop
  rename News g L' _ _ => N4
  refine itemN (its := Value.str q0 t0 :: vm) (N4 (_, PySem.W.listOf (Value.str q0 t0 :: (vm ++ [Value.str ql tL])).toArray 0) (by simp)).1 ?_
  w_strict (k_steps)
  unfold Stop
  rename Fr g L' _ _ => F5
  rename News g L' _ _ => N5
  have hstW : StrsAre (Value.str q0 t0 :: (vm ++ [Value.str ql tL])) (q0 :: (qm ++ [ql])) := .cons q0 t0 hstr
  have hpcs : (q0 :: (qm ++ [ql])).map tl = [] :: (mid ++ [[]]) := by rw [List.map_cons, List.map_append, hq0, hqm, List.map_cons, hql]; rfl
  refine For_list (m := _) (news := (s.heap.objs.size, PySem.W.listOf (Value.str q0 t0 :: (vm ++ [Value.str ql tL])).toArray 0) :: news) (D := s.heap.objs.size) (vs := Value.str q0 t0 :: (vm ++ [Value.str ql tL])) (n := 0)
    (fun i m₁ news₁ => news₁ = (s.heap.objs.size, PySem.W.listOf (Value.str q0 t0 :: (vm ++ [Value.str ql tL])).toArray 0) :: news ∧ ∃ (sp : Nat) (t1 t2 : Tok), m₁ (Str.ofString "startpos") = some (.int sp t1) ∧ m₁ (Str.ofString "endpos") = some (.int y.length t2) ∧ m₁ (Str.ofString "got") = some (.str y tky) ∧
      sp ≤ y.length ∧ emLoop (tl y) (([] :: (mid ++ [[]])).drop i) sp y.length = emLoop (tl y) ([] :: (mid ++ [[]])) 0 y.length)
    rfl rfl ?hh ?hit F5 (fun p hp => N5 p (by simp at hp ⊢; exact .inr hp)) (fun i m₁ news₁ h => h.1 ▸ List.mem_cons_self ..) ⟨rfl, 0, _, _, rfl, rfl, rfl, Nat.zero_le _, rfl⟩ ?_ ?_
  case hh => exact rfl
  case hit => exact fun Q' hq => wpAny_Name (wpAny_loadName_local rfl rfl F5.ns rfl hq)
  · rintro i v m₁ news₁ h tk I oI hv ⟨rfl, sp, t1, t2, e1, e2, e3, hsp1, hem⟩ F6 N6 off
    have F7 := Fr_pin (Fr_pin (Fr_pin F6 (x := Str.ofString "startpos") (by exact e1)) (x := Str.ofString "endpos") (by exact e2)) (x := Str.ofString "got") (by exact e3)
    clear F6
    obtain ⟨qv, tv, hqv, rfl⟩ := str_at hstW hv
    have hdrop : ([] :: (mid ++ [[]])).drop i = tl qv :: ([] :: (mid ++ [[]])).drop (i + 1) := by
      have h1 : (([] :: (mid ++ [[]])) : List (List Nat))[i]? = some (tl qv) := by rw [← hpcs, List.getElem?_map, hqv]; rfl
      obtain ⟨hlt, h2⟩ := List.getElem?_eq_some_iff.mp h1
      rw [← h2]; exact List.drop_eq_getElem_cons hlt
    have hqvl : qv.length ≤ 100 := by
      have h1 : tl qv ∈ ([] :: (mid ++ [[]]) : List (List Nat)) := by rw [← hpcs]; exact List.mem_map.mpr ⟨_, List.mem_of_getElem? hqv, rfl⟩
      have h2 := joinL_mem h1
      rw [← hx, len_tl, len_tl] at h2
      omega
    w_strict (k_steps)
    unfold Stop
    refine find_se (Nat.le_refl _) ?_
    rw [hdrop, emLoop_cons (tl y) (tl qv) _ sp y.length] at hem
    cases hfd : fnd (tl y) (tl qv) sp y.length with
    | none =>
      rw [hfd] at hem
      dsimp only at hem ⊢
      w_strict (k_steps)
      rename Fr g _ _ _ => F8
      rename News g _ _ _ => N8
      change qk (Flow.ret (Value.bool false)) _
      exact BodyEnd.mk' F8 (fun p hp => N8 p (List.mem_cons_of_mem _ (List.mem_cons_of_mem _ hp))) ⟨rfl, by rw [len_tl, ← hem]; rfl⟩
    | some j =>
      rw [hfd] at hem
      dsimp only at hem ⊢
      obtain ⟨b1, b2, _, _⟩ := fnd_some hfd
      have hj0 : ¬ ((j : Int) < 0) := by omega
      w_strict (k_steps)
      rename Fr g _ _ _ => F8
      rename News g _ _ _ => N8
      exact LEnd.intro F8 N8 _ (fun p hp => hp) off ⟨rfl, j + qv.length, _, t2, rfl, rfl, rfl, by rw [len_tl] at b2; exact b2, by rw [← hem, len_tl]⟩
  · rintro h tk m' news' F6 N6 ⟨rfl, sp, t1, t2, e1, e2, e3, hsp1, hem⟩
    dsimp only
    w_strict (k_steps)
    have e4 : ([] :: (mid ++ [[]])).drop (Value.str q0 t0 :: (vm ++ [Value.str ql tL])).length = [] := by
      refine List.drop_eq_nil_of_le ?_
      have h2 := StrsAre.length hstm
      have h3 := congrArg List.length hqm
      simp at h3 ⊢
      omega
    rw [e4] at hem
    exact BodyEnd.mk' F6 (fun p hp => N6 p (List.mem_cons_of_mem _ hp)) ⟨rfl, by rw [len_tl, ← hem]; rfl⟩
end Mine
end partEll

section partEll2
open PySem PySem.W PySem.Spec PySem.Calls PyProof.Rows
namespace Mine
set_option maxRecDepth 100000
set_option maxHeartbeats 8000000
local macro_rules | `(tactic| walk_at "mine pad0") => `(tactic| refine Stop.of ?_)
local macro_rules | `(tactic| walk_at "call builtin:str.split") => `(tactic| refine Stop.of ?_)
local macro_rules | `(tactic| walk_at "subscriptTail") => `(tactic| refine Stop.of ?_)
local macro_rules | `(tactic| walk_at "exec For Name Name cons nil") => `(tactic| refine Stop.of ?_)
local macro_rules | `(tactic| walk_at "delItem ref int") => `(tactic| refine Stop.of ?_)
local macro_rules | `(tactic| walk_at "truthy str") => `(tactic| first | (refine truthy0 (by assumption) ?_; intro _) | (refine truthy1 (by assumption) ?_; intro _))
local macro_rules | `(tactic| walk_at "call builtin:len") => `(tactic| ((with_reducible show wpAny _ _ (call (Value.builtin "len") [Value.ref _]) _ _ _); refine Stop.of ?_))
local macro_rules | `(tactic| walk_at "call builtin:str.find") => `(tactic| refine Stop.of ?_)

theorem ell_ends {w : World} {mean : ExcName → Option Value} {mg mb : Str → Option Value} {x y : Str} {tkx tky : Tok} {news : Led} {mid : List (List Nat)} {p0 pl : List Nat} (hx : tl x = joinL (p0 :: (mid ++ [pl]))) (hf : ∀ z ∈ mid, 46 ∉ z) (hf0 : 46 ∉ p0) (hfl : 46 ∉ pl) (h0 : p0 ≠ []) (hL : pl ≠ []) (hxl : x.length ≤ 100) (hyl : y.length ≤ 100) :
    CallOK w mean mg mb (.ref 191) [.str x tkx, .str y tky] [] news 1 8 (fun r n => n = news ∧ r = .bool (emEnds (tl y) p0 mid pl)) := by
  refine fill fun hfill => ?_
  revert hfill; k_fill; intro _
  k_dflt (refine' fn_ok ?ho ?hcd ?hb ?hloc ?h1 ?h2 ?h3 ?h4 ?h5 ?h6 ?_; (case ho => k_is); (case hcd => k_is); (case hb => first | exact fun _ _ => BindsTo.of_eq rfl | exact fun _ hX => kp_binds hX (fun _ => rfl)); (case hloc => exact locs rfl); (case h1 => exact rfl); (case h2 => exact rfl); (case h3 => exact rfl); (case h4 => decide); (case h5 => decide); (case h6 => decide); k_whole)
  intro dp un gd outer A₀ base g L' s B F X N T hk hdp hun
  try dsimp only
  k_fold
  have hnD : ∀ p ∈ news, p.1 ≠ s.heap.objs.size := fun p hp => Nat.ne_of_lt (Heap.lt_size (N p hp).1)
  obtain ⟨q, r, e⟩ : ∃ q r, mid ++ [pl] = q :: r := by cases mid <;> exact ⟨_, _, rfl⟩
  have hin := in_some (e ▸ hx)
  have hff : ∀ z ∈ p0 :: q :: r, 46 ∉ z := by
    rw [← e]
    intro z hz
    simp only [List.mem_cons, List.mem_append, List.not_mem_nil, or_false] at hz
    rcases hz with rfl | hz | rfl
    · exact hf0
    · exact hf z hz
    · exact hfl
  have hsp := split_parts (e ▸ hx) hff
  w_strict (k_steps)
  unfold Stop
  refine splitN1 F N (by decide) (fun l h1 k1 hl F1 N1 => ?_) (by rw [sizeLine_eq]; omega)
  -- the list of the pieces
  have hst : StrsAre (strValues l) (Txt.split x D3) := hl ▸ strsAre_of_values l
  rw [← e] at hsp
  obtain ⟨q0, qs, eqs, hq0⟩ : ∃ q0 qs, Txt.split x D3 = q0 :: qs ∧ tl q0 = p0 ∧ qs.map tl = mid ++ [pl] := by
    cases hc : Txt.split x D3 with
    | nil => rw [hc] at hsp; cases hsp
    | cons a b => rw [hc] at hsp; injection hsp with h1 h2; exact ⟨a, b, rfl, h1, h2⟩
  obtain ⟨hq0, hqs⟩ := hq0
  obtain ⟨qm, ql, rfl, hqm, hql⟩ : ∃ qm ql, qs = qm ++ [ql] ∧ qm.map tl = mid ∧ tl ql = pl := by
    obtain ⟨l1, l2, rfl, e1, e2⟩ := List.map_eq_append_iff.mp hqs
    match l2, e2 with
    | [ql], e2 => exact ⟨l1, ql, rfl, e1, by simpa using e2⟩
    | [], e2 => simp at e2
    | _ :: _ :: _, e2 => simp at e2
  subst hq0 hql
  have hle : ∀ z ∈ tl q0 :: (mid ++ [tl ql]), z.length ≤ 100 := fun z hz => by
    have := joinL_mem hz
    rw [← hx, len_tl] at this
    omega
  have z0 : 1 ≤ q0.length ∧ q0.length ≤ 100 := by
    have h1 := hle (tl q0) (by simp)
    have h2 : (tl q0).length ≠ 0 := fun e => h0 (List.length_eq_zero_iff.mp e)
    rw [len_tl] at h1 h2
    omega
  have zl : 1 ≤ ql.length ∧ ql.length ≤ 100 := by
    have h1 := hle (tl ql) (by simp)
    have h2 : (tl ql).length ≠ 0 := fun e => hL (List.length_eq_zero_iff.mp e)
    rw [len_tl] at h1 h2
    omega
  rw [eqs] at hst
  obtain ⟨t0, vr, hv0, hstr⟩ : ∃ t0 vr, strValues l = .str q0 t0 :: vr ∧ StrsAre vr (qm ++ [ql]) := by
    generalize strValues l = V at hst
    cases hst with | cons _ t h => exact ⟨t, _, rfl, h⟩
  obtain ⟨vm, tL, rfl, hstm⟩ : ∃ vm tL, vr = vm ++ [.str ql tL] ∧ StrsAre vm qm := strs_snoc hstr
  rw [hv0] at N1
  have hll : l.length = vm.length + 2 := by
    have := congrArg List.length hv0
    simpa [strValues] using this
  w_strict (k_steps)
  unfold Stop
  rename News g L' _ _ => N2
  have hlv : (Value.str q0 t0 :: (vm ++ [Value.str ql tL])).length = vm.length + 2 := by simp
  have hvl : vm.length ≤ 1000 := by
    have h1 := joinL_len (tl q0 :: (mid ++ [tl ql]))
    rw [← hx, len_tl] at h1
    have h2 := StrsAre.length hstm
    have h3 := congrArg List.length hqm
    simp at h1 h3
    omega
  refine len_list (News.isList N2 (List.mem_cons_self ..)) (by rw [List.size_toArray, hlv]; omega) ?_
  rw [List.size_toArray, hlv]
  w_strict (k_steps)
  unfold Stop
  rename News g L' _ _ => N3
  refine item0 (N3 (_, PySem.W.listOf (Value.str q0 t0 :: (vm ++ [Value.str ql tL])).toArray 0) (by simp)).1 rfl ?_
  w_strict (k_steps)
  -- startswith false
  rotate_left
  · rename Fr g _ _ _ => F8
    rename News g _ _ _ => N8
    rename Txt.startswith y q0 = false => hsw
    change qk (Flow.ret (Value.bool false)) _
    refine BodyEnd.mk' F8 (fun p hp => N8 p (List.mem_cons_of_mem _ (List.mem_cons_of_mem _ hp))) ⟨rfl, ?_⟩
    rw [starts_eq] at hsw
    unfold emEnds
    rw [hsw]; rfl
  unfold Stop
  rename Fr g _ _ _ => F8
  rename News g _ _ _ => N8
  rename Txt.startswith y q0 = true => hsw
  have N9 : News g L' _ ((s.heap.objs.size, PySem.W.listOf (Value.str q0 t0 :: (vm ++ [Value.str ql tL])).toArray 0) :: news) := fun p hp => N8 p (List.mem_cons_of_mem _ hp)
  clear N8
  refine ki_del (k := 0) (q := vm ++ [Value.str ql tL]) F8 N9 rfl ?_ rfl (Upd.head hnD) (by show (Value.str q0 t0 :: (vm ++ [Value.str ql tL])).length ≤ sizeLine; rw [hlv, sizeLine_eq]; omega) fun h9 F10 N10 => ?_
  · show seqIndex? 0 _ = some 0
    exact PySem.StrLaws.seqIndex_nonneg (by decide) (by rw [List.size_toArray, hlv]; omega)
  clear F8 N9
  w_strict (k_steps)
  unfold Stop
  rename News g L' _ _ => N11
  refine itemN (its := vm) (N11 (_, PySem.W.listOf (vm ++ [Value.str ql tL]).toArray (0 + 1)) (by simp)).1 ?_
  w_strict (k_steps)
  -- endswith false
  rotate_left
  · rename Fr g _ _ _ => F8
    rename News g _ _ _ => N8
    rename Txt.endswith y ql = false => hew
    change qk (Flow.ret (Value.bool false)) _
    refine BodyEnd.mk' F8 (fun p hp => N8 p (List.mem_cons_of_mem _ hp)) ⟨rfl, ?_⟩
    rw [ends_eq] at hew
    unfold emEnds
    rw [hew, Bool.and_false]; rfl
  unfold Stop
  rename Fr g _ _ _ => F12
  rename News g _ _ _ => N12
  rename Txt.endswith y ql = true => hew
  have hql2 : ql.length ≤ y.length := by
    rw [ends_eq] at hew
    unfold endsB at hew
    rw [Bool.and_eq_true, decide_eq_true_eq, len_tl, len_tl] at hew
    exact hew.1
  refine ki_del (k := vm.length) (q := vm) F12 N12 rfl ?_ delL_last (Upd.head hnD) (by show (vm ++ [Value.str ql tL]).length ≤ sizeLine; rw [List.length_append, List.length_singleton, sizeLine_eq]; omega) fun h13 F14 N14 => ?_
  · have h1 : ((vm ++ [Value.str ql tL]).toArray.size : Int) = vm.length + 1 := by simp
    rw [show seqIndex? (-1) _ = _ from PySem.StrLaws.seqIndex_neg (by decide) (by rw [h1]; omega), h1]
    congr 1; omega
  clear F12 N12
  w_strict (k_steps)
  · rename (y.length : Int) - _ < _ => hgt
    change qk (Flow.ret (Value.bool false)) _
    refine BodyEnd.mk' F14 (fun p hp => N14 p (List.mem_cons_of_mem _ hp)) ⟨rfl, ?_⟩
    unfold emEnds
    have : decide ((tl q0).length ≤ (tl y).length - (tl ql).length) = false := by
      rw [decide_eq_false_iff_not, len_tl, len_tl, len_tl]; omega
    rw [this, Bool.and_false]; rfl
  unfold Stop
  rename ¬ ((y.length : Int) - _ < _) => hgt
  have hsp0 : q0.length ≤ y.length - ql.length := by omega
  have hep : ((y.length : Int) - ql.length) = ((y.length - ql.length : Nat) : Int) := by omega
  have hres : emEnds (tl y) (tl q0) mid (tl ql) = emLoop (tl y) mid q0.length (y.length - ql.length) := by
    unfold emEnds
    rw [← starts_eq, ← ends_eq, hsw, hew, len_tl, len_tl, len_tl, decide_eq_true hsp0]; rfl
  rw [hep] at F14
  refine For_list (m := _) (news := (s.heap.objs.size, PySem.W.listOf vm.toArray (0 + 1 + 1)) :: news) (D := s.heap.objs.size) (vs := vm) (n := 0 + 1 + 1)
    (fun i m₁ news₁ => news₁ = (s.heap.objs.size, PySem.W.listOf vm.toArray (0 + 1 + 1)) :: news ∧ ∃ (sp : Nat) (t1 t2 : Tok), m₁ (Str.ofString "startpos") = some (.int sp t1) ∧ m₁ (Str.ofString "endpos") = some (.int ((y.length - ql.length : Nat) : Int) t2) ∧ m₁ (Str.ofString "got") = some (.str y tky) ∧
      sp ≤ y.length - ql.length ∧ emLoop (tl y) (mid.drop i) sp (y.length - ql.length) = emLoop (tl y) mid q0.length (y.length - ql.length))
    rfl rfl ?hh ?hit F14 N14 (fun i m₁ news₁ h => h.1 ▸ List.mem_cons_self ..) ⟨rfl, q0.length, _, _, rfl, rfl, rfl, hsp0, rfl⟩ ?_ ?_
  case hh => exact rfl
  case hit => exact fun Q' hq => wpAny_Name (wpAny_loadName_local rfl rfl F14.ns rfl hq)
  · rintro i v m₁ news₁ h tk I oI hv ⟨rfl, sp, t1, t2, e1, e2, e3, hsp1, hem⟩ F6 N6 off
    have F7 := Fr_pin (Fr_pin (Fr_pin F6 (x := Str.ofString "startpos") (by exact e1)) (x := Str.ofString "endpos") (by exact e2)) (x := Str.ofString "got") (by exact e3)
    clear F6 F14 N14
    obtain ⟨qv, tv, hqv, rfl⟩ := str_at hstm hv
    have hdrop : mid.drop i = tl qv :: mid.drop (i + 1) := by
      have h1 : mid[i]? = some (tl qv) := by rw [← hqm, List.getElem?_map, hqv]; rfl
      obtain ⟨hlt, h2⟩ := List.getElem?_eq_some_iff.mp h1
      rw [← h2]; exact List.drop_eq_getElem_cons hlt
    have hqvl : qv.length ≤ 100 := by
      have h1 : tl qv ∈ mid := by rw [← hqm]; exact List.mem_map.mpr ⟨_, List.mem_of_getElem? hqv, rfl⟩
      have h2 := hle (tl qv) (by simp [h1])
      rw [len_tl] at h2
      exact h2
    w_strict (k_steps)
    unfold Stop
    refine find_se (Nat.sub_le _ _) ?_
    rw [hdrop, emLoop_cons (tl y) (tl qv) _ sp _] at hem
    cases hfd : fnd (tl y) (tl qv) sp (y.length - ql.length) with
    | none =>
      rw [hfd] at hem
      dsimp only at hem ⊢
      w_strict (k_steps)
      rename Fr g _ _ _ => F8
      rename News g _ _ _ => N8
      change qk (Flow.ret (Value.bool false)) _
      exact BodyEnd.mk' F8 (fun p hp => N8 p (List.mem_cons_of_mem _ (List.mem_cons_of_mem _ hp))) ⟨rfl, by rw [hres, ← hem]; rfl⟩
    | some j =>
      rw [hfd] at hem
      dsimp only at hem ⊢
      obtain ⟨b1, b2, _, _⟩ := fnd_some hfd
      have hj0 : ¬ ((j : Int) < 0) := by omega
      w_strict (k_steps)
      rename Fr g _ _ _ => F8
      rename News g _ _ _ => N8
      exact LEnd.intro F8 N8 _ (fun p hp => hp) off ⟨rfl, j + qv.length, _, t2, rfl, rfl, rfl, by rw [len_tl] at b2; exact b2, by rw [← hem, len_tl]⟩
  · rintro h tk m' news' F6 N6 ⟨rfl, sp, t1, t2, e1, e2, e3, hsp1, hem⟩
    dsimp only
    w_strict (k_steps)
    have e4 : mid.drop vm.length = [] := by
      refine List.drop_eq_nil_of_le ?_
      have h2 := StrsAre.length hstm
      have h3 := congrArg List.length hqm
      simp at h3
      omega
    rw [e4] at hem
    exact BodyEnd.mk' F6 (fun p hp => N6 p (List.mem_cons_of_mem _ hp)) ⟨rfl, by rw [hres, ← hem]; rfl⟩
end Mine
end partEll2

section partSetJ
open PySem PySem.W PySem.Spec PySem.Calls PyProof.Rows
namespace Mine
set_option maxRecDepth 100000
set_option maxHeartbeats 2000000
section
variable {prog : Program} {w : World} {A : Around} {E : Value → Shared → Prop} {s : Shared} {R : Result → Shared → Prop}
theorem s_compA {y : Str} {py spos : Pos} {env : Env} {elt iter : PySem.Expr} {x : Str} {px : Pos} {scope : Scope} {cl : List (Str × Addr)} {pos : Pos} {Q : Flow → Shared → Prop} (f : Str → Str)
    (hh : A.handled = none) (hclos : closureFor scope env = pure cl) (hcell : ∀ y ∈ scope.names, y.2 ≠ .cell) (hkind : scope.kind = .function)
    (hnames : ∀ y ∈ scope.names, y.2 = .local → scope.names.lookup y.1 = some .local) (hx : scope.names.lookup x = some .local)
    (hsw : swapsWith (.SetComp elt [⟨.Name x px, iter, [], 0⟩] scope pos) (some (.Name y py)) spos.line env = pure true) (hy : env.kindOf y = some .local) (hp0 : (env.scope.kind == .class || (env.scope.kind == .module && env.locals != env.globals)) = false)
    (h : wpAny (model prog w) A (eval iter env) (fun v s₁ => ∃ a o xs m, s₁.heap.Ns env.locals m ∧ v = .ref a ∧ s₁.heap.get? a = some o ∧ SObj prog w o xs ∧ xs.length ≤ 1000 ∧
      (∀ C s₃ m₃ y tk E', y ∈ xs → s₁.heap.objs.size ≤ C → s₃.heap.Ns C m₃ → m₃ x = some (.str y tk) → (∀ b o, s₁.heap.get? b = some o → s₃.heap.get? b = some o) →
        wpAny (model prog w) A (eval elt (compEnvC scope cl C env)) (fun r s₄ => (∃ tk, r = .str (f y) tk) ∧ Keeps s₃ s₄) E' s₃) ∧
      (∀ D h' dr' tk' o' zs, s₁.heap.objs.size ≤ D → h'.get? D = some o' → h'.Ns env.locals (fun z => if z = y then some (.ref D) else m z) → (∀ b o, b ≠ env.locals → s₁.heap.get? b = some o → h'.get? b = some o) → SObj prog w o' zs → (∀ z, z ∈ zs ↔ ∃ y ∈ xs, z = f y) → zs.length ≤ xs.length →
        Q .next { s₁ with heap := h', drawn := dr', toks := tk' })) E s)
    (hs : ∀ x, foldedSetIterable iter env x = pure x := by intro _; rfl) :
    wpAny (model prog w) A (exec (.Assign [.Name y py] (.SetComp elt [⟨.Name x px, iter, [], 0⟩] scope pos) spos) env) Q E s := by
  rw [exec_Assign_Name_used _ _ _ _ hsw]
  refine wpAny_bind (wpAny_standAt (wpAny_bind ?_))
  show wpAny _ A (do let _ ← comprehension (.SetComp elt [⟨.Name x px, iter, [], 0⟩] scope pos) scope env _ (newSet (.type "set")) false (eval iter env) (some (assign (.Name y py) env))) _ _ s
  refine wpAny_bind (wpAny_mono (wpAny_comprehension_free (use := some (assign (.Name y py) env)) (Q := fun _ s' => Q .next s') rfl hs hclos hkind hnames
    (wpAny_mono h (fun v s₁ h₁ => ?_) fun _ _ e => e)) (fun _ s' hq => wpAny_pure (wpAny_pure hq)) fun _ _ e => e)
  obtain ⟨a, o, xs, mE, hnE, rfl, ho, hS, hlen, helt, hQ⟩ := h₁
  refine s_iter ho hS (by unfold scanBound; omega) fun I H dr' vs ys fp St hIle hI hk hfp W st hvl hst hp => ?_
  refine newSet_by ?_
  refine wpAny_newFunctionEnv hcell (by intro y hy; simp at hy) (fun h₁ hns₁ hsb₁ => ?_) hkind
  dsimp only at hns₁ hsb₁ ⊢
  -- D = H.objs.size, C = D + 1
  have hDn := Heap.get?_push_size H (o := setO #[] 0 (.fresh 0 0 (!byT w))) rfl
  have hCs : (H.push (setO #[] 0 (.fresh 0 0 (!byT w)))).objs.size = H.objs.size + 1 := size_push' _ _
  have hHle : s₁.heap.objs.size ≤ H.objs.size := Nat.le_of_lt (Nat.lt_of_le_of_lt hIle hI)
  generalize hC : (H.push (setO #[] 0 (.fresh 0 0 (!byT w)))).objs.size = C at hns₁ hsb₁ ⊢
  rw [hC] at hCs
  have hDC : H.objs.size ≠ C := by rw [hCs]; exact Nat.ne_of_lt (Nat.lt_succ_self _)
  have old₁ : ∀ b o, H.get? b = some o → h₁.get? b = some o := fun b o e =>
    hsb₁.extBut b o (by rw [hCs]; exact Nat.ne_of_lt (Nat.lt_succ_of_lt (Heap.lt_size e))) (Heap.get?_push_of_some _ (Heap.get?_push_of_some _ e))
  have hD₁ : h₁.get? H.objs.size = some (setO #[] 0 (.fresh 0 0 (!byT w))) := hsb₁.extBut _ _ hDC (Heap.get?_push_of_some _ hDn)
  have hDf : H.objs.size ∉ fp := fun hm => Nat.lt_irrefl _ (hfp _ hm).1
  have hCf : C ∉ fp := fun hm => by have := (hfp _ hm).1; rw [hCs] at this; exact absurd (Nat.lt_of_succ_lt this) (Nat.lt_irrefl _)
  have hIC : I ≠ C := by rw [hCs]; exact Nat.ne_of_lt (Nat.lt_succ_of_lt hI)
  have hID : I ≠ H.objs.size := Nat.ne_of_lt hI
  have W1 := W A hh
  have st₁ : St 0 h₁ := W1.frame _ _ _ st fun b _ o e => old₁ b o e
  have hyl : ys.length = xs.length := hp.length_eq
  have loop : codeAny (model prog w) A (.compLoop (.SetComp elt [⟨.Name x px, iter, [], 0⟩] scope pos) 0 (.ref I) (.ref H.objs.size) (compEnvC scope cl C env))
      (compPost (model prog w) A E (some (assign (.Name y py) env)) (fun _ s' => Q .next s') (.ref H.objs.size) C) { s₁ with heap := h₁, drawn := dr', toks := s₁.toks + ([] : List (Str × Value)).length } := by
    refine codeAny_compLoop_set (fun k s' => ∃ h' tk i oD zs m', s' = { s₁ with heap := h', drawn := dr', toks := tk } ∧ i ≤ xs.length ∧ k = xs.length + 1 - i ∧ St i h' ∧ h'.get? H.objs.size = some oD ∧ SObj prog w oD zs ∧
        (∀ z, z ∈ zs ↔ ∃ y ∈ ys.take i, z = f y) ∧ zs.length ≤ i ∧ h'.Ns C m' ∧ ∀ b o, s₁.heap.get? b = some o → h'.get? b = some o) ?_ (xs.length + 1)
      ⟨h₁, _, 0, _, [], _, rfl, Nat.zero_le _, rfl, st₁, hD₁, ⟨#[], 0, _, ⟨rfl, rfl, rfl⟩, rfl, fun e he => by simp at he, rfl, List.nodup_nil, rfl, fun b => by rw [b]; rfl, fun q => absurd rfl q⟩, fun z => by simp, Nat.le_refl _, hns₁, fun b o e => old₁ b o (hk b o e)⟩
    rintro k s' ⟨h', tk, i, oD, zs, m', rfl, hi, rfl, st', hD', hS', hm', hl', hn', hk'⟩
    by_cases hlt : i < xs.length
    · refine W1.item i _ _ _ hlt st' fun v h₂ tk₂ hv st₂ hk₂ => ?_
      obtain ⟨y, tk', hy, rfl⟩ := str_at hst hv
      have hyx : y ∈ xs := hp.mem_iff.mp (List.mem_of_getElem? hy)
      refine wpAny_assign_Name (wpAny_storeName_local (lookup_relabel_local hx) (hn'.at' fun o e => hk₂ _ o (by simpa using Ne.symm hIC) e) (fun h₃ hn₃ hs₃ => ?_) (by simp [compEnvC, relabel, hkind]))
      dsimp only at hs₃
      have st₃ : St (i + 1) h₃ := W1.frame _ _ _ st₂ fun b hb o e => hs₃.extBut b o (fun q => hCf (by have q' : b = C := q; rw [← q']; exact hb)) e
      have hk₃ : ∀ b o, s₁.heap.get? b = some o → h₃.get? b = some o := fun b o e => by
        have hb := Nat.lt_of_lt_of_le (Heap.lt_size e) hHle
        refine hs₃.extBut b o (by rw [show (compEnvC scope cl C env).locals = C from rfl, hCs]; exact Nat.ne_of_lt (Nat.lt_succ_of_lt hb)) (hk₂ b o ?_ (hk' b o e))
        intro q
        rw [List.mem_singleton.mp q] at e
        exact absurd (Heap.lt_size e) (Nat.not_lt.mpr hIle)
      refine wpAny_mono (helt C _ _ y tk' _ hyx (by rw [hCs]; exact Nat.le_succ_of_le hHle) hn₃ (by simp) hk₃) (fun r s₄ hr => ?_) fun _ _ e => e
      obtain ⟨⟨tk₄, rfl⟩, h₄, tk₅, rfl, hk₄⟩ := hr
      dsimp only at hk₄
      have hD₄ : h₄.get? H.objs.size = some oD := hk₄ _ _ (hs₃.extBut _ _ hDC (hk₂ _ _ (by simpa using Ne.symm hID) hD'))
      refine s_call_add (s := { s₁ with heap := h₄, drawn := dr', toks := tk₅ }) hD₄ hS' (by unfold scanBound; omega) fun h₅ oD' zs' sb₅ hD₅ hS₅ hm₅ hl₅ => ?_
      dsimp only at sb₅
      have hns₄ : h₄.Ns C _ := hn₃.at' fun o e => hk₄ _ o e
      refine ⟨xs.length + 1 - (i + 1), by omega, h₅, _, i + 1, oD', zs', _, rfl, hlt, rfl, ?_, hD₅, hS₅, ?_, by omega, hns₄.sameBut sb₅ (Ne.symm hDC), ?_⟩
      · exact W1.frame _ _ _ st₃ fun b hb o e => (sb₅.2 b (fun q => hDf (by rw [← q]; exact hb))).trans (hk₄ b o e)
      · intro z
        rw [hm₅, hm', List.take_succ, hy]
        simp only [Option.toList, List.mem_append, List.mem_singleton]
        constructor
        · rintro (rfl | ⟨u, hu, rfl⟩)
          · exact ⟨y, .inr rfl, rfl⟩
          · exact ⟨u, .inl hu, rfl⟩
        · rintro ⟨u, hu | rfl, rfl⟩
          · exact .inr ⟨u, hu, rfl⟩
          · exact .inl rfl
      · intro b o e
        exact (sb₅.2 b (Nat.ne_of_lt (Nat.lt_of_lt_of_le (Heap.lt_size e) hHle))).trans (hk₄ b o (hk₃ b o e))
    · have hin : i = xs.length := by omega
      subst hin
      refine W1.done _ _ _ st' fun h₂ tk₂ hk₂ => ?_
      dsimp only at hk₂
      have hEs : env.locals < s₁.heap.objs.size := hnE.lt
      have hEI : env.locals ≠ I := Nat.ne_of_lt (Nat.lt_of_lt_of_le hEs hIle)
      have hEC : env.locals ≠ C := by rw [hCs]; exact Nat.ne_of_lt (Nat.lt_succ_of_lt (Nat.lt_of_lt_of_le hEs hHle))
      have hED : env.locals ≠ H.objs.size := Nat.ne_of_lt (Nat.lt_of_lt_of_le hEs hHle)
      show wpAny _ A (assign (.Name y py) env (.ref H.objs.size)) _ _ _
      refine wpAny_assign_Name (wpAny_storeName_local hy (hnE.at' fun o e => hk₂ _ o (by simpa using hEI) (hk' _ o e)) (fun h₃ hn₃ hs₃ => ?_) hp0)
      dsimp only at hs₃
      refine ⟨m', (hn'.at' fun o e => hk₂ _ o (by simpa using Ne.symm hIC) e).sameBut hs₃ (Ne.symm hEC), fun h'' hs'' => ?_⟩
      dsimp only at hs''
      refine hQ H.objs.size h'' dr' _ oD zs hHle (hs''.extBut _ _ hDC (hs₃.extBut _ _ (Ne.symm hED) (hk₂ _ _ (by simpa using Ne.symm hID) hD'))) (hn₃.sameBut hs'' hEC) ?_ hS' ?_ hl'
      · intro b o hbE e
        have hb := Nat.lt_of_lt_of_le (Heap.lt_size e) hHle
        refine hs''.extBut b o (by rw [hCs]; exact Nat.ne_of_lt (Nat.lt_succ_of_lt hb)) (hs₃.extBut b o hbE (hk₂ b o ?_ (hk' b o e)))
        intro q
        rw [List.mem_singleton.mp q] at e
        exact absurd (Heap.lt_size e) (Nat.not_lt.mpr hIle)
      · intro z
        rw [hm', List.take_of_length_le (by omega)]
        constructor
        · rintro ⟨y, hy, rfl⟩; exact ⟨y, hp.mem_iff.mp hy, rfl⟩
        · rintro ⟨y, hy, rfl⟩; exact ⟨y, hp.mem_iff.mpr hy, rfl⟩
  exact codeAny_compStart_set loop (W1.self 0 _ _ _ st₁ loop)
end
end Mine
end partSetJ

section partPln
open PySem PySem.Spec PyProof.Rows
namespace Mine
/-- all the sublists of a list -/
noncomputable def subs : List Nat → List (List Nat)
  | [] => [[]]
  | a :: t => subs t ++ (subs t).map (a :: ·)
theorem mem_subs : ∀ {t y : List Nat}, y ∈ subs t ↔ y.Sublist t
  | [], y => by simp [subs, List.sublist_nil]
  | a :: t, y => by
    simp only [subs, List.mem_append, List.mem_map]
    constructor
    · rintro (h | ⟨z, hz, rfl⟩)
      · exact (mem_subs.mp h).cons a
      · exact (mem_subs.mp hz).cons_cons a
    · intro h
      cases h with
      | cons _ h => exact .inl (mem_subs.mpr h)
      | cons_cons _ h => exact .inr ⟨_, mem_subs.mpr h, rfl⟩
noncomputable def insU (w : List Nat) : List (List Nat) → List (List Nat)
  | [] => [w]
  | x :: r => if ltCps w x then w :: x :: r else if w == x then x :: r else x :: insU w r
noncomputable def wordsOf (t : List Nat) : List (List Nat) := (subs t).foldr insU []
theorem mem_insU {w y : List Nat} : ∀ {l : List (List Nat)}, y ∈ insU w l ↔ y = w ∨ y ∈ l
  | [] => by simp [insU]
  | x :: r => by
    unfold insU
    by_cases h : ltCps w x = true
    · rw [if_pos h]; simp
    · rw [if_neg h]
      by_cases e : (w == x) = true
      · rw [if_pos e]
        have : w = x := by simpa using e
        subst this
        simp
      · rw [if_neg e]
        simp only [List.mem_cons, mem_insU]
        constructor
        · rintro (h | h | h) <;> simp [h]
        · rintro (h | h | h) <;> simp [h]
theorem mem_words {t y : List Nat} : y ∈ wordsOf t ↔ y.Sublist t := by
  rw [← mem_subs]
  unfold wordsOf
  induction subs t with
  | nil => simp
  | cons a l ih => rw [List.foldr_cons, mem_insU, ih, List.mem_cons]
theorem lt3 (a b : List Nat) (h1 : ¬ ltCps a b = true) (h2 : a ≠ b) : b < a := by
  rw [ltCps_eq, decide_eq_true_eq] at h1
  rcases Std.lt_trichotomy a b with h | h | h
  · exact absurd h h1
  · exact absurd h h2
  · exact h
theorem pw_insU {w : List Nat} : ∀ {l : List (List Nat)}, l.Pairwise (· < ·) → (insU w l).Pairwise (· < ·)
  | [], _ => List.pairwise_singleton ..
  | x :: r, h => by
    unfold insU
    obtain ⟨h1, h2⟩ := List.pairwise_cons.mp h
    by_cases hw : ltCps w x = true
    · rw [if_pos hw]
      rw [ltCps_eq, decide_eq_true_eq] at hw
      refine List.pairwise_cons.mpr ⟨fun y hy => ?_, h⟩
      rcases List.mem_cons.mp hy with rfl | hy
      · exact hw
      · exact List.lt_trans hw (h1 y hy)
    · rw [if_neg hw]
      by_cases e : (w == x) = true
      · rw [if_pos e]; exact h
      · rw [if_neg e]
        refine List.pairwise_cons.mpr ⟨fun y hy => ?_, pw_insU h2⟩
        rcases mem_insU.mp hy with rfl | hy
        · exact lt3 _ _ hw (by simpa using e)
        · exact h1 y hy
theorem pw_words (t : List Nat) : (wordsOf t).Pairwise (· < ·) := by
  unfold wordsOf
  induction subs t with
  | nil => exact .nil
  | cons a l ih => rw [List.foldr_cons]; exact pw_insU ih
theorem sorted_uniq : ∀ {l l' : List (List Nat)}, l.Pairwise (· < ·) → l'.Pairwise (· < ·) → (∀ y, y ∈ l ↔ y ∈ l') → l = l'
  | [], [], _, _, _ => rfl
  | [], b :: r, _, _, h => absurd ((h b).mpr (List.mem_cons_self ..)) (by simp)
  | a :: l, [], _, _, h => absurd ((h a).mp (List.mem_cons_self ..)) (by simp)
  | a :: l, b :: r, ha, hb, h => by
    obtain ⟨ha1, ha2⟩ := List.pairwise_cons.mp ha
    obtain ⟨hb1, hb2⟩ := List.pairwise_cons.mp hb
    have hab : a = b := by
      rcases List.mem_cons.mp ((h a).mp (List.mem_cons_self ..)) with q | q
      · exact q
      · rcases List.mem_cons.mp ((h b).mpr (List.mem_cons_self ..)) with p | p
        · exact p.symm
        · exact absurd (List.lt_trans (hb1 a q) (ha1 b p)) (List.lt_irrefl _)
    subst hab
    rw [sorted_uniq ha2 hb2 fun y => ?_]
    constructor
    · intro hy
      rcases List.mem_cons.mp ((h y).mp (List.mem_cons_of_mem _ hy)) with q | q
      · subst q; exact absurd (ha1 y hy) (List.lt_irrefl _)
      · exact q
    · intro hy
      rcases List.mem_cons.mp ((h y).mpr (List.mem_cons_of_mem _ hy)) with q | q
      · subst q; exact absurd (hb1 y hy) (List.lt_irrefl _)
      · exact q
theorem cps_inj {a b : Str} (h : a.cps.toList = b.cps.toList) : a = b := by
  obtain ⟨a⟩ := a; obtain ⟨b⟩ := b
  simp only at h
  rw [Array.toList_inj.mp h]
theorem rising_pw : ∀ (p : Str) (r : List Str), risingS p r = true → (p :: r).Nodup → ((p :: r).map (·.cps.toList)).Pairwise (· < ·)
  | p, [], _, _ => List.pairwise_singleton ..
  | p, x :: r, h, hn => by
    have h' : (!ltCps x.cps.toList p.cps.toList && risingS x r) = true := h
    obtain ⟨h1, h2⟩ := Bool.and_eq_true_iff.mp h'
    obtain ⟨n1, n2⟩ := List.nodup_cons.mp hn
    have ih := rising_pw x r h2 n2
    have hpx : p.cps.toList < x.cps.toList := by
      refine lt3 _ _ (by intro q; rw [q] at h1; cases h1) ?_
      intro e
      exact n1 (by rw [cps_inj e]; exact List.mem_cons_self ..)
    rw [List.map_cons]
    refine List.pairwise_cons.mpr ⟨fun y hy => ?_, ih⟩
    rw [List.map_cons] at hy ih
    rcases List.mem_cons.mp hy with rfl | hy
    · exact hpx
    · exact List.lt_trans hpx ((List.pairwise_cons.mp ih).1 y hy)
theorem due_words {due : List Str} {t : List Nat} (h : sortedS due = true) (hn : due.Nodup) (hm : ∀ y : Str, y ∈ due ↔ y.cps.toList.Sublist t) : due.map (·.cps.toList) = wordsOf t := by
  refine sorted_uniq ?_ (pw_words t) fun y => ?_
  · cases due with
    | nil => exact .nil
    | cons p r => exact rising_pw p r h hn
  · rw [mem_words]
    constructor
    · intro hy
      obtain ⟨x, hx, rfl⟩ := List.mem_map.mp hy
      exact (hm x).mp hx
    · intro hy
      exact List.mem_map.mpr ⟨⟨y.toArray⟩, (hm _).mpr (by simpa using hy), by simp⟩
end Mine
end partPln

section partPln2
open PySem PySem.Spec PyProof.Rows
namespace Mine
set_option maxRecDepth 100000
set_option maxHeartbeats 4000000
noncomputable def rz (z : Int) : Nat := (z.fmod 3).toNat
noncomputable def nmR (r : Nat) : Str := [nameA, nameB, nameC].getD r nameA
theorem low6 : ∀ r : Nat, r < 6 → lowS (names6.getD r (Str.ofString "a")) = nmR (r % 3) := by
  intro r hr
  match r, hr with
  | 0, _ => decide +kernel
  | 1, _ => decide +kernel
  | 2, _ => decide +kernel
  | 3, _ => decide +kernel
  | 4, _ => decide +kernel
  | 5, _ => decide +kernel
theorem rz_six (z : Int) : (z.fmod 6).toNat % 3 = rz z := by
  unfold rz
  rw [Int.fmod_eq_emod_of_nonneg z (by decide), Int.fmod_eq_emod_of_nonneg z (by decide)]
  omega
theorem rz_lt (z : Int) : rz z < 3 := by
  unfold rz
  rw [Int.fmod_eq_emod_of_nonneg z (by decide)]
  omega
theorem low_name6 (z : Int) : lowS (name6 z) = nmR (rz z) := by
  have h0 : 0 ≤ z.fmod 6 := Int.fmod_nonneg_of_pos z (by decide)
  have h6 : z.fmod 6 < 6 := Int.fmod_lt_of_pos z (by decide)
  unfold name6
  rw [low6 _ (by omega), rz_six]
noncomputable def nxtR (rs : List Nat) (i r : Nat) : Option Nat := ((rs.drop i).findIdx? (· == r)).map (· + i)
theorem nmR_inj : ∀ a b : Nat, a < 3 → b < 3 → (nmR a == nmR b) = (a == b) := by
  intro a b ha hb
  have ha' : a = 0 ∨ a = 1 ∨ a = 2 := by omega
  have hb' : b = 0 ∨ b = 1 ∨ b = 2 := by omega
  rcases ha' with rfl | rfl | rfl <;> rcases hb' with rfl | rfl | rfl <;> decide +kernel
theorem nxt_eq (cs : List Int) (i r : Nat) (hr : r < 3) : nxt (cs.map name6) i (nmR r) = nxtR (cs.map rz) i r := by
  unfold nxt nxtR
  congr 1
  rw [← List.map_drop, ← List.map_drop, List.findIdx?_map, List.findIdx?_map]
  congr 1
  funext z
  show (lowS (name6 z) == nmR r) = (rz z == r)
  rw [low_name6, nmR_inj _ _ (rz_lt z) hr]
noncomputable def stepR (rs : List Nat) (counts : List Int) (i : Nat) (st : Row3) (r : Nat) : Row3 :=
  match nxtR rs i r with
  | none => st
  | some j => (st.1 ++ [(97 + r, j + 1)], st.2.1 ++ [st.2.2], st.2.2 + counts.getD (j - i) 0)
noncomputable def rowR (rs : List Nat) (counts : List Int) (i : Nat) : Row3 := [0, 1, 2].foldl (stepR rs counts i) ([], [0], 1)
noncomputable def ladR (rs : List Nat) : Nat → Lad3
  | 0 => ⟨[1], [[]], [[0]]⟩
  | k + 1 =>
    let L := ladR rs k
    let r := rowR rs L.counts (rs.length - 1 - k)
    ⟨r.2.2 :: L.counts, r.1 :: L.ways, r.2.1 :: L.begs⟩
theorem step_eq (cs : List Int) (counts : List Int) (i : Nat) (st : Row3) (r : Nat) (hr : r < 3) : stepN (cs.map name6) counts i st (nmR r, 97 + r) = stepR (cs.map rz) counts i st r := by
  unfold stepN stepR
  dsimp only
  rw [nxt_eq cs i r hr]
  all_goals (cases nxtR (cs.map rz) i r <;> rfl)
theorem row_eq (cs : List Int) (counts : List Int) (i : Nat) : rowAt (cs.map name6) counts i = rowR (cs.map rz) counts i := by
  unfold rowAt rowR
  rw [show names3 = [(nmR 0, 97 + 0), (nmR 1, 97 + 1), (nmR 2, 97 + 2)] from rfl]
  rw [List.foldl_cons, List.foldl_cons, List.foldl_cons, List.foldl_nil, List.foldl_cons, List.foldl_cons, List.foldl_cons, List.foldl_nil]
  rw [step_eq _ _ _ _ 0 (by decide), step_eq _ _ _ _ 1 (by decide), step_eq _ _ _ _ 2 (by decide)]
theorem lad_eq (cs : List Int) : ∀ k, ladK (cs.map name6) k = ladR (cs.map rz) k
  | 0 => rfl
  | k + 1 => by
    show (let L := ladK (cs.map name6) k; let r := rowAt (cs.map name6) L.counts ((cs.map name6).length - 1 - k); (⟨r.2.2 :: L.counts, r.1 :: L.ways, r.2.1 :: L.begs⟩ : Lad3)) = (let L := ladR (cs.map rz) k; let r := rowR (cs.map rz) L.counts ((cs.map rz).length - 1 - k); (⟨r.2.2 :: L.counts, r.1 :: L.ways, r.2.1 :: L.begs⟩ : Lad3))
    dsimp only
    rw [lad_eq cs k, row_eq, List.length_map, List.length_map]
end Mine
end partPln2

section partElx
open PySem PySem.Spec PyProof.Rows
namespace Mine
theorem sub_skip {c : Nat} {w r : List Nat} : ∀ {pre : List Nat}, c ∉ pre → ((c :: w).Sublist (pre ++ c :: r) ↔ w.Sublist r)
  | [], _ => by simp
  | a :: pre, h => by
    have ha : c ≠ a := fun e => h (by simp [e])
    have hp : c ∉ pre := fun e => h (List.mem_cons_of_mem _ e)
    rw [List.cons_append]
    constructor
    · intro q
      cases q with
      | cons _ q => exact (sub_skip hp).mp q
      | cons_cons _ q => exact absurd rfl ha
    · intro q
      exact .cons _ ((sub_skip hp).mpr q)
theorem take1 {y : List Nat} {c i : Nat} (h : (y.drop i).take 1 = [c]) : y.drop i = c :: y.drop (i + 1) := by
  cases e : y.drop i with
  | nil => rw [e] at h; cases h
  | cons a r =>
    rw [e] at h
    have : a = c := by simpa using h
    subst this
    congr 1
    have := congrArg List.tail e
    rw [List.tail_drop] at this
    exact this.symm
theorem em_letters {y : List Nat} {ep : Nat} (hep : ep ≤ y.length) : ∀ (w : List Nat) (sp : Nat), emLoop y (w.map ([·])) sp ep = decide (w.Sublist ((y.take ep).drop sp))
  | [], sp => by simp [emLoop]
  | c :: w, sp => by
    rw [List.map_cons, emLoop_cons]
    have hat : ∀ j, (j + [c].length ≤ ep ∧ (y.drop j).take [c].length = [c]) ↔ (y.take ep)[j]? = some c := by
      intro j
      rw [List.getElem?_take]
      show (j + 1 ≤ ep ∧ (y.drop j).take 1 = [c]) ↔ _
      by_cases hj : j < ep
      · rw [if_pos hj]
        constructor
        · rintro ⟨_, h⟩
          have := take1 h
          have h2 := congrArg (fun z => z[0]?) this
          simpa using h2
        · intro h
          obtain ⟨hl, e⟩ := List.getElem?_eq_some_iff.mp h
          refine ⟨hj, ?_⟩
          rw [List.drop_eq_getElem_cons hl, e]; rfl
      · rw [if_neg hj]
        constructor
        · rintro ⟨h, _⟩; omega
        · intro h; cases h
    cases hf : fnd y [c] sp ep with
    | none =>
      have hn := fnd_none hf
      dsimp only
      symm
      rw [decide_eq_false_iff_not]
      intro hs
      have hm : c ∈ (y.take ep).drop sp := hs.subset (List.mem_cons_self ..)
      obtain ⟨k, hk⟩ := List.getElem?_of_mem hm
      rw [List.getElem?_drop] at hk
      exact hn (sp + k) (by omega) ((hat _).mpr hk)
    | some i =>
      obtain ⟨h1, h2, h3, h4⟩ := fnd_some hf
      dsimp only
      rw [em_letters hep w]
      have hi := (hat i).mp ⟨h2, h3⟩
      obtain ⟨hl, e⟩ := List.getElem?_eq_some_iff.mp hi
      have hsplit : (y.take ep).drop sp = ((y.take ep).drop sp).take (i - sp) ++ c :: (y.take ep).drop (i + 1) := by
        conv => lhs; rw [← List.take_append_drop (i - sp) ((y.take ep).drop sp)]
        rw [List.drop_drop, show sp + (i - sp) = i by omega, List.drop_eq_getElem_cons hl, e]
      have hc : c ∉ ((y.take ep).drop sp).take (i - sp) := by
        intro hm
        obtain ⟨k, hk⟩ := List.getElem?_of_mem hm
        rw [List.getElem?_take] at hk
        by_cases hki : k < i - sp
        · rw [if_pos hki, List.getElem?_drop] at hk
          exact h4 (sp + k) (by omega) (by omega) ((hat _).mpr hk)
        · rw [if_neg hki] at hk; cases hk
      show decide (w.Sublist ((y.take ep).drop (i + 1))) = _
      rw [decide_eq_decide, hsplit, sub_skip hc]
theorem fnd_nil {y : List Nat} {sp ep : Nat} (h : sp ≤ ep) : fnd y [] sp ep = some sp := by
  unfold fnd
  rw [show ep + 1 - sp = (ep - sp) + 1 by omega, List.range'_succ, List.find?_cons]
  have : atB y [] ep sp = true := by unfold atB; simp [h]
  rw [this]
theorem em_nil_cons {y : List Nat} {ws : List (List Nat)} {sp ep : Nat} (h : sp ≤ ep) : emLoop y ([] :: ws) sp ep = emLoop y ws sp ep := by
  rw [emLoop_cons, fnd_nil h]; rfl
theorem em_app_nil {y : List Nat} {ep : Nat} : ∀ {ws : List (List Nat)} {sp : Nat}, sp ≤ ep → emLoop y (ws ++ [[]]) sp ep = emLoop y ws sp ep
  | [], sp, h => by rw [List.nil_append, em_nil_cons h]
  | w :: ws, sp, h => by
    rw [List.cons_append, emLoop_cons, emLoop_cons]
    cases hf : fnd y w sp ep with
    | none => rfl
    | some i => exact em_app_nil (fnd_some hf).2.1
theorem em_pre {p r : List Nat} {ws : List (List Nat)} {ep : Nat} (h : p.length ≤ ep) : emLoop (p ++ r) (p :: ws) 0 ep = emLoop (p ++ r) ws p.length ep := by
  rw [emLoop_cons]
  have : fnd (p ++ r) p 0 ep = some 0 := by
    unfold fnd
    rw [show ep + 1 - 0 = ep + 1 by omega, List.range'_succ, List.find?_cons]
    have : atB (p ++ r) p ep 0 = true := by unfold atB; simp [h]
    rw [this]
  rw [this]
  show emLoop (p ++ r) ws (0 + p.length) ep = _
  rw [Nat.zero_add]
theorem em_one (t w : List Nat) : emLoop t ([] :: (w.map ([·]) ++ [[]])) 0 t.length = decide (w.Sublist t) := by
  rw [em_nil_cons (Nat.zero_le _), em_app_nil (Nat.zero_le _), em_letters (Nat.le_refl _)]
  rw [List.take_length, List.drop_zero]
theorem em_four {t w : List Nat} (h : 2 ≤ t.length) : emLoop t ([] :: ((t.take 2 :: w.map ([·])) ++ [[]])) 0 t.length = decide (w.Sublist (t.drop 2)) := by
  have e : ∀ ws, emLoop t (t.take 2 :: ws) 0 t.length = emLoop t ws 2 t.length := by
    intro ws
    have h2 : (t.take 2).length = 2 := by rw [List.length_take]; omega
    have := em_pre (p := t.take 2) (r := t.drop 2) (ws := ws) (ep := t.length) (by omega)
    rw [List.take_append_drop, h2] at this
    exact this
  rw [em_nil_cons (Nat.zero_le _), List.cons_append, e, em_app_nil h, em_letters (Nat.le_refl _), List.take_length]
theorem em_three {t w : List Nat} (h : 2 ≤ t.length) : emEnds t (t.take 2) (w.map ([·])) (t.drop (t.length - 2)) = (decide (4 ≤ t.length) && decide (w.Sublist ((t.take (t.length - 2)).drop 2))) := by
  have h1 : (t.take 2).length = 2 := by rw [List.length_take]; omega
  have h2 : (t.drop (t.length - 2)).length = 2 := by rw [List.length_drop]; omega
  unfold emEnds startsB endsB
  rw [h1, h2, em_letters (by omega)]
  simp only [beq_self_eq_true, Bool.and_true, h, decide_true, Bool.true_and]
  congr 1
  rw [decide_eq_decide]; omega
theorem em_two {t mid : List Nat} {a b x z : Nat} {m : List Nat} (ht : t = x :: (m ++ [z])) : emEnds t [a] (mid.map ([·])) [b] = decide (a = x ∧ b = z ∧ mid.Sublist m) := by
  have hl : t.length = m.length + 2 := by rw [ht]; simp
  unfold emEnds startsB endsB
  rw [em_letters (by omega)]
  have e1 : (t.take (t.length - [b].length)).drop [a].length = m := by
    rw [hl, ht]
    show ((x :: (m ++ [z])).take (m.length + 2 - 1)).drop 1 = m
    simp
  have e2 : t.drop (t.length - [b].length) = [z] := by
    rw [hl, ht]
    show (x :: (m ++ [z])).drop (m.length + 2 - 1) = [z]
    simp
  have e3 : t.take [a].length = [x] := by rw [ht]; rfl
  rw [e1, e2, e3, hl]
  have d1 : decide ([a].length ≤ m.length + 2) = true := by simp
  have d2 : decide ([b].length ≤ m.length + 2) = true := by simp
  have d3 : decide ([a].length ≤ m.length + 2 - [b].length) = true := by simp
  rw [d1, d2, d3]
  simp only [Bool.true_and, Bool.and_true]
  rw [Bool.eq_iff_iff]
  simp only [Bool.and_eq_true, beq_iff_eq, decide_eq_true_eq, List.cons.injEq, and_true]
  constructor
  · rintro ⟨⟨h1, h2⟩, h3⟩; exact ⟨h1.symm, h2.symm, h3⟩
  · rintro ⟨h1, h2, h3⟩; exact ⟨⟨h1.symm, h2.symm⟩, h3⟩
end Mine
end partElx

section partGen
open PySem PySem.Spec PyProof.Rows
namespace Mine
set_option maxRecDepth 100000
/-- the first place of r in l -/
noncomputable def fst? (l : List Nat) (r : Nat) : Option Nat := l.findIdx? (· == r)
theorem fst_split : ∀ {l : List Nat} {r j : Nat}, fst? l r = some j → j < l.length ∧ l = l.take j ++ r :: l.drop (j + 1) ∧ r ∉ l.take j
  | [], r, j, h => by simp [fst?] at h
  | a :: l, r, j, h => by
    unfold fst? at h
    rw [List.findIdx?_cons] at h
    by_cases e : (a == r) = true
    · rw [if_pos e] at h
      cases h
      have : a = r := by simpa using e
      subst this
      simp
    · rw [if_neg e] at h
      obtain ⟨i, hi, rfl⟩ := Option.map_eq_some_iff.mp h
      obtain ⟨h1, h2, h3⟩ := fst_split (l := l) (r := r) hi
      refine ⟨by simp; exact h1, ?_, ?_⟩
      · rw [List.take_succ_cons, List.drop_succ_cons, List.cons_append, ← h2]
      · rw [List.take_succ_cons]
        intro q
        rcases List.mem_cons.mp q with q | q
        · exact e (by simp [q])
        · exact h3 q
theorem fst_some {l : List Nat} {r : Nat} (h : r ∈ l) : ∃ j, fst? l r = some j := by
  cases e : fst? l r with
  | some j => exact ⟨j, rfl⟩
  | none =>
    unfold fst? at e
    rw [List.findIdx?_eq_none_iff] at e
    have := e r h
    simp at this
/-- the words in a dictionary's order, by fuel -/
noncomputable def dictF : Nat → List Nat → List (List Nat)
  | 0, _ => [[]]
  | k + 1, l => [] :: ([0, 1, 2].flatMap fun r => match fst? l r with | none => [] | some j => (dictF k (l.drop (j + 1))).map ((97 + r) :: ·))
theorem dictF_nil (k : Nat) : dictF k [] = [[]] := by
  cases k <;> simp [dictF, fst?]
theorem dict_fuel : ∀ (k m : Nat) (l : List Nat), l.length ≤ k → l.length ≤ m → dictF k l = dictF m l
  | 0, m, l, h, _ => by
    have : l = [] := List.length_eq_zero_iff.mp (Nat.le_zero.mp h)
    subst this
    rw [dictF_nil, dictF_nil]
  | k + 1, 0, l, _, h => by
    have : l = [] := List.length_eq_zero_iff.mp (Nat.le_zero.mp h)
    subst this
    rw [dictF_nil, dictF_nil]
  | k + 1, m + 1, l, h1, h2 => by
    unfold dictF
    congr 2
    funext r
    cases e : fst? l r with
    | none => rfl
    | some j =>
      have hj := (fst_split e).1
      dsimp only
      rw [dict_fuel k m (l.drop (j + 1)) (by rw [List.length_drop]; omega) (by rw [List.length_drop]; omega)]
noncomputable def dict (l : List Nat) : List (List Nat) := dictF l.length l
noncomputable def blk (l : List Nat) (r : Nat) : List (List Nat) := match fst? l r with | none => [] | some j => (dict (l.drop (j + 1))).map ((97 + r) :: ·)
theorem dict_eq (l : List Nat) : dict l = [] :: ([0, 1, 2].flatMap (blk l)) := by
  unfold dict
  rw [dict_fuel l.length (l.length + 1) l (Nat.le_refl _) (Nat.le_succ _)]
  unfold dictF
  congr 2
  funext r
  unfold blk
  cases e : fst? l r with
  | none => rfl
  | some j =>
    have hj := (fst_split e).1
    dsimp only
    unfold dict
    rw [dict_fuel l.length (l.drop (j + 1)).length (l.drop (j + 1)) (by rw [List.length_drop]; omega) (Nat.le_refl _)]
theorem mem_dict : ∀ (n : Nat) (l : List Nat), l.length ≤ n → (∀ x ∈ l, x < 3) → ∀ y, y ∈ dict l ↔ y.Sublist (l.map (97 + ·))
  | n, l, hn, hl, y => by
    rw [dict_eq, List.mem_cons, List.mem_flatMap]
    cases y with
    | nil => simp
    | cons c v =>
      constructor
      · rintro (h | ⟨r, _, h⟩)
        · cases h
        · unfold blk at h
          cases e : fst? l r with
          | none => rw [e] at h; cases h
          | some j =>
            rw [e] at h
            obtain ⟨w, hw, q⟩ := List.mem_map.mp h
            cases q
            obtain ⟨h1, h2, h3⟩ := fst_split e
            match n with
            | 0 => omega
            | n + 1 =>
              have ih := (mem_dict n (l.drop (j + 1)) (by rw [List.length_drop]; omega) (fun x hx => hl x (List.mem_of_mem_drop hx)) v).mp hw
              rw [h2, List.map_append, List.map_cons]
              exact (ih.cons_cons _).trans (List.sublist_append_right ..)
      · intro h
        refine .inr ?_
        have hc : c ∈ l.map (97 + ·) := h.subset (List.mem_cons_self ..)
        obtain ⟨r, hr, rfl⟩ := List.mem_map.mp hc
        have hr3 := hl r hr
        obtain ⟨j, e⟩ := fst_some hr
        obtain ⟨h1, h2, h3⟩ := fst_split e
        refine ⟨r, by have : r = 0 ∨ r = 1 ∨ r = 2 := by omega
                      rcases this with rfl | rfl | rfl <;> simp, ?_⟩
        unfold blk
        rw [e]
        dsimp only
        match n with
        | 0 => omega
        | n + 1 =>
          refine List.mem_map.mpr ⟨v, (mem_dict n (l.drop (j + 1)) (by rw [List.length_drop]; omega) (fun x hx => hl x (List.mem_of_mem_drop hx)) v).mpr ?_, rfl⟩
          rw [h2, List.map_append, List.map_cons] at h
          refine (sub_skip ?_).mp h
          intro q
          obtain ⟨x, hx, ex⟩ := List.mem_map.mp q
          have : x = r := by omega
          subst this
          exact h3 hx
theorem blk_head {l : List Nat} {r : Nat} {y : List Nat} (h : y ∈ blk l r) : ∃ v, y = (97 + r) :: v := by
  unfold blk at h
  cases e : fst? l r with
  | none => rw [e] at h; cases h
  | some j =>
    rw [e] at h
    obtain ⟨w, _, q⟩ := List.mem_map.mp h
    exact ⟨w, q.symm⟩
theorem lt_heads {a b : Nat} {x y : List Nat} (h : a < b) : a :: x < b :: y := List.cons_lt_cons_iff.mpr (.inl h)
theorem pw_dict : ∀ (n : Nat) (l : List Nat), l.length ≤ n → (dict l).Pairwise (· < ·)
  | n, l, hn => by
    rw [dict_eq]
    have hb : ∀ r, (blk l r).Pairwise (· < ·) := by
      intro r
      unfold blk
      cases e : fst? l r with
      | none => exact .nil
      | some j =>
        obtain ⟨h1, _⟩ := fst_split e
        match n with
        | 0 => omega
        | n + 1 =>
          dsimp only
          rw [List.pairwise_map]
          exact (pw_dict n (l.drop (j + 1)) (by rw [List.length_drop]; omega)).imp fun {a b} h => List.cons_lt_cons_iff.mpr (.inr ⟨rfl, h⟩)
    have hx : ∀ r r', r < r' → ∀ x ∈ blk l r, ∀ y ∈ blk l r', x < y := by
      intro r r' hr x hx y hy
      obtain ⟨v, rfl⟩ := blk_head hx
      obtain ⟨u, rfl⟩ := blk_head hy
      exact lt_heads (by omega)
    refine List.pairwise_cons.mpr ⟨fun y hy => ?_, ?_⟩
    · obtain ⟨r, _, hy⟩ := List.mem_flatMap.mp hy
      obtain ⟨v, rfl⟩ := blk_head hy
      exact List.nil_lt_cons _ _
    · rw [List.flatMap_cons, List.flatMap_cons, List.flatMap_cons, List.flatMap_nil, List.append_nil]
      refine List.pairwise_append.mpr ⟨hb 0, List.pairwise_append.mpr ⟨hb 1, hb 2, hx 1 2 (by decide)⟩, fun x hx0 y hy => ?_⟩
      rcases List.mem_append.mp hy with hy | hy
      · exact hx 0 1 (by decide) x hx0 y hy
      · exact hx 0 2 (by decide) x hx0 y hy
theorem words_dict {l : List Nat} (hl : ∀ x ∈ l, x < 3) : wordsOf (l.map (97 + ·)) = dict l :=
  sorted_uniq (pw_words _) (pw_dict _ l (Nat.le_refl _)) fun y => by rw [mem_words, mem_dict _ l (Nat.le_refl _) hl]
end Mine
end partGen

section partGen2
open PySem PySem.Spec PyProof.Rows
namespace Mine
set_option maxRecDepth 100000
theorem bis_go {b : List Int} (hp : b.Pairwise (· < ·)) {x : Int} {m : Nat} {g : Int} (h1 : b[m]? = some g) (h2 : g ≤ x) (h3 : ∀ g', b[m + 1]? = some g' → x < g') : ∀ (f lo hi : Nat), hi - lo ≤ f → lo ≤ m + 1 → m + 1 ≤ hi → hi ≤ b.length → bisGo b x f lo hi = m + 1
  | 0, lo, hi, a, c, d, e => by
    show lo = m + 1
    omega
  | f + 1, lo, hi, a, c, d, e => by
    unfold bisGo
    rw [List.pairwise_iff_getElem] at hp
    obtain ⟨hm, hg⟩ := List.getElem?_eq_some_iff.mp h1
    by_cases hlt : lo < hi
    · rw [if_pos hlt]
      have hmid : (lo + hi) / 2 < b.length := by omega
      have eg : b.getD ((lo + hi) / 2) 0 = b[(lo + hi) / 2] := by rw [List.getD_eq_getElem?_getD, List.getElem?_eq_getElem hmid]; rfl
      rw [eg]
      by_cases hx : x < b[(lo + hi) / 2]
      · rw [if_pos hx]
        refine bis_go (List.pairwise_iff_getElem.mpr hp) h1 h2 h3 f lo _ (by omega) c ?_ (by omega)
        rcases Nat.lt_or_ge m ((lo + hi) / 2) with q | q
        · exact q
        · exfalso
          rcases Nat.lt_or_eq_of_le q with q | q
          · have := hp _ _ hmid hm q
            omega
          · subst q
            omega
      · rw [if_neg hx]
        refine bis_go (List.pairwise_iff_getElem.mpr hp) h1 h2 h3 f _ hi (by omega) ?_ d e
        rcases Nat.lt_or_ge m ((lo + hi) / 2) with q | q
        · exfalso
          have hm1 : m + 1 < b.length := by omega
          have h4 := h3 _ (List.getElem?_eq_getElem hm1)
          rcases Nat.lt_or_eq_of_le q with q | q
          · have := hp _ _ hm1 hmid q
            omega
          · have e1 : b[m + 1] = b[(lo + hi) / 2] := by congr 1
            omega
        · omega
    · rw [if_neg hlt]; omega
/-- a row of the ladders, and the words that it tells so far -/
structure RowI (rs : List Nat) (i : Nat) (st : Row3) (Wl : List (List Nat)) : Prop where
  cnt : st.2.2 = (Wl.length : Int)
  len : st.2.1.length = st.1.length + 1
  pw : st.2.1.Pairwise (· < ·)
  lt : ∀ b ∈ st.2.1, b < st.2.2
  h0 : st.2.1[0]? = some 0
  find : ∀ (n : Nat) (w : List Nat), Wl[n]? = some w → (n = 0 ∧ w = []) ∨ ∃ (k c tgt : Nat) (g : Int) (v : List Nat), st.1[k]? = some (c, tgt) ∧ st.2.1[k + 1]? = some g ∧ g ≤ (n : Int) ∧
    (∀ g', st.2.1[k + 2]? = some g' → (n : Int) < g') ∧ (dict (rs.drop tgt))[((n : Int) - g).toNat]? = some v ∧ w = c :: v ∧ i < tgt ∧ tgt ≤ rs.length
theorem row0 (rs : List Nat) (i : Nat) : RowI rs i ([], [0], 1) [[]] where
  cnt := rfl
  len := rfl
  pw := List.pairwise_singleton ..
  lt := fun b hb => by rw [List.mem_singleton.mp hb]; decide
  h0 := rfl
  find := fun n w h => by
    obtain ⟨hn, e⟩ := List.getElem?_eq_some_iff.mp h
    have : n = 0 := by simpa using hn
    subst this
    exact .inl ⟨rfl, e.symm⟩
theorem row_add {rs : List Nat} {i c tgt : Nat} {W : List (Nat × Nat)} {B : List Int} {cnt : Int} {Wl V : List (List Nat)} (R : RowI rs i (W, B, cnt) Wl) (hV : dict (rs.drop tgt) = V) (h0 : 0 < V.length) (h1 : i < tgt) (h2 : tgt ≤ rs.length) :
    RowI rs i (W ++ [(c, tgt)], B ++ [cnt], cnt + (V.length : Int)) (Wl ++ V.map (c :: ·)) := by
  obtain ⟨rcnt, rlen, rpw, rlt, rh0, rfind⟩ := R
  dsimp only at rcnt rlen rpw rlt rh0 rfind
  have hB : B[W.length + 1]? = none := List.getElem?_eq_none (Nat.le_of_eq rlen)
  refine ⟨?_, ?_, ?_, ?_, ?_, ?_⟩
  · show cnt + (V.length : Int) = _
    rw [rcnt, List.length_append, List.length_map, Int.natCast_add]
  · show (B ++ [cnt]).length = (W ++ [(c, tgt)]).length + 1
    rw [List.length_append, List.length_append, rlen]; rfl
  · refine List.pairwise_append.mpr ⟨rpw, List.pairwise_singleton .., fun a ha b hb => ?_⟩
    rw [List.mem_singleton.mp hb]
    exact rlt a ha
  · intro b hb
    have hc : cnt < cnt + (V.length : Int) := Int.lt_add_of_pos_right _ (Int.natCast_pos.mpr h0)
    rcases List.mem_append.mp hb with hb | hb
    · exact Int.lt_trans (rlt b hb) hc
    · rw [List.mem_singleton.mp hb]; exact hc
  · show (B ++ [cnt])[0]? = some 0
    rw [List.getElem?_append_left (by rw [rlen]; exact Nat.succ_pos _)]; exact rh0
  · intro n w hw
    show (n = 0 ∧ w = []) ∨ ∃ (k c' tgt' : Nat) (g : Int) (v : List Nat), (W ++ [(c, tgt)])[k]? = some (c', tgt') ∧ (B ++ [cnt])[k + 1]? = some g ∧ g ≤ (n : Int) ∧
      (∀ g', (B ++ [cnt])[k + 2]? = some g' → (n : Int) < g') ∧ (dict (rs.drop tgt'))[((n : Int) - g).toNat]? = some v ∧ w = c' :: v ∧ i < tgt' ∧ tgt' ≤ rs.length
    rcases Nat.lt_or_ge n Wl.length with hn | hn
    · rw [List.getElem?_append_left hn] at hw
      rcases rfind n w hw with q | ⟨k, c', tgt', g, v, a1, a2, a3, a4, a5, a6, a7, a8⟩
      · exact .inl q
      · have hk := (List.getElem?_eq_some_iff.mp a1).1
        have hk2 := (List.getElem?_eq_some_iff.mp a2).1
        refine .inr ⟨k, c', tgt', g, v, ?_, ?_, a3, ?_, a5, a6, a7, a8⟩
        · rw [List.getElem?_append_left hk]; exact a1
        · rw [List.getElem?_append_left hk2]; exact a2
        · intro g' hg'
          rcases Nat.lt_or_ge (k + 2) B.length with q | q
          · rw [List.getElem?_append_left q] at hg'
            exact a4 g' hg'
          · have ek : k + 2 = B.length := Nat.le_antisymm hk2 q
            rw [ek, List.getElem?_append_right (Nat.le_refl _), Nat.sub_self] at hg'
            cases hg'
            rw [rcnt]
            exact Int.ofNat_lt.mpr hn
    · rw [List.getElem?_append_right hn, List.getElem?_map] at hw
      obtain ⟨v, hv, rfl⟩ := Option.map_eq_some_iff.mp hw
      refine .inr ⟨W.length, c, tgt, cnt, v, ?_, ?_, by rw [rcnt]; exact Int.ofNat_le.mpr hn, ?_, ?_, rfl, h1, h2⟩
      · rw [List.getElem?_append_right (Nat.le_refl _), Nat.sub_self]; rfl
      · rw [← rlen, List.getElem?_append_right (Nat.le_refl _), Nat.sub_self]; rfl
      · intro g' hg'
        rw [List.getElem?_eq_none (by rw [List.length_append, rlen]; exact Nat.le_refl _)] at hg'
        cases hg'
      · rw [hV, rcnt, Int.toNat_sub]; exact hv
theorem row_step {rs : List Nat} {i r : Nat} {st : Row3} {Wl : List (List Nat)} {counts : List Int} (R : RowI rs i st Wl)
    (hc : ∀ j, i + j < rs.length → counts.getD j 0 = ((dict (rs.drop (i + j + 1))).length : Int)) :
    RowI rs i (stepR rs counts i st r) (Wl ++ blk (rs.drop i) r) := by
  unfold stepR nxtR blk
  change RowI rs i (match (fst? (rs.drop i) r).map (· + i) with | none => st | some j => (st.1 ++ [(97 + r, j + 1)], st.2.1 ++ [st.2.2], st.2.2 + counts.getD (j - i) 0)) _
  cases e : fst? (rs.drop i) r with
  | none =>
    dsimp only [Option.map_none]
    rw [List.append_nil]; exact R
  | some j =>
    have h1 := (fst_split e).1
    rw [List.length_drop] at h1
    dsimp only [Option.map_some]
    have hlt : i + j < rs.length := by omega
    have hd : (rs.drop i).drop (j + 1) = rs.drop (j + i + 1) := by rw [List.drop_drop]; congr 1; omega
    rw [Nat.add_sub_cancel, hc j hlt, hd, Nat.add_comm i j]
    exact row_add R rfl (by rw [dict_eq]; exact Nat.succ_pos _) (by omega) (by omega)
theorem row_ok {rs : List Nat} {i : Nat} {counts : List Int} (hc : ∀ j, i + j < rs.length → counts.getD j 0 = ((dict (rs.drop (i + j + 1))).length : Int)) :
    RowI rs i (rowR rs counts i) (dict (rs.drop i)) := by
  have h := row_step (r := 2) (row_step (r := 1) (row_step (r := 0) (row0 rs i) hc) hc) hc
  rw [dict_eq, List.flatMap_cons, List.flatMap_cons, List.flatMap_cons, List.flatMap_nil, List.append_nil]
  rw [List.append_assoc, List.append_assoc] at h
  exact h
structure LadI (rs : List Nat) (k : Nat) (L : Lad3) : Prop where
  cl : L.counts.length = k + 1
  wl : L.ways.length = k + 1
  bl : L.begs.length = k + 1
  row : ∀ p, p ≤ k → ∃ c W B, L.counts[p]? = some c ∧ L.ways[p]? = some W ∧ L.begs[p]? = some B ∧ RowI rs (rs.length - k + p) (W, B, c) (dict (rs.drop (rs.length - k + p)))
theorem lad_i (rs : List Nat) : ∀ k, k ≤ rs.length → LadI rs k (ladR rs k)
  | 0, _ => by
    refine ⟨rfl, rfl, rfl, fun p hp => ?_⟩
    obtain rfl : p = 0 := by omega
    refine ⟨1, [], [0], rfl, rfl, rfl, ?_⟩
    have e : rs.drop (rs.length - 0 + 0) = [] := List.drop_eq_nil_of_le (by omega)
    rw [e]
    exact row0 rs _
  | k + 1, hk => by
    obtain ⟨cl, wl, bl, row⟩ := lad_i rs k (by omega)
    show LadI rs (k + 1) (let L := ladR rs k; let r := rowR rs L.counts (rs.length - 1 - k); (⟨r.2.2 :: L.counts, r.1 :: L.ways, r.2.1 :: L.begs⟩ : Lad3))
    dsimp only
    have R := row_ok (rs := rs) (i := rs.length - 1 - k) (counts := (ladR rs k).counts) fun j hj => by
      obtain ⟨c, W, B, h1, _, _, R⟩ := row j (by omega)
      have e : rs.length - k + j = rs.length - 1 - k + j + 1 := by omega
      rw [e] at R
      rw [List.getD_eq_getElem?_getD, h1]
      exact R.cnt
    refine ⟨by simp [cl], by simp [wl], by simp [bl], fun p hp => ?_⟩
    cases p with
    | zero =>
      refine ⟨_, _, _, rfl, rfl, rfl, ?_⟩
      rw [show rs.length - (k + 1) + 0 = rs.length - 1 - k by omega]
      exact R
    | succ p =>
      obtain ⟨c, W, B, h1, h2, h3, R⟩ := row p (by omega)
      refine ⟨c, W, B, by simpa using h1, by simpa using h2, by simpa using h3, ?_⟩
      rw [show rs.length - (k + 1) + (p + 1) = rs.length - k + p by omega]
      exact R
theorem spell_dict (rs : List Nat) : ∀ (f p n : Nat) (word w : List Nat), p ≤ rs.length → rs.length - p < f → (dict (rs.drop p))[n]? = some w →
    spellL (ladR rs rs.length).ways (ladR rs rs.length).begs f p (n : Int) word = some (word ++ w)
  | 0, p, n, word, w, hp, hf, hw => by omega
  | f + 1, p, n, word, w, hp, hf, hw => by
    obtain ⟨c, W, B, h1, h2, h3, R⟩ := (lad_i rs rs.length (Nat.le_refl _)).row p hp
    rw [Nat.sub_self, Nat.zero_add] at R
    obtain ⟨rcnt, rlen, rpw, rlt, rh0, rfind⟩ := R
    dsimp only at rcnt rlen rpw rlt rh0 rfind
    rw [spellL, h3]
    dsimp only
    rcases rfind n w hw with ⟨rfl, rfl⟩ | ⟨k, c', tgt, g, v, a1, a2, a3, a4, a5, rfl, a7, a8⟩
    · have hb : bisGo B ((0 : Nat) : Int) B.length 0 B.length = 0 + 1 := by
        refine bis_go rpw rh0 (by decide) (fun g' hg' => ?_) _ _ _ (by omega) (by omega) (by omega) (Nat.le_refl _)
        rw [List.pairwise_iff_getElem] at rpw
        obtain ⟨q1, q2⟩ := List.getElem?_eq_some_iff.mp hg'
        obtain ⟨q3, q4⟩ := List.getElem?_eq_some_iff.mp rh0
        have := rpw 0 1 q3 q1 (by decide)
        rw [q4, q2] at this
        exact this
      rw [hb]
      simp
    · have hB : k + 1 < B.length := (List.getElem?_eq_some_iff.mp a2).1
      have hb : bisGo B (n : Int) B.length 0 B.length = k + 1 + 1 := bis_go rpw a2 a3 a4 _ _ _ (by omega) (by omega) (by omega) (Nat.le_refl _)
      rw [hb]
      dsimp only
      rw [h2, a2]
      dsimp only
      rw [a1]
      dsimp only
      have en : (n : Int) - g = (((n : Int) - g).toNat : Int) := by omega
      rw [en, spell_dict rs f tgt _ (word ++ [c']) v a8 (by omega) a5]
      simp
end Mine
end partGen2

section partPln3
open PySem PySem.Spec PyProof.Rows
namespace Mine
set_option maxRecDepth 100000
set_option maxHeartbeats 4000000
noncomputable def allR : Nat → List (List Nat)
  | 0 => [[]]
  | k + 1 => (allR k).flatMap fun l => [0 :: l, 1 :: l, 2 :: l]
theorem mem_allR : ∀ l : List Nat, (∀ x ∈ l, x < 3) → l ∈ allR l.length
  | [], _ => by simp [allR]
  | a :: l, h => by
    have ih := mem_allR l fun x hx => h x (List.mem_cons_of_mem _ hx)
    have ha : a < 3 := h a (List.mem_cons_self ..)
    have ha' : a = 0 ∨ a = 1 ∨ a = 2 := by omega
    rw [List.length_cons, allR, List.mem_flatMap]
    refine ⟨l, ih, ?_⟩
    rcases ha' with rfl | rfl | rfl <;> simp
noncomputable def chk (rs : List Nat) : Bool :=
  let L := ladR rs rs.length
  decide (L.counts.headD 0 < 64) && L.begs.all (fun b => decide (b.length ≤ 100)) && L.ways.all (fun b => decide (b.length ≤ 100))
theorem chk0 : (allR 0).all (fun l => chk (l ++ [0, 1])) = true := by decide +kernel
theorem chk1 : (allR 1).all (fun l => chk (l ++ [0, 1])) = true := by decide +kernel
theorem chk2 : (allR 2).all (fun l => chk (l ++ [0, 1])) = true := by decide +kernel
theorem chk3 : (allR 3).all (fun l => chk (l ++ [0, 1])) = true := by decide +kernel
theorem chk4 : (allR 4).all (fun l => chk (l ++ [0, 1])) = true := by decide +kernel
theorem chk_all (l : List Nat) (h : ∀ x ∈ l, x < 3) (hl : l.length ≤ 4) : chk (l ++ [0, 1]) = true := by
  have hm := mem_allR l h
  have : l.length = 0 ∨ l.length = 1 ∨ l.length = 2 ∨ l.length = 3 ∨ l.length = 4 := by omega
  rcases this with e | e | e | e | e <;> rw [e] at hm
  · exact List.all_eq_true.mp chk0 l hm
  · exact List.all_eq_true.mp chk1 l hm
  · exact List.all_eq_true.mp chk2 l hm
  · exact List.all_eq_true.mp chk3 l hm
  · exact List.all_eq_true.mp chk4 l hm
structure LadFacts (L : Lad3) (t : List Nat) : Prop where
  count : L.counts[0]? = some ((wordsOf t).length : Int)
  lt64 : (wordsOf t).length < 64
  spell : ∀ (n : Nat) (x : List Nat), (wordsOf t)[n]? = some x → spellL L.ways L.begs 20 0 (n : Int) [] = some x
  bnd : (∀ b ∈ L.begs, b.length ≤ 100) ∧ (∀ r ∈ L.ways, r.length ≤ 100) ∧ L.ways.length ≤ 100 ∧ L.begs.length ≤ 100
theorem facts_of_chk {rs : List Nat} (hl : rs.length ≤ 19) (h3 : ∀ x ∈ rs, x < 3) (h : chk rs = true) : LadFacts (ladR rs rs.length) (rs.map (97 + ·)) := by
  unfold chk at h
  dsimp only at h
  simp only [Bool.and_eq_true, decide_eq_true_eq, List.all_eq_true] at h
  obtain ⟨⟨h1, h4⟩, h5⟩ := h
  have LI := lad_i rs rs.length (Nat.le_refl _)
  obtain ⟨c, W, B, e1, _, _, R⟩ := LI.row 0 (Nat.zero_le _)
  rw [Nat.sub_self, Nat.zero_add, List.drop_zero] at R
  have hc : c = ((dict rs).length : Int) := R.cnt
  have hh : (ladR rs rs.length).counts.headD 0 = c := by
    rw [List.headD_eq_head?_getD, List.head?_eq_getElem?, e1]; rfl
  have ew := words_dict h3
  refine ⟨?_, ?_, fun n x hx => ?_, h4, h5, by rw [LI.wl]; omega, by rw [LI.bl]; omega⟩
  · rw [e1, hc, ew]
  · rw [hh, hc] at h1
    rw [ew]; omega
  · rw [ew] at hx
    have := spell_dict rs 20 0 n [] x (Nat.zero_le _) (by omega) (by rw [List.drop_zero]; exact hx)
    rw [List.nil_append] at this
    exact this
theorem rz_ends : rz 0 = 0 ∧ rz 4 = 1 := by decide +kernel
theorem ltr_rz (cs : List Int) : cs.map ltr = (cs.map rz).map (97 + ·) := by
  rw [List.map_map]; rfl
theorem lad_facts (l : List Int) (hl : l.length ≤ 4) : LadFacts (ladK ((l ++ [0, 4]).map name6) ((l ++ [0, 4]).map name6).length) (tl (textOf (l ++ [0, 4]))) := by
  have h3 : ∀ x ∈ l.map rz, x < 3 := fun x hx => by obtain ⟨z, _, rfl⟩ := List.mem_map.mp hx; exact rz_lt z
  have hl2 : (l.map rz).length ≤ 4 := by rw [List.length_map]; exact hl
  have h := facts_of_chk (rs := l.map rz ++ [0, 1]) (by rw [List.length_append]; show _ + 2 ≤ 19; omega) (fun x hx => by
    rcases List.mem_append.mp hx with hx | hx
    · exact h3 x hx
    · simp only [List.mem_cons, List.not_mem_nil, or_false] at hx
      omega) (chk_all (l.map rz) h3 hl2)
  have e : l.map rz ++ [0, 1] = (l ++ [0, 4]).map rz := by
    rw [List.map_append, List.map_cons, List.map_cons, List.map_nil, rz_ends.1, rz_ends.2]
  rw [e] at h
  rw [lad_eq, List.length_map]
  rw [List.length_map] at h
  have e2 : tl (textOf (l ++ [0, 4])) = ((l ++ [0, 4]).map rz).map (97 + ·) := by
    rw [← ltr_rz]; rfl
  rw [e2]
  exact h
theorem words_len {xs : List Str} {t : List Nat} (hn : xs.Nodup) (hm : ∀ y : Str, y ∈ xs ↔ y.cps.toList.Sublist t) : xs.length = (wordsOf t).length := by
  have h1 : (xs.map (·.cps.toList)).Nodup := List.Pairwise.map _ (fun a b h e => h (cps_inj e)) hn
  have h2 : (wordsOf t).Nodup := (pw_words t).imp fun {a b} h e => by subst e; exact List.lt_irrefl _ h
  have hp : (xs.map (·.cps.toList)).Perm (wordsOf t) := by
    rw [List.perm_ext_iff_of_nodup h1 h2]
    intro y
    rw [mem_words]
    constructor
    · intro hy
      obtain ⟨x, hx, rfl⟩ := List.mem_map.mp hy
      exact (hm x).mp hx
    · intro hy
      exact List.mem_map.mpr ⟨⟨y.toArray⟩, (hm _).mpr (by simpa using hy), by simp⟩
  have := hp.length_eq
  rwa [List.length_map] at this
theorem due_at {due : List Str} {t : List Nat} (h : due.map (·.cps.toList) = wordsOf t) {n : Nat} {x : Str} (hx : due[n]? = some x) : (wordsOf t)[n]? = some x.cps.toList := by
  rw [← h, List.getElem?_map, hx]; rfl
end Mine
end partPln3

section partSlx
open PySem PySem.Spec PyProof.Rows PySem.StrLaws Builtin.Str
namespace Mine
theorem slice_tl {x : Str} {a b : Nat} (hab : a ≤ b) (hb : b ≤ x.length) : tl (Txt.slice x (some (a : Int)) (some (b : Int))) = ((tl x).take b).drop a := by
  have h := eq_of_beq (slice_closesL (x := x) (i := (a : Int)) (j := (b : Int)) (by omega) (by omega) (by omega))
  rw [h]
  show (((tl x).drop ((a : Int)).toNat).take ((b : Int) - (a : Int)).toNat) = _
  rw [List.drop_take, Int.toNat_natCast, show ((b : Int) - (a : Int)).toNat = b - a by omega]
theorem sl_mid {x : Str} {a : Nat} (h0 : 0 < a) (h : 2 * a ≤ x.length) : tl (Txt.slice x (some (a : Int)) (some (-(a : Int)))) = ((tl x).take (x.length - a)).drop a := by
  rw [← slice_tl (by omega) (by omega)]
  congr 1
  unfold Txt.slice
  rw [sliceIdx_neg_hi _ _ (by omega) (by omega), show -(a : Int) + (x.length : Int) = ((x.length - a : Nat) : Int) by omega]
theorem sl_to {x : Str} {b : Nat} (hb : b ≤ x.length) : tl (Txt.slice x none (some (b : Int))) = (tl x).take b := by
  have := slice_tl (x := x) (a := 0) (Nat.zero_le b) hb
  rw [List.drop_zero] at this
  rw [← this]
  congr 1
theorem sl_from {x : Str} {a : Nat} (ha : a ≤ x.length) : tl (Txt.slice x (some (a : Int)) none) = (tl x).drop a := by
  have := slice_tl (x := x) (a := a) (b := x.length) ha (Nat.le_refl _)
  rw [← len_tl, List.take_length] at this
  rw [← this]
  congr 1
  unfold Txt.slice
  rw [sliceIdx_none_hi, len_tl]
theorem sl_last {x : Str} {a : Nat} (h0 : 0 < a) (h : a ≤ x.length) : tl (Txt.slice x (some (-(a : Int))) none) = (tl x).drop (x.length - a) := by
  rw [← sl_from (by omega)]
  congr 1
  unfold Txt.slice
  rw [sliceIdx_neg_lo _ _ (by omega) (by omega), show -(a : Int) + (x.length : Int) = ((x.length - a : Nat) : Int) by omega]
theorem item_first {x : Str} {a : Nat} {r : List Nat} (h : tl x = a :: r) : Txt.item x 0 = ⟨#[a]⟩ := by
  have hl : 0 < x.length := by rw [← len_tl, h]; simp
  rw [PyProof.Rows.item_at (n := 0) (by omega) (by omega) rfl]
  have : x.cps.getD 0 0 = a := by
    have e : x.cps[0]? = some a := by rw [← Array.getElem?_toList]; show (tl x)[0]? = _; rw [h]; rfl
    rw [Array.getD_eq_getD_getElem?, e]; rfl
  rw [this]
theorem item_last {x : Str} {a : Nat} {r : List Nat} (h : tl x = r ++ [a]) : Txt.item x (-1) = ⟨#[a]⟩ := by
  have hl : x.length = r.length + 1 := by rw [← len_tl, h]; simp
  have e := eq_of_beq (item_closes_neg (x := x) (i := -1) (j := -1 + x.length) (by omega) (by omega) rfl)
  rw [e]
  have : x.cps.getD (-1 + (x.length : Int)).toNat 0 = a := by
    have e : x.cps[r.length]? = some a := by rw [← Array.getElem?_toList]; show (tl x)[r.length]? = _; rw [h]; simp
    rw [show (-1 + (x.length : Int)).toNat = r.length by omega, Array.getD_eq_getD_getElem?, e]; rfl
  rw [this]
theorem subs_len : ∀ t : List Nat, (subs t).length = 2 ^ t.length
  | [] => rfl
  | a :: t => by
    unfold subs
    rw [List.length_append, List.length_map, subs_len t, List.length_cons, Nat.pow_succ]; omega
theorem insU_len (w : List Nat) : ∀ l, (insU w l).length ≤ l.length + 1
  | [] => Nat.le_refl _
  | x :: r => by
    unfold insU
    split
    · exact Nat.le_refl _
    · split
      · simp
      · have := insU_len w r
        simp only [List.length_cons]; omega
theorem words_le (t : List Nat) : (wordsOf t).length ≤ 2 ^ t.length := by
  rw [← subs_len]
  unfold wordsOf
  induction subs t with
  | nil => exact Nat.le_refl _
  | cons a l ih =>
    rw [List.foldr_cons]
    have := insU_len a (List.foldr insU [] l)
    rw [List.length_cons]; omega
end Mine
end partSlx

section partElc
open PySem PySem.W PySem.Spec PySem.Calls PyProof.Rows
namespace Mine
set_option maxRecDepth 100000
theorem joinL_nil_cons {L : List (List Nat)} (h : L ≠ []) : joinL ([] :: L) = [46, 46, 46] ++ joinL L := by
  cases L with
  | nil => exact absurd rfl h
  | cons a r => rfl
theorem joinL_cons {p : List Nat} {L : List (List Nat)} (h : L ≠ []) : joinL (p :: L) = p ++ [46, 46, 46] ++ joinL L := by
  cases L with
  | nil => exact absurd rfl h
  | cons a r => rfl
theorem joinL_letters : ∀ w : List Nat, joinL (w.map ([·]) ++ [[]]) = w.flatMap fun c => [c, 46, 46, 46]
  | [] => rfl
  | c :: w => by
    rw [List.map_cons, List.cons_append, joinL_cons (by simp), joinL_letters w]; rfl
theorem joinL_last (q : List Nat) : ∀ w : List Nat, joinL (w.map ([·]) ++ [q]) = (w.flatMap fun c => [c, 46, 46, 46]) ++ q
  | [] => rfl
  | c :: w => by
    rw [List.map_cons, List.cons_append, joinL_cons (by simp), joinL_last q w]; simp
theorem tl_app (a b : Str) : tl (a ++ b) = tl a ++ tl b := by
  simp only [tl, PySem.Str.cps_append, Array.toList_append]
theorem tl_join0 : ∀ l : List Nat, tl (Str.join (Str.ofString "") (l.map fun c => (⟨#[c]⟩ : Str) ++ dots)) = l.flatMap fun c => [c, 46, 46, 46]
  | [] => rfl
  | [c] => by
    show tl ((⟨#[c]⟩ : Str) ++ dots) = _
    rw [tl_app]
    have : tl dots = [46, 46, 46] := tl_D3
    rw [this]; rfl
  | c :: d :: r => by
    show tl ((⟨#[c]⟩ : Str) ++ dots ++ Str.ofString "" ++ Str.join (Str.ofString "") ((d :: r).map fun c => (⟨#[c]⟩ : Str) ++ dots)) = _
    rw [tl_app, tl_app, tl_app, tl_join0 (d :: r)]
    have : tl dots = [46, 46, 46] := tl_D3
    rw [this]
    have e0 : tl (Str.ofString "") = [] := by decide
    rw [e0]
    rw [List.flatMap_cons (x := c)]
    have e1 : tl ⟨#[c]⟩ = [c] := rfl
    rw [e1]
    simp
theorem tl_dotted (x : Str) : tl (dotted x) = [46, 46, 46] ++ (tl x).flatMap fun c => [c, 46, 46, 46] := by
  unfold dotted
  rw [tl_app, tl_join0]
  have : tl dots = [46, 46, 46] := tl_D3
  rw [this]
theorem tl_dotted' (x : Str) : tl (dotted x) = joinL ([] :: ((tl x).map ([·]) ++ [[]])) := by
  rw [tl_dotted, joinL_nil_cons (by simp), joinL_letters]
theorem flat_len : ∀ l : List Nat, (l.flatMap fun c => [c, 46, 46, 46]).length = 4 * l.length
  | [] => rfl
  | c :: l => by
    simp only [List.flatMap_cons, List.length_append, List.length_cons, List.length_nil, flat_len l]
    omega
theorem dotted_len (x : Str) : (dotted x).length = 4 * x.length + 3 := by
  rw [← len_tl, tl_dotted, List.length_append, flat_len, len_tl]
  show 3 + _ = _
  omega
theorem map_no {w : List Nat} (h : 46 ∉ w) : ∀ z ∈ w.map ([·]), 46 ∉ z := by
  intro z hz
  obtain ⟨c, hc, rfl⟩ := List.mem_map.mp hz
  intro q
  exact h (by rw [List.mem_singleton.mp q]; exact hc)
section
variable {w : World} {mean : ExcName → Option Value} {mg mb : Str → Option Value} {x y : Str} {tkx tky : Tok} {news : Led}
theorem el_words (h : 46 ∉ tl x) (hx : x.length ≤ 20) (hy : y.length ≤ 100) :
    CallOK w mean mg mb (.ref 191) [.str (dotted x) tkx, .str y tky] [] news 1 8 (fun r n => n = news ∧ r = .bool (decide ((tl x).Sublist (tl y)))) := by
  rw [← em_one (tl y) (tl x)]
  exact ell_dots (tl_dotted' x) (map_no h) (by rw [dotted_len]; omega) hy
theorem el_behind {z : Str} (hz : tl z = [46, 46, 46] ++ (tl y).take 2 ++ tl (dotted x)) (h : 46 ∉ tl x) (hv : 46 ∉ tl y) (hx : x.length ≤ 20) (hy : y.length ≤ 100) (h2 : 2 ≤ y.length) :
    CallOK w mean mg mb (.ref 191) [.str z tkx, .str y tky] [] news 1 8 (fun r n => n = news ∧ r = .bool (decide ((tl x).Sublist ((tl y).drop 2)))) := by
  rw [← em_four (by rw [len_tl]; exact h2)]
  refine ell_dots ?_ ?_ ?_ hy
  · have e : joinL (List.take 2 (tl y) :: List.map ([·]) (tl x) ++ [[]]) = (tl y).take 2 ++ [46, 46, 46] ++ (tl x).flatMap fun c => [c, 46, 46, 46] := by
      rw [List.cons_append, joinL_cons (by simp), joinL_letters]
    rw [hz, tl_dotted, joinL_nil_cons (by simp), e]
    simp only [List.append_assoc]
  · intro q hq
    rcases List.mem_cons.mp hq with rfl | hq
    · exact fun hm => hv (List.mem_of_mem_take hm)
    · exact map_no h q hq
  · rw [← len_tl, hz, List.length_append, List.length_append, len_tl, dotted_len, List.length_take]
    have : [46, 46, 46].length = 3 := rfl
    omega
theorem el_within {z : Str} (hz : tl z = (tl y).take 2 ++ tl (dotted x) ++ (tl y).drop (y.length - 2)) (h : 46 ∉ tl x) (hv : 46 ∉ tl y) (hx : x.length ≤ 20) (hy : y.length ≤ 20) (h2 : 2 ≤ y.length) :
    CallOK w mean mg mb (.ref 191) [.str z tkx, .str y tky] [] news 1 8 (fun r n => n = news ∧ r = .bool (decide (4 ≤ (tl y).length) && decide ((tl x).Sublist (((tl y).take ((tl y).length - 2)).drop 2)))) := by
  rw [← em_three (by rw [len_tl]; exact h2)]
  refine ell_ends ?_ (map_no h) (fun hm => hv (List.mem_of_mem_take hm)) (fun hm => hv (List.mem_of_mem_drop hm)) ?_ ?_ ?_ (by omega)
  · rw [hz, tl_dotted, joinL_cons (by simp), joinL_last, len_tl]
    simp only [List.append_assoc]
  · intro e
    have := congrArg List.length e
    rw [List.length_take, len_tl] at this
    simp only [List.length_nil] at this
    omega
  · intro e
    have := congrArg List.length e
    rw [List.length_drop, len_tl] at this
    simp only [List.length_nil] at this
    omega
  · rw [← len_tl, hz, List.length_append, List.length_append, len_tl, dotted_len, List.length_take, List.length_drop, len_tl]
    omega
theorem tl_signs (x : Str) : tl (Txt.join D3 (signs x)) = joinL ((tl x).map ([·])) := by
  have e1 : Txt.join D3 (signs x) = Str.join D3 (signs x) := PySem.StrLaws.glued_eq_join _ _
  rw [e1, tl_join]
  unfold signs
  rw [List.map_map]; rfl
/-- with dots between alone: the first letter, a word of what is between, the last letter -/
theorem el_closed {x0 xl : Nat} {mm : List Nat} {b : Bool} (hty : tl y = x0 :: (mm ++ [xl])) (h : 46 ∉ tl x) (hx : x.length ≤ 20) (hy : y.length ≤ 100) (hb : b = true ↔ ∃ u : List Nat, u.Sublist mm ∧ tl x = x0 :: (u ++ [xl])) :
    CallOK w mean mg mb (.ref 191) [.str (Txt.join D3 (signs x)) tkx, .str y tky] [] news 1 8 (fun r n => n = news ∧ r = .bool b) := by
  have hts := tl_signs x
  have hyl : 2 ≤ y.length := by rw [← len_tl, hty]; simp
  have short : ∀ (z : Str), 46 ∉ tl z → z.length < 2 → (¬ ∃ u : List Nat, u.Sublist mm ∧ tl x = x0 :: (u ++ [xl])) → CallOK w mean mg mb (.ref 191) [.str z tkx, .str y tky] [] news 1 8 (fun r n => n = news ∧ r = .bool b) := by
    intro z hz hl hn
    have e : b = (z == y) := by
      have e1 : b = false := by
        cases b with
        | false => rfl
        | true => exact absurd (hb.mp rfl) hn
      rw [e1]
      symm
      rw [beq_eq_false_iff_ne]
      rintro rfl
      omega
    rw [e]
    exact ell_one hz
  match hw : tl x with
  | [] =>
    rw [hw] at hts
    refine short _ (by rw [hts]; simp [joinL]) (by rw [← len_tl, hts]; simp [joinL]) ?_
    rintro ⟨u, _, q⟩
    rw [hw] at q; cases q
  | [c] =>
    rw [hw] at hts
    refine short _ (by rw [hts]; rw [hw] at h; simpa [joinL] using h) (by rw [← len_tl, hts]; simp [joinL]) ?_
    rintro ⟨u, _, q⟩
    rw [hw] at q
    have := congrArg List.length q
    simp at this
  | c :: d :: r =>
    obtain ⟨mid, l, hml⟩ : ∃ mid l, d :: r = mid ++ [l] := ⟨(d :: r).dropLast, (d :: r).getLast (by simp), (List.dropLast_concat_getLast (by simp)).symm⟩
    rw [hml] at hw
    rw [hw] at hts
    have h46 : 46 ∉ c :: (mid ++ [l]) := hw ▸ h
    have hmid : 46 ∉ mid := fun q => h46 (by simp [q])
    have e : b = emEnds (tl y) [c] (mid.map ([·])) [l] := by
      rw [em_two hty, Bool.eq_iff_iff, hb, decide_eq_true_iff, hw]
      constructor
      · rintro ⟨u, hu, q⟩
        obtain ⟨q1, q2⟩ := List.cons.inj q
        obtain ⟨q3, q4⟩ := List.append_inj' q2 rfl
        exact ⟨q1, (List.cons.inj q4).1, q3 ▸ hu⟩
      · rintro ⟨rfl, rfl, hu⟩
        exact ⟨mid, hu, rfl⟩
    rw [e]
    refine ell_ends ?_ (map_no hmid) ?_ ?_ (by simp) (by simp) ?_ hy
    · rw [hts]; simp
    · intro q; exact h46 (by rw [List.mem_singleton.mp q]; exact List.mem_cons_self ..)
    · intro q; exact h46 (by rw [List.mem_singleton.mp q]; simp)
    · have hl : mid.length + 2 = x.length := by rw [← len_tl, hw]; simp
      have e2 : (c :: (mid ++ [l])).map ([·]) = (c :: mid).map ([·]) ++ [[l]] := by simp
      rw [← len_tl, hts, e2, joinL_last, List.length_append, flat_len, List.length_cons]
      show _ + 1 ≤ 100
      omega
end
end Mine
end partElc

section partFabc
open PySem PySem.W PySem.Spec PySem.Calls PyProof.Rows
namespace Mine
set_option maxRecDepth 100000
section
variable {prog : Program} {w : World} {A : Around} {s : Shared} {env : Env}
/-- a `for` loop over the signs of a written text -/
theorem For_str {x : Str} {px : Pos} {z : Str} {kd : Nat} {pz : Pos} {body : List Stmt} {pos : Pos} {Q : Flow → Shared → Prop} {h₀ : Heap} {m : Str → Option Value} {news : List (Addr × Obj)}
    (J : Nat → (Str → Option Value) → List (Addr × Obj) → Prop)
    (hx : env.kindOf x = some .local) (hp : (env.scope.kind == .class || (env.scope.kind == .module && env.locals != env.globals)) = false) (hh : A.handled = none)
    (F : Fr h₀ env.locals s.heap m) (N : News h₀ env.locals s.heap news) (h0 : J 0 m news)
    (turn : ∀ i c t m₁ news₁ h tk I oI, z.cps[i]? = some c → J i m₁ news₁ → Fr h₀ env.locals h (fun y => if y = x then some (.str ⟨#[c]⟩ t) else m₁ y) → News h₀ env.locals h ((I, oI) :: news₁) → (∀ p ∈ news₁, p.1 ≠ I) →
      wpAny (model prog w) A (execs body env) (LPost h₀ env.locals s I oI (J (i + 1)) Q) nof { s with heap := h, toks := tk })
    (done : ∀ h tk m' news', Fr h₀ env.locals h m' → News h₀ env.locals h news' → J z.cps.size m' news' → Q .next { s with heap := h, toks := tk })
    (hs : ∀ x, foldedSetIterable (.Constant (.str z) kd pz) env x = pure x := by intro _; rfl) :
    wpAny (model prog w) A (exec (.For (.Name x px) (.Constant (.str z) kd pz) body [] pos) env) Q nof s := by
  refine For_my ?_ hs
  refine Constant_str ?_
  refine pyIter_str' fun oI St hIo W st0 => ?_
  dsimp only at hIo W st0 ⊢
  have hnew : h₀.get? s.heap.objs.size = none := next_is_new F
  have hLlt : env.locals < s.heap.objs.size := F.ns.lt
  obtain ⟨oJ, hoJ⟩ := hIo _ _ st0
  refine For_pass (h₀ := h₀) (m := m) (news := news) (oI := oJ) J hx hp (W A hh) (fun i h h' m₁ news₁ hj hn st e => ?_) (fun i h st => hIo i h st) ?_ st0 (F.push _) ?_ (fun p hp => Nat.ne_of_lt (Heap.lt_size (N p hp).1)) h0 ?_ ?_
  · refine (W A hh).frame _ _ _ st fun b hb o q => ?_
    rw [List.mem_singleton.mp hb] at q ⊢
    rw [e]; exact q
  · intro hm
    exact absurd (List.mem_singleton.mp hm) (Nat.ne_of_lt hLlt)
  · intro p hp
    rcases List.mem_cons.mp hp with rfl | hp
    · exact ⟨hoJ, Nat.ne_of_gt hLlt, hnew⟩
    · exact ⟨Heap.get?_push_of_some _ (N p hp).1, (N p hp).2⟩
  · rintro i v m₁ news₁ h tk oI2 hi ⟨c, u, hc, rfl⟩ hj F1 N1 off
    exact turn i c _ m₁ news₁ h tk _ oI2 hc hj F1 N1 off
  · intro h tk m' news' F1 N1 hj
    exact done h tk m' news' F1 N1 hj
end
end Mine
end partFabc

section partTop
open PySem PySem.W PySem.Spec PySem.Calls PyProof.Rows
namespace Mine
set_option maxRecDepth 100000
set_option maxHeartbeats 8000000
local macro_rules | `(tactic| walk_at "call builtin:str.join") => `(tactic| refine Stop.of ?_)
local macro_rules | `(tactic| walk_at "call builtin:sorted") => `(tactic| refine Stop.of ?_)
local macro_rules | `(tactic| walk_at "subscriptTail Name Constant ref int") => `(tactic| refine Stop.of ?_)
local macro_rules | `(tactic| walk_at "subscriptTail Name Name ref int") => `(tactic| refine Stop.of ?_)
local macro_rules | `(tactic| walk_at "exec For Name Call cons nil") => `(tactic| refine Stop.of ?_)
local macro_rules | `(tactic| walk_at "exec For Name Name cons nil") => `(tactic| refine Stop.of ?_)
local macro_rules | `(tactic| walk_at "eval SetComp") => `(tactic| refine Stop.of ?_)
local macro_rules | `(tactic| walk_at "call builtin:len") => `(tactic| ((with_reducible show wpAny _ _ (call (Value.builtin "len") [Value.ref _]) _ _ _); refine Stop.of ?_))
local macro_rules | `(tactic| walk_at "call ref") => `(tactic| refine Stop.of ?_)
local macro_rules | `(tactic| walk_at "eval ListComp") => `(tactic| refine Stop.of ?_)
local macro_rules | `(tactic| walk_at "eval IfExp") => `(tactic| refine Stop.of ?_)
local macro_rules | `(tactic| walk_at "exec For Name Constant cons nil") => `(tactic| refine Stop.of ?_)
local macro_rules | `(tactic| walk_at "compareOp In str ref") => `(tactic| refine Stop.of ?_)
theorem isnot_same {w : World} {A : Around} {E : Value → Shared → Prop} {s : Shared} {c d : Bool} {Q : Value → Shared → Prop} (e : c = d) (h : Q (.bool false) s) : wpAny (model PG w) A (compareOp .IsNot (.bool c) (.bool d)) Q E s := by
  subst e
  exact isnot_bool (by rw [bne_self_eq_false]; exact h)
theorem two_ends {l : List Nat} (h : 2 ≤ l.length) : ∃ x0 mm xl, l = x0 :: (mm ++ [xl]) := by
  match l, h with
  | a :: b :: r, _ => exact ⟨a, (b :: r).dropLast, (b :: r).getLast (by simp), by rw [List.dropLast_concat_getLast]⟩
theorem no46 (cs : List Int) : 46 ∉ tl (textOf cs) := by
  intro h
  have h' : 46 ∈ cs.map ltr := h
  obtain ⟨z, _, e⟩ := List.mem_map.mp h'
  unfold ltr at e
  omega
theorem abc_no {i c : Nat} (h : (Str.ofString "abc").cps[i]? = some c) : c ≠ 46 := by
  have hm : c ∈ (Str.ofString "abc").cps.toList := by
    rw [← Array.getElem?_toList] at h
    exact List.mem_of_getElem? h
  have e : (Str.ofString "abc").cps.toList = [97, 98, 99] := by decide
  rw [e] at hm
  simp only [List.mem_cons, List.not_mem_nil, or_false] at hm
  omega
noncomputable def InSet (w : World) (o : Obj) (S : Str → Bool) : Prop := ∃ n, n < 1000 ∧ o.SetObjOf (PySem.strKind PG w) S n
theorem InSet.of {w : World} {o : Obj} {xs : List Str} {S : Str → Bool} (h : SObj PG w o xs) (hl : xs.length ≤ 64) (hS : ∀ y, S y = decide (y ∈ xs)) : InSet w o S := by
  have e : S = fun y => decide (y ∈ xs) := funext hS
  rw [e]
  exact ⟨xs.length, by omega, h.objOf⟩
theorem in_set {w : World} {A : Around} {E : Value → Shared → Prop} {s : Shared} {a : Addr} {o : Obj} {S : Str → Bool} {x : Str} {tk : Tok} {Q : Value → Shared → Prop} (ho : s.heap.get? a = some o) (hS : InSet w o S) (h : Q (.bool (S x)) { s with toks := s.toks + 1 }) :
    wpAny (model PG w) A (compareOp .In (.str x tk) (.ref a)) Q E s := by
  obtain ⟨n, hn, hS⟩ := hS
  exact wpAny_inSet_of (knd := PySem.strKind PG w) (k := x) (strKind_is PG w x tk) rfl (hS.setOf ho (by unfold scanBound; omega)) h
noncomputable def WithinPost (w : World) (h₀ : Heap) (L : Addr) (m : Str → Option Value) (news : Led) (S : Str → Bool) (s : Shared) (v : Value) (s' : Shared) : Prop :=
  ∃ (a : Addr) (o : Obj) (h' : Heap) (dr' : Drawn) (tk' : Nat), v = .ref a ∧ s' = { s with heap := h', drawn := dr', toks := tk' } ∧ Fr h₀ L h' m ∧ News h₀ L h' ((a, o) :: news) ∧ InSet w o S
theorem within_mono {w : World} {A : Around} {h₀ : Heap} {L : Addr} {m : Str → Option Value} {news : Led} {S : Str → Bool} {s : Shared} {t : Sem Value} {Q E : Value → Shared → Prop} (_ : Fr h₀ L s.heap m)
    (h : wpAny (model PG w) A t (WithinPost w h₀ L m news S s) nof s)
    (k : ∀ a o h' dr' tk', Fr h₀ L h' m → News h₀ L h' ((a, o) :: news) → InSet w o S → Q (.ref a) { s with heap := h', drawn := dr', toks := tk' }) : wpAny (model PG w) A t Q E s :=
  wpAny_mono h (fun v s' q => by
    obtain ⟨a, o, h', dr', tk', rfl, rfl, F, N, I⟩ := q
    exact k a o h' dr' tk' F N I) fun _ _ e => e.elim
theorem to_ktr {w : World} {cn : Str} {cs : Scope} {L a : Addr} {ccd : Value} {α : Type} {t : Sem α} {Q : α → Shared → Prop} {E : Value → Shared → Prop} {s : Shared}
    (h : wpAny (model PG w) (ktrTop (callerA.depth + 1) 7 (some []) cn cs L a ccd (cellsFrom (L + 1) cs.names []) []) t Q E s) :
    wpAny (model PySem.Challenge.rw_pg0269_01.row.prog w) (callerA.deeper (envOfC cn cs L a ccd)) t Q E s := h
theorem spok6 : ∀ x ∈ names6, SpOk x := by
  intro x hx
  simp only [names6, List.mem_cons, List.not_mem_nil, or_false] at hx
  unfold SpOk lowOk
  rcases hx with rfl | rfl | rfl | rfl | rfl | rfl <;> decide +kernel
theorem name6_ok (z : Int) : SpOk (name6 z) := by
  have h0 : 0 ≤ z.fmod 6 := Int.fmod_nonneg_of_pos z (by decide)
  have h6 : z.fmod 6 < 6 := Int.fmod_lt_of_pos z (by decide)
  refine spok6 _ ?_
  unfold name6
  have hlt : (z.fmod 6).toNat < names6.length := by show (z.fmod 6).toNat < 6; omega
  rw [List.getD_eq_getElem?_getD, List.getElem?_eq_getElem hlt]
  exact List.getElem_mem _
theorem small_up64 : ∀ k : Nat, k < 64 → Builtin.Range.small 0 (k : Int) 1 = true := by decide +kernel
noncomputable def RefI (a : Addr) (x : Str) (m : Str → Option Value) : Prop := m x = some (.ref a)
theorem depth_ok : callerA.depth + 1 + 10 < recursionLimit := by decide +kernel
theorem units_ok : 7 + 80 < cLine := by decide +kernel
theorem row_holds : PySem.Challenge.rw_pg0269_01.Holds := by
  refine hd ?_
  k_go0
  all_goals try k_fold
  refine to_ktr ?_
  refine wpAny_mono (E := nof) ?_ (fun _ _ q => q) fun _ _ f => f.elim
  rename Below callerA _ _ _ => B
  rename Top _ _ _ _ _ _ => T
  rename Frag.In _ _ => X
  have hdp := depth_ok
  have hun := units_ok
  rename Obj => oc
  rename _ = Data.cell _ => hoc
  rename CellsAre _ _ _ => Y
  clear Y
  w_strict (k_steps)
  unfold Stop
  rename Fr _ _ _ _ => F
  rename News _ _ _ _ => N
  rename IntsAre _ (List.take 4 _ ++ [0, 4]) => hcells
  rename List Int => script
  rename_i Dc vs _ hlD _
  generalize hcs : List.take 4 script ++ [0, 4] = cs at hcells
  have hcl : cs.length ≤ 6 := by
    rw [← hcs, List.length_append, List.length_take]
    show min 4 _ + 2 ≤ 6
    omega
  refine comp_ints (D := Dc) (vs := vs) (c := 0) (cs := cs) (fun z => Txt.item (Str.ofString "abc") (z.fmod 3)) (by exact rfl) (by exact rfl) (by decide) rfl (by decide) rfl F N (List.mem_cons_self ..) hcells (by omega) (fun Q' hq => wpAny_Name (wpAny_loadName_local rfl rfl F.ns rfl hq)) ?_ ?_
  · intro C z t s₃ m₃ E' hz F3 hm
    have F4 := Fr_pin F3 hm
    clear F F3 N
    w_strict (k_steps)
    rotate_left 4
    · exact ⟨_, _, rfl, fun _ _ e => e⟩
    all_goals first | exact (0 : Nat) | exact Value.none | exact Str.ofString "" | exact []
  intro D2 h2 tk2 rs c2 F2 N2 hlt2 hrs
  clear F N
  dsimp only
  have hrs2 : StrsAre rs (cs.map fun z => (⟨#[ltr z]⟩ : Str)) := by
    have e : (cs.map fun z => Txt.item (Str.ofString "abc") (z.fmod 3)) = cs.map fun z => (⟨#[ltr z]⟩ : Str) := List.map_congr_left fun z _ => item_abc z
    rw [← e]; exact hrs
  w_strict (k_steps)
  unfold Stop
  have hsum : ∀ l : List Int, ((l.map fun z => (⟨#[ltr z]⟩ : Str)).map (·.length)).sum = l.length := by
    intro l
    induction l with
    | nil => rfl
    | cons a r ih => rw [List.map_cons, List.map_cons, List.sum_cons, ih]; show 1 + r.length = r.length + 1; omega
  refine join_listC ⟨_, (N2 _ (List.mem_cons_self ..)).1, rfl, c2, rfl⟩ hrs2 (by decide) ?_ fun t3 k3 => ?_
  · rw [hsum, List.length_map]; omega
  rw [join_text]
  dsimp only
  clear hrs
  w_strict (k_steps)
  refine wpAny_storeName_cell rfl rfl rfl ⟨oc, (N2 (_, oc) (by simp)).1, hoc⟩ fun h3 hcell sb => ?_
  dsimp only at sb
  obtain ⟨oc2, hg2, hoc2⟩ := hcell
  rename Shared => s1
  have hL0 : s1.heap.get? (s1.heap.objs.size + 1) = none := fresh_none (Nat.le_succ _)
  have F3 := Fr.change F2 sb (Nat.succ_ne_self _) hL0
  have N3 : News s1.heap s1.heap.objs.size h3 [(Dc, PySem.W.listOf vs.toArray 0), (s1.heap.objs.size + 1, oc2)] := fun p hp => by
    simp only [List.mem_cons, List.not_mem_nil, or_false] at hp
    rcases hp with rfl | rfl
    · have q := N2 (Dc, PySem.W.listOf vs.toArray 0) (by simp)
      exact ⟨(sb.2 Dc (Nat.ne_of_gt hlD.2.2)).trans q.1, q.2⟩
    · exact ⟨hg2, Nat.succ_ne_self _, hL0⟩
  clear F2 N2
  w_strict (k_steps)
  unfold Stop
  rename Fr _ _ _ _ => F4
  rename News _ _ _ _ => N4
  refine comp_ints (D := Dc) (vs := vs) (c := 0) (cs := cs) name6 (by exact rfl) (by exact rfl) (by decide) rfl (by decide) rfl F4 N4 (List.mem_cons_self ..) hcells (by omega) (fun Q' hq => wpAny_Name (wpAny_loadName_local rfl rfl F4.ns rfl hq)) ?_ ?_
  · intro C z t s₃ m₃ E' hz F5 hm
    exact name_elt rfl rfl F5 hm
  intro D3 h4 tk4 rs2 c3 F5 N5 hlt5 hrs3
  clear F4 N4
  dsimp only
  w_strict (k_steps)
  unfold Stop
  have hl2 : rs2.length = cs.length := by have := StrsAre.length hrs3; rw [List.length_map] at this; exact this
  have hsp : ∀ x ∈ cs.map name6, SpOk x := by
    intro x hx
    obtain ⟨z, _, rfl⟩ := List.mem_map.mp hx
    exact name6_ok z
  refine use_call (lad_ok (nl := c3) hrs3 (List.mem_cons_self ..) (by omega) hsp) B F5 X N5 T rfl (by omega) (by omega) fun r n5 h5 tk5 F6 N6 hr => ?_
  obtain ⟨tL, aC, aW, aB, rfl, htL, hC, hW, hBg, hsubL⟩ := hr
  clear F5 N5
  have hn1 : (Dc, PySem.W.listOf vs.toArray 0) ∈ n5 := hsubL _ (by simp)
  have hn2 : (s1.heap.objs.size + 1, oc2) ∈ n5 := hsubL _ (by simp)
  have N7 : News s1.heap s1.heap.objs.size h5 ((tL, tupO [.ref aC, .ref aW, .ref aB]) :: (s1.heap.objs.size + 1, oc2) :: n5) := fun p hp => by
    rcases List.mem_cons.mp hp with rfl | hp
    · exact N6 _ htL
    rcases List.mem_cons.mp hp with rfl | hp
    · exact N6 _ hn2
    · exact N6 _ hp
  clear N6
  dsimp only
  w_strict (k_steps)
  unfold Stop
  rename Fr _ _ _ _ => F8
  rename News _ _ _ _ => N8
  have htl : (textOf cs).cps.size ≤ 6 := by
    show ((cs.map ltr).toArray).size ≤ 6
    rw [List.size_toArray, List.length_map]; exact hcl
  refine use_callD (scat_ok htl) B F8 X N8 T rfl (by omega) (by omega) fun r n6 h6 dr6 tk6 F9 N9 hr => ?_
  obtain ⟨aS, oS, xsW, rfl, rfl, hltS, hSW, hmW⟩ := hr
  clear F8 N8
  dsimp only
  w_strict (k_steps)
  try unfold Stop
  rename Fr _ _ _ _ => F8
  rename News _ _ _ _ => N8
  have LF : LadFacts (ladK (cs.map name6) (cs.map name6).length) (tl (textOf cs)) := by
    rw [← hcs]; exact lad_facts (script.take 4) (by rw [List.length_take]; omega)
  have h64 : xsW.length < 64 := by rw [words_len hSW.nodup hmW]; exact LF.lt64
  refine s_sorted (by exact rfl) F8 N8 (N8 (aS, oS) (List.mem_cons_self ..)).1 hSW h64 fun aD h7 dr7 tk7 vD due eD F10 N10 hltD hdue hdl hperm hsorted => ?_
  clear F8 N8
  dsimp only
  w_strict (k_steps)
  unfold Stop
  rename Fr _ _ _ _ => F8
  rename News _ _ _ _ => N8
  obtain ⟨lad, hlad⟩ : ∃ lad, ladK (cs.map name6) (cs.map name6).length = lad := ⟨_, rfl⟩
  rw [hlad] at hC hW hBg LF
  have hmD : ∀ y : Str, y ∈ due ↔ y.cps.toList.Sublist (tl (textOf cs)) := fun y => hperm.mem_iff.trans (hmW y)
  have hdW : due.map (·.cps.toList) = wordsOf (tl (textOf cs)) := due_words hsorted (hperm.nodup_iff.mpr hSW.nodup) hmD
  have hcount : lad.counts[0]? = some (due.length : Int) := by
    rw [LF.count, ← hdW, List.length_map]
  have hspell : ∀ (n : Nat) (x : Str), due[n]? = some x → spellL lad.ways lad.begs 20 0 (n : Int) [] = some x.cps.toList := fun n x hx => LF.spell n _ (due_at hdW hx)
  have hbnd : (∀ b ∈ lad.begs, b.length ≤ 100) ∧ (∀ r ∈ lad.ways, r.length ≤ 100) ∧ lad.ways.length ≤ 100 ∧ lad.begs.length ≤ 100 := LF.bnd
  have hvdl : vD.length = due.length := StrsAre.length hdue
  have hd64 : due.length < 64 := by rw [← hvdl, hdl]; exact h64
  obtain ⟨aC2, cv, nC, e1, hmC, hCi⟩ := hC
  cases e1
  obtain ⟨tc0, htc0⟩ := ints_at hCi hcount
  refine itemK (j := 0) (N8 (aC, PySem.W.listOf cv.toArray nC) (by simp [hmC])).1 htc0 rfl (by omega) ?_
  dsimp only
  w_strict (k_steps)
  unfold Stop
  refine len_list (News.isList N8 (List.mem_cons_self ..)) (by simp only [List.size_toArray]; omega) ?_
  rw [show vD.toArray.size = due.length by rw [List.size_toArray]; exact hvdl]
  w_strict (k_steps)
  unfold Stop
  refine For_rng (h₀ := s1.heap) (by intro _; rfl) (by exact rfl) ?_
  w_strict (k_steps)
  unfold Stop
  rename Fr _ _ _ _ => F11
  rename News _ _ _ _ => N11
  refine len_list (News.isList N11 (List.mem_cons_self ..)) (by simp only [List.size_toArray]; omega) ?_
  rw [show vD.toArray.size = due.length by rw [List.size_toArray]; exact hvdl]
  w_strict (k_steps)
  rename IsRange _ _ _ _ _ _ _ _ => hr3
  rename Fr _ _ _ _ => F12
  rename News _ _ _ _ => N12
  unfold RngPost
  refine ⟨_, _, _, _, _, _, _, due.length, _, ((aD, PySem.W.listOf vD.toArray eD) :: (aS, oS) :: (tL, tupO [Value.ref aC, Value.ref aW, Value.ref aB]) :: (s1.heap.objs.size + 1, oc2) :: n5), fun i m₁ news₁ => news₁ = ((aD, PySem.W.listOf vD.toArray eD) :: (aS, oS) :: (tL, tupO [Value.ref aC, Value.ref aW, Value.ref aB]) :: (s1.heap.objs.size + 1, oc2) :: n5) ∧ m₁ (Str.ofString "due") = some (.ref aD) ∧ m₁ (Str.ofString "words") = some (.ref aS) ∧ m₁ (Str.ofString "ways") = some (.ref aW) ∧ m₁ (Str.ofString "begins") = some (.ref aB), rfl, hr3, small_up64 _ hd64, size_up _, F12, N12, ⟨rfl, rfl, rfl, rfl, rfl⟩, by exact rfl, by exact rfl, by exact rfl, ?_, ?_⟩
  · rintro k t m₁ news₁ h8 tk8 I2 oI hk2 ⟨rfl, e1, e2, e3, e4⟩ F13 N13 off
    have F14 := Fr_pin (Fr_pin (Fr_pin (Fr_pin F13 (x := Str.ofString "due") (by exact e1)) (x := Str.ofString "words") (by exact e2)) (x := Str.ofString "ways") (by exact e3)) (x := Str.ofString "begins") (by exact e4)
    clear F13 F12 N12
    w_strict (k_steps)
    unfold Stop
    have hkd : due[k]? = some due[k] := List.getElem?_eq_getElem hk2
    have hsub : ∀ p ∈ n5, p ∈ (I2, oI) :: (aD, PySem.W.listOf vD.toArray eD) :: (aS, oS) :: (tL, tupO [Value.ref aC, Value.ref aW, Value.ref aB]) :: (s1.heap.objs.size + 1, oc2) :: n5 := fun p hp => by simp [hp]
    have hW2 : WaysOf ((I2, oI) :: (aD, PySem.W.listOf vD.toArray eD) :: (aS, oS) :: (tL, tupO [Value.ref aC, Value.ref aW, Value.ref aB]) :: (s1.heap.objs.size + 1, oc2) :: n5) (.ref aW) lad.ways := LsOf.mono hW hsub fun u x q => LsOf.mono q hsub fun u x q => PairOf.mono q hsub
    have hB2 : BegsOf ((I2, oI) :: (aD, PySem.W.listOf vD.toArray eD) :: (aS, oS) :: (tL, tupO [Value.ref aC, Value.ref aW, Value.ref aB]) :: (s1.heap.objs.size + 1, oc2) :: n5) (.ref aB) lad.begs := LsOf.mono hBg hsub fun u x q => IntsOf.mono q hsub
    rw [show ((0 : Int) + (k : Int) * 1) = (k : Int) by omega] at F14 ⊢
    refine use_call (spell_ok hW2 hB2 (f := 20) (by decide) hbnd.1 hbnd.2.1 hbnd.2.2.1 hbnd.2.2.2 (hspell k _ hkd)) B F14 X N13 T rfl (by omega) (by omega) fun r n h9 tk9 F15 N15 hr => ?_
    obtain ⟨rfl, t9, rfl⟩ := hr
    clear F14
    dsimp only
    w_strict (k_steps)
    unfold Stop
    obtain ⟨q, td, hq, htd⟩ := str_at hdue (List.getElem?_eq_getElem (show k < vD.length by omega))
    rw [hkd] at hq
    cases hq
    refine itemK (j := k) (N15 (aD, PySem.W.listOf vD.toArray eD) (by simp)).1 (by rw [List.getElem?_eq_getElem (show k < vD.length by omega), htd]) rfl (by omega) ?_
    rw [show (⟨due[k].cps.toList.toArray⟩ : Str) = due[k] by rw [Array.toArray_toList]]
    w_strict (k_steps)
    · rename (_ != _) = true => hne
      rw [bne_self_eq_false] at hne
      cases hne
    · rename Fr _ _ _ _ => F16
      rename News _ _ _ _ => N16
      unfold LPost
      dsimp only
      refine LEnd.intro (h₀ := s1.heap) (L := s1.heap.objs.size) F16 N16 _ (fun p hp => hp) off ?_
      exact ⟨rfl, rfl, rfl, rfl, rfl⟩
  · rintro h8 tk8 m₂ news₂ F13 N13 ⟨rfl, e1, e2, e3, e4⟩
    have F14 := Fr_pin (Fr_pin (Fr_pin (Fr_pin F13 (x := Str.ofString "due") (by exact e1)) (x := Str.ofString "words") (by exact e2)) (x := Str.ofString "ways") (by exact e3)) (x := Str.ofString "begins") (by exact e4)
    clear F13 F12 N12
    dsimp only
    w_strict (k_steps)
    have htx : 2 ≤ (textOf cs).length ∧ (textOf cs).length ≤ 6 := by
      have e : (textOf cs).length = cs.length := by
        show ((cs.map ltr).toArray).size = cs.length
        rw [List.size_toArray, List.length_map]
      rw [e]
      refine ⟨?_, hcl⟩
      rw [← hcs, List.length_append]
      show 2 ≤ _ + 2
      omega
    refine s_compA (fun y => Txt.item (textOf cs) 0 ++ y ++ Txt.item (textOf cs) (-1)) (cl := [(Str.ofString "text", s1.heap.objs.size + 1)]) ?hh ?hclos ?hcell ?hkind ?hnames ?hx ?hsw ?hy ?hp0 ?_
    case hh => exact rfl
    case hclos => exact rfl
    case hcell => decide
    case hkind => exact rfl
    case hnames => decide
    case hx => exact rfl
    case hy => exact rfl
    case hp0 => exact rfl
    case hsw => exact rfl
    w_strict (k_steps)
    unfold Stop
    rename Fr _ _ _ _ => F15
    rename News _ _ _ _ => N15
    have hsl : ∀ (l u : Option Int), (Txt.slice (textOf cs) l u).cps.size ≤ 6 := fun l u => Nat.le_trans (Txt.slice_le (textOf cs) l u) htx.2
    have hsmall : ∀ (xs : List Str) (y : Str), xs.Nodup → y.cps.size ≤ 6 → (∀ z : Str, z ∈ xs ↔ z.cps.toList.Sublist y.cps.toList) → xs.length ≤ 64 := by
      intro xs y hn hy hm
      rw [words_len hn hm]
      refine Nat.le_trans (words_le _) ?_
      rw [Array.length_toList]
      exact Nat.pow_le_pow_right (n := 2) (by decide) hy
    refine use_callD (scat_ok (hsl _ _)) B F15 X N15 T rfl (by omega) (by omega) fun r n9 h9 dr9 tk9 F16 N16 hr => ?_
    obtain ⟨aI, oI, xsI, rfl, rfl, hltI, hSI, hmI⟩ := hr
    refine ⟨aI, oI, xsI, _, F16.ns, rfl, (N16 (aI, oI) (List.mem_cons_self ..)).1, hSI, Nat.le_trans (hsmall _ _ hSI.nodup (hsl _ _) hmI) (by decide), ?_, ?_⟩
    · intro C s₃ m₃ y tk E' hy hC hn3 hm3 hk3
      dsimp only at hC hk3
      have hL1 : s1.heap.objs.size + 1 < C := Nat.lt_of_lt_of_le (Heap.lt_size (N16 (s1.heap.objs.size + 1, oc2) (by simp)).1) hC
      have hyl : y.length ≤ 6 := by
        have q := ((hmI y).mp hy).length_le
        have q2 := hsl (some 1) (some (-1))
        rw [Array.length_toList, Array.length_toList] at q
        exact Nat.le_trans q q2
      have F17 : Fr s1.heap C s₃.heap m₃ := ⟨hn3, fun b o e => hk3 b o (F16.keep b o e), Nat.le_of_lt (Nat.lt_of_le_of_lt (Nat.le_succ _) hL1)⟩
      have N17 : News s1.heap C s₃.heap [(s1.heap.objs.size + 1, oc2)] := fun p hp => by
        rw [List.mem_singleton.mp hp]
        exact ⟨hk3 _ _ (N16 (s1.heap.objs.size + 1, oc2) (by simp)).1, Nat.ne_of_lt hL1, hL0⟩
      clear F15 N15 F16 N16
      have F18 := Fr_pin F17 hm3
      clear F17
      w_strict (k_steps)
      rotate_left 4
      · exact ⟨_, _, rfl, fun _ _ e => e⟩
      all_goals first | exact (0 : Nat) | exact Value.none | exact Str.ofString "" | exact []
    · intro D10 h10 dr10 tk10 o10 zs10 hD10 hg10 hns10 hk10 hS10 hm10 hl10
      dsimp only at hD10 hk10 hns10
      have F17 : Fr s1.heap s1.heap.objs.size h10 _ := ⟨hns10, fun b o e => hk10 b o (fun q => absurd (Heap.lt_size e) (by rw [q]; exact Nat.not_lt.mpr F16.above)) (F16.keep b o e), F16.above⟩
      have N17 : News s1.heap s1.heap.objs.size h10 [(D10, o10), (aI, oI), (aD, PySem.W.listOf vD.toArray eD), (aS, oS), (s1.heap.objs.size + 1, oc2)] := fun p hp => by
        rcases List.mem_cons.mp hp with rfl | hp
        · exact ⟨hg10, Nat.ne_of_gt (Nat.lt_of_lt_of_le F16.ns.lt hD10), by
            cases q : s1.heap.get? D10 with
            | none => rfl
            | some o => exact absurd (Heap.lt_size (F16.keep _ _ q)) (Nat.not_lt.mpr hD10)⟩
        · have q := N16 p (by simp only [List.mem_cons, List.not_mem_nil, or_false] at hp ⊢; rcases hp with h | h | h | h <;> simp [h])
          exact ⟨hk10 _ _ q.2.1 q.1, q.2⟩
      clear F15 N15 F16 N16
      dsimp only
      w_strict (k_steps)
      unfold Stop
      rename Fr _ _ _ _ => F18
      rename News _ _ _ _ => N18
      refine within_mono (news := [(D10, o10), (aI, oI), (aD, PySem.W.listOf vD.toArray eD), (aS, oS), (s1.heap.objs.size + 1, oc2)]) (S := fun y => decide (4 ≤ (tl (textOf cs)).length) && decide (y.cps.toList.Sublist (((tl (textOf cs)).take ((tl (textOf cs)).length - 2)).drop 2))) F18 ?_ ?_
      · refine wpAny_IfExp ?_
        w_strict (k_steps)
        · unfold Stop
          rename Fr _ _ _ _ => F19
          rename News _ _ _ _ => N19
          refine use_callD (scat_ok (hsl _ _)) B F19 X N19 T rfl (by omega) (by omega) fun r n9 h9 dr9 tk9 F20 N20 hr => ?_
          obtain ⟨aJ, oJ, xsJ, rfl, rfl, hltJ, hSJ, hmJ⟩ := hr
          refine ⟨aJ, oJ, _, _, _, rfl, rfl, F20, N20, InSet.of hSJ (hsmall _ _ hSJ.nodup (hsl _ _) hmJ) fun y => ?_⟩
          have h3 : (3 : Int) < ((textOf cs).length : Int) := by assumption
          have e : tl (Txt.slice (textOf cs) (some 2) (some (-2))) = ((tl (textOf cs)).take ((textOf cs).length - 2)).drop 2 := sl_mid (a := 2) (by decide) (by omega)
          rw [len_tl, decide_eq_true (show 4 ≤ (textOf cs).length by omega), Bool.true_and, decide_eq_decide, hmJ, ← e]
        · rename Fr _ _ _ _ => F19
          rename News _ _ _ _ => N19
          have h3 : ¬ (3 : Int) < ((textOf cs).length : Int) := by assumption
          refine ⟨_, _, _, _, _, rfl, rfl, F19, N19, 0, by decide, ?_⟩
          have e : (fun y : Str => decide (4 ≤ (tl (textOf cs)).length) && decide (y.cps.toList.Sublist (((tl (textOf cs)).take ((tl (textOf cs)).length - 2)).drop 2))) = fun _ => false := by
            funext y
            rw [len_tl, decide_eq_false (show ¬ 4 ≤ (textOf cs).length by omega), Bool.false_and]
          rw [e]
          assumption
      · intro aV oV h11 dr11 tk11 F19 N19 hV
        clear F18 N18
        w_strict (k_steps)
        unfold Stop
        rename Fr _ _ _ _ => F20
        rename News _ _ _ _ => N20
        refine use_callD (scat_ok (hsl _ _)) B F20 X N20 T rfl (by omega) (by omega) fun r n12 h12 dr12 tk12 F21 N21 hr => ?_
        obtain ⟨aE, oE, xsE, rfl, rfl, hltE, hSE, hmE⟩ := hr
        clear F20 N20
        obtain ⟨x0, mm, xl, ht⟩ := two_ends (by rw [len_tl]; exact htx.1 : 2 ≤ (tl (textOf cs)).length)
        have h46 := no46 cs
        have e11 : tl (Txt.slice (textOf cs) (some 1) (some (-1))) = mm := by
          have e : tl (Txt.slice (textOf cs) (some 1) (some (-1))) = ((tl (textOf cs)).take ((textOf cs).length - 1)).drop 1 := sl_mid (a := 1) (by decide) (by omega)
          have hl : (textOf cs).length = mm.length + 2 := by rw [← len_tl, ht]; simp
          rw [e, hl, ht]
          simp
        have hclosed : ∀ z : Str, decide (z ∈ zs10) = true ↔ ∃ u : List Nat, u.Sublist mm ∧ tl z = x0 :: (u ++ [xl]) := by
          intro z
          have i0 : Txt.item (textOf cs) 0 = ⟨#[x0]⟩ := item_first ht
          have i1 : Txt.item (textOf cs) (-1) = ⟨#[xl]⟩ := item_last (r := x0 :: mm) (by rw [ht]; rfl)
          rw [decide_eq_true_iff, hm10, i0, i1]
          constructor
          · rintro ⟨y, hy, rfl⟩
            refine ⟨tl y, ?_, by rw [tl_app, tl_app]; rfl⟩
            have := (hmI y).mp hy
            rw [show (Txt.slice (textOf cs) (some 1) (some (-1))).cps.toList = mm from e11] at this
            exact this
          · rintro ⟨u, hu, hz⟩
            refine ⟨⟨u.toArray⟩, (hmI _).mpr ?_, ?_⟩
            · rw [show (Txt.slice (textOf cs) (some 1) (some (-1))).cps.toList = mm from e11]
              simpa using hu
            · refine cps_inj ?_
              show tl z = tl _
              rw [hz, tl_app, tl_app]
              simp [tl]
        have hbehind : ∀ y : Str, decide (y ∈ xsE) = decide ((tl y).Sublist ((tl (textOf cs)).drop 2)) := by
          intro y
          have e : tl (Txt.slice (textOf cs) (some 2) none) = (tl (textOf cs)).drop 2 := sl_from (a := 2) htx.1
          rw [decide_eq_decide, hmE, ← e]
        have hwords : ∀ y : Str, decide (y ∈ xsW) = decide ((tl y).Sublist (tl (textOf cs))) := fun y => by rw [decide_eq_decide]; exact hmW y
        dsimp only
        w_strict (k_steps)
        unfold Stop
        rename Fr _ _ _ _ => F22
        rename News _ _ _ _ => N22
        refine For_list (h₀ := s1.heap) (news := [(aE, oE), (aV, oV), (D10, o10), (aD, PySem.W.listOf vD.toArray eD), (aS, oS), (s1.heap.objs.size + 1, oc2)]) (D := aD) (vs := vD) (n := eD)
          (fun _ m₁ news₁ => news₁ = [(aE, oE), (aV, oV), (D10, o10), (aD, PySem.W.listOf vD.toArray eD), (aS, oS), (s1.heap.objs.size + 1, oc2)] ∧ m₁ (Str.ofString "due") = some (.ref aD) ∧ m₁ (Str.ofString "words") = some (.ref aS) ∧ m₁ (Str.ofString "closed") = some (.ref D10) ∧ m₁ (Str.ofString "within") = some (.ref aV) ∧ m₁ (Str.ofString "behind") = some (.ref aE))
          (by exact rfl) (by exact rfl) (by exact rfl) (fun Q' hq => wpAny_Name (wpAny_loadName_local rfl rfl F22.ns rfl hq)) F22 (fun p hp => N22 p (by simp only [List.mem_cons, List.not_mem_nil, or_false] at hp ⊢; rcases hp with h | h | h | h | h | h <;> simp [h])) (fun i m₁ news₁ h => by rw [h.1]; simp) ⟨rfl, rfl, rfl, rfl, rfl, rfl⟩ ?_ ?_
        · rintro i v m₁ news₁ h13 tk13 I13 oI13 hv ⟨rfl, g1, g2, g3, g4, g5⟩ F23 N23 off
          have F24 := Fr_pin (Fr_pin (Fr_pin (Fr_pin (Fr_pin F23 (x := Str.ofString "due") (by exact g1)) (x := Str.ofString "words") (by exact g2)) (x := Str.ofString "closed") (by exact g3)) (x := Str.ofString "within") (by exact g4)) (x := Str.ofString "behind") (by exact g5)
          clear F23 F22 N22
          obtain ⟨x, tx, hx, rfl⟩ := str_at hdue hv
          have hxs : (tl x).Sublist (tl (textOf cs)) := (hmD x).mp (List.mem_of_getElem? hx)
          have hxl : x.length ≤ 6 := by
            have q := hxs.length_le
            rw [len_tl, len_tl] at q
            omega
          have hx46 : 46 ∉ tl x := fun q => h46 (hxs.subset q)
          w_strict (k_steps)
          unfold Stop
          rename Fr _ _ _ _ => F25
          rename News _ _ _ _ => N25
          refine For_str (h₀ := s1.heap) (news := (I13, oI13) :: [(aE, oE), (aV, oV), (D10, o10), (aD, PySem.W.listOf vD.toArray eD), (aS, oS), (s1.heap.objs.size + 1, oc2)])
            (fun _ m₁ news₁ => news₁ = (I13, oI13) :: [(aE, oE), (aV, oV), (D10, o10), (aD, PySem.W.listOf vD.toArray eD), (aS, oS), (s1.heap.objs.size + 1, oc2)] ∧ m₁ (Str.ofString "due") = some (.ref aD) ∧ m₁ (Str.ofString "words") = some (.ref aS) ∧ m₁ (Str.ofString "closed") = some (.ref D10) ∧ m₁ (Str.ofString "within") = some (.ref aV) ∧ m₁ (Str.ofString "behind") = some (.ref aE) ∧ m₁ (Str.ofString "word") = some (.str x tx))
            (by exact rfl) (by exact rfl) (by exact rfl) F25 N25 ⟨rfl, rfl, rfl, rfl, rfl, rfl, by exact rfl⟩ ?_ ?_
          · rintro j c tc m₃ news₃ h14 tk14 I14 oI14 hc ⟨rfl, g1, g2, g3, g4, g5, g6⟩ F26 N26 off14
            have F27 := Fr_pin (Fr_pin (Fr_pin (Fr_pin (Fr_pin (Fr_pin F26 (x := Str.ofString "due") (by exact g1)) (x := Str.ofString "words") (by exact g2)) (x := Str.ofString "closed") (by exact g3)) (x := Str.ofString "within") (by exact g4)) (x := Str.ofString "behind") (by exact g5)) (x := Str.ofString "word") (by exact g6)
            clear F26
            try clear F24
            try clear N23
            try clear F25
            try clear N25
            w_strict (k_steps)
            unfold Stop
            rename Fr _ _ _ _ => F28
            rename News _ _ _ _ => N28
            have hyl : (x ++ (⟨#[c]⟩ : Str)).length ≤ 7 := by
              rw [Str.length_append]
              show x.length + 1 ≤ 7
              omega
            have hy46 : 46 ∉ tl (x ++ (⟨#[c]⟩ : Str)) := by
              rw [tl_app]
              intro q
              rcases List.mem_append.mp q with q | q
              · exact hx46 q
              · exact abc_no hc (List.mem_singleton.mp q).symm
            refine use_call (dotted_ok (x := x ++ (⟨#[c]⟩ : Str)) (Nat.le_trans hyl (by decide))) B F28 X N28 T rfl (by omega) (by omega) fun r n15 h15 tk15 F29 N29 hr => ?_
            obtain ⟨rfl, t15, rfl⟩ := hr
            clear F28 N28
            dsimp only
            w_strict (k_steps)
            unfold Stop
            rename Fr _ _ _ _ => F28
            rename News _ _ _ _ => N28
            refine use_call (el_words hy46 (Nat.le_trans hyl (by decide)) (by omega)) B F28 X N28 T rfl (by omega) (by omega) fun r n16 h16 tk16 F30 N30 hr => ?_
            obtain ⟨rfl, rfl⟩ := hr
            clear F28 N28
            dsimp only
            w_strict (k_steps)
            unfold Stop
            rename Fr _ _ _ _ => F28
            rename News _ _ _ _ => N28
            refine s_in (N28 (aS, oS) (by simp)).1 hSW (Nat.lt_trans h64 (by decide)) ?_
            refine isnot_same (hwords _).symm ?_
            w_strict (k_steps)
            rename Fr _ _ _ _ => F29
            rename News _ _ _ _ => N29
            unfold LPost
            dsimp only
            refine LEnd.intro (h₀ := s1.heap) (L := s1.heap.objs.size) F29 N29 _ (fun p hp => hp) off14 ?_
            exact ⟨rfl, rfl, rfl, rfl, rfl, rfl, rfl⟩
          · rintro h14 tk14 m₃ news₃ F26 N26 ⟨rfl, g1, g2, g3, g4, g5, g6⟩
            have F27 := Fr_pin (Fr_pin (Fr_pin (Fr_pin (Fr_pin (Fr_pin F26 (x := Str.ofString "due") (by exact g1)) (x := Str.ofString "words") (by exact g2)) (x := Str.ofString "closed") (by exact g3)) (x := Str.ofString "within") (by exact g4)) (x := Str.ofString "behind") (by exact g5)) (x := Str.ofString "word") (by exact g6)
            clear F26
            try clear F24
            try clear N23
            try clear F25
            try clear N25
            dsimp only
            w_strict (k_steps)
            unfold Stop
            rename Fr _ _ _ _ => F28
            rename News _ _ _ _ => N28
            refine join_strF (by exact rfl) F28 N28 (joinOk_signsN (N := 100) (S := 15) (by omega) (by decide) (by decide)) fun h17 k17 t17 F29 N29 => ?_
            clear F28 N28
            dsimp only
            w_strict (k_steps)
            unfold Stop
            rename Fr _ _ _ _ => F28
            rename News _ _ _ _ => N28
            refine use_call (el_closed ht hx46 (Nat.le_trans hxl (by decide)) (Nat.le_trans htx.2 (by decide)) (hclosed x)) B F28 X N28 T rfl (by omega) (by omega) fun r n18 h18 tk18 F30 N30 hr => ?_
            obtain ⟨rfl, rfl⟩ := hr
            clear F28 N28
            dsimp only
            w_strict (k_steps)
            unfold Stop
            rename Fr _ _ _ _ => F28
            rename News _ _ _ _ => N28
            refine s_in (N28 (D10, o10) (by simp)).1 hS10 (Nat.lt_of_le_of_lt (Nat.le_trans hl10 (hsmall _ _ hSI.nodup (hsl _ _) hmI)) (by decide)) ?_
            refine isnot_same rfl ?_
            w_strict (k_steps)
            unfold Stop
            rename Fr _ _ _ _ => F29
            rename News _ _ _ _ => N29
            have hs2 : (Txt.slice (textOf cs) none (some 2)).length ≤ 6 := hsl _ _
            have hdl2 : (dotted x).length ≤ 27 := by rw [dotted_len]; omega
            refine use_call (dotted_ok (x := x) (Nat.le_trans hxl (by decide))) B F29 X N29 T rfl (by omega) (by omega) fun r n19 h19 tk19 F30 N30 hr => ?_
            obtain ⟨rfl, t19, rfl⟩ := hr
            clear F29 N29
            dsimp only
            w_strict (k_steps)
            unfold Stop
            rename Fr _ _ _ _ => F29
            rename News _ _ _ _ => N29
            have ez2 : tl (Txt.slice (textOf cs) none (some 2)) = (tl (textOf cs)).take 2 := sl_to (b := 2) htx.1
            have ezl : tl (Txt.slice (textOf cs) (some (-2)) none) = (tl (textOf cs)).drop ((textOf cs).length - 2) := sl_last (a := 2) (by decide) htx.1
            refine use_call (el_within (by rw [tl_app, tl_app, ez2, ezl]) hx46 h46 (Nat.le_trans hxl (by decide)) (Nat.le_trans htx.2 (by decide)) htx.1) B F29 X N29 T rfl (by omega) (by omega) fun r n20 h20 tk20 F30 N30 hr => ?_
            obtain ⟨rfl, rfl⟩ := hr
            clear F29 N29
            dsimp only
            w_strict (k_steps)
            unfold Stop
            rename Fr _ _ _ _ => F29
            rename News _ _ _ _ => N29
            refine in_set (N29 (aV, oV) (by simp)).1 hV ?_
            refine isnot_same rfl ?_
            w_strict (k_steps)
            unfold Stop
            rename Fr _ _ _ _ => F29
            rename News _ _ _ _ => N29
            refine use_call (dotted_ok (x := x) (Nat.le_trans hxl (by decide))) B F29 X N29 T rfl (by omega) (by omega) fun r n21 h21 tk21 F30 N30 hr => ?_
            obtain ⟨rfl, t21, rfl⟩ := hr
            clear F29 N29
            dsimp only
            w_strict (k_steps)
            unfold Stop
            rename Fr _ _ _ _ => F29
            rename News _ _ _ _ => N29
            refine use_call (el_behind (by rw [tl_app, tl_app, ez2, tl_D3]) hx46 h46 (Nat.le_trans hxl (by decide)) (Nat.le_trans htx.2 (by decide)) htx.1) B F29 X N29 T rfl (by omega) (by omega) fun r n22 h22 tk22 F30 N30 hr => ?_
            obtain ⟨rfl, rfl⟩ := hr
            clear F29 N29
            dsimp only
            w_strict (k_steps)
            unfold Stop
            rename Fr _ _ _ _ => F29
            rename News _ _ _ _ => N29
            refine s_in (N29 (aE, oE) (by simp)).1 hSE (Nat.lt_of_le_of_lt (hsmall _ _ hSE.nodup (hsl _ _) hmE) (by decide)) ?_
            refine isnot_same (hbehind _).symm ?_
            w_strict (k_steps)
            rename Fr _ _ _ _ => F30
            rename News _ _ _ _ => N30
            unfold LPost
            dsimp only
            refine LEnd.intro (h₀ := s1.heap) (L := s1.heap.objs.size) F30 N30 _ (fun p hp => hp) off ?_
            exact ⟨rfl, rfl, rfl, rfl, rfl, rfl⟩
        · rintro h13 tk13 m₁ news₁ F23 N23 ⟨rfl, g1, g2, g3, g4, g5⟩
          clear F22 N22
          dsimp only
          w_strict (k_steps)
end Mine
end partTop

theorem PySem.Challenge.cw_pg0269_01_holds : PySem.Challenge.rw_pg0269_01.Holds := by
  exact Mine.row_holds
