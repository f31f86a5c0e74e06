import PyProof.Rows.All
import Wide.All
import OpenK.AllK
import Wide.FinOn
import Lean
import PySem.Challenge.RW_uy0010_01
set_option Elab.async false
section
open PySem PySem.W PyProof.Rows
set_option linter.unusedVariables false
set_option maxRecDepth 100000
set_option maxHeartbeats 0
namespace Mine
abbrev pw : Program := PySem.Challenge.pw_uy0010_01
noncomputable def stAt (i : Nat) : Stmt := (pw.main.body[i]?).getD (.Pass default)
noncomputable def fP (i : Nat) : Arguments := match stAt i with | .FunctionDef _ a _ _ _ _ _ _ _ _ => a | _ => default
noncomputable def fB (i : Nat) : List Stmt := match stAt i with | .FunctionDef _ _ b _ _ _ _ _ _ _ => b | _ => []
noncomputable def fS (i : Nat) : Scope := match stAt i with | .FunctionDef _ _ _ _ _ _ sc _ _ _ => sc | _ => default
def life0 : Life := {}
noncomputable def ann : Option Value := some (.ref 6)
noncomputable def envT : Env := { scope := pw.main.scope, locals := mainNs, globals := mainNs, cells := [], code := .ref 13, frame := some 14 }
noncomputable def cT : Code := .body pw.main.body envT
def pos0 : Pos := ⟨0, 0, 0, 0⟩
end Mine
end
section
open PySem PySem.W PyProof.Rows
set_option maxRecDepth 100000
namespace Mine
noncomputable abbrev tbT : String → Option Builtin := treeTable
abbrev BT1 : List Frame := [topFrame pos0]
noncomputable abbrev SR (w : World) := segRun treeTable pw w 11 ann 1

/-- from the tree t in the state s the run comes in c steps to the value a in the state s' -/
def Go {α : Type} (w : World) (t : Sem α) (s : Shared) (p : Pos) (c : Nat) (a : α) (s' : Shared) (p' : Pos) : Prop :=
  ∀ (K : α → Sem Fin) (H : Value → Sem Fin) (gd : Bool → Bool) (lv : List Value → List Value) (N : Nat) (r : Flow × Shared × Code × Pos),
    SR w N s' ⟨K a, cT, p', BT1⟩ = some r → SR w (c + N) s ⟨t.wrap K H gd lv, cT, p, BT1⟩ = some r

section
variable {α β : Type} {w : World} {s s' s₁ s₂ : Shared} {p p' p₁ p₂ : Pos} {c c₁ c₂ : Nat} {a : α} {b : β}

theorem Go.pure : Go w (Pure.pure a : Sem α) s p 0 a s p := fun K H gd lv N r h => by
  rw [Nat.zero_add]; exact h
theorem Go.bind {t : Sem α} {f : α → Sem β} (h : Go w t s p c₁ a s₁ p₁) (k : Go w (f a) s₁ p₁ c₂ b s₂ p₂) : Go w (t >>= f) s p (c₁ + c₂) b s₂ p₂ := fun K H gd lv N r q => by
  have e : (t >>= f).wrap K H gd lv = t.wrap (fun x => (f x).wrap K H gd lv) H gd lv := by
    rw [Sem.bind_eq_wrap', Sem.wrap_wrap]; rfl
  rw [e, Nat.add_assoc]
  exact h _ _ _ _ _ _ (k K H gd lv N r q)
theorem Go.keep {t : Sem α} {vs : List Value} (h : Go w t s p c a s' p') : Go w (t.keep vs) s p c a s' p' := fun K H gd lv N r q => by
  rw [Sem.keep_eq_wrap, Sem.wrap_wrap]
  exact h _ _ _ _ _ _ q
theorem Go.holding {t : Sem α} {vs : List Value} (h : Go w t s p c a s' p') : Go w (PySem.holding vs t) s p c a s' p' := by
  unfold PySem.holding
  split
  · exact h
  · exact h.keep
theorem Go.onRaise {t : Sem α} {f : Value → Sem Unit} (h : Go w t s p c a s' p') : Go w (t.onRaise f) s p c a s' p' := fun K H gd lv N r q => by
  rw [Sem.onRaise_eq_wrap, Sem.wrap_wrap]
  exact h _ _ _ _ _ _ q
theorem Go.tryCatch {t : Sem α} {f : Value → Sem α} (h : Go w t s p c a s' p') : Go w (t.tryCatch f) s p c a s' p' := fun K H gd lv N r q => by
  rw [Sem.tryCatch_eq_wrap, Sem.wrap_wrap]
  exact h _ _ _ _ _ _ q
end
theorem segRun_step {w : World} {N : Nat} {s s' : Shared} {t t' : Thread} {r : Flow × Shared × Code × Pos} (h0 : endAt 1 t = none) (h1 : stepOk 11 ann t = true) (h2 : step (denote treeTable) pw w s t = .go s' t')
    (h : SR w N s' t' = some r) : SR w (1 + N) s t = some r := by
  rw [Nat.add_comm]
  show segRun treeTable pw w 11 ann 1 (N + 1) s t = some r
  unfold segRun
  rw [h0, h1, h2]
  exact h
section
variable {α β : Type} {w : World} {s s' s₁ s₂ : Shared} {p p' p₁ p₂ : Pos} {c c₁ c₂ : Nat} {a : α} {b : β}
theorem Go.load {x : Addr} {part : Option Value} {o : Obj} (ho : s.heap.get? x = some o) : Go w (loadPart x part) s p 1 o s p := fun K H gd lv N r q => by
  refine segRun_step rfl ?_ ?_ q
  · rfl
  · obtain ⟨h, g, d, t, os⟩ := s
    show (match h.get? x with | some o => _ | none => _) = _
    rw [show h.get? x = some o from ho]
    rfl
theorem Go.load0 {x : Addr} {o : Obj} (ho : s.heap.get? x = some o) : Go w (PySem.load x) s p 1 o s p := Go.load ho
theorem Go.update {x : Addr} {part : Option Value} {f : Obj → Obj} {o : Obj} (ho : s.heap.get? x = some o) (hx : Nat.ble 11 x = true) : Go w (updatePart x part f) s p 1 () { s with heap := s.heap.update x f } p := fun K H gd lv N r q => by
  refine segRun_step rfl ?_ ?_ q
  · show (true && (Nat.ble 11 x || x == mainNs || x == cStatics || ann == some (.ref x))) = true
    rw [hx]; rfl
  · obtain ⟨h, g, d, t, os⟩ := s
    show (if (h.get? x).isSome then _ else _) = _
    rw [show h.get? x = some o from ho]
    rfl
theorem Go.alloc {o : Obj} : Go w (PySem.alloc o) s p 1 s.heap.objs.size { s with heap := s.heap.push o } p := fun K H gd lv N r q => by
  refine segRun_step rfl rfl ?_ q
  obtain ⟨h, g, d, t, os⟩ := s
  rfl
theorem Go.fresh : Go w PySem.fresh s p 1 s.toks { s with toks := s.toks + 1 } p := fun K H gd lv N r q => by
  refine segRun_step rfl rfl ?_ q
  obtain ⟨h, g, d, t, os⟩ := s
  rfl
theorem Go.rule {x : String} : Go w (PySem.rule x) s p 1 () s p := fun K H gd lv N r q => by
  refine segRun_step rfl rfl ?_ q
  obtain ⟨h, g, d, t, os⟩ := s
  rfl
theorem Go.at {x : Pos} : Go w (PySem.standAt x) s p 1 () s x := fun K H gd lv N r q => by
  refine segRun_step rfl rfl ?_ q
  obtain ⟨h, g, d, t, os⟩ := s
  rfl
theorem Go.point : Go w PySem.point s p 1 () s p := fun K H gd lv N r q => by
  refine segRun_step rfl rfl ?_ q
  obtain ⟨h, g, d, t, os⟩ := s
  rfl
theorem Go.ask : Go w PySem.ask s p 1 ⟨pw, w.params⟩ s p := fun K H gd lv N r q => by
  refine segRun_step rfl rfl ?_ q
  obtain ⟨h, g, d, t, os⟩ := s
  rfl
theorem Go.mono_c {t : Sem α} (h : Go w t s p c₁ a s' p') (e : c₁ = c₂) : Go w t s p c₂ a s' p' := e ▸ h
theorem Go.mkInt {i : Int} : Go w (PySem.mkInt i) s p 1 (.int i s.toks) { s with toks := s.toks + 1 } p := Go.bind (c₂ := 0) Go.fresh Go.pure
theorem Go.mkText {x : Str} : Go w (PySem.mkText x) s p 1 (.str x s.toks) { s with toks := s.toks + 1 } p := Go.bind (c₂ := 0) Go.fresh Go.pure
end
/-- the hash of an int: its call of int.__hash__ -/
theorem goHash (w : World) : ∀ {h : Heap} {g : Array GenState} {d : Drawn} {tk : Nat} {os : OsState} {p : Pos} {i : Int} {u : Tok} (K : Int → Sem Fin) (H : Value → Sem Fin) (gd : Bool → Bool) (lv : List Value → List Value),
    segGo treeTable pw w 11 ann 1 5 ⟨h, g, d, tk, os⟩ ⟨(pyHash (.int i u)).wrap K H gd lv, cT, p, BT1⟩ = some (⟨h, g, d, tk + 1, os⟩, ⟨(pyHashByItsType.reduced (rawHash i)).wrap K H gd lv, cT, p, BT1⟩) := by
  refine byRow2 "special-get-raises" (P := fun w => ∀ {h : Heap} {g : Array GenState} {d : Drawn} {tk : Nat} {os : OsState} {p : Pos} {i : Int} {u : Tok} (K : Int → Sem Fin) (H : Value → Sem Fin) (gd : Bool → Bool) (lv : List Value → List Value),
    segGo treeTable pw w 11 ann 1 5 ⟨h, g, d, tk, os⟩ ⟨(pyHash (.int i u)).wrap K H gd lv, cT, p, BT1⟩ = some (⟨h, g, d, tk + 1, os⟩, ⟨(pyHashByItsType.reduced (rawHash i)).wrap K H gd lv, cT, p, BT1⟩)) (fun w => ?_) (fun w => ?_) w
  all_goals (
    intro h g d tk os p i u K H gd lv
    rw [PySem.W.Fast.te3277212676724774461, PySem.W.Fast.te14364793385576792824, PySem.W.Fast.te10540108854288196387]
    kernel_rfl)
theorem reduced_is (i : Int) : pyHashByItsType.reduced (rawHash i) = pure (hashInt i) := by
  have hr := rawHash_range i
  unfold pyHashByItsType.reduced
  show (if (decide (-(2 : Int) ^ 63 ≤ rawHash i) && decide (rawHash i < 2 ^ 63)) = true then _ else _) = _
  rw [if_pos (by rw [decide_eq_true hr.1, decide_eq_true hr.2]; rfl)]
  rfl
theorem Go.hash {w : World} {s : Shared} {p : Pos} {i : Int} {u : Tok} : Go w (pyHash (.int i u)) s p 5 (hashInt i) { s with toks := s.toks + 1 } p := fun K H gd lv N r q => by
  obtain ⟨h, g, d, t, os⟩ := s
  refine seg_go (goHash w K H gd lv) ?_
  rw [reduced_is]
  exact q
end Mine
end
section
open PySem PySem.W PyProof.Rows
set_option maxRecDepth 100000
namespace Mine
def dictObj (es : List DictEntry) : Obj := ⟨.type "dict", none, .dict es.toArray es.length, #[]⟩
noncomputable def st (l : List Obj) (tk : Nat) (os : OsState) : Shared := ⟨⟨l.toArray, life0⟩, #[], boot_drawn, tk, os⟩
section
variable {w : World} {pre post : List Obj} {es es' : List DictEntry} {tk : Nat} {os : OsState} {p p' : Pos} {k : Int} {u : Tok} {v : Value}
theorem st_get : (st (pre ++ dictObj es :: post) tk os).heap.get? pre.length = some (dictObj es) := by
  show (match (pre ++ dictObj es :: post).toArray[pre.length]? with | some ⟨_, _, .freed, _⟩ => none | o => o) = _
  rw [List.getElem?_toArray, List.getElem?_append_right (Nat.le_refl _), Nat.sub_self]
  rfl
theorem st_update {f : Obj → Obj} : { st (pre ++ dictObj es :: post) tk os with heap := (st (pre ++ dictObj es :: post) tk os).heap.update pre.length f } = st (pre ++ f (dictObj es) :: post) tk os := by
  show Shared.mk ⟨(pre ++ dictObj es :: post).toArray.modify pre.length f, life0⟩ _ _ _ _ = Shared.mk ⟨(pre ++ f (dictObj es) :: post).toArray, life0⟩ _ _ _ _
  congr 2
  apply Array.ext_getElem?
  intro i
  rw [Array.getElem?_modify, List.getElem?_toArray, List.getElem?_toArray]
  by_cases h : i < pre.length
  · rw [if_neg (by omega), List.getElem?_append_left h, List.getElem?_append_left h]
  · by_cases e : i = pre.length
    · subst e
      rw [if_pos rfl, List.getElem?_append_right (Nat.le_refl _), List.getElem?_append_right (Nat.le_refl _), Nat.sub_self]
      rfl
    · rw [if_neg (by omega), List.getElem?_append_right (by omega), List.getElem?_append_right (by omega)]
      obtain ⟨j, hj⟩ : ∃ j, i - pre.length = j + 1 := ⟨i - pre.length - 1, by omega⟩
      rw [hj]; rfl
def ent (k : Int) (u : Tok) (v : Value) : DictEntry := ⟨hashInt k, .int k u, v⟩
theorem goFind {d : Addr} {s : Shared} (hd : s.heap.get? d = some (dictObj es)) (hk : ∀ e ∈ es, e.hash ≠ hashInt k) : Go w (dictFind d (.int k u) (hashInt k)) s p 1 none s p := by
  unfold dictFind
  refine Go.holding (Go.bind (c₁ := 1) (c₂ := 0) (s₁ := s) (p₁ := p) (a := es.toArray) ?_ ?_)
  · unfold dictEntries
    exact Go.bind (c₂ := 0) (Go.load hd) Go.pure
  · have hp : placesWithHash es.toArray.size (fun i => es.toArray[i]?.map (·.hash)) (hashInt k) = [] := by
      unfold placesWithHash
      refine List.filter_eq_nil_iff.mpr fun i _ => ?_
      dsimp only
      rw [List.getElem?_toArray]
      cases h : es[i]? with
      | none => simp
      | some e => simp only [Option.map_some]; have := hk e (List.mem_of_getElem? h); simpa using this
    dsimp only
    rw [hp]
    exact Go.pure
theorem goPush {part : Option Value} {e : DictEntry} (hz : es.length < 10000) (hn : Nat.ble 11 pre.length = true) :
    Go w (updateDictKeys pre.length (·.push e) part) (st (pre ++ dictObj es :: post) tk os) p 3 () (st (pre ++ dictObj (es ++ [e]) :: post) tk os) p := by
  unfold updateDictKeys
  refine Go.bind (c₁ := 1) (c₂ := 2) (Go.load st_get) ?_
  refine Go.bind (c₁ := 1) (c₂ := 1) (Go.update st_get hn) ?_
  rw [st_update]
  have e1 : Obj.mapDictKeys (fun x => x.push e) (dictObj es) = dictObj (es ++ [e]) := by
    unfold dictObj Obj.mapDictKeys
    simp
  rw [e1]
  unfold lookBehind
  refine Go.bind (c₁ := 1) (c₂ := 0) (Go.load st_get) ?_
  have e2 : (dictObj (es ++ [e])).data.pastItsLine = none := by
    unfold dictObj Data.pastItsLine
    have : (es ++ [e]).toArray.size ≤ sizeLine := by rw [sizeLine_eq]; simp; omega
    simp only [] at *
    first
      | rw [if_neg (by omega)]
      | (split <;> first | rfl | omega)
  rw [e2]
  exact Go.pure
theorem goSet (hk : ∀ e ∈ es, e.hash ≠ hashInt k) (hz : es.length < 10000) (hn : Nat.ble 11 pre.length = true) :
    Go w (dictSet pre.length (.int k u) v) (st (pre ++ dictObj es :: post) tk os) p 10 () (st (pre ++ dictObj (es ++ [ent k u v]) :: post) (tk + 1) os) p := by
  unfold dictSet
  refine Go.holding (Go.bind (c₁ := 5) (c₂ := 5) Go.hash ?_)
  unfold dictSetHashed
  refine Go.holding (Go.bind (c₁ := 1) (c₂ := 4) (goFind (es := es) st_get hk) ?_)
  exact Go.bind (c₁ := 1) (c₂ := 3) Go.rule (goPush hz hn)
end
/-- one pair of the display, as its two trees -/
abbrev itP (pos : Pos) (x : Int × Str) : Sem Value × Sem Value := (mkInt x.1, do let y ← mkText x.2; standAt pos; pure y)
def ents : Nat → List (Int × Str) → List DictEntry
  | _, [] => []
  | t, (k, s) :: r => ent k t (.str s (t + 1)) :: ents (t + 3) r
theorem ents_keys : ∀ (ps : List (Int × Str)) (t : Nat) (e : DictEntry), e ∈ ents t ps → ∃ x ∈ ps, e.hash = hashInt x.1
  | [], _, _, h => by cases h
  | (k, s) :: r, t, e, h => by
    rcases List.mem_cons.mp h with rfl | h
    · exact ⟨_, .head _, rfl⟩
    · obtain ⟨x, hx, e⟩ := ents_keys r _ e h
      exact ⟨x, .tail _ hx, e⟩
theorem ents_len : ∀ (ps : List (Int × Str)) (t : Nat), (ents t ps).length = ps.length
  | [], _ => rfl
  | (k, s) :: r, t => by show (ents _ r).length + 1 = _; rw [ents_len r]; rfl
theorem ents_app : ∀ (a b : List (Int × Str)) (t : Nat), ents t (a ++ b) = ents t a ++ ents (t + 3 * a.length) b
  | [], b, t => by simp [ents]
  | (k, s) :: r, b, t => by
    show ent .. :: ents _ (r ++ b) = ent .. :: (ents _ r ++ _)
    rw [ents_app r b]
    congr 3
    simp only [List.length_cons]; omega
/-- the hashes of the keys, in order -/
abbrev hs (ps : List (Int × Str)) : List Int := ps.map fun x => hashInt x.1
section
variable {w : World} {pre post : List Obj} {tk : Nat} {os : OsState} {p p' pos : Pos}
theorem goVal {x : Str} {s : Shared} : Go w (do let y ← mkText x; standAt pos; pure y) s p 2 (Value.str x s.toks) { s with toks := s.toks + 1 } pos := by
  refine Go.bind (c₁ := 1) (c₂ := 1) Go.mkText ?_
  exact Go.bind (c₁ := 1) (c₂ := 0) (f := fun _ => Pure.pure _) Go.at Go.pure
theorem goItem {k : Int} {x : Str} {es : List DictEntry} (hk : ∀ e ∈ es, e.hash ≠ hashInt k) (hz : es.length < 10000) (hn : Nat.ble 11 pre.length = true) {g : Value → Value → Sem Unit}
    (hg : ∀ a b, g a b = dictSet pre.length a b) {β : Type} {f : PUnit → Sem β} {c : Nat} {b : β} {s' : Shared}
    (h : Go w (f ()) (st (pre ++ dictObj (es ++ [ent k tk (.str x (tk + 1))]) :: post) (tk + 3) os) pos c b s' p') :
    Go w (do let kv ← (itP pos (k, x)).1; let vv ← PySem.holding [kv] (itP pos (k, x)).2; let u ← PySem.holding [kv, vv] (g kv vv); f u) (st (pre ++ dictObj es :: post) tk os) p (13 + c) b s' p' := by
  refine (Go.bind (c₁ := 1) (c₂ := 2 + (10 + c)) Go.mkInt (Go.bind (c₁ := 2) (c₂ := 10 + c) (Go.holding goVal) ?_)).mono_c (by omega)
  refine Go.bind (c₁ := 10) (c₂ := c) (Go.holding ?_) h
  rw [hg]
  exact goSet (tk := tk + 2) hk hz hn
theorem goSubLoop (hn : Nat.ble 11 pre.length = true) : ∀ (ps : List (Int × Str)) (es : List DictEntry) (tk : Nat) (p : Pos), (∀ e ∈ es, ∀ x ∈ ps, e.hash ≠ hashInt x.1) → (hs ps).Nodup → es.length + ps.length < 10000 →
    ∃ p', Go w (forIn (ps.map (itP pos)) PUnit.unit fun (x : Sem Value × Sem Value) (_ : PUnit) => (do let kv ← x.1; let vv ← PySem.holding [kv] x.2; let _ ← PySem.holding [kv, vv] (dictSet pre.length kv vv); pure (ForInStep.yield PUnit.unit) : Sem (ForInStep PUnit)))
      (st (pre ++ dictObj es :: post) tk os) p (13 * ps.length) PUnit.unit (st (pre ++ dictObj (es ++ ents tk ps) :: post) (tk + 3 * ps.length) os) p'
  | [], es, tk, p, _, _, _ => ⟨p, by simpa [ents] using (Go.pure (a := PUnit.unit))⟩
  | (k, x) :: ps, es, tk, p, hd, hnd, hz => by
    simp only [List.length_cons] at hz
    obtain ⟨h1, h2⟩ := List.nodup_cons.mp hnd
    obtain ⟨p', ih⟩ := goSubLoop hn ps (es ++ [ent k tk (.str x (tk + 1))]) (tk + 3) pos (fun e he y hy => by
      rcases List.mem_append.mp he with he | he
      · exact hd e he y (.tail _ hy)
      · rw [List.mem_singleton.mp he]
        intro e
        exact h1 (List.mem_map.mpr ⟨y, hy, Eq.symm e⟩)) h2 (by simp only [List.length_append, List.length_cons, List.length_nil]; omega)
    refine ⟨p', ?_⟩
    rw [List.map_cons, List.forIn_cons]
    refine (Go.bind (c₁ := 13) (c₂ := 13 * ps.length) (goItem (c := 0) (g := fun a b => dictSet pre.length a b) (f := fun _ => Pure.pure (ForInStep.yield PUnit.unit)) (fun e he => hd e he (k, x) (.head _)) (by omega) hn (fun _ _ => rfl) Go.pure) ?_).mono_c (by simp only [List.length_cons]; omega)
    have e1 : es ++ ents tk ((k, x) :: ps) = (es ++ [ent k tk (.str x (tk + 1))]) ++ ents (tk + 3) ps := by rw [List.append_assoc]; rfl
    have e2 : tk + 3 * ((k, x) :: ps).length = tk + 3 + 3 * ps.length := by simp only [List.length_cons]; omega
    rw [e1, e2]
    exact ih
theorem st_push {l : List Obj} {o : Obj} : { st l tk os with heap := (st l tk os).heap.push o } = st (l ++ [o]) tk os := by
  show Shared.mk ⟨l.toArray.push o, life0⟩ _ _ _ _ = Shared.mk ⟨(l ++ [o]).toArray, life0⟩ _ _ _ _
  congr 2
  simp
theorem goSub {ps : List (Int × Str)} (hn : Nat.ble 11 pre.length = true) (hnd : (hs ps).Nodup) (hz : ps.length < 10000) (hl : ¬ ps.length ≤ 15) :
    ∃ p', Go w (subDict (ps.map (itP pos))) (st pre tk os) p (2 + 13 * ps.length) pre.length (st (pre ++ [dictObj (ents tk ps)]) (tk + 3 * ps.length) os) p' := by
  obtain ⟨p', h⟩ := goSubLoop (w := w) (pos := pos) (post := []) (os := os) hn ps [] tk p (fun e he => by cases he) hnd (by simpa using hz)
  refine ⟨p', ?_⟩
  unfold subDict
  refine (Go.bind (c₁ := 1) (c₂ := 1 + 13 * ps.length) Go.alloc ?_).mono_c (by omega)
  rw [st_push]
  have e : (st pre tk os).heap.objs.size = pre.length := by show pre.toArray.size = _; simp
  rw [e]
  refine Go.bind (c₁ := 1 + 13 * ps.length) (c₂ := 0) (a := ()) (Go.holding ?_) Go.pure
  rw [if_neg (by rw [List.length_map]; exact hl)]
  refine Go.bind (c₁ := 1) (c₂ := 13 * ps.length) Go.rule ?_
  exact Go.bind (c₁ := 13 * ps.length) (c₂ := 0) h Go.pure
end
end Mine
end
section
open PySem PySem.W PyProof.Rows
set_option maxRecDepth 100000
namespace Mine
section
variable {α β : Type} {w : World} {pre subs : List Obj} {es : List DictEntry} {tk : Nat} {os : OsState} {p p' pos : Pos}
theorem Go.of_eq {t t' : Sem α} {s s' : Shared} {c : Nat} {a : α} (e : t = t') (h : Go w t' s p c a s' p') : Go w t s p c a s' p' := e ▸ h
theorem goTypeOf {a : Addr} {o : Obj} {s : Shared} (ho : s.heap.get? a = some o) : Go w (typeOf (.ref a)) s p 1 o.cls s p := by
  show Go w (do return (← loadPart a (some headPart)).cls) s p 1 o.cls s p
  exact Go.bind (c₁ := 1) (c₂ := 0) (Go.load ho) Go.pure
theorem goEntries {a : Addr} {part : Option Value} {s : Shared} (ho : s.heap.get? a = some (dictObj es)) : Go w (dictEntries a part) s p 1 es.toArray s p := by
  unfold dictEntries
  exact Go.bind (c₂ := 0) (Go.load ho) Go.pure
theorem goEpoch {a : Addr} {part : Option Value} {s : Shared} (ho : s.heap.get? a = some (dictObj es)) : Go w (dictEpoch a part) s p 1 es.length s p := by
  unfold dictEpoch
  exact Go.bind (c₂ := 0) (Go.load ho) Go.pure
/-- the state with the main dict and a last sub dict -/
noncomputable abbrev stM (pre : List Obj) (es : List DictEntry) (subs : List Obj) (sub : List DictEntry) (tk : Nat) (os : OsState) : Shared := st (pre ++ dictObj es :: (subs ++ [dictObj sub])) tk os
theorem stM_sub {sub : List DictEntry} : (stM pre es subs sub tk os).heap.get? (pre.length + 1 + subs.length) = some (dictObj sub) := by
  have e : pre ++ dictObj es :: (subs ++ [dictObj sub]) = (pre ++ dictObj es :: subs) ++ dictObj sub :: [] := by simp
  have l : (pre ++ dictObj es :: subs).length = pre.length + 1 + subs.length := by simp; omega
  unfold stM
  rw [e, ← l]
  exact st_get
def IntEnts (sub : List DictEntry) : Prop := ∀ e ∈ sub, ∃ k u, e.key = .int k u ∧ e.hash = hashInt k
theorem goPut {e : DictEntry} {post : List Obj} (he : ∃ k u, e.key = .int k u ∧ e.hash = hashInt k) (hk : ∀ x ∈ es, x.hash ≠ e.hash) (hz : es.length < 10000) (hn : Nat.ble 11 pre.length = true) :
    Go w (dictPut pre.length e.hash e.key e.val) (st (pre ++ dictObj es :: post) tk os) p 4 () (st (pre ++ dictObj (es ++ [e]) :: post) tk os) p := by
  obtain ⟨h, key, v⟩ := e
  obtain ⟨k, u, e1, e2⟩ := he
  dsimp only at e1 e2 hk ⊢
  subst e1 e2
  unfold dictPut
  refine Go.bind (c₁ := 1) (c₂ := 3) (goFind (es := es) st_get hk) ?_
  exact goPush hz hn
theorem goMergeLoop {sub : List DictEntry} (hs : IntEnts sub) (hn : Nat.ble 11 pre.length = true) {F : Nat → PUnit → Sem (ForInStep PUnit)}
    (hF : ∀ i e es, sub[i]? = some e → es.length < 10000 → (∀ x ∈ es, x.hash ≠ e.hash) → Go w (F i PUnit.unit) (stM pre es subs sub tk os) p 6 (ForInStep.yield PUnit.unit) (stM pre (es ++ [e]) subs sub tk os) p) :
    ∀ (n i : Nat) (es : List DictEntry), i + n = sub.length → es.length + n < 10000 → (∀ x ∈ es, ∀ e ∈ sub.drop i, x.hash ≠ e.hash) → ((sub.drop i).map (·.hash)).Nodup →
      Go w (forIn (List.range' i n) PUnit.unit F) (stM pre es subs sub tk os) p (6 * n) PUnit.unit (stM pre (es ++ sub.drop i) subs sub tk os) p
  | 0, i, es, hi, _, _, _ => by
    rw [List.drop_eq_nil_of_le (by omega), List.append_nil]
    exact Go.pure
  | n + 1, i, es, hi, hz, hd, hnd => by
    have hlt : i < sub.length := by omega
    have e1 : sub.drop i = sub[i] :: sub.drop (i + 1) := List.drop_eq_getElem_cons hlt
    rw [e1] at hd hnd ⊢
    obtain ⟨h1, h2⟩ := List.nodup_cons.mp hnd
    rw [List.range'_succ, List.forIn_cons]
    refine (Go.bind (c₁ := 6) (c₂ := 6 * n) (hF i sub[i] es (List.getElem?_eq_getElem hlt) (by omega) fun x hx => hd x hx _ (.head _)) ?_).mono_c (by omega)
    have := goMergeLoop hs hn hF n (i + 1) (es ++ [sub[i]]) (by omega) (by simp; omega) (fun x hx e he => by
      rcases List.mem_append.mp hx with hx | hx
      · exact hd x hx e (.tail _ he)
      · rw [List.mem_singleton.mp hx]
        intro q
        exact h1 (List.mem_map.mpr ⟨e, he, q.symm⟩)) h2
    rw [List.append_assoc] at this
    exact this
theorem goMerge {sub : List DictEntry} (hs : IntEnts sub) (hn : Nat.ble 11 pre.length = true) (hne : es ≠ []) (hz : es.length + sub.length < 10000) (hd : ∀ x ∈ es, ∀ e ∈ sub, x.hash ≠ e.hash) (hnd : (sub.map (·.hash)).Nodup) :
    Go w (mergeMapping pre.length (.ref (pre.length + 1 + subs.length)) false) (stM pre es subs sub tk os) p (5 + 6 * sub.length) () (stM pre (es ++ sub) subs sub tk os) p := by
  have hm : (stM pre es subs sub tk os).heap.get? pre.length = some (dictObj es) := st_get
  have hsys : (pre.length + 1 + subs.length == sysModules) = false := by
    have := Nat.le_of_ble_eq_true hn
    rw [beq_eq_false_iff_ne]
    show pre.length + 1 + subs.length ≠ 1
    omega
  unfold mergeMapping
  refine (Go.bind (c₁ := 1) (c₂ := 4 + 6 * sub.length) (a := true) (s₁ := stM pre es subs sub tk os) (p₁ := p) ?_ ?_).mono_c (by omega)
  · unfold PySem.isInstance
    exact Go.bind (c₁ := 1) (c₂ := 0) (goTypeOf stM_sub) (Go.of_eq isSubtype_dict_dict Go.pure)
  rw [if_pos rfl]
  refine (Go.bind (c₁ := 1) (c₂ := 3 + 6 * sub.length) (a := some (.builtin "dict.__iter__")) (s₁ := stM pre es subs sub tk os) (p₁ := p) ?_ ?_).mono_c (by omega)
  · unfold specialOf
    exact Go.bind (c₁ := 1) (c₂ := 0) (goTypeOf stM_sub) (Go.of_eq F.slot_dict_iter.lookup Go.pure)
  refine (Go.bind (c₁ := 0) (c₂ := 3 + 6 * sub.length) (a := true) (s₁ := stM pre es subs sub tk os) (p₁ := p) (Go.of_eq (by rw [beq_self_eq_true]) Go.pure) ?_).mono_c (by omega)
  dsimp only
  rw [hsys, if_neg Bool.false_ne_true]
  refine (Go.bind (c₁ := 1) (c₂ := 2 + 6 * sub.length) (goEntries hm) ?_).mono_c (by omega)
  have hemp : es.toArray.isEmpty = false := by
    cases es with
    | nil => exact absurd rfl hne
    | cons _ _ => rfl
  rw [hemp, if_neg Bool.false_ne_true]
  refine (Go.bind (c₁ := 1) (c₂ := 1 + 6 * sub.length) (goEntries stM_sub) ?_).mono_c (by omega)
  refine (Go.bind (c₁ := 1) (c₂ := 6 * sub.length) (goEpoch stM_sub) ?_)
  refine Go.bind (c₁ := 6 * sub.length) (c₂ := 0) (a := PUnit.unit) (p₁ := p) ?_ Go.pure
  have e0 : List.range sub.toArray.size = List.range' 0 sub.length := by rw [List.size_toArray, List.range_eq_range']
  rw [e0]
  refine goMergeLoop hs hn ?_ sub.length 0 es (by omega) hz (by simpa using hd) (by simpa using hnd)
  intro i e es' he hz' hk'
  refine Go.bind (c₁ := 1) (c₂ := 5) (goEntries stM_sub) ?_
  rw [List.getElem?_toArray, he]
  dsimp only
  refine Go.bind (c₁ := 4) (c₂ := 1) (a := ()) (s₁ := stM pre (es' ++ [e]) subs sub tk os) (p₁ := p) (Go.holding ?_) ?_
  · rw [if_neg Bool.false_ne_true]
    exact goPut (hs e (List.mem_of_getElem? he)) hk' hz' hn
  · refine Go.bind (c₁ := 1) (c₂ := 0) (goEpoch stM_sub) ?_
    rw [show (sub.length != sub.length) = false by simp, if_neg Bool.false_ne_true]
    exact Go.pure
end
end Mine
end
section
open PySem PySem.W PyProof.Rows
set_option maxRecDepth 100000
namespace Mine
section
variable {α β : Type} {w : World} {pre subs : List Obj} {es : List DictEntry} {tk : Nat} {os : OsState} {p p' pos : Pos}
theorem ents_int : ∀ (ps : List (Int × Str)) (t : Nat), IntEnts (ents t ps)
  | [], _, _, h => by cases h
  | (k, s) :: r, t, e, h => by
    rcases List.mem_cons.mp h with rfl | h
    · exact ⟨k, t, rfl, rfl⟩
    · exact ents_int r _ e h
theorem ents_hash : ∀ (ps : List (Int × Str)) (t : Nat), (ents t ps).map (·.hash) = hs ps
  | [], _ => rfl
  | (k, s) :: r, t => by show hashInt k :: _ = _; rw [ents_hash r]; rfl
/-- the last, short run: its pairs first, then their places -/
def vals : Nat → List (Int × Str) → List (Value × Value)
  | _, [] => []
  | t, (k, s) :: r => (.int k t, .str s (t + 1)) :: vals (t + 2) r
def ents2 : Nat → List (Int × Str) → List DictEntry
  | _, [] => []
  | t, (k, s) :: r => ent k t (.str s (t + 1)) :: ents2 (t + 2) r
theorem ents2_int : ∀ (ps : List (Int × Str)) (t : Nat), IntEnts (ents2 t ps)
  | [], _, _, h => by cases h
  | (k, s) :: r, t, e, h => by
    rcases List.mem_cons.mp h with rfl | h
    · exact ⟨k, t, rfl, rfl⟩
    · exact ents2_int r _ e h
theorem ents2_hash : ∀ (ps : List (Int × Str)) (t : Nat), (ents2 t ps).map (·.hash) = hs ps
  | [], _ => rfl
  | (k, s) :: r, t => by show hashInt k :: _ = _; rw [ents2_hash r]; rfl
theorem ents2_len : ∀ (ps : List (Int × Str)) (t : Nat), (ents2 t ps).length = ps.length
  | [], _ => rfl
  | (k, s) :: r, t => by show (ents2 _ r).length + 1 = _; rw [ents2_len r]; rfl
theorem goPairs {l : List Obj} : ∀ (ps : List (Int × Str)) (tk : Nat) (p : Pos), ∃ p', Go w (evalPairs (ps.map (itP pos))) (st l tk os) p (3 * ps.length) (vals tk ps) (st l (tk + 2 * ps.length) os) p'
  | [], tk, p => ⟨p, Go.pure⟩
  | (k, x) :: ps, tk, p => by
    obtain ⟨p', ih⟩ := goPairs (l := l) ps (tk + 2) pos
    refine ⟨p', ?_⟩
    show Go w (do let kv ← mkInt k; let vv ← PySem.holding [kv] (itP pos (k, x)).2; return (kv, vv) :: (← PySem.holding [kv, vv] (evalPairs (ps.map (itP pos))))) _ _ _ _ _ _
    have e2 : tk + 2 * ((k, x) :: ps).length = tk + 2 + 2 * ps.length := by simp only [List.length_cons]; omega
    rw [e2]
    refine (Go.bind (c₁ := 1) (c₂ := 2 + 3 * ps.length) Go.mkInt ?_).mono_c (by simp only [List.length_cons]; omega)
    refine (Go.bind (c₁ := 2) (c₂ := 3 * ps.length) (Go.holding goVal) ?_)
    exact (Go.bind (c₁ := 3 * ps.length) (c₂ := 0) (Go.holding ih) Go.pure)
theorem goSets (hn : Nat.ble 11 pre.length = true) : ∀ (ps : List (Int × Str)) (es : List DictEntry) (t tk : Nat), (∀ e ∈ es, ∀ x ∈ ps, e.hash ≠ hashInt x.1) → (hs ps).Nodup → es.length + ps.length < 10000 →
    Go w (forIn (vals t ps) PUnit.unit fun (x : Value × Value) (_ : PUnit) => (do dictSet pre.length x.1 x.2; pure (ForInStep.yield PUnit.unit) : Sem (ForInStep PUnit)))
      (st (pre ++ dictObj es :: []) tk os) p (10 * ps.length) PUnit.unit (st (pre ++ dictObj (es ++ ents2 t ps) :: []) (tk + ps.length) os) p
  | [], es, t, tk, _, _, _ => by
    show Go w (forIn ([] : List (Value × Value)) PUnit.unit _) _ _ _ _ (st (pre ++ dictObj (es ++ []) :: []) _ os) _
    rw [List.append_nil, List.forIn_nil]
    exact Go.pure
  | (k, x) :: ps, es, t, tk, hd, hnd, hz => by
    simp only [List.length_cons] at hz
    obtain ⟨h1, h2⟩ := List.nodup_cons.mp hnd
    have ih := goSets hn ps (es ++ [ent k t (.str x (t + 1))]) (t + 2) (tk + 1) (fun e he y hy => by
      rcases List.mem_append.mp he with he | he
      · exact hd e he y (.tail _ hy)
      · rw [List.mem_singleton.mp he]
        intro e
        exact h1 (List.mem_map.mpr ⟨y, hy, Eq.symm e⟩)) h2 (by simp only [List.length_append, List.length_cons, List.length_nil]; omega)
    show Go w (forIn ((Value.int k t, Value.str x (t + 1)) :: vals (t + 2) ps) _ _) _ _ _ _ _ _
    rw [List.forIn_cons]
    refine (Go.bind (c₁ := 10) (c₂ := 10 * ps.length) (s₁ := st (pre ++ dictObj (es ++ [ent k t (.str x (t + 1))]) :: []) (tk + 1) os) (p₁ := p) (a := ForInStep.yield PUnit.unit) ?_ ?_).mono_c (by simp only [List.length_cons]; omega)
    · exact Go.bind (c₁ := 10) (c₂ := 0) (goSet (fun e he => hd e he (k, x) (.head _)) (by omega) hn) Go.pure
    · have e1 : es ++ ents2 t ((k, x) :: ps) = (es ++ [ent k t (.str x (t + 1))]) ++ ents2 (t + 2) ps := by rw [List.append_assoc]; rfl
      have e2 : tk + ((k, x) :: ps).length = tk + 1 + ps.length := by simp only [List.length_cons]; omega
      rw [e1, e2]
      exact ih
theorem goSub2 {ps : List (Int × Str)} (hn : Nat.ble 11 pre.length = true) (hnd : (hs ps).Nodup) (hl : ps.length ≤ 15) :
    ∃ p', Go w (subDict (ps.map (itP pos))) (st pre tk os) p (1 + 13 * ps.length) pre.length (st (pre ++ [dictObj (ents2 tk ps)]) (tk + 3 * ps.length) os) p' := by
  obtain ⟨p', h⟩ := goPairs (w := w) (pos := pos) (l := pre ++ [dictObj []]) (os := os) ps tk p
  have h2 := goSets (w := w) (p := p') (os := os) hn ps [] tk (tk + 2 * ps.length) (fun e he => by cases he) hnd (by simp only [List.length_nil]; omega)
  refine ⟨p', ?_⟩
  unfold subDict
  refine (Go.bind (c₁ := 1) (c₂ := 13 * ps.length) Go.alloc ?_)
  rw [st_push]
  have e : (st pre tk os).heap.objs.size = pre.length := by show pre.toArray.size = _; simp
  rw [e]
  refine Go.bind (c₁ := 13 * ps.length) (c₂ := 0) (a := ()) (Go.holding ?_) Go.pure
  rw [if_pos (by rw [List.length_map]; exact hl)]
  refine (Go.bind (c₁ := 3 * ps.length) (c₂ := 10 * ps.length) h ?_).mono_c (by omega)
  rw [show tk + 3 * ps.length = tk + 2 * ps.length + ps.length by omega]
  exact Go.holding (Go.bind (c₁ := 10 * ps.length) (c₂ := 0) h2 Go.pure)
end
end Mine
end
section
open PySem PySem.W PyProof.Rows
set_option maxRecDepth 100000
namespace Mine
abbrev SS := Sem Value × Sem Value
abbrev itI (pos : Pos) (x : Int × Str) : Option (Sem Value) × Sem Value := (some (itP pos x).1, (itP pos x).2)
abbrev FT := (Option (Sem Value) × Sem Value) → (Option Addr × List SS) → Sem (ForInStep (Option Addr × List SS))
section
variable {w : World} {pre subs : List Obj} {es : List DictEntry} {tk : Nat} {os : OsState} {p p' pos : Pos}
theorem gather {F : FT} (hF1 : ∀ (x : Int × Str) (m : Option Addr) (run : List SS), run.length + 1 < 17 → F (itI pos x) (m, run) = pure (.yield (m, run ++ [itP pos x]))) :
    ∀ (c : List (Int × Str)) (run : List SS) (rest : List (Option (Sem Value) × Sem Value)) (m : Option Addr), run.length + c.length < 17 →
      forIn (c.map (itI pos) ++ rest) (m, run) F = forIn rest (m, run ++ c.map (itP pos)) F
  | [], run, rest, m, _ => by simp
  | x :: c, run, rest, m, h => by
    rw [List.map_cons, List.cons_append, List.forIn_cons, hF1 x m run (by simp at h; omega), pure_bind]
    have := gather hF1 c (run ++ [itP pos x]) rest m (by simp at h ⊢; omega)
    simpa using this
/-- what the sub dicts hold -/
def subObjs : Nat → List (Int × Str) → Nat → List Obj
  | _, _, 0 => []
  | t, ps, n + 1 => dictObj (ents t (ps.take 17)) :: subObjs (t + 51) (ps.drop 17) n
theorem goChunks {F : FT} (hF1 : ∀ (x : Int × Str) (m : Option Addr) (run : List SS), run.length + 1 < 17 → F (itI pos x) (m, run) = pure (.yield (m, run ++ [itP pos x])))
    (hF3 : ∀ (c : List (Int × Str)) (x : Int × Str) (es : List DictEntry) (subs : List Obj) (tk : Nat) (p : Pos), c.length = 16 → es ≠ [] → es.length + 17 < 10000 → (∀ e ∈ es, ∀ y ∈ c ++ [x], e.hash ≠ hashInt y.1) → (hs (c ++ [x])).Nodup →
      ∃ p', Go w (F (itI pos x) (some pre.length, c.map (itP pos))) (st (pre ++ dictObj es :: subs) tk os) p 330 (.yield (some pre.length, [])) (st (pre ++ dictObj (es ++ ents tk (c ++ [x])) :: (subs ++ [dictObj (ents tk (c ++ [x]))])) (tk + 51) os) p')
    (last : List (Int × Str)) (hlast : last.length < 17) : ∀ (n : Nat) (ps : List (Int × Str)) (es : List DictEntry) (subs : List Obj) (tk : Nat) (p : Pos), ps.length = 17 * n → es ≠ [] → es.length + 17 * n < 10000 →
      (∀ e ∈ es, ∀ y ∈ ps, e.hash ≠ hashInt y.1) → (hs ps).Nodup →
      ∃ p', Go w (forIn ((ps ++ last).map (itI pos)) (some pre.length, ([] : List SS)) F) (st (pre ++ dictObj es :: subs) tk os) p (330 * n) (some pre.length, last.map (itP pos))
        (st (pre ++ dictObj (es ++ ents tk ps) :: (subs ++ subObjs tk ps n)) (tk + 51 * n) os) p'
  | 0, ps, es, subs, tk, p, hl, _, _, _, _ => by
    obtain rfl : ps = [] := List.length_eq_zero_iff.mp hl
    refine ⟨p, ?_⟩
    have e := gather hF1 last [] [] (some pre.length) (by simpa using hlast)
    rw [List.append_nil] at e
    rw [List.nil_append, e, List.forIn_nil]
    simp only [ents, subObjs, List.append_nil, List.nil_append, Nat.mul_zero, Nat.add_zero]
    exact Go.pure
  | n + 1, ps, es, subs, tk, p, hl, hne, hz, hd, hnd => by
    obtain ⟨c, x, r, e, hc⟩ : ∃ c x r, ps = (c ++ [x]) ++ r ∧ c.length = 16 := by
      refine ⟨ps.take 16, ps[16]'(by omega), ps.drop 17, ?_, by rw [List.length_take]; omega⟩
      rw [List.append_assoc, List.singleton_append, ← List.drop_eq_getElem_cons (by omega), List.take_append_drop]
    subst e
    have hr : r.length = 17 * n := by simp only [List.length_append, List.length_cons, List.length_nil] at hl; omega
    have hnd' : (hs (c ++ [x]) ++ hs r).Nodup := by rw [hs, List.map_append] at hnd; exact hnd
    obtain ⟨n1, n2, n3⟩ := List.nodup_append.mp hnd'
    obtain ⟨p₁, h1⟩ := hF3 c x es subs tk p hc hne (by omega) (fun e he y hy => hd e he y (List.mem_append_left _ hy)) n1
    obtain ⟨p₂, ih⟩ := goChunks hF1 hF3 last hlast n r (es ++ ents tk (c ++ [x])) (subs ++ [dictObj (ents tk (c ++ [x]))]) (tk + 51) p₁ hr (by simp [hne]) (by rw [List.length_append, ents_len]; simp; omega)
      (fun e he y hy => by
        rcases List.mem_append.mp he with he | he
        · exact hd e he y (List.mem_append_right _ hy)
        · obtain ⟨z, hz, q⟩ := ents_keys _ _ _ he
          rw [q]
          exact n3 _ (List.mem_map.mpr ⟨z, hz, rfl⟩) _ (List.mem_map.mpr ⟨y, hy, rfl⟩)) n2
    refine ⟨p₂, ?_⟩
    have e0 : (((c ++ [x]) ++ r) ++ last).map (itI pos) = c.map (itI pos) ++ (itI pos x :: (r ++ last).map (itI pos)) := by simp
    rw [e0, gather hF1 c [] _ _ (by simp; omega), List.nil_append, List.forIn_cons]
    refine (Go.bind (c₁ := 330) (c₂ := 330 * n) h1 ?_).mono_c (by omega)
    have e1 : ents tk ((c ++ [x]) ++ r) = ents tk (c ++ [x]) ++ ents (tk + 51) r := by
      rw [ents_app]
      congr 2
      simp only [List.length_append, List.length_cons, List.length_nil]; omega
    have l17 : (c ++ [x]).length = 17 := by simp only [List.length_append, List.length_cons, List.length_nil]; omega
    have e2 : subObjs tk ((c ++ [x]) ++ r) (n + 1) = dictObj (ents tk (c ++ [x])) :: subObjs (tk + 51) r n := by
      show dictObj (ents tk (((c ++ [x]) ++ r).take 17)) :: subObjs (tk + 51) (((c ++ [x]) ++ r).drop 17) n = _
      rw [List.take_append_of_le_length (by omega), List.take_of_length_le (by omega), List.drop_append_of_le_length (by omega), List.drop_of_length_le (by omega), List.nil_append]
    rw [e1, e2, show tk + 51 * (n + 1) = tk + 51 + 51 * n by omega]
    have e3 : es ++ (ents tk (c ++ [x]) ++ ents (tk + 51) r) = (es ++ ents tk (c ++ [x])) ++ ents (tk + 51) r := (List.append_assoc ..).symm
    have e4 : subs ++ dictObj (ents tk (c ++ [x])) :: subObjs (tk + 51) r n = (subs ++ [dictObj (ents tk (c ++ [x]))]) ++ subObjs (tk + 51) r n := by simp
    rw [e3, e4]
    exact ih
/-- the loop whole, over what one turn does -/
theorem goLoopAll {F : FT} {G : Option Addr × List SS → Sem Value} (hn : Nat.ble 11 pre.length = true) (hF1 : ∀ (x : Int × Str) (m : Option Addr) (run : List SS), run.length + 1 < 17 → F (itI pos x) (m, run) = pure (.yield (m, run ++ [itP pos x])))
    (hF2 : ∀ (c : List (Int × Str)) (x : Int × Str) (tk : Nat) (p : Pos), c.length = 16 → (hs (c ++ [x])).Nodup →
      ∃ p', Go w (F (itI pos x) (none, c.map (itP pos))) (st pre tk os) p 223 (.yield (some pre.length, [])) (st (pre ++ [dictObj (ents tk (c ++ [x]))]) (tk + 51) os) p')
    (hF3 : ∀ (c : List (Int × Str)) (x : Int × Str) (es : List DictEntry) (subs : List Obj) (tk : Nat) (p : Pos), c.length = 16 → es ≠ [] → es.length + 17 < 10000 → (∀ e ∈ es, ∀ y ∈ c ++ [x], e.hash ≠ hashInt y.1) → (hs (c ++ [x])).Nodup →
      ∃ p', Go w (F (itI pos x) (some pre.length, c.map (itP pos))) (st (pre ++ dictObj es :: subs) tk os) p 330 (.yield (some pre.length, [])) (st (pre ++ dictObj (es ++ ents tk (c ++ [x])) :: (subs ++ [dictObj (ents tk (c ++ [x]))])) (tk + 51) os) p')
    (hG : ∀ (l : List (Int × Str)) (es : List DictEntry) (subs : List Obj) (tk : Nat) (p : Pos), l.length ≤ 15 → l ≠ [] → es ≠ [] → es.length + 15 < 10000 → (∀ e ∈ es, ∀ y ∈ l, e.hash ≠ hashInt y.1) → (hs l).Nodup →
      ∃ p', Go w (G (some pre.length, l.map (itP pos))) (st (pre ++ dictObj es :: subs) tk os) p (6 + 19 * l.length) (.ref pre.length) (st (pre ++ dictObj (es ++ ents2 tk l) :: (subs ++ [dictObj (ents2 tk l)])) (tk + 3 * l.length) os) p')
    {first ps last : List (Int × Str)} {n : Nat} (h1 : first.length = 17) (hps : ps.length = 17 * n) (hl : last.length ≤ 15) (hl0 : last ≠ []) (hnd : (hs (first ++ (ps ++ last))).Nodup) (hz : 17 + 17 * n + last.length < 9000) :
    ∃ p', Go w (forIn ((first ++ (ps ++ last)).map (itI pos)) ((none : Option Addr), ([] : List SS)) F >>= G) (st pre tk os) p (223 + 330 * n + (6 + 19 * last.length)) (.ref pre.length)
      (st (pre ++ dictObj (ents tk first ++ ents (tk + 51) ps ++ ents2 (tk + 51 + 51 * n) last) :: (subObjs (tk + 51) ps n ++ [dictObj (ents2 (tk + 51 + 51 * n) last)])) (tk + 51 + 51 * n + 3 * last.length) os) p' := by
  obtain ⟨c, x, rfl, hc⟩ : ∃ c x, first = c ++ [x] ∧ c.length = 16 := by
    refine ⟨first.take 16, first[16]'(by omega), ?_, by rw [List.length_take]; omega⟩
    have e := List.take_append_drop 16 first
    rw [List.drop_eq_getElem_cons (show 16 < first.length by omega), List.drop_of_length_le (show first.length ≤ 16 + 1 by omega)] at e
    exact e.symm
  have hs1 : (hs (c ++ [x]) ++ (hs ps ++ hs last)).Nodup := by simpa [hs] using hnd
  obtain ⟨n1, n2, n3⟩ := List.nodup_append.mp hs1
  obtain ⟨n4, n5, n6⟩ := List.nodup_append.mp n2
  have l17 : (c ++ [x]).length = 17 := h1
  have hes1 : ents tk (c ++ [x]) ≠ [] := by
    intro q
    have := ents_len (c ++ [x]) tk
    rw [q] at this; simp at this
  have len1 : (ents tk (c ++ [x])).length = 17 := by rw [ents_len]; exact l17
  have lenp : (ents (tk + 51) ps).length = 17 * n := by rw [ents_len]; exact hps
  have hd1 : ∀ e ∈ ents tk (c ++ [x]), ∀ y ∈ ps, e.hash ≠ hashInt y.1 := fun e he y hy => by
    obtain ⟨z, hz, q⟩ := ents_keys _ _ _ he
    rw [q]
    exact n3 _ (List.mem_map.mpr ⟨z, hz, rfl⟩) _ (List.mem_append_left _ (List.mem_map.mpr ⟨y, hy, rfl⟩))
  obtain ⟨p₁, g1⟩ := hF2 c x tk p hc n1
  obtain ⟨p₂, g2⟩ := goChunks hF1 hF3 last (by omega) n ps (ents tk (c ++ [x])) [] (tk + 51) p₁ hps hes1 (by rw [len1]; omega) hd1 n4
  obtain ⟨p₃, g3⟩ := hG last (ents tk (c ++ [x]) ++ ents (tk + 51) ps) (subObjs (tk + 51) ps n) (tk + 51 + 51 * n) p₂ hl hl0 (by simp [hes1]) (by rw [List.length_append, len1, lenp]; omega)
    (fun e he y hy => by
      rcases List.mem_append.mp he with he | he
      · obtain ⟨z, hz, q⟩ := ents_keys _ _ _ he
        rw [q]
        exact n3 _ (List.mem_map.mpr ⟨z, hz, rfl⟩) _ (List.mem_append_right _ (List.mem_map.mpr ⟨y, hy, rfl⟩))
      · obtain ⟨z, hz, q⟩ := ents_keys _ _ _ he
        rw [q]
        exact n6 _ (List.mem_map.mpr ⟨z, hz, rfl⟩) _ (List.mem_map.mpr ⟨y, hy, rfl⟩)) n5
  refine ⟨p₃, ?_⟩
  refine Go.bind (c₁ := 223 + 330 * n) ?_ g3
  have e0 : ((c ++ [x]) ++ (ps ++ last)).map (itI pos) = c.map (itI pos) ++ (itI pos x :: (ps ++ last).map (itI pos)) := by simp
  rw [e0, gather hF1 c [] _ none (by simp; omega), List.nil_append, List.forIn_cons]
  exact Go.bind (c₁ := 223) (c₂ := 330 * n) g1 g2
/-- the whole display: 17 pairs, then n runs of 17, then the last few -/
theorem goDisplay (hn : Nat.ble 11 pre.length = true) {first ps last : List (Int × Str)} {n : Nat} (h1 : first.length = 17) (hps : ps.length = 17 * n) (hl : last.length ≤ 15) (hl0 : last ≠ []) (hnd : (hs (first ++ (ps ++ last))).Nodup) (hz : 17 + 17 * n + last.length < 9000) :
    ∃ p', Go w (dictDisplay ((first ++ (ps ++ last)).map (itI pos))) (st pre tk os) p (223 + 330 * n + (6 + 19 * last.length)) (.ref pre.length)
      (st (pre ++ dictObj (ents tk first ++ ents (tk + 51) ps ++ ents2 (tk + 51 + 51 * n) last) :: (subObjs (tk + 51) ps n ++ [dictObj (ents2 (tk + 51 + 51 * n) last)])) (tk + 51 + 51 * n + 3 * last.length) os) p' := by
  unfold dictDisplay
  dsimp only
  refine goLoopAll hn ?_ ?_ ?_ ?_ h1 hps hl hl0 hnd hz
  · intro y m run hr
    have : ((run ++ [itP pos y]).length == 17) = false := by simp; omega
    simp only [this, Bool.false_eq_true, if_false]
  · intro c x tk p hc hnd
    have r17 : ((c.map (itP pos) ++ [itP pos x]).length == 17) = true := by simp; omega
    have emp17 : (c.map (itP pos) ++ [itP pos x]).isEmpty = false := by simp
    have map17 : c.map (itP pos) ++ [itP pos x] = (c ++ [x]).map (itP pos) := by simp
    have l17 : (c ++ [x]).length = 17 := by simp; omega
    obtain ⟨p₁, g1⟩ := goSub (w := w) (pos := pos) (p := p) (tk := tk) (os := os) (ps := c ++ [x]) hn hnd (by omega) (by omega)
    rw [l17] at g1
    refine ⟨p₁, ?_⟩
    dsimp only
    rw [r17, if_pos rfl, emp17, if_neg Bool.false_ne_true, map17]
    refine Go.bind (c₁ := 223) (c₂ := 0) (a := some pre.length) ?_ Go.pure
    exact Go.bind (c₁ := 223) (c₂ := 0) g1 Go.pure
  · intro c x es subs tk p hc hne hz hd hnd
    have r17 : ((c.map (itP pos) ++ [itP pos x]).length == 17) = true := by simp; omega
    have emp17 : (c.map (itP pos) ++ [itP pos x]).isEmpty = false := by simp
    have map17 : c.map (itP pos) ++ [itP pos x] = (c ++ [x]).map (itP pos) := by simp
    have l17 : (c ++ [x]).length = 17 := by simp; omega
    have ln : (pre ++ dictObj es :: subs).length = pre.length + 1 + subs.length := by simp; omega
    have hn' : Nat.ble 11 (pre ++ dictObj es :: subs).length = true := by
      have := Nat.le_of_ble_eq_true hn
      exact Nat.ble_eq_true_of_le (by simp; omega)
    obtain ⟨p₁, q1⟩ := goSub (w := w) (pre := pre ++ dictObj es :: subs) (pos := pos) (p := p) (tk := tk) (os := os) (ps := c ++ [x]) hn' hnd (by omega) (by omega)
    rw [l17, ln, List.append_assoc, List.cons_append] at q1
    have q2 := goMerge (w := w) (pre := pre) (subs := subs) (es := es) (tk := tk + 51) (os := os) (p := p₁) (ents_int (c ++ [x]) tk) hn hne (by rw [ents_len]; omega) (fun y hy e he => by
        obtain ⟨z, hz, q⟩ := ents_keys _ _ _ he
        rw [q]; exact hd y hy z hz) (by rw [ents_hash]; exact hnd)
    rw [ents_len, l17] at q2
    refine ⟨p₁, ?_⟩
    dsimp only
    rw [r17, if_pos rfl, emp17, if_neg Bool.false_ne_true, map17]
    refine Go.bind (c₁ := 330) (c₂ := 0) (a := some pre.length) ?_ Go.pure
    refine Go.bind (c₁ := 223) (c₂ := 107) (Go.holding q1) ?_
    exact Go.bind (c₁ := 107) (c₂ := 0) (Go.onRaise (Go.holding q2)) Go.pure
  · intro l es subs tk p hl hl0 hne hz hd hnd
    have emp : (l.map (itP pos)).isEmpty = false := by cases l with | nil => exact absurd rfl hl0 | cons _ _ => rfl
    have ln : (pre ++ dictObj es :: subs).length = pre.length + 1 + subs.length := by simp; omega
    have hn' : Nat.ble 11 (pre ++ dictObj es :: subs).length = true := by
      have := Nat.le_of_ble_eq_true hn
      exact Nat.ble_eq_true_of_le (by simp; omega)
    obtain ⟨p₁, q1⟩ := goSub2 (w := w) (pre := pre ++ dictObj es :: subs) (pos := pos) (p := p) (tk := tk) (os := os) (ps := l) hn' hnd hl
    rw [ln, List.append_assoc, List.cons_append] at q1
    have q2 := goMerge (w := w) (pre := pre) (subs := subs) (es := es) (tk := tk + 3 * l.length) (os := os) (p := p₁) (ents2_int l tk) hn hne (by rw [ents2_len]; omega) (fun y hy e he => by
        have : e.hash ∈ (ents2 tk l).map (·.hash) := List.mem_map.mpr ⟨e, he, rfl⟩
        rw [ents2_hash] at this
        obtain ⟨z, hz, q⟩ := List.mem_map.mp this
        rw [← q]; exact hd y hy z hz) (by rw [ents2_hash]; exact hnd)
    rw [ents2_len] at q2
    refine ⟨p₁, ?_⟩
    dsimp only
    rw [emp, if_neg Bool.false_ne_true]
    refine Go.bind (c₁ := 6 + 19 * l.length) (c₂ := 0) (a := some pre.length) ?_ Go.pure
    refine (Go.bind (c₁ := 1 + 13 * l.length) (c₂ := 5 + 6 * l.length) (Go.holding q1) ?_).mono_c (by omega)
    exact Go.bind (c₁ := 5 + 6 * l.length) (c₂ := 0) (Go.onRaise (Go.holding q2)) Go.pure
end
end Mine
end
section
open PySem PySem.W PyProof.Rows
set_option linter.unusedVariables false
set_option maxRecDepth 100000
set_option maxHeartbeats 0
namespace Mine
/-- the display's keys and values, read off the text -/
noncomputable def kv3 : List (Option Expr) × List Expr := match stAt 3 with | .Assign _ (.Dict ks vs _) _ => (ks, vs) | _ => ([], [])
noncomputable def p3a : Pos := match stAt 3 with | .Assign [.Name _ q] _ _ => q | _ => default
noncomputable def p3b : Pos := match stAt 3 with | .Assign _ (.Dict _ _ q) _ => q | _ => default
noncomputable def p3c : Pos := match stAt 3 with | .Assign _ _ q => q | _ => default
noncomputable def nm3 : Str := match stAt 3 with | .Assign [.Name n _] _ _ => n | _ => default
theorem st3_shape : stAt 3 = .Assign [.Name nm3 p3a] (.Dict kv3.1 kv3.2 p3b) p3c := by kernel_rfl
def pairsOf : List (Option Expr) → List Expr → Option (List (Int × Str))
  | [], [] => some []
  | some (.Constant (.int k) _ _) :: ks, .Constant (.str s) _ _ :: vs => (pairsOf ks vs).map ((k, s) :: ·)
  | _, _ => none
noncomputable def b3 : List (Int × Str) := (pairsOf kv3.1 kv3.2).getD []
theorem b3_pairs : pairsOf kv3.1 kv3.2 = some b3 := by kernel_rfl
theorem items_of {env : Env} {pos : Pos} : ∀ (ks : List (Option Expr)) (vs : List Expr) (ps : List (Int × Str)), pairsOf ks vs = some ps →
    (evalEachOpt ks env).zip ((evalEach vs env).map fun v => do let x ← v; standAt pos; pure x) = ps.map (itI pos) := by
  intro ks vs
  induction ks, vs using pairsOf.induct with
  | case1 => intro ps h; obtain rfl : [] = ps := Option.some.inj h; rfl
  | case2 k a b ks s c d vs ih =>
    intro ps h
    obtain ⟨r, hr, rfl⟩ := Option.map_eq_some_iff.mp h
    rw [List.map_cons, ← ih r hr]
    rfl
  | case3 ks vs h1 h2 =>
    intro ps h
    rw [pairsOf] at h
    · cases h
    · exact h1
    · exact h2
def rising : List Int → Bool
  | [] => true
  | [_] => true
  | a :: b :: r => decide (a < b) && rising (b :: r)
theorem rising_lt : ∀ (l : List Int) (a : Int), rising (a :: l) = true → ∀ x ∈ l, a < x
  | [], _, _, _, h => by cases h
  | b :: r, a, h, x, hx => by
    obtain ⟨h1, h2⟩ := Bool.and_eq_true_iff.mp h
    have h1 := of_decide_eq_true h1
    rcases List.mem_cons.mp hx with rfl | hx
    · exact h1
    · exact Int.lt_trans h1 (rising_lt r b h2 x hx)
theorem rising_nodup : ∀ (l : List Int), rising l = true → l.Nodup
  | [], _ => .nil
  | a :: l, h => List.nodup_cons.mpr ⟨fun hm => Int.lt_irrefl a (rising_lt l a h a hm), rising_nodup l (by cases l with | nil => rfl | cons b r => exact (Bool.and_eq_true_iff.mp h).2)⟩
theorem b3_rising : rising (hs b3) = true := by kernel_rfl
theorem b3_len : b3.length = 650 := by kernel_rfl
noncomputable def b3a : List (Int × Str) := b3.take 17
noncomputable def b3b : List (Int × Str) := (b3.drop 17).take 629
noncomputable def b3c : List (Int × Str) := b3.drop 646
theorem b3_cut : b3a ++ (b3b ++ b3c) = b3 := by
  unfold b3a b3b b3c
  have e : (b3.drop 17).take 629 ++ b3.drop 646 = b3.drop 17 := by
    have := List.take_append_drop 629 (b3.drop 17)
    rw [List.drop_drop] at this
    exact this
  rw [e, List.take_append_drop]
theorem b3a_len : b3a.length = 17 := by unfold b3a; rw [List.length_take, b3_len]; rfl
theorem b3b_len : b3b.length = 17 * 37 := by unfold b3b; rw [List.length_take, List.length_drop, b3_len]; rfl
theorem b3c_len : b3c.length = 4 := by unfold b3c; rw [List.length_drop, b3_len]
/-- the table, as the run lays it -/
noncomputable def b3ents : List DictEntry := ents 256 b3a ++ ents 307 b3b ++ ents2 2194 b3c
noncomputable def dkL : List Obj := dictObj b3ents :: (subObjs 307 b3b 37 ++ [dictObj (ents2 2194 b3c)])
noncomputable def dkAt (i : Nat) : Obj := (dkL[i - 33]?).getD default
end Mine
end
section
open PySem PySem.W PyProof.Rows
set_option linter.unusedVariables false
set_option maxRecDepth 100000
set_option maxHeartbeats 0
namespace Mine
noncomputable def dk33 (P : Params) : Obj := dkAt 33
noncomputable def dk34 (P : Params) : Obj := dkAt 34
noncomputable def dk35 (P : Params) : Obj := dkAt 35
noncomputable def dk36 (P : Params) : Obj := dkAt 36
noncomputable def dk37 (P : Params) : Obj := dkAt 37
noncomputable def dk38 (P : Params) : Obj := dkAt 38
noncomputable def dk39 (P : Params) : Obj := dkAt 39
noncomputable def dk40 (P : Params) : Obj := dkAt 40
noncomputable def dk41 (P : Params) : Obj := dkAt 41
noncomputable def dk42 (P : Params) : Obj := dkAt 42
noncomputable def dk43 (P : Params) : Obj := dkAt 43
noncomputable def dk44 (P : Params) : Obj := dkAt 44
noncomputable def dk45 (P : Params) : Obj := dkAt 45
noncomputable def dk46 (P : Params) : Obj := dkAt 46
noncomputable def dk47 (P : Params) : Obj := dkAt 47
noncomputable def dk48 (P : Params) : Obj := dkAt 48
noncomputable def dk49 (P : Params) : Obj := dkAt 49
noncomputable def dk50 (P : Params) : Obj := dkAt 50
noncomputable def dk51 (P : Params) : Obj := dkAt 51
noncomputable def dk52 (P : Params) : Obj := dkAt 52
noncomputable def dk53 (P : Params) : Obj := dkAt 53
noncomputable def dk54 (P : Params) : Obj := dkAt 54
noncomputable def dk55 (P : Params) : Obj := dkAt 55
noncomputable def dk56 (P : Params) : Obj := dkAt 56
noncomputable def dk57 (P : Params) : Obj := dkAt 57
noncomputable def dk58 (P : Params) : Obj := dkAt 58
noncomputable def dk59 (P : Params) : Obj := dkAt 59
noncomputable def dk60 (P : Params) : Obj := dkAt 60
noncomputable def dk61 (P : Params) : Obj := dkAt 61
noncomputable def dk62 (P : Params) : Obj := dkAt 62
noncomputable def dk63 (P : Params) : Obj := dkAt 63
noncomputable def dk64 (P : Params) : Obj := dkAt 64
noncomputable def dk65 (P : Params) : Obj := dkAt 65
noncomputable def dk66 (P : Params) : Obj := dkAt 66
noncomputable def dk67 (P : Params) : Obj := dkAt 67
noncomputable def dk68 (P : Params) : Obj := dkAt 68
noncomputable def dk69 (P : Params) : Obj := dkAt 69
noncomputable def dk70 (P : Params) : Obj := dkAt 70
noncomputable def dk71 (P : Params) : Obj := dkAt 71
noncomputable def o11_pre (P : Params) : Obj := ⟨(.type "tuple"), none, (.seq #[] 0), #[]⟩
noncomputable def o12_pre (P : Params) : Obj := ⟨.none, none, (.fields #[]), #[]⟩
noncomputable def o13_pre (P : Params) : Obj := ⟨(.type "code"), none, (.fields #[(.str (Str.ofString "<module>") 182), (.str (Str.ofString "<module>") 183), (.str (Str.ofString "/claim/cut.py") 184), (.int 1 0), (.int 0 0), (.int 0 0), (.int 0 0), (.int 0 0), (.ref 11), (.bool false), (.int 181 0), (.ref 12), .none, .none, .none, .none, (.int 185 0), (.int 1 0), (.str (Str.ofString "/claim/cut.py") 186)]), #[]⟩
noncomputable def o14_pre (P : Params) : Obj := ⟨(.type "frame"), none, .plain, #[(some (.ref 13)), (some (.ref 3)), (some (.ref 3)), none, (some (.str (Str.ofString "__main__") 164)), none, (some (.ref 0))]⟩
noncomputable def tr_pre (P : Params) : BT := (.node (boot_o_0 P) (.node (boot_o_1 P) (.node (boot_o_3 P) (.node (boot_o_7 P) .nil .nil) (.node (o11_pre P) .nil .nil)) (.node (boot_o_5 P) (.node (boot_o_9 P) .nil .nil) (.node (o13_pre P) .nil .nil))) (.node (boot_o_2 P) (.node (boot_o_4 P) (.node (boot_o_8 P) .nil .nil) (.node (o12_pre P) .nil .nil)) (.node (boot_o_6 P) (.node (boot_o_10 P) .nil .nil) (.node (o14_pre P) .nil .nil))))
noncomputable def s_pre (P : Params) (os : OsState) : SharedT := ⟨tr_pre P, 15, life0, #[], boot_drawn, 187, os⟩
def p_pre : Pos := ⟨0, 0, 0, 0⟩
noncomputable def tr_block (P : Params) : BT := (.node (boot_o_0 P) (.node (boot_o_1 P) (.node (boot_o_3 P) (.node (boot_o_7 P) .nil .nil) (.node (o11_pre P) .nil .nil)) (.node (boot_o_5 P) (.node (boot_o_9 P) .nil .nil) (.node (o13_pre P) .nil .nil))) (.node (boot_o_2 P) (.node (boot_o_4 P) (.node (boot_o_8 P) .nil .nil) (.node (o12_pre P) .nil .nil)) (.node (boot_o_6 P) (.node (boot_o_10 P) .nil .nil) (.node (o14_pre P) .nil .nil))))
noncomputable def s_block (P : Params) (os : OsState) : SharedT := ⟨tr_block P, 15, life0, #[], boot_drawn, 187, os⟩
def p_block : Pos := ⟨0, 0, 0, 0⟩
noncomputable def o3_st0 (P : Params) : Obj := ⟨(.type "dict"), none, (.dict #[⟨PyData.keyHash P (Str.ofString "__name__"), (.str (Str.ofString "__name__") 165), (.str (Str.ofString "cpy313.stringprep") 187)⟩, ⟨PyData.keyHash P (Str.ofString "__doc__"), (.str (Str.ofString "__doc__") 166), .none⟩, ⟨PyData.keyHash P (Str.ofString "__package__"), (.str (Str.ofString "__package__") 167), .none⟩, ⟨PyData.keyHash P (Str.ofString "__loader__"), (.str (Str.ofString "__loader__") 168), (.builtin "__main__.__loader__#opaque")⟩, ⟨PyData.keyHash P (Str.ofString "__spec__"), (.str (Str.ofString "__spec__") 169), .none⟩, ⟨PyData.keyHash P (Str.ofString "__annotations__"), (.str (Str.ofString "__annotations__") 170), (.ref 6)⟩, ⟨PyData.keyHash P (Str.ofString "__builtins__"), (.str (Str.ofString "__builtins__") 171), (.ref 4)⟩, ⟨PyData.keyHash P (Str.ofString "__file__"), (.str (Str.ofString "__file__") 173), (.str (Str.ofString "/claim/cut.py") 172)⟩, ⟨PyData.keyHash P (Str.ofString "__cached__"), (.str (Str.ofString "__cached__") 174), .none⟩] 9), #[]⟩
noncomputable def tr_st0 (P : Params) : BT := (.node (boot_o_0 P) (.node (boot_o_1 P) (.node (o3_st0 P) (.node (boot_o_7 P) .nil .nil) (.node (o11_pre P) .nil .nil)) (.node (boot_o_5 P) (.node (boot_o_9 P) .nil .nil) (.node (o13_pre P) .nil .nil))) (.node (boot_o_2 P) (.node (boot_o_4 P) (.node (boot_o_8 P) .nil .nil) (.node (o12_pre P) .nil .nil)) (.node (boot_o_6 P) (.node (boot_o_10 P) .nil .nil) (.node (o14_pre P) .nil .nil))))
noncomputable def s_st0 (P : Params) (os : OsState) : SharedT := ⟨tr_st0 P, 15, life0, #[], boot_drawn, 189, os⟩
def p_st0 : Pos := ⟨1, 0, 1, 8⟩
noncomputable def o3_st1 (P : Params) : Obj := ⟨(.type "dict"), none, (.dict #[⟨PyData.keyHash P (Str.ofString "__name__"), (.str (Str.ofString "__name__") 165), (.str (Str.ofString "cpy313.stringprep") 187)⟩, ⟨PyData.keyHash P (Str.ofString "__doc__"), (.str (Str.ofString "__doc__") 166), .none⟩, ⟨PyData.keyHash P (Str.ofString "__package__"), (.str (Str.ofString "__package__") 167), .none⟩, ⟨PyData.keyHash P (Str.ofString "__loader__"), (.str (Str.ofString "__loader__") 168), (.builtin "__main__.__loader__#opaque")⟩, ⟨PyData.keyHash P (Str.ofString "__spec__"), (.str (Str.ofString "__spec__") 169), .none⟩, ⟨PyData.keyHash P (Str.ofString "__annotations__"), (.str (Str.ofString "__annotations__") 170), (.ref 6)⟩, ⟨PyData.keyHash P (Str.ofString "__builtins__"), (.str (Str.ofString "__builtins__") 171), (.ref 4)⟩, ⟨PyData.keyHash P (Str.ofString "__file__"), (.str (Str.ofString "__file__") 173), (.str (Str.ofString "/claim/cut.py") 172)⟩, ⟨PyData.keyHash P (Str.ofString "__cached__"), (.str (Str.ofString "__cached__") 174), .none⟩, ⟨PyData.keyHash P (Str.ofString "b1_set"), (.str (Str.ofString "b1_set") 248), (.ref 22)⟩] 10), #[]⟩
noncomputable def o15_st1 (P : Params) : Obj := ⟨(.type "list"), none, (.seq #[(.int 173 189), (.int 847 190), (.int 6150 191), (.int 6155 192), (.int 6156 193), (.int 6157 194), (.int 8203 195), (.int 8204 196), (.int 8205 197), (.int 8288 198), (.int 65279 199)] 0), #[]⟩
noncomputable def o16_st1 (P : Params) : Obj := ⟨(.type "range"), none, (.fields #[(.int 65024 200), (.int 65040 201), (.int 1 202)]), #[]⟩
noncomputable def o17_st1 (P : Params) : Obj := ⟨(.type "list"), none, (.seq #[(.int 65024 205), (.int 65025 206), (.int 65026 207), (.int 65027 208), (.int 65028 209), (.int 65029 210), (.int 65030 211), (.int 65031 212), (.int 65032 213), (.int 65033 214), (.int 65034 215), (.int 65035 216), (.int 65036 217), (.int 65037 218), (.int 65038 219), (.int 65039 220)] 18), #[]⟩
noncomputable def o18_st1 (P : Params) : Obj := ⟨(.type "range_iterator"), none, (.fields #[(.int 65040 0), (.int 0 0), (.int 1 0)]), #[]⟩
noncomputable def o19_st1 (P : Params) : Obj := ⟨(.type "tuple"), none, (.seq #[] 0), #[]⟩
noncomputable def o20_st1 (P : Params) : Obj := ⟨(.type "StopIteration"), none, (.fields #[(.ref 19), .none, .none, .none, (.bool false), .none]), #[]⟩
noncomputable def o21_st1 (P : Params) : Obj := ⟨(.type "list"), none, (.seq #[(.int 173 189), (.int 847 190), (.int 6150 191), (.int 6155 192), (.int 6156 193), (.int 6157 194), (.int 8203 195), (.int 8204 196), (.int 8205 197), (.int 8288 198), (.int 65279 199), (.int 65024 205), (.int 65025 206), (.int 65026 207), (.int 65027 208), (.int 65028 209), (.int 65029 210), (.int 65030 211), (.int 65031 212), (.int 65032 213), (.int 65033 214), (.int 65034 215), (.int 65035 216), (.int 65036 217), (.int 65037 218), (.int 65038 219), (.int 65039 220)] 0), #[]⟩
noncomputable def o22_st1 (P : Params) : Obj := ⟨(.type "set"), none, (.set #[(65024, (.int 65024 205)), (65025, (.int 65025 206)), (65026, (.int 65026 207)), (65027, (.int 65027 208)), (65028, (.int 65028 209)), (65029, (.int 65029 210)), (6150, (.int 6150 191)), (65030, (.int 65030 211)), (65031, (.int 65031 212)), (65032, (.int 65032 213)), (65033, (.int 65033 214)), (6155, (.int 6155 192)), (6156, (.int 6156 193)), (6157, (.int 6157 194)), (8203, (.int 8203 195)), (8204, (.int 8204 196)), (8205, (.int 8205 197)), (65034, (.int 65034 215)), (65035, (.int 65035 216)), (65036, (.int 65036 217)), (65037, (.int 65037 218)), (65038, (.int 65038 219)), (65039, (.int 65039 220)), (173, (.int 173 189)), (847, (.int 847 190)), (8288, (.int 8288 198)), (65279, (.int 65279 199))] 29 ⟨127, #[0, 1, 2, 3, 4, 5, 6, 7, 8, 9, 10, 11, 12, 13, 14, 15, 16, 17, 18, 19, 20, 21, 22, 45, 79, 96, 127], #[], 0, !P.followText "set-order", 2, true⟩), #[]⟩
noncomputable def o23_st1 (P : Params) : Obj := ⟨(.type "list_iterator"), none, (.fields #[.none, (.int 27 0)]), #[]⟩
noncomputable def o24_st1 (P : Params) : Obj := ⟨(.type "tuple"), none, (.seq #[] 0), #[]⟩
noncomputable def o25_st1 (P : Params) : Obj := ⟨(.type "StopIteration"), none, (.fields #[(.ref 24), .none, .none, .none, (.bool false), .none]), #[]⟩
noncomputable def tr_st1 (P : Params) : BT := (.node (boot_o_0 P) (.node (boot_o_1 P) (.node (o3_st1 P) (.node (boot_o_7 P) (.node (o15_st1 P) .nil .nil) (.node (o23_st1 P) .nil .nil)) (.node (o11_pre P) (.node (o19_st1 P) .nil .nil) .nil)) (.node (boot_o_5 P) (.node (boot_o_9 P) (.node (o17_st1 P) .nil .nil) (.node (o25_st1 P) .nil .nil)) (.node (o13_pre P) (.node (o21_st1 P) .nil .nil) .nil))) (.node (boot_o_2 P) (.node (boot_o_4 P) (.node (boot_o_8 P) (.node (o16_st1 P) .nil .nil) (.node (o24_st1 P) .nil .nil)) (.node (o12_pre P) (.node (o20_st1 P) .nil .nil) .nil)) (.node (boot_o_6 P) (.node (boot_o_10 P) (.node (o18_st1 P) .nil .nil) .nil) (.node (o14_pre P) (.node (o22_st1 P) .nil .nil) .nil))))
noncomputable def s_st1 (P : Params) (os : OsState) : SharedT := ⟨tr_st1 P, 26, life0, #[], boot_drawn, 249, os⟩
def p_st1 : Pos := ⟨2, 0, 2, 6⟩
noncomputable def o3_st2 (P : Params) : Obj := ⟨(.type "dict"), none, (.dict #[⟨PyData.keyHash P (Str.ofString "__name__"), (.str (Str.ofString "__name__") 165), (.str (Str.ofString "cpy313.stringprep") 187)⟩, ⟨PyData.keyHash P (Str.ofString "__doc__"), (.str (Str.ofString "__doc__") 166), .none⟩, ⟨PyData.keyHash P (Str.ofString "__package__"), (.str (Str.ofString "__package__") 167), .none⟩, ⟨PyData.keyHash P (Str.ofString "__loader__"), (.str (Str.ofString "__loader__") 168), (.builtin "__main__.__loader__#opaque")⟩, ⟨PyData.keyHash P (Str.ofString "__spec__"), (.str (Str.ofString "__spec__") 169), .none⟩, ⟨PyData.keyHash P (Str.ofString "__annotations__"), (.str (Str.ofString "__annotations__") 170), (.ref 6)⟩, ⟨PyData.keyHash P (Str.ofString "__builtins__"), (.str (Str.ofString "__builtins__") 171), (.ref 4)⟩, ⟨PyData.keyHash P (Str.ofString "__file__"), (.str (Str.ofString "__file__") 173), (.str (Str.ofString "/claim/cut.py") 172)⟩, ⟨PyData.keyHash P (Str.ofString "__cached__"), (.str (Str.ofString "__cached__") 174), .none⟩, ⟨PyData.keyHash P (Str.ofString "b1_set"), (.str (Str.ofString "b1_set") 248), (.ref 22)⟩, ⟨PyData.keyHash P (Str.ofString "in_table_b1"), (.str (Str.ofString "in_table_b1") 255), (.ref 32)⟩] 11), #[]⟩
noncomputable def o12_st2 (P : Params) : Obj := ⟨.none, none, (.fields #[(.int 3 0), (.int 0 0), (.ref 31)]), #[]⟩
noncomputable def o26_st2 (P : Params) : Obj := ⟨(.type "tuple"), none, (.seq #[] 0), #[]⟩
noncomputable def o27_st2 (P : Params) : Obj := ⟨.none, none, (.fields #[]), #[]⟩
noncomputable def o28_st2 (P : Params) : Obj := ⟨(.type "tuple"), none, (.seq #[(.str (Str.ofString "code") 252)] 0), #[]⟩
noncomputable def o29_st2 (P : Params) : Obj := ⟨(.type "tuple"), none, (.seq #[] 0), #[]⟩
noncomputable def o30_st2 (P : Params) : Obj := ⟨.none, none, (.func ⟨(Str.ofString "in_table_b1"), (Str.ofString "in_table_b1"), fP 2, .stmts (fB 2), fS 2, 0, [], .none, .none, .none, .none, none, .none, .none, 0⟩), #[]⟩
noncomputable def o31_st2 (P : Params) : Obj := ⟨(.type "code"), none, (.fields #[(.str (Str.ofString "in_table_b1") 249), (.str (Str.ofString "in_table_b1") 250), (.str (Str.ofString "/claim/cut.py") 251), (.int 3 0), (.int 1 0), (.int 0 0), (.int 0 0), (.int 3 0), (.ref 26), (.bool true), (.int 181 0), (.ref 27), .none, (.ref 28), (.ref 29), (.ref 30), (.int 253 0), (.int 3 0), (.str (Str.ofString "/claim/cut.py") 254)]), #[]⟩
noncomputable def o32_st2 (P : Params) : Obj := ⟨(.type "function"), none, (.func ⟨(Str.ofString "in_table_b1"), (Str.ofString "in_table_b1"), fP 2, .stmts (fB 2), fS 2, 3, [], .none, .none, .none, (.str (Str.ofString "cpy313.stringprep") 187), none, (.ref 31), .none, 0⟩), #[]⟩
noncomputable def tr_st2 (P : Params) : BT := (.node (boot_o_0 P) (.node (boot_o_1 P) (.node (o3_st2 P) (.node (boot_o_7 P) (.node (o15_st1 P) (.node (o31_st2 P) .nil .nil) .nil) (.node (o23_st1 P) .nil .nil)) (.node (o11_pre P) (.node (o19_st1 P) .nil .nil) (.node (o27_st2 P) .nil .nil))) (.node (boot_o_5 P) (.node (boot_o_9 P) (.node (o17_st1 P) .nil .nil) (.node (o25_st1 P) .nil .nil)) (.node (o13_pre P) (.node (o21_st1 P) .nil .nil) (.node (o29_st2 P) .nil .nil)))) (.node (boot_o_2 P) (.node (boot_o_4 P) (.node (boot_o_8 P) (.node (o16_st1 P) (.node (o32_st2 P) .nil .nil) .nil) (.node (o24_st1 P) .nil .nil)) (.node (o12_st2 P) (.node (o20_st1 P) .nil .nil) (.node (o28_st2 P) .nil .nil))) (.node (boot_o_6 P) (.node (boot_o_10 P) (.node (o18_st1 P) .nil .nil) (.node (o26_st2 P) .nil .nil)) (.node (o14_pre P) (.node (o22_st1 P) .nil .nil) (.node (o30_st2 P) .nil .nil)))))
noncomputable def s_st2 (P : Params) (os : OsState) : SharedT := ⟨tr_st2 P, 33, life0, #[], boot_drawn, 256, os⟩
def p_st2 : Pos := ⟨3, 0, 4, 30⟩
noncomputable def o3_st3 (P : Params) : Obj := ⟨(.type "dict"), none, (.dict #[⟨PyData.keyHash P (Str.ofString "__name__"), (.str (Str.ofString "__name__") 165), (.str (Str.ofString "cpy313.stringprep") 187)⟩, ⟨PyData.keyHash P (Str.ofString "__doc__"), (.str (Str.ofString "__doc__") 166), .none⟩, ⟨PyData.keyHash P (Str.ofString "__package__"), (.str (Str.ofString "__package__") 167), .none⟩, ⟨PyData.keyHash P (Str.ofString "__loader__"), (.str (Str.ofString "__loader__") 168), (.builtin "__main__.__loader__#opaque")⟩, ⟨PyData.keyHash P (Str.ofString "__spec__"), (.str (Str.ofString "__spec__") 169), .none⟩, ⟨PyData.keyHash P (Str.ofString "__annotations__"), (.str (Str.ofString "__annotations__") 170), (.ref 6)⟩, ⟨PyData.keyHash P (Str.ofString "__builtins__"), (.str (Str.ofString "__builtins__") 171), (.ref 4)⟩, ⟨PyData.keyHash P (Str.ofString "__file__"), (.str (Str.ofString "__file__") 173), (.str (Str.ofString "/claim/cut.py") 172)⟩, ⟨PyData.keyHash P (Str.ofString "__cached__"), (.str (Str.ofString "__cached__") 174), .none⟩, ⟨PyData.keyHash P (Str.ofString "b1_set"), (.str (Str.ofString "b1_set") 248), (.ref 22)⟩, ⟨PyData.keyHash P (Str.ofString "in_table_b1"), (.str (Str.ofString "in_table_b1") 255), (.ref 32)⟩, ⟨PyData.keyHash P (Str.ofString "b3_exceptions"), (.str (Str.ofString "b3_exceptions") 2206), (.ref 33)⟩] 12), #[]⟩
noncomputable def tr_st3 (P : Params) : BT := (.node (boot_o_0 P) (.node (boot_o_1 P) (.node (o3_st3 P) (.node (boot_o_7 P) (.node (o15_st1 P) (.node (o31_st2 P) (.node (dk63 P) .nil .nil) .nil) (.node (dk47 P) .nil .nil)) (.node (o23_st1 P) (.node (dk39 P) (.node (dk71 P) .nil .nil) .nil) (.node (dk55 P) .nil .nil))) (.node (o11_pre P) (.node (o19_st1 P) (.node (dk35 P) (.node (dk67 P) .nil .nil) .nil) (.node (dk51 P) .nil .nil)) (.node (o27_st2 P) (.node (dk43 P) .nil .nil) (.node (dk59 P) .nil .nil)))) (.node (boot_o_5 P) (.node (boot_o_9 P) (.node (o17_st1 P) (.node (dk33 P) (.node (dk65 P) .nil .nil) .nil) (.node (dk49 P) .nil .nil)) (.node (o25_st1 P) (.node (dk41 P) .nil .nil) (.node (dk57 P) .nil .nil))) (.node (o13_pre P) (.node (o21_st1 P) (.node (dk37 P) (.node (dk69 P) .nil .nil) .nil) (.node (dk53 P) .nil .nil)) (.node (o29_st2 P) (.node (dk45 P) .nil .nil) (.node (dk61 P) .nil .nil))))) (.node (boot_o_2 P) (.node (boot_o_4 P) (.node (boot_o_8 P) (.node (o16_st1 P) (.node (o32_st2 P) (.node (dk64 P) .nil .nil) .nil) (.node (dk48 P) .nil .nil)) (.node (o24_st1 P) (.node (dk40 P) .nil .nil) (.node (dk56 P) .nil .nil))) (.node (o12_st2 P) (.node (o20_st1 P) (.node (dk36 P) (.node (dk68 P) .nil .nil) .nil) (.node (dk52 P) .nil .nil)) (.node (o28_st2 P) (.node (dk44 P) .nil .nil) (.node (dk60 P) .nil .nil)))) (.node (boot_o_6 P) (.node (boot_o_10 P) (.node (o18_st1 P) (.node (dk34 P) (.node (dk66 P) .nil .nil) .nil) (.node (dk50 P) .nil .nil)) (.node (o26_st2 P) (.node (dk42 P) .nil .nil) (.node (dk58 P) .nil .nil))) (.node (o14_pre P) (.node (o22_st1 P) (.node (dk38 P) (.node (dk70 P) .nil .nil) .nil) (.node (dk54 P) .nil .nil)) (.node (o30_st2 P) (.node (dk46 P) .nil .nil) (.node (dk62 P) .nil .nil))))))
noncomputable def s_st3 (P : Params) (os : OsState) : SharedT := ⟨tr_st3 P, 72, life0, #[], boot_drawn, 2207, os⟩
def p_st3 : Pos := ⟨5, 0, 5, 13⟩
noncomputable def o3_st4 (P : Params) : Obj := ⟨(.type "dict"), none, (.dict #[⟨PyData.keyHash P (Str.ofString "__name__"), (.str (Str.ofString "__name__") 165), (.str (Str.ofString "cpy313.stringprep") 187)⟩, ⟨PyData.keyHash P (Str.ofString "__doc__"), (.str (Str.ofString "__doc__") 166), .none⟩, ⟨PyData.keyHash P (Str.ofString "__package__"), (.str (Str.ofString "__package__") 167), .none⟩, ⟨PyData.keyHash P (Str.ofString "__loader__"), (.str (Str.ofString "__loader__") 168), (.builtin "__main__.__loader__#opaque")⟩, ⟨PyData.keyHash P (Str.ofString "__spec__"), (.str (Str.ofString "__spec__") 169), .none⟩, ⟨PyData.keyHash P (Str.ofString "__annotations__"), (.str (Str.ofString "__annotations__") 170), (.ref 6)⟩, ⟨PyData.keyHash P (Str.ofString "__builtins__"), (.str (Str.ofString "__builtins__") 171), (.ref 4)⟩, ⟨PyData.keyHash P (Str.ofString "__file__"), (.str (Str.ofString "__file__") 173), (.str (Str.ofString "/claim/cut.py") 172)⟩, ⟨PyData.keyHash P (Str.ofString "__cached__"), (.str (Str.ofString "__cached__") 174), .none⟩, ⟨PyData.keyHash P (Str.ofString "b1_set"), (.str (Str.ofString "b1_set") 248), (.ref 22)⟩, ⟨PyData.keyHash P (Str.ofString "in_table_b1"), (.str (Str.ofString "in_table_b1") 255), (.ref 32)⟩, ⟨PyData.keyHash P (Str.ofString "b3_exceptions"), (.str (Str.ofString "b3_exceptions") 2206), (.ref 33)⟩, ⟨PyData.keyHash P (Str.ofString "map_table_b3"), (.str (Str.ofString "map_table_b3") 2214), (.ref 78)⟩] 13), #[]⟩
noncomputable def o12_st4 (P : Params) : Obj := ⟨.none, none, (.fields #[(.int 3 0), (.int 0 0), (.ref 31), (.int 6 0), (.int 0 0), (.ref 77)]), #[]⟩
noncomputable def o72_st4 (P : Params) : Obj := ⟨(.type "tuple"), none, (.seq #[] 0), #[]⟩
noncomputable def o73_st4 (P : Params) : Obj := ⟨.none, none, (.fields #[]), #[]⟩
noncomputable def o74_st4 (P : Params) : Obj := ⟨(.type "tuple"), none, (.seq #[(.str (Str.ofString "code") 2210), (.str (Str.ofString "r") 2211)] 0), #[]⟩
noncomputable def o75_st4 (P : Params) : Obj := ⟨(.type "tuple"), none, (.seq #[] 0), #[]⟩
noncomputable def o76_st4 (P : Params) : Obj := ⟨.none, none, (.func ⟨(Str.ofString "map_table_b3"), (Str.ofString "map_table_b3"), fP 4, .stmts (fB 4), fS 4, 0, [], .none, .none, .none, .none, none, .none, .none, 0⟩), #[]⟩
noncomputable def o77_st4 (P : Params) : Obj := ⟨(.type "code"), none, (.fields #[(.str (Str.ofString "map_table_b3") 2207), (.str (Str.ofString "map_table_b3") 2208), (.str (Str.ofString "/claim/cut.py") 2209), (.int 6 0), (.int 1 0), (.int 0 0), (.int 0 0), (.int 3 0), (.ref 72), (.bool true), (.int 181 0), (.ref 73), .none, (.ref 74), (.ref 75), (.ref 76), (.int 2212 0), (.int 6 0), (.str (Str.ofString "/claim/cut.py") 2213)]), #[]⟩
noncomputable def o78_st4 (P : Params) : Obj := ⟨(.type "function"), none, (.func ⟨(Str.ofString "map_table_b3"), (Str.ofString "map_table_b3"), fP 4, .stmts (fB 4), fS 4, 3, [], .none, .none, .none, (.str (Str.ofString "cpy313.stringprep") 187), none, (.ref 77), .none, 0⟩), #[]⟩
noncomputable def tr_st4 (P : Params) : BT := (.node (boot_o_0 P) (.node (boot_o_1 P) (.node (o3_st4 P) (.node (boot_o_7 P) (.node (o15_st1 P) (.node (o31_st2 P) (.node (dk63 P) .nil .nil) .nil) (.node (dk47 P) .nil .nil)) (.node (o23_st1 P) (.node (dk39 P) (.node (dk71 P) .nil .nil) .nil) (.node (dk55 P) .nil .nil))) (.node (o11_pre P) (.node (o19_st1 P) (.node (dk35 P) (.node (dk67 P) .nil .nil) .nil) (.node (dk51 P) .nil .nil)) (.node (o27_st2 P) (.node (dk43 P) (.node (o75_st4 P) .nil .nil) .nil) (.node (dk59 P) .nil .nil)))) (.node (boot_o_5 P) (.node (boot_o_9 P) (.node (o17_st1 P) (.node (dk33 P) (.node (dk65 P) .nil .nil) .nil) (.node (dk49 P) .nil .nil)) (.node (o25_st1 P) (.node (dk41 P) (.node (o73_st4 P) .nil .nil) .nil) (.node (dk57 P) .nil .nil))) (.node (o13_pre P) (.node (o21_st1 P) (.node (dk37 P) (.node (dk69 P) .nil .nil) .nil) (.node (dk53 P) .nil .nil)) (.node (o29_st2 P) (.node (dk45 P) (.node (o77_st4 P) .nil .nil) .nil) (.node (dk61 P) .nil .nil))))) (.node (boot_o_2 P) (.node (boot_o_4 P) (.node (boot_o_8 P) (.node (o16_st1 P) (.node (o32_st2 P) (.node (dk64 P) .nil .nil) .nil) (.node (dk48 P) .nil .nil)) (.node (o24_st1 P) (.node (dk40 P) (.node (o72_st4 P) .nil .nil) .nil) (.node (dk56 P) .nil .nil))) (.node (o12_st4 P) (.node (o20_st1 P) (.node (dk36 P) (.node (dk68 P) .nil .nil) .nil) (.node (dk52 P) .nil .nil)) (.node (o28_st2 P) (.node (dk44 P) (.node (o76_st4 P) .nil .nil) .nil) (.node (dk60 P) .nil .nil)))) (.node (boot_o_6 P) (.node (boot_o_10 P) (.node (o18_st1 P) (.node (dk34 P) (.node (dk66 P) .nil .nil) .nil) (.node (dk50 P) .nil .nil)) (.node (o26_st2 P) (.node (dk42 P) (.node (o74_st4 P) .nil .nil) .nil) (.node (dk58 P) .nil .nil))) (.node (o14_pre P) (.node (o22_st1 P) (.node (dk38 P) (.node (dk70 P) .nil .nil) .nil) (.node (dk54 P) .nil .nil)) (.node (o30_st2 P) (.node (dk46 P) (.node (o78_st4 P) .nil .nil) .nil) (.node (dk62 P) .nil .nil))))))
noncomputable def s_st4 (P : Params) (os : OsState) : SharedT := ⟨tr_st4 P, 79, life0, #[], boot_drawn, 2215, os⟩
def p_st4 : Pos := ⟨6, 0, 10, 23⟩
noncomputable def o3_st5 (P : Params) : Obj := ⟨(.type "dict"), none, (.dict #[⟨PyData.keyHash P (Str.ofString "__name__"), (.str (Str.ofString "__name__") 165), (.str (Str.ofString "cpy313.doctest") 2215)⟩, ⟨PyData.keyHash P (Str.ofString "__doc__"), (.str (Str.ofString "__doc__") 166), .none⟩, ⟨PyData.keyHash P (Str.ofString "__package__"), (.str (Str.ofString "__package__") 167), .none⟩, ⟨PyData.keyHash P (Str.ofString "__loader__"), (.str (Str.ofString "__loader__") 168), (.builtin "__main__.__loader__#opaque")⟩, ⟨PyData.keyHash P (Str.ofString "__spec__"), (.str (Str.ofString "__spec__") 169), .none⟩, ⟨PyData.keyHash P (Str.ofString "__annotations__"), (.str (Str.ofString "__annotations__") 170), (.ref 6)⟩, ⟨PyData.keyHash P (Str.ofString "__builtins__"), (.str (Str.ofString "__builtins__") 171), (.ref 4)⟩, ⟨PyData.keyHash P (Str.ofString "__file__"), (.str (Str.ofString "__file__") 173), (.str (Str.ofString "/claim/cut.py") 172)⟩, ⟨PyData.keyHash P (Str.ofString "__cached__"), (.str (Str.ofString "__cached__") 174), .none⟩, ⟨PyData.keyHash P (Str.ofString "b1_set"), (.str (Str.ofString "b1_set") 248), (.ref 22)⟩, ⟨PyData.keyHash P (Str.ofString "in_table_b1"), (.str (Str.ofString "in_table_b1") 255), (.ref 32)⟩, ⟨PyData.keyHash P (Str.ofString "b3_exceptions"), (.str (Str.ofString "b3_exceptions") 2206), (.ref 33)⟩, ⟨PyData.keyHash P (Str.ofString "map_table_b3"), (.str (Str.ofString "map_table_b3") 2214), (.ref 78)⟩] 13), #[]⟩
noncomputable def tr_st5 (P : Params) : BT := (.node (boot_o_0 P) (.node (boot_o_1 P) (.node (o3_st5 P) (.node (boot_o_7 P) (.node (o15_st1 P) (.node (o31_st2 P) (.node (dk63 P) .nil .nil) .nil) (.node (dk47 P) .nil .nil)) (.node (o23_st1 P) (.node (dk39 P) (.node (dk71 P) .nil .nil) .nil) (.node (dk55 P) .nil .nil))) (.node (o11_pre P) (.node (o19_st1 P) (.node (dk35 P) (.node (dk67 P) .nil .nil) .nil) (.node (dk51 P) .nil .nil)) (.node (o27_st2 P) (.node (dk43 P) (.node (o75_st4 P) .nil .nil) .nil) (.node (dk59 P) .nil .nil)))) (.node (boot_o_5 P) (.node (boot_o_9 P) (.node (o17_st1 P) (.node (dk33 P) (.node (dk65 P) .nil .nil) .nil) (.node (dk49 P) .nil .nil)) (.node (o25_st1 P) (.node (dk41 P) (.node (o73_st4 P) .nil .nil) .nil) (.node (dk57 P) .nil .nil))) (.node (o13_pre P) (.node (o21_st1 P) (.node (dk37 P) (.node (dk69 P) .nil .nil) .nil) (.node (dk53 P) .nil .nil)) (.node (o29_st2 P) (.node (dk45 P) (.node (o77_st4 P) .nil .nil) .nil) (.node (dk61 P) .nil .nil))))) (.node (boot_o_2 P) (.node (boot_o_4 P) (.node (boot_o_8 P) (.node (o16_st1 P) (.node (o32_st2 P) (.node (dk64 P) .nil .nil) .nil) (.node (dk48 P) .nil .nil)) (.node (o24_st1 P) (.node (dk40 P) (.node (o72_st4 P) .nil .nil) .nil) (.node (dk56 P) .nil .nil))) (.node (o12_st4 P) (.node (o20_st1 P) (.node (dk36 P) (.node (dk68 P) .nil .nil) .nil) (.node (dk52 P) .nil .nil)) (.node (o28_st2 P) (.node (dk44 P) (.node (o76_st4 P) .nil .nil) .nil) (.node (dk60 P) .nil .nil)))) (.node (boot_o_6 P) (.node (boot_o_10 P) (.node (o18_st1 P) (.node (dk34 P) (.node (dk66 P) .nil .nil) .nil) (.node (dk50 P) .nil .nil)) (.node (o26_st2 P) (.node (dk42 P) (.node (o74_st4 P) .nil .nil) .nil) (.node (dk58 P) .nil .nil))) (.node (o14_pre P) (.node (o22_st1 P) (.node (dk38 P) (.node (dk70 P) .nil .nil) .nil) (.node (dk54 P) .nil .nil)) (.node (o30_st2 P) (.node (dk46 P) (.node (o78_st4 P) .nil .nil) .nil) (.node (dk62 P) .nil .nil))))))
noncomputable def s_st5 (P : Params) (os : OsState) : SharedT := ⟨tr_st5 P, 79, life0, #[], boot_drawn, 2217, os⟩
def p_st5 : Pos := ⟨11, 0, 11, 8⟩
noncomputable def o3_st6 (P : Params) : Obj := ⟨(.type "dict"), none, (.dict #[⟨PyData.keyHash P (Str.ofString "__name__"), (.str (Str.ofString "__name__") 165), (.str (Str.ofString "cpy313.doctest") 2215)⟩, ⟨PyData.keyHash P (Str.ofString "__doc__"), (.str (Str.ofString "__doc__") 166), .none⟩, ⟨PyData.keyHash P (Str.ofString "__package__"), (.str (Str.ofString "__package__") 167), .none⟩, ⟨PyData.keyHash P (Str.ofString "__loader__"), (.str (Str.ofString "__loader__") 168), (.builtin "__main__.__loader__#opaque")⟩, ⟨PyData.keyHash P (Str.ofString "__spec__"), (.str (Str.ofString "__spec__") 169), .none⟩, ⟨PyData.keyHash P (Str.ofString "__annotations__"), (.str (Str.ofString "__annotations__") 170), (.ref 6)⟩, ⟨PyData.keyHash P (Str.ofString "__builtins__"), (.str (Str.ofString "__builtins__") 171), (.ref 4)⟩, ⟨PyData.keyHash P (Str.ofString "__file__"), (.str (Str.ofString "__file__") 173), (.str (Str.ofString "/claim/cut.py") 172)⟩, ⟨PyData.keyHash P (Str.ofString "__cached__"), (.str (Str.ofString "__cached__") 174), .none⟩, ⟨PyData.keyHash P (Str.ofString "b1_set"), (.str (Str.ofString "b1_set") 248), (.ref 22)⟩, ⟨PyData.keyHash P (Str.ofString "in_table_b1"), (.str (Str.ofString "in_table_b1") 255), (.ref 32)⟩, ⟨PyData.keyHash P (Str.ofString "b3_exceptions"), (.str (Str.ofString "b3_exceptions") 2206), (.ref 33)⟩, ⟨PyData.keyHash P (Str.ofString "map_table_b3"), (.str (Str.ofString "map_table_b3") 2214), (.ref 78)⟩, ⟨PyData.keyHash P (Str.ofString "ELLIPSIS_MARKER"), (.str (Str.ofString "ELLIPSIS_MARKER") 2218), (.str (Str.ofString "...") 2217)⟩] 14), #[]⟩
noncomputable def tr_st6 (P : Params) : BT := (.node (boot_o_0 P) (.node (boot_o_1 P) (.node (o3_st6 P) (.node (boot_o_7 P) (.node (o15_st1 P) (.node (o31_st2 P) (.node (dk63 P) .nil .nil) .nil) (.node (dk47 P) .nil .nil)) (.node (o23_st1 P) (.node (dk39 P) (.node (dk71 P) .nil .nil) .nil) (.node (dk55 P) .nil .nil))) (.node (o11_pre P) (.node (o19_st1 P) (.node (dk35 P) (.node (dk67 P) .nil .nil) .nil) (.node (dk51 P) .nil .nil)) (.node (o27_st2 P) (.node (dk43 P) (.node (o75_st4 P) .nil .nil) .nil) (.node (dk59 P) .nil .nil)))) (.node (boot_o_5 P) (.node (boot_o_9 P) (.node (o17_st1 P) (.node (dk33 P) (.node (dk65 P) .nil .nil) .nil) (.node (dk49 P) .nil .nil)) (.node (o25_st1 P) (.node (dk41 P) (.node (o73_st4 P) .nil .nil) .nil) (.node (dk57 P) .nil .nil))) (.node (o13_pre P) (.node (o21_st1 P) (.node (dk37 P) (.node (dk69 P) .nil .nil) .nil) (.node (dk53 P) .nil .nil)) (.node (o29_st2 P) (.node (dk45 P) (.node (o77_st4 P) .nil .nil) .nil) (.node (dk61 P) .nil .nil))))) (.node (boot_o_2 P) (.node (boot_o_4 P) (.node (boot_o_8 P) (.node (o16_st1 P) (.node (o32_st2 P) (.node (dk64 P) .nil .nil) .nil) (.node (dk48 P) .nil .nil)) (.node (o24_st1 P) (.node (dk40 P) (.node (o72_st4 P) .nil .nil) .nil) (.node (dk56 P) .nil .nil))) (.node (o12_st4 P) (.node (o20_st1 P) (.node (dk36 P) (.node (dk68 P) .nil .nil) .nil) (.node (dk52 P) .nil .nil)) (.node (o28_st2 P) (.node (dk44 P) (.node (o76_st4 P) .nil .nil) .nil) (.node (dk60 P) .nil .nil)))) (.node (boot_o_6 P) (.node (boot_o_10 P) (.node (o18_st1 P) (.node (dk34 P) (.node (dk66 P) .nil .nil) .nil) (.node (dk50 P) .nil .nil)) (.node (o26_st2 P) (.node (dk42 P) (.node (o74_st4 P) .nil .nil) .nil) (.node (dk58 P) .nil .nil))) (.node (o14_pre P) (.node (o22_st1 P) (.node (dk38 P) (.node (dk70 P) .nil .nil) .nil) (.node (dk54 P) .nil .nil)) (.node (o30_st2 P) (.node (dk46 P) (.node (o78_st4 P) .nil .nil) .nil) (.node (dk62 P) .nil .nil))))))
noncomputable def s_st6 (P : Params) (os : OsState) : SharedT := ⟨tr_st6 P, 79, life0, #[], boot_drawn, 2219, os⟩
def p_st6 : Pos := ⟨12, 0, 12, 15⟩
noncomputable def o3_st7 (P : Params) : Obj := ⟨(.type "dict"), none, (.dict #[⟨PyData.keyHash P (Str.ofString "__name__"), (.str (Str.ofString "__name__") 165), (.str (Str.ofString "cpy313.doctest") 2215)⟩, ⟨PyData.keyHash P (Str.ofString "__doc__"), (.str (Str.ofString "__doc__") 166), .none⟩, ⟨PyData.keyHash P (Str.ofString "__package__"), (.str (Str.ofString "__package__") 167), .none⟩, ⟨PyData.keyHash P (Str.ofString "__loader__"), (.str (Str.ofString "__loader__") 168), (.builtin "__main__.__loader__#opaque")⟩, ⟨PyData.keyHash P (Str.ofString "__spec__"), (.str (Str.ofString "__spec__") 169), .none⟩, ⟨PyData.keyHash P (Str.ofString "__annotations__"), (.str (Str.ofString "__annotations__") 170), (.ref 6)⟩, ⟨PyData.keyHash P (Str.ofString "__builtins__"), (.str (Str.ofString "__builtins__") 171), (.ref 4)⟩, ⟨PyData.keyHash P (Str.ofString "__file__"), (.str (Str.ofString "__file__") 173), (.str (Str.ofString "/claim/cut.py") 172)⟩, ⟨PyData.keyHash P (Str.ofString "__cached__"), (.str (Str.ofString "__cached__") 174), .none⟩, ⟨PyData.keyHash P (Str.ofString "b1_set"), (.str (Str.ofString "b1_set") 248), (.ref 22)⟩, ⟨PyData.keyHash P (Str.ofString "in_table_b1"), (.str (Str.ofString "in_table_b1") 255), (.ref 32)⟩, ⟨PyData.keyHash P (Str.ofString "b3_exceptions"), (.str (Str.ofString "b3_exceptions") 2206), (.ref 33)⟩, ⟨PyData.keyHash P (Str.ofString "map_table_b3"), (.str (Str.ofString "map_table_b3") 2214), (.ref 78)⟩, ⟨PyData.keyHash P (Str.ofString "ELLIPSIS_MARKER"), (.str (Str.ofString "ELLIPSIS_MARKER") 2218), (.str (Str.ofString "...") 2217)⟩, ⟨PyData.keyHash P (Str.ofString "_ellipsis_match"), (.str (Str.ofString "_ellipsis_match") 2230), (.ref 85)⟩] 15), #[]⟩
noncomputable def o12_st7 (P : Params) : Obj := ⟨.none, none, (.fields #[(.int 3 0), (.int 0 0), (.ref 31), (.int 6 0), (.int 0 0), (.ref 77), (.int 13 0), (.int 0 0), (.ref 84)]), #[]⟩
noncomputable def o79_st7 (P : Params) : Obj := ⟨(.type "tuple"), none, (.seq #[] 0), #[]⟩
noncomputable def o80_st7 (P : Params) : Obj := ⟨.none, none, (.fields #[]), #[]⟩
noncomputable def o81_st7 (P : Params) : Obj := ⟨(.type "tuple"), none, (.seq #[(.str (Str.ofString "want") 2222), (.str (Str.ofString "got") 2223), (.str (Str.ofString "ws") 2224), (.str (Str.ofString "startpos") 2225), (.str (Str.ofString "endpos") 2226), (.str (Str.ofString "w") 2227)] 0), #[]⟩
noncomputable def o82_st7 (P : Params) : Obj := ⟨(.type "tuple"), none, (.seq #[] 0), #[]⟩
noncomputable def o83_st7 (P : Params) : Obj := ⟨.none, none, (.func ⟨(Str.ofString "_ellipsis_match"), (Str.ofString "_ellipsis_match"), fP 7, .stmts (fB 7), fS 7, 0, [], .none, .none, .none, .none, none, .none, .none, 0⟩), #[]⟩
noncomputable def o84_st7 (P : Params) : Obj := ⟨(.type "code"), none, (.fields #[(.str (Str.ofString "_ellipsis_match") 2219), (.str (Str.ofString "_ellipsis_match") 2220), (.str (Str.ofString "/claim/cut.py") 2221), (.int 13 0), (.int 2 0), (.int 0 0), (.int 0 0), (.int 3 0), (.ref 79), (.bool true), (.int 181 0), (.ref 80), .none, (.ref 81), (.ref 82), (.ref 83), (.int 2228 0), (.int 13 0), (.str (Str.ofString "/claim/cut.py") 2229)]), #[]⟩
noncomputable def o85_st7 (P : Params) : Obj := ⟨(.type "function"), none, (.func ⟨(Str.ofString "_ellipsis_match"), (Str.ofString "_ellipsis_match"), fP 7, .stmts (fB 7), fS 7, 3, [], .none, .none, .none, (.str (Str.ofString "cpy313.doctest") 2215), none, (.ref 84), .none, 0⟩), #[]⟩
noncomputable def tr_st7 (P : Params) : BT := (.node (boot_o_0 P) (.node (boot_o_1 P) (.node (o3_st7 P) (.node (boot_o_7 P) (.node (o15_st1 P) (.node (o31_st2 P) (.node (dk63 P) .nil .nil) .nil) (.node (dk47 P) (.node (o79_st7 P) .nil .nil) .nil)) (.node (o23_st1 P) (.node (dk39 P) (.node (dk71 P) .nil .nil) .nil) (.node (dk55 P) .nil .nil))) (.node (o11_pre P) (.node (o19_st1 P) (.node (dk35 P) (.node (dk67 P) .nil .nil) .nil) (.node (dk51 P) (.node (o83_st7 P) .nil .nil) .nil)) (.node (o27_st2 P) (.node (dk43 P) (.node (o75_st4 P) .nil .nil) .nil) (.node (dk59 P) .nil .nil)))) (.node (boot_o_5 P) (.node (boot_o_9 P) (.node (o17_st1 P) (.node (dk33 P) (.node (dk65 P) .nil .nil) .nil) (.node (dk49 P) (.node (o81_st7 P) .nil .nil) .nil)) (.node (o25_st1 P) (.node (dk41 P) (.node (o73_st4 P) .nil .nil) .nil) (.node (dk57 P) .nil .nil))) (.node (o13_pre P) (.node (o21_st1 P) (.node (dk37 P) (.node (dk69 P) .nil .nil) .nil) (.node (dk53 P) (.node (o85_st7 P) .nil .nil) .nil)) (.node (o29_st2 P) (.node (dk45 P) (.node (o77_st4 P) .nil .nil) .nil) (.node (dk61 P) .nil .nil))))) (.node (boot_o_2 P) (.node (boot_o_4 P) (.node (boot_o_8 P) (.node (o16_st1 P) (.node (o32_st2 P) (.node (dk64 P) .nil .nil) .nil) (.node (dk48 P) (.node (o80_st7 P) .nil .nil) .nil)) (.node (o24_st1 P) (.node (dk40 P) (.node (o72_st4 P) .nil .nil) .nil) (.node (dk56 P) .nil .nil))) (.node (o12_st7 P) (.node (o20_st1 P) (.node (dk36 P) (.node (dk68 P) .nil .nil) .nil) (.node (dk52 P) (.node (o84_st7 P) .nil .nil) .nil)) (.node (o28_st2 P) (.node (dk44 P) (.node (o76_st4 P) .nil .nil) .nil) (.node (dk60 P) .nil .nil)))) (.node (boot_o_6 P) (.node (boot_o_10 P) (.node (o18_st1 P) (.node (dk34 P) (.node (dk66 P) .nil .nil) .nil) (.node (dk50 P) (.node (o82_st7 P) .nil .nil) .nil)) (.node (o26_st2 P) (.node (dk42 P) (.node (o74_st4 P) .nil .nil) .nil) (.node (dk58 P) .nil .nil))) (.node (o14_pre P) (.node (o22_st1 P) (.node (dk38 P) (.node (dk70 P) .nil .nil) .nil) (.node (dk54 P) .nil .nil)) (.node (o30_st2 P) (.node (dk46 P) (.node (o78_st4 P) .nil .nil) .nil) (.node (dk62 P) .nil .nil))))))
noncomputable def s_st7 (P : Params) (os : OsState) : SharedT := ⟨tr_st7 P, 86, life0, #[], boot_drawn, 2231, os⟩
def p_st7 : Pos := ⟨13, 0, 40, 15⟩
noncomputable def o3_st8 (P : Params) : Obj := ⟨(.type "dict"), none, (.dict #[⟨PyData.keyHash P (Str.ofString "__name__"), (.str (Str.ofString "__name__") 165), (.str (Str.ofString "cpy313.imaplib") 2231)⟩, ⟨PyData.keyHash P (Str.ofString "__doc__"), (.str (Str.ofString "__doc__") 166), .none⟩, ⟨PyData.keyHash P (Str.ofString "__package__"), (.str (Str.ofString "__package__") 167), .none⟩, ⟨PyData.keyHash P (Str.ofString "__loader__"), (.str (Str.ofString "__loader__") 168), (.builtin "__main__.__loader__#opaque")⟩, ⟨PyData.keyHash P (Str.ofString "__spec__"), (.str (Str.ofString "__spec__") 169), .none⟩, ⟨PyData.keyHash P (Str.ofString "__annotations__"), (.str (Str.ofString "__annotations__") 170), (.ref 6)⟩, ⟨PyData.keyHash P (Str.ofString "__builtins__"), (.str (Str.ofString "__builtins__") 171), (.ref 4)⟩, ⟨PyData.keyHash P (Str.ofString "__file__"), (.str (Str.ofString "__file__") 173), (.str (Str.ofString "/claim/cut.py") 172)⟩, ⟨PyData.keyHash P (Str.ofString "__cached__"), (.str (Str.ofString "__cached__") 174), .none⟩, ⟨PyData.keyHash P (Str.ofString "b1_set"), (.str (Str.ofString "b1_set") 248), (.ref 22)⟩, ⟨PyData.keyHash P (Str.ofString "in_table_b1"), (.str (Str.ofString "in_table_b1") 255), (.ref 32)⟩, ⟨PyData.keyHash P (Str.ofString "b3_exceptions"), (.str (Str.ofString "b3_exceptions") 2206), (.ref 33)⟩, ⟨PyData.keyHash P (Str.ofString "map_table_b3"), (.str (Str.ofString "map_table_b3") 2214), (.ref 78)⟩, ⟨PyData.keyHash P (Str.ofString "ELLIPSIS_MARKER"), (.str (Str.ofString "ELLIPSIS_MARKER") 2218), (.str (Str.ofString "...") 2217)⟩, ⟨PyData.keyHash P (Str.ofString "_ellipsis_match"), (.str (Str.ofString "_ellipsis_match") 2230), (.ref 85)⟩] 15), #[]⟩
noncomputable def tr_st8 (P : Params) : BT := (.node (boot_o_0 P) (.node (boot_o_1 P) (.node (o3_st8 P) (.node (boot_o_7 P) (.node (o15_st1 P) (.node (o31_st2 P) (.node (dk63 P) .nil .nil) .nil) (.node (dk47 P) (.node (o79_st7 P) .nil .nil) .nil)) (.node (o23_st1 P) (.node (dk39 P) (.node (dk71 P) .nil .nil) .nil) (.node (dk55 P) .nil .nil))) (.node (o11_pre P) (.node (o19_st1 P) (.node (dk35 P) (.node (dk67 P) .nil .nil) .nil) (.node (dk51 P) (.node (o83_st7 P) .nil .nil) .nil)) (.node (o27_st2 P) (.node (dk43 P) (.node (o75_st4 P) .nil .nil) .nil) (.node (dk59 P) .nil .nil)))) (.node (boot_o_5 P) (.node (boot_o_9 P) (.node (o17_st1 P) (.node (dk33 P) (.node (dk65 P) .nil .nil) .nil) (.node (dk49 P) (.node (o81_st7 P) .nil .nil) .nil)) (.node (o25_st1 P) (.node (dk41 P) (.node (o73_st4 P) .nil .nil) .nil) (.node (dk57 P) .nil .nil))) (.node (o13_pre P) (.node (o21_st1 P) (.node (dk37 P) (.node (dk69 P) .nil .nil) .nil) (.node (dk53 P) (.node (o85_st7 P) .nil .nil) .nil)) (.node (o29_st2 P) (.node (dk45 P) (.node (o77_st4 P) .nil .nil) .nil) (.node (dk61 P) .nil .nil))))) (.node (boot_o_2 P) (.node (boot_o_4 P) (.node (boot_o_8 P) (.node (o16_st1 P) (.node (o32_st2 P) (.node (dk64 P) .nil .nil) .nil) (.node (dk48 P) (.node (o80_st7 P) .nil .nil) .nil)) (.node (o24_st1 P) (.node (dk40 P) (.node (o72_st4 P) .nil .nil) .nil) (.node (dk56 P) .nil .nil))) (.node (o12_st7 P) (.node (o20_st1 P) (.node (dk36 P) (.node (dk68 P) .nil .nil) .nil) (.node (dk52 P) (.node (o84_st7 P) .nil .nil) .nil)) (.node (o28_st2 P) (.node (dk44 P) (.node (o76_st4 P) .nil .nil) .nil) (.node (dk60 P) .nil .nil)))) (.node (boot_o_6 P) (.node (boot_o_10 P) (.node (o18_st1 P) (.node (dk34 P) (.node (dk66 P) .nil .nil) .nil) (.node (dk50 P) (.node (o82_st7 P) .nil .nil) .nil)) (.node (o26_st2 P) (.node (dk42 P) (.node (o74_st4 P) .nil .nil) .nil) (.node (dk58 P) .nil .nil))) (.node (o14_pre P) (.node (o22_st1 P) (.node (dk38 P) (.node (dk70 P) .nil .nil) .nil) (.node (dk54 P) .nil .nil)) (.node (o30_st2 P) (.node (dk46 P) (.node (o78_st4 P) .nil .nil) .nil) (.node (dk62 P) .nil .nil))))))
noncomputable def s_st8 (P : Params) (os : OsState) : SharedT := ⟨tr_st8 P, 86, life0, #[], boot_drawn, 2233, os⟩
def p_st8 : Pos := ⟨41, 0, 41, 8⟩
noncomputable def o3_st9 (P : Params) : Obj := ⟨(.type "dict"), none, (.dict #[⟨PyData.keyHash P (Str.ofString "__name__"), (.str (Str.ofString "__name__") 165), (.str (Str.ofString "cpy313.imaplib") 2231)⟩, ⟨PyData.keyHash P (Str.ofString "__doc__"), (.str (Str.ofString "__doc__") 166), .none⟩, ⟨PyData.keyHash P (Str.ofString "__package__"), (.str (Str.ofString "__package__") 167), .none⟩, ⟨PyData.keyHash P (Str.ofString "__loader__"), (.str (Str.ofString "__loader__") 168), (.builtin "__main__.__loader__#opaque")⟩, ⟨PyData.keyHash P (Str.ofString "__spec__"), (.str (Str.ofString "__spec__") 169), .none⟩, ⟨PyData.keyHash P (Str.ofString "__annotations__"), (.str (Str.ofString "__annotations__") 170), (.ref 6)⟩, ⟨PyData.keyHash P (Str.ofString "__builtins__"), (.str (Str.ofString "__builtins__") 171), (.ref 4)⟩, ⟨PyData.keyHash P (Str.ofString "__file__"), (.str (Str.ofString "__file__") 173), (.str (Str.ofString "/claim/cut.py") 172)⟩, ⟨PyData.keyHash P (Str.ofString "__cached__"), (.str (Str.ofString "__cached__") 174), .none⟩, ⟨PyData.keyHash P (Str.ofString "b1_set"), (.str (Str.ofString "b1_set") 248), (.ref 22)⟩, ⟨PyData.keyHash P (Str.ofString "in_table_b1"), (.str (Str.ofString "in_table_b1") 255), (.ref 32)⟩, ⟨PyData.keyHash P (Str.ofString "b3_exceptions"), (.str (Str.ofString "b3_exceptions") 2206), (.ref 33)⟩, ⟨PyData.keyHash P (Str.ofString "map_table_b3"), (.str (Str.ofString "map_table_b3") 2214), (.ref 78)⟩, ⟨PyData.keyHash P (Str.ofString "ELLIPSIS_MARKER"), (.str (Str.ofString "ELLIPSIS_MARKER") 2218), (.str (Str.ofString "...") 2217)⟩, ⟨PyData.keyHash P (Str.ofString "_ellipsis_match"), (.str (Str.ofString "_ellipsis_match") 2230), (.ref 85)⟩, ⟨PyData.keyHash P (Str.ofString "Int2AP"), (.str (Str.ofString "Int2AP") 2242), (.ref 92)⟩] 16), #[]⟩
noncomputable def o12_st9 (P : Params) : Obj := ⟨.none, none, (.fields #[(.int 3 0), (.int 0 0), (.ref 31), (.int 6 0), (.int 0 0), (.ref 77), (.int 13 0), (.int 0 0), (.ref 84), (.int 42 0), (.int 0 0), (.ref 91)]), #[]⟩
noncomputable def o86_st9 (P : Params) : Obj := ⟨(.type "tuple"), none, (.seq #[] 0), #[]⟩
noncomputable def o87_st9 (P : Params) : Obj := ⟨.none, none, (.fields #[]), #[]⟩
noncomputable def o88_st9 (P : Params) : Obj := ⟨(.type "tuple"), none, (.seq #[(.str (Str.ofString "num") 2236), (.str (Str.ofString "val") 2237), (.str (Str.ofString "AP") 2238), (.str (Str.ofString "mod") 2239)] 0), #[]⟩
noncomputable def o89_st9 (P : Params) : Obj := ⟨(.type "tuple"), none, (.seq #[] 0), #[]⟩
noncomputable def o90_st9 (P : Params) : Obj := ⟨.none, none, (.func ⟨(Str.ofString "Int2AP"), (Str.ofString "Int2AP"), fP 9, .stmts (fB 9), fS 9, 0, [], .none, .none, .none, .none, none, .none, .none, 0⟩), #[]⟩
noncomputable def o91_st9 (P : Params) : Obj := ⟨(.type "code"), none, (.fields #[(.str (Str.ofString "Int2AP") 2233), (.str (Str.ofString "Int2AP") 2234), (.str (Str.ofString "/claim/cut.py") 2235), (.int 42 0), (.int 1 0), (.int 0 0), (.int 0 0), (.int 3 0), (.ref 86), (.bool true), (.int 181 0), (.ref 87), .none, (.ref 88), (.ref 89), (.ref 90), (.int 2240 0), (.int 42 0), (.str (Str.ofString "/claim/cut.py") 2241)]), #[]⟩
noncomputable def o92_st9 (P : Params) : Obj := ⟨(.type "function"), none, (.func ⟨(Str.ofString "Int2AP"), (Str.ofString "Int2AP"), fP 9, .stmts (fB 9), fS 9, 3, [], .none, .none, .none, (.str (Str.ofString "cpy313.imaplib") 2231), none, (.ref 91), .none, 0⟩), #[]⟩
noncomputable def tr_st9 (P : Params) : BT := (.node (boot_o_0 P) (.node (boot_o_1 P) (.node (o3_st9 P) (.node (boot_o_7 P) (.node (o15_st1 P) (.node (o31_st2 P) (.node (dk63 P) .nil .nil) .nil) (.node (dk47 P) (.node (o79_st7 P) .nil .nil) .nil)) (.node (o23_st1 P) (.node (dk39 P) (.node (dk71 P) .nil .nil) .nil) (.node (dk55 P) (.node (o87_st9 P) .nil .nil) .nil))) (.node (o11_pre P) (.node (o19_st1 P) (.node (dk35 P) (.node (dk67 P) .nil .nil) .nil) (.node (dk51 P) (.node (o83_st7 P) .nil .nil) .nil)) (.node (o27_st2 P) (.node (dk43 P) (.node (o75_st4 P) .nil .nil) .nil) (.node (dk59 P) (.node (o91_st9 P) .nil .nil) .nil)))) (.node (boot_o_5 P) (.node (boot_o_9 P) (.node (o17_st1 P) (.node (dk33 P) (.node (dk65 P) .nil .nil) .nil) (.node (dk49 P) (.node (o81_st7 P) .nil .nil) .nil)) (.node (o25_st1 P) (.node (dk41 P) (.node (o73_st4 P) .nil .nil) .nil) (.node (dk57 P) (.node (o89_st9 P) .nil .nil) .nil))) (.node (o13_pre P) (.node (o21_st1 P) (.node (dk37 P) (.node (dk69 P) .nil .nil) .nil) (.node (dk53 P) (.node (o85_st7 P) .nil .nil) .nil)) (.node (o29_st2 P) (.node (dk45 P) (.node (o77_st4 P) .nil .nil) .nil) (.node (dk61 P) .nil .nil))))) (.node (boot_o_2 P) (.node (boot_o_4 P) (.node (boot_o_8 P) (.node (o16_st1 P) (.node (o32_st2 P) (.node (dk64 P) .nil .nil) .nil) (.node (dk48 P) (.node (o80_st7 P) .nil .nil) .nil)) (.node (o24_st1 P) (.node (dk40 P) (.node (o72_st4 P) .nil .nil) .nil) (.node (dk56 P) (.node (o88_st9 P) .nil .nil) .nil))) (.node (o12_st9 P) (.node (o20_st1 P) (.node (dk36 P) (.node (dk68 P) .nil .nil) .nil) (.node (dk52 P) (.node (o84_st7 P) .nil .nil) .nil)) (.node (o28_st2 P) (.node (dk44 P) (.node (o76_st4 P) .nil .nil) .nil) (.node (dk60 P) (.node (o92_st9 P) .nil .nil) .nil)))) (.node (boot_o_6 P) (.node (boot_o_10 P) (.node (o18_st1 P) (.node (dk34 P) (.node (dk66 P) .nil .nil) .nil) (.node (dk50 P) (.node (o82_st7 P) .nil .nil) .nil)) (.node (o26_st2 P) (.node (dk42 P) (.node (o74_st4 P) .nil .nil) .nil) (.node (dk58 P) (.node (o90_st9 P) .nil .nil) .nil))) (.node (o14_pre P) (.node (o22_st1 P) (.node (dk38 P) (.node (dk70 P) .nil .nil) .nil) (.node (dk54 P) (.node (o86_st9 P) .nil .nil) .nil)) (.node (o30_st2 P) (.node (dk46 P) (.node (o78_st4 P) .nil .nil) .nil) (.node (dk62 P) .nil .nil))))))
noncomputable def s_st9 (P : Params) (os : OsState) : SharedT := ⟨tr_st9 P, 93, life0, #[], boot_drawn, 2243, os⟩
def p_st9 : Pos := ⟨42, 0, 49, 14⟩
noncomputable def o3_st10 (P : Params) : Obj := ⟨(.type "dict"), none, (.dict #[⟨PyData.keyHash P (Str.ofString "__name__"), (.str (Str.ofString "__name__") 165), (.str (Str.ofString "law_uy0010_01") 2243)⟩, ⟨PyData.keyHash P (Str.ofString "__doc__"), (.str (Str.ofString "__doc__") 166), .none⟩, ⟨PyData.keyHash P (Str.ofString "__package__"), (.str (Str.ofString "__package__") 167), .none⟩, ⟨PyData.keyHash P (Str.ofString "__loader__"), (.str (Str.ofString "__loader__") 168), (.builtin "__main__.__loader__#opaque")⟩, ⟨PyData.keyHash P (Str.ofString "__spec__"), (.str (Str.ofString "__spec__") 169), .none⟩, ⟨PyData.keyHash P (Str.ofString "__annotations__"), (.str (Str.ofString "__annotations__") 170), (.ref 6)⟩, ⟨PyData.keyHash P (Str.ofString "__builtins__"), (.str (Str.ofString "__builtins__") 171), (.ref 4)⟩, ⟨PyData.keyHash P (Str.ofString "__file__"), (.str (Str.ofString "__file__") 173), (.str (Str.ofString "/claim/cut.py") 172)⟩, ⟨PyData.keyHash P (Str.ofString "__cached__"), (.str (Str.ofString "__cached__") 174), .none⟩, ⟨PyData.keyHash P (Str.ofString "b1_set"), (.str (Str.ofString "b1_set") 248), (.ref 22)⟩, ⟨PyData.keyHash P (Str.ofString "in_table_b1"), (.str (Str.ofString "in_table_b1") 255), (.ref 32)⟩, ⟨PyData.keyHash P (Str.ofString "b3_exceptions"), (.str (Str.ofString "b3_exceptions") 2206), (.ref 33)⟩, ⟨PyData.keyHash P (Str.ofString "map_table_b3"), (.str (Str.ofString "map_table_b3") 2214), (.ref 78)⟩, ⟨PyData.keyHash P (Str.ofString "ELLIPSIS_MARKER"), (.str (Str.ofString "ELLIPSIS_MARKER") 2218), (.str (Str.ofString "...") 2217)⟩, ⟨PyData.keyHash P (Str.ofString "_ellipsis_match"), (.str (Str.ofString "_ellipsis_match") 2230), (.ref 85)⟩, ⟨PyData.keyHash P (Str.ofString "Int2AP"), (.str (Str.ofString "Int2AP") 2242), (.ref 92)⟩] 16), #[]⟩
noncomputable def tr_st10 (P : Params) : BT := (.node (boot_o_0 P) (.node (boot_o_1 P) (.node (o3_st10 P) (.node (boot_o_7 P) (.node (o15_st1 P) (.node (o31_st2 P) (.node (dk63 P) .nil .nil) .nil) (.node (dk47 P) (.node (o79_st7 P) .nil .nil) .nil)) (.node (o23_st1 P) (.node (dk39 P) (.node (dk71 P) .nil .nil) .nil) (.node (dk55 P) (.node (o87_st9 P) .nil .nil) .nil))) (.node (o11_pre P) (.node (o19_st1 P) (.node (dk35 P) (.node (dk67 P) .nil .nil) .nil) (.node (dk51 P) (.node (o83_st7 P) .nil .nil) .nil)) (.node (o27_st2 P) (.node (dk43 P) (.node (o75_st4 P) .nil .nil) .nil) (.node (dk59 P) (.node (o91_st9 P) .nil .nil) .nil)))) (.node (boot_o_5 P) (.node (boot_o_9 P) (.node (o17_st1 P) (.node (dk33 P) (.node (dk65 P) .nil .nil) .nil) (.node (dk49 P) (.node (o81_st7 P) .nil .nil) .nil)) (.node (o25_st1 P) (.node (dk41 P) (.node (o73_st4 P) .nil .nil) .nil) (.node (dk57 P) (.node (o89_st9 P) .nil .nil) .nil))) (.node (o13_pre P) (.node (o21_st1 P) (.node (dk37 P) (.node (dk69 P) .nil .nil) .nil) (.node (dk53 P) (.node (o85_st7 P) .nil .nil) .nil)) (.node (o29_st2 P) (.node (dk45 P) (.node (o77_st4 P) .nil .nil) .nil) (.node (dk61 P) .nil .nil))))) (.node (boot_o_2 P) (.node (boot_o_4 P) (.node (boot_o_8 P) (.node (o16_st1 P) (.node (o32_st2 P) (.node (dk64 P) .nil .nil) .nil) (.node (dk48 P) (.node (o80_st7 P) .nil .nil) .nil)) (.node (o24_st1 P) (.node (dk40 P) (.node (o72_st4 P) .nil .nil) .nil) (.node (dk56 P) (.node (o88_st9 P) .nil .nil) .nil))) (.node (o12_st9 P) (.node (o20_st1 P) (.node (dk36 P) (.node (dk68 P) .nil .nil) .nil) (.node (dk52 P) (.node (o84_st7 P) .nil .nil) .nil)) (.node (o28_st2 P) (.node (dk44 P) (.node (o76_st4 P) .nil .nil) .nil) (.node (dk60 P) (.node (o92_st9 P) .nil .nil) .nil)))) (.node (boot_o_6 P) (.node (boot_o_10 P) (.node (o18_st1 P) (.node (dk34 P) (.node (dk66 P) .nil .nil) .nil) (.node (dk50 P) (.node (o82_st7 P) .nil .nil) .nil)) (.node (o26_st2 P) (.node (dk42 P) (.node (o74_st4 P) .nil .nil) .nil) (.node (dk58 P) (.node (o90_st9 P) .nil .nil) .nil))) (.node (o14_pre P) (.node (o22_st1 P) (.node (dk38 P) (.node (dk70 P) .nil .nil) .nil) (.node (dk54 P) (.node (o86_st9 P) .nil .nil) .nil)) (.node (o30_st2 P) (.node (dk46 P) (.node (o78_st4 P) .nil .nil) .nil) (.node (dk62 P) .nil .nil))))))
noncomputable def s_st10 (P : Params) (os : OsState) : SharedT := ⟨tr_st10 P, 93, life0, #[], boot_drawn, 2245, os⟩
def p_st10 : Pos := ⟨50, 0, 50, 8⟩
noncomputable def o3_st11 (P : Params) : Obj := ⟨(.type "dict"), none, (.dict #[⟨PyData.keyHash P (Str.ofString "__name__"), (.str (Str.ofString "__name__") 165), (.str (Str.ofString "law_uy0010_01") 2243)⟩, ⟨PyData.keyHash P (Str.ofString "__doc__"), (.str (Str.ofString "__doc__") 166), .none⟩, ⟨PyData.keyHash P (Str.ofString "__package__"), (.str (Str.ofString "__package__") 167), .none⟩, ⟨PyData.keyHash P (Str.ofString "__loader__"), (.str (Str.ofString "__loader__") 168), (.builtin "__main__.__loader__#opaque")⟩, ⟨PyData.keyHash P (Str.ofString "__spec__"), (.str (Str.ofString "__spec__") 169), .none⟩, ⟨PyData.keyHash P (Str.ofString "__annotations__"), (.str (Str.ofString "__annotations__") 170), (.ref 6)⟩, ⟨PyData.keyHash P (Str.ofString "__builtins__"), (.str (Str.ofString "__builtins__") 171), (.ref 4)⟩, ⟨PyData.keyHash P (Str.ofString "__file__"), (.str (Str.ofString "__file__") 173), (.str (Str.ofString "/claim/cut.py") 172)⟩, ⟨PyData.keyHash P (Str.ofString "__cached__"), (.str (Str.ofString "__cached__") 174), .none⟩, ⟨PyData.keyHash P (Str.ofString "b1_set"), (.str (Str.ofString "b1_set") 248), (.ref 22)⟩, ⟨PyData.keyHash P (Str.ofString "in_table_b1"), (.str (Str.ofString "in_table_b1") 255), (.ref 32)⟩, ⟨PyData.keyHash P (Str.ofString "b3_exceptions"), (.str (Str.ofString "b3_exceptions") 2206), (.ref 33)⟩, ⟨PyData.keyHash P (Str.ofString "map_table_b3"), (.str (Str.ofString "map_table_b3") 2214), (.ref 78)⟩, ⟨PyData.keyHash P (Str.ofString "ELLIPSIS_MARKER"), (.str (Str.ofString "ELLIPSIS_MARKER") 2218), (.str (Str.ofString "...") 2217)⟩, ⟨PyData.keyHash P (Str.ofString "_ellipsis_match"), (.str (Str.ofString "_ellipsis_match") 2230), (.ref 85)⟩, ⟨PyData.keyHash P (Str.ofString "Int2AP"), (.str (Str.ofString "Int2AP") 2242), (.ref 92)⟩, ⟨PyData.keyHash P (Str.ofString "_law_letters"), (.str (Str.ofString "_law_letters") 2250), (.ref 97)⟩] 17), #[]⟩
noncomputable def o12_st11 (P : Params) : Obj := ⟨.none, none, (.fields #[(.int 3 0), (.int 0 0), (.ref 31), (.int 6 0), (.int 0 0), (.ref 77), (.int 13 0), (.int 0 0), (.ref 84), (.int 42 0), (.int 0 0), (.ref 91), (.int 51 0), (.int 0 0), (.ref 96)]), #[]⟩
noncomputable def o93_st11 (P : Params) : Obj := ⟨(.type "tuple"), none, (.seq #[] 0), #[]⟩
noncomputable def o94_st11 (P : Params) : Obj := ⟨.none, none, (.fields #[]), #[]⟩
noncomputable def o95_st11 (P : Params) : Obj := ⟨.none, none, (.func ⟨(Str.ofString "_law_letters"), (Str.ofString "_law_letters"), fP 11, .stmts (fB 11), fS 11, 0, [], .none, .none, .none, .none, none, .none, .none, 0⟩), #[]⟩
noncomputable def o96_st11 (P : Params) : Obj := ⟨(.type "code"), none, (.fields #[(.str (Str.ofString "_law_letters") 2245), (.str (Str.ofString "_law_letters") 2246), (.str (Str.ofString "/claim/cut.py") 2247), (.int 51 0), (.int 3 0), (.int 0 0), (.int 0 0), (.int 3 0), (.ref 93), (.bool true), (.int 181 0), (.ref 94), .none, .none, .none, (.ref 95), (.int 2248 0), (.int 51 0), (.str (Str.ofString "/claim/cut.py") 2249)]), #[]⟩
noncomputable def o97_st11 (P : Params) : Obj := ⟨(.type "function"), none, (.func ⟨(Str.ofString "_law_letters"), (Str.ofString "_law_letters"), fP 11, .stmts (fB 11), fS 11, 3, [], .none, .none, .none, (.str (Str.ofString "law_uy0010_01") 2243), none, (.ref 96), .none, 0⟩), #[]⟩
noncomputable def tr_st11 (P : Params) : BT := (.node (boot_o_0 P) (.node (boot_o_1 P) (.node (o3_st11 P) (.node (boot_o_7 P) (.node (o15_st1 P) (.node (o31_st2 P) (.node (dk63 P) .nil .nil) (.node (o95_st11 P) .nil .nil)) (.node (dk47 P) (.node (o79_st7 P) .nil .nil) .nil)) (.node (o23_st1 P) (.node (dk39 P) (.node (dk71 P) .nil .nil) .nil) (.node (dk55 P) (.node (o87_st9 P) .nil .nil) .nil))) (.node (o11_pre P) (.node (o19_st1 P) (.node (dk35 P) (.node (dk67 P) .nil .nil) .nil) (.node (dk51 P) (.node (o83_st7 P) .nil .nil) .nil)) (.node (o27_st2 P) (.node (dk43 P) (.node (o75_st4 P) .nil .nil) .nil) (.node (dk59 P) (.node (o91_st9 P) .nil .nil) .nil)))) (.node (boot_o_5 P) (.node (boot_o_9 P) (.node (o17_st1 P) (.node (dk33 P) (.node (dk65 P) .nil .nil) (.node (o97_st11 P) .nil .nil)) (.node (dk49 P) (.node (o81_st7 P) .nil .nil) .nil)) (.node (o25_st1 P) (.node (dk41 P) (.node (o73_st4 P) .nil .nil) .nil) (.node (dk57 P) (.node (o89_st9 P) .nil .nil) .nil))) (.node (o13_pre P) (.node (o21_st1 P) (.node (dk37 P) (.node (dk69 P) .nil .nil) .nil) (.node (dk53 P) (.node (o85_st7 P) .nil .nil) .nil)) (.node (o29_st2 P) (.node (dk45 P) (.node (o77_st4 P) .nil .nil) .nil) (.node (dk61 P) (.node (o93_st11 P) .nil .nil) .nil))))) (.node (boot_o_2 P) (.node (boot_o_4 P) (.node (boot_o_8 P) (.node (o16_st1 P) (.node (o32_st2 P) (.node (dk64 P) .nil .nil) (.node (o96_st11 P) .nil .nil)) (.node (dk48 P) (.node (o80_st7 P) .nil .nil) .nil)) (.node (o24_st1 P) (.node (dk40 P) (.node (o72_st4 P) .nil .nil) .nil) (.node (dk56 P) (.node (o88_st9 P) .nil .nil) .nil))) (.node (o12_st11 P) (.node (o20_st1 P) (.node (dk36 P) (.node (dk68 P) .nil .nil) .nil) (.node (dk52 P) (.node (o84_st7 P) .nil .nil) .nil)) (.node (o28_st2 P) (.node (dk44 P) (.node (o76_st4 P) .nil .nil) .nil) (.node (dk60 P) (.node (o92_st9 P) .nil .nil) .nil)))) (.node (boot_o_6 P) (.node (boot_o_10 P) (.node (o18_st1 P) (.node (dk34 P) (.node (dk66 P) .nil .nil) .nil) (.node (dk50 P) (.node (o82_st7 P) .nil .nil) .nil)) (.node (o26_st2 P) (.node (dk42 P) (.node (o74_st4 P) .nil .nil) .nil) (.node (dk58 P) (.node (o90_st9 P) .nil .nil) .nil))) (.node (o14_pre P) (.node (o22_st1 P) (.node (dk38 P) (.node (dk70 P) .nil .nil) .nil) (.node (dk54 P) (.node (o86_st9 P) .nil .nil) .nil)) (.node (o30_st2 P) (.node (dk46 P) (.node (o78_st4 P) .nil .nil) .nil) (.node (dk62 P) (.node (o94_st11 P) .nil .nil) .nil))))))
noncomputable def s_st11 (P : Params) (os : OsState) : SharedT := ⟨tr_st11 P, 98, life0, #[], boot_drawn, 2251, os⟩
def p_st11 : Pos := ⟨51, 0, 52, 78⟩
noncomputable def o3_st12 (P : Params) : Obj := ⟨(.type "dict"), none, (.dict #[⟨PyData.keyHash P (Str.ofString "__name__"), (.str (Str.ofString "__name__") 165), (.str (Str.ofString "law_uy0010_01") 2243)⟩, ⟨PyData.keyHash P (Str.ofString "__doc__"), (.str (Str.ofString "__doc__") 166), .none⟩, ⟨PyData.keyHash P (Str.ofString "__package__"), (.str (Str.ofString "__package__") 167), .none⟩, ⟨PyData.keyHash P (Str.ofString "__loader__"), (.str (Str.ofString "__loader__") 168), (.builtin "__main__.__loader__#opaque")⟩, ⟨PyData.keyHash P (Str.ofString "__spec__"), (.str (Str.ofString "__spec__") 169), .none⟩, ⟨PyData.keyHash P (Str.ofString "__annotations__"), (.str (Str.ofString "__annotations__") 170), (.ref 6)⟩, ⟨PyData.keyHash P (Str.ofString "__builtins__"), (.str (Str.ofString "__builtins__") 171), (.ref 4)⟩, ⟨PyData.keyHash P (Str.ofString "__file__"), (.str (Str.ofString "__file__") 173), (.str (Str.ofString "/claim/cut.py") 172)⟩, ⟨PyData.keyHash P (Str.ofString "__cached__"), (.str (Str.ofString "__cached__") 174), .none⟩, ⟨PyData.keyHash P (Str.ofString "b1_set"), (.str (Str.ofString "b1_set") 248), (.ref 22)⟩, ⟨PyData.keyHash P (Str.ofString "in_table_b1"), (.str (Str.ofString "in_table_b1") 255), (.ref 32)⟩, ⟨PyData.keyHash P (Str.ofString "b3_exceptions"), (.str (Str.ofString "b3_exceptions") 2206), (.ref 33)⟩, ⟨PyData.keyHash P (Str.ofString "map_table_b3"), (.str (Str.ofString "map_table_b3") 2214), (.ref 78)⟩, ⟨PyData.keyHash P (Str.ofString "ELLIPSIS_MARKER"), (.str (Str.ofString "ELLIPSIS_MARKER") 2218), (.str (Str.ofString "...") 2217)⟩, ⟨PyData.keyHash P (Str.ofString "_ellipsis_match"), (.str (Str.ofString "_ellipsis_match") 2230), (.ref 85)⟩, ⟨PyData.keyHash P (Str.ofString "Int2AP"), (.str (Str.ofString "Int2AP") 2242), (.ref 92)⟩, ⟨PyData.keyHash P (Str.ofString "_law_letters"), (.str (Str.ofString "_law_letters") 2250), (.ref 97)⟩, ⟨PyData.keyHash P (Str.ofString "_law_bits"), (.str (Str.ofString "_law_bits") 2256), (.ref 102)⟩] 18), #[]⟩
noncomputable def o12_st12 (P : Params) : Obj := ⟨.none, none, (.fields #[(.int 3 0), (.int 0 0), (.ref 31), (.int 6 0), (.int 0 0), (.ref 77), (.int 13 0), (.int 0 0), (.ref 84), (.int 42 0), (.int 0 0), (.ref 91), (.int 51 0), (.int 0 0), (.ref 96), (.int 53 0), (.int 0 0), (.ref 101)]), #[]⟩
noncomputable def o98_st12 (P : Params) : Obj := ⟨(.type "tuple"), none, (.seq #[] 0), #[]⟩
noncomputable def o99_st12 (P : Params) : Obj := ⟨.none, none, (.fields #[]), #[]⟩
noncomputable def o100_st12 (P : Params) : Obj := ⟨.none, none, (.func ⟨(Str.ofString "_law_bits"), (Str.ofString "_law_bits"), fP 12, .stmts (fB 12), fS 12, 0, [], .none, .none, .none, .none, none, .none, .none, 0⟩), #[]⟩
noncomputable def o101_st12 (P : Params) : Obj := ⟨(.type "code"), none, (.fields #[(.str (Str.ofString "_law_bits") 2251), (.str (Str.ofString "_law_bits") 2252), (.str (Str.ofString "/claim/cut.py") 2253), (.int 53 0), (.int 2 0), (.int 0 0), (.int 0 0), (.int 3 0), (.ref 98), (.bool true), (.int 181 0), (.ref 99), .none, .none, .none, (.ref 100), (.int 2254 0), (.int 53 0), (.str (Str.ofString "/claim/cut.py") 2255)]), #[]⟩
noncomputable def o102_st12 (P : Params) : Obj := ⟨(.type "function"), none, (.func ⟨(Str.ofString "_law_bits"), (Str.ofString "_law_bits"), fP 12, .stmts (fB 12), fS 12, 3, [], .none, .none, .none, (.str (Str.ofString "law_uy0010_01") 2243), none, (.ref 101), .none, 0⟩), #[]⟩
noncomputable def tr_st12 (P : Params) : BT := (.node (boot_o_0 P) (.node (boot_o_1 P) (.node (o3_st12 P) (.node (boot_o_7 P) (.node (o15_st1 P) (.node (o31_st2 P) (.node (dk63 P) .nil .nil) (.node (o95_st11 P) .nil .nil)) (.node (dk47 P) (.node (o79_st7 P) .nil .nil) .nil)) (.node (o23_st1 P) (.node (dk39 P) (.node (dk71 P) .nil .nil) .nil) (.node (dk55 P) (.node (o87_st9 P) .nil .nil) .nil))) (.node (o11_pre P) (.node (o19_st1 P) (.node (dk35 P) (.node (dk67 P) .nil .nil) (.node (o99_st12 P) .nil .nil)) (.node (dk51 P) (.node (o83_st7 P) .nil .nil) .nil)) (.node (o27_st2 P) (.node (dk43 P) (.node (o75_st4 P) .nil .nil) .nil) (.node (dk59 P) (.node (o91_st9 P) .nil .nil) .nil)))) (.node (boot_o_5 P) (.node (boot_o_9 P) (.node (o17_st1 P) (.node (dk33 P) (.node (dk65 P) .nil .nil) (.node (o97_st11 P) .nil .nil)) (.node (dk49 P) (.node (o81_st7 P) .nil .nil) .nil)) (.node (o25_st1 P) (.node (dk41 P) (.node (o73_st4 P) .nil .nil) .nil) (.node (dk57 P) (.node (o89_st9 P) .nil .nil) .nil))) (.node (o13_pre P) (.node (o21_st1 P) (.node (dk37 P) (.node (dk69 P) .nil .nil) (.node (o101_st12 P) .nil .nil)) (.node (dk53 P) (.node (o85_st7 P) .nil .nil) .nil)) (.node (o29_st2 P) (.node (dk45 P) (.node (o77_st4 P) .nil .nil) .nil) (.node (dk61 P) (.node (o93_st11 P) .nil .nil) .nil))))) (.node (boot_o_2 P) (.node (boot_o_4 P) (.node (boot_o_8 P) (.node (o16_st1 P) (.node (o32_st2 P) (.node (dk64 P) .nil .nil) (.node (o96_st11 P) .nil .nil)) (.node (dk48 P) (.node (o80_st7 P) .nil .nil) .nil)) (.node (o24_st1 P) (.node (dk40 P) (.node (o72_st4 P) .nil .nil) .nil) (.node (dk56 P) (.node (o88_st9 P) .nil .nil) .nil))) (.node (o12_st12 P) (.node (o20_st1 P) (.node (dk36 P) (.node (dk68 P) .nil .nil) (.node (o100_st12 P) .nil .nil)) (.node (dk52 P) (.node (o84_st7 P) .nil .nil) .nil)) (.node (o28_st2 P) (.node (dk44 P) (.node (o76_st4 P) .nil .nil) .nil) (.node (dk60 P) (.node (o92_st9 P) .nil .nil) .nil)))) (.node (boot_o_6 P) (.node (boot_o_10 P) (.node (o18_st1 P) (.node (dk34 P) (.node (dk66 P) .nil .nil) (.node (o98_st12 P) .nil .nil)) (.node (dk50 P) (.node (o82_st7 P) .nil .nil) .nil)) (.node (o26_st2 P) (.node (dk42 P) (.node (o74_st4 P) .nil .nil) .nil) (.node (dk58 P) (.node (o90_st9 P) .nil .nil) .nil))) (.node (o14_pre P) (.node (o22_st1 P) (.node (dk38 P) (.node (dk70 P) .nil .nil) (.node (o102_st12 P) .nil .nil)) (.node (dk54 P) (.node (o86_st9 P) .nil .nil) .nil)) (.node (o30_st2 P) (.node (dk46 P) (.node (o78_st4 P) .nil .nil) .nil) (.node (dk62 P) (.node (o94_st11 P) .nil .nil) .nil))))))
noncomputable def s_st12 (P : Params) (os : OsState) : SharedT := ⟨tr_st12 P, 103, life0, #[], boot_drawn, 2257, os⟩
def p_st12 : Pos := ⟨53, 0, 54, 60⟩
noncomputable def o3_st13 (P : Params) : Obj := ⟨(.type "dict"), none, (.dict #[⟨PyData.keyHash P (Str.ofString "__name__"), (.str (Str.ofString "__name__") 165), (.str (Str.ofString "law_uy0010_01") 2243)⟩, ⟨PyData.keyHash P (Str.ofString "__doc__"), (.str (Str.ofString "__doc__") 166), .none⟩, ⟨PyData.keyHash P (Str.ofString "__package__"), (.str (Str.ofString "__package__") 167), .none⟩, ⟨PyData.keyHash P (Str.ofString "__loader__"), (.str (Str.ofString "__loader__") 168), (.builtin "__main__.__loader__#opaque")⟩, ⟨PyData.keyHash P (Str.ofString "__spec__"), (.str (Str.ofString "__spec__") 169), .none⟩, ⟨PyData.keyHash P (Str.ofString "__annotations__"), (.str (Str.ofString "__annotations__") 170), (.ref 6)⟩, ⟨PyData.keyHash P (Str.ofString "__builtins__"), (.str (Str.ofString "__builtins__") 171), (.ref 4)⟩, ⟨PyData.keyHash P (Str.ofString "__file__"), (.str (Str.ofString "__file__") 173), (.str (Str.ofString "/claim/cut.py") 172)⟩, ⟨PyData.keyHash P (Str.ofString "__cached__"), (.str (Str.ofString "__cached__") 174), .none⟩, ⟨PyData.keyHash P (Str.ofString "b1_set"), (.str (Str.ofString "b1_set") 248), (.ref 22)⟩, ⟨PyData.keyHash P (Str.ofString "in_table_b1"), (.str (Str.ofString "in_table_b1") 255), (.ref 32)⟩, ⟨PyData.keyHash P (Str.ofString "b3_exceptions"), (.str (Str.ofString "b3_exceptions") 2206), (.ref 33)⟩, ⟨PyData.keyHash P (Str.ofString "map_table_b3"), (.str (Str.ofString "map_table_b3") 2214), (.ref 78)⟩, ⟨PyData.keyHash P (Str.ofString "ELLIPSIS_MARKER"), (.str (Str.ofString "ELLIPSIS_MARKER") 2218), (.str (Str.ofString "...") 2217)⟩, ⟨PyData.keyHash P (Str.ofString "_ellipsis_match"), (.str (Str.ofString "_ellipsis_match") 2230), (.ref 85)⟩, ⟨PyData.keyHash P (Str.ofString "Int2AP"), (.str (Str.ofString "Int2AP") 2242), (.ref 92)⟩, ⟨PyData.keyHash P (Str.ofString "_law_letters"), (.str (Str.ofString "_law_letters") 2250), (.ref 97)⟩, ⟨PyData.keyHash P (Str.ofString "_law_bits"), (.str (Str.ofString "_law_bits") 2256), (.ref 102)⟩, ⟨PyData.keyHash P (Str.ofString "_law_number"), (.str (Str.ofString "_law_number") 2265), (.ref 109)⟩] 19), #[]⟩
noncomputable def o12_st13 (P : Params) : Obj := ⟨.none, none, (.fields #[(.int 3 0), (.int 0 0), (.ref 31), (.int 6 0), (.int 0 0), (.ref 77), (.int 13 0), (.int 0 0), (.ref 84), (.int 42 0), (.int 0 0), (.ref 91), (.int 51 0), (.int 0 0), (.ref 96), (.int 53 0), (.int 0 0), (.ref 101), (.int 55 0), (.int 0 0), (.ref 108)]), #[]⟩
noncomputable def o103_st13 (P : Params) : Obj := ⟨(.type "tuple"), none, (.seq #[] 0), #[]⟩
noncomputable def o104_st13 (P : Params) : Obj := ⟨.none, none, (.fields #[]), #[]⟩
noncomputable def o105_st13 (P : Params) : Obj := ⟨(.type "tuple"), none, (.seq #[(.str (Str.ofString "text") 2260), (.str (Str.ofString "number") 2261), (.str (Str.ofString "letter") 2262)] 0), #[]⟩
noncomputable def o106_st13 (P : Params) : Obj := ⟨(.type "tuple"), none, (.seq #[] 0), #[]⟩
noncomputable def o107_st13 (P : Params) : Obj := ⟨.none, none, (.func ⟨(Str.ofString "_law_number"), (Str.ofString "_law_number"), fP 13, .stmts (fB 13), fS 13, 0, [], .none, .none, .none, .none, none, .none, .none, 0⟩), #[]⟩
noncomputable def o108_st13 (P : Params) : Obj := ⟨(.type "code"), none, (.fields #[(.str (Str.ofString "_law_number") 2257), (.str (Str.ofString "_law_number") 2258), (.str (Str.ofString "/claim/cut.py") 2259), (.int 55 0), (.int 1 0), (.int 0 0), (.int 0 0), (.int 3 0), (.ref 103), (.bool true), (.int 181 0), (.ref 104), .none, (.ref 105), (.ref 106), (.ref 107), (.int 2263 0), (.int 55 0), (.str (Str.ofString "/claim/cut.py") 2264)]), #[]⟩
noncomputable def o109_st13 (P : Params) : Obj := ⟨(.type "function"), none, (.func ⟨(Str.ofString "_law_number"), (Str.ofString "_law_number"), fP 13, .stmts (fB 13), fS 13, 3, [], .none, .none, .none, (.str (Str.ofString "law_uy0010_01") 2243), none, (.ref 108), .none, 0⟩), #[]⟩
noncomputable def tr_st13 (P : Params) : BT := (.node (boot_o_0 P) (.node (boot_o_1 P) (.node (o3_st13 P) (.node (boot_o_7 P) (.node (o15_st1 P) (.node (o31_st2 P) (.node (dk63 P) .nil .nil) (.node (o95_st11 P) .nil .nil)) (.node (dk47 P) (.node (o79_st7 P) .nil .nil) .nil)) (.node (o23_st1 P) (.node (dk39 P) (.node (dk71 P) .nil .nil) (.node (o103_st13 P) .nil .nil)) (.node (dk55 P) (.node (o87_st9 P) .nil .nil) .nil))) (.node (o11_pre P) (.node (o19_st1 P) (.node (dk35 P) (.node (dk67 P) .nil .nil) (.node (o99_st12 P) .nil .nil)) (.node (dk51 P) (.node (o83_st7 P) .nil .nil) .nil)) (.node (o27_st2 P) (.node (dk43 P) (.node (o75_st4 P) .nil .nil) (.node (o107_st13 P) .nil .nil)) (.node (dk59 P) (.node (o91_st9 P) .nil .nil) .nil)))) (.node (boot_o_5 P) (.node (boot_o_9 P) (.node (o17_st1 P) (.node (dk33 P) (.node (dk65 P) .nil .nil) (.node (o97_st11 P) .nil .nil)) (.node (dk49 P) (.node (o81_st7 P) .nil .nil) .nil)) (.node (o25_st1 P) (.node (dk41 P) (.node (o73_st4 P) .nil .nil) (.node (o105_st13 P) .nil .nil)) (.node (dk57 P) (.node (o89_st9 P) .nil .nil) .nil))) (.node (o13_pre P) (.node (o21_st1 P) (.node (dk37 P) (.node (dk69 P) .nil .nil) (.node (o101_st12 P) .nil .nil)) (.node (dk53 P) (.node (o85_st7 P) .nil .nil) .nil)) (.node (o29_st2 P) (.node (dk45 P) (.node (o77_st4 P) .nil .nil) (.node (o109_st13 P) .nil .nil)) (.node (dk61 P) (.node (o93_st11 P) .nil .nil) .nil))))) (.node (boot_o_2 P) (.node (boot_o_4 P) (.node (boot_o_8 P) (.node (o16_st1 P) (.node (o32_st2 P) (.node (dk64 P) .nil .nil) (.node (o96_st11 P) .nil .nil)) (.node (dk48 P) (.node (o80_st7 P) .nil .nil) .nil)) (.node (o24_st1 P) (.node (dk40 P) (.node (o72_st4 P) .nil .nil) (.node (o104_st13 P) .nil .nil)) (.node (dk56 P) (.node (o88_st9 P) .nil .nil) .nil))) (.node (o12_st13 P) (.node (o20_st1 P) (.node (dk36 P) (.node (dk68 P) .nil .nil) (.node (o100_st12 P) .nil .nil)) (.node (dk52 P) (.node (o84_st7 P) .nil .nil) .nil)) (.node (o28_st2 P) (.node (dk44 P) (.node (o76_st4 P) .nil .nil) (.node (o108_st13 P) .nil .nil)) (.node (dk60 P) (.node (o92_st9 P) .nil .nil) .nil)))) (.node (boot_o_6 P) (.node (boot_o_10 P) (.node (o18_st1 P) (.node (dk34 P) (.node (dk66 P) .nil .nil) (.node (o98_st12 P) .nil .nil)) (.node (dk50 P) (.node (o82_st7 P) .nil .nil) .nil)) (.node (o26_st2 P) (.node (dk42 P) (.node (o74_st4 P) .nil .nil) (.node (o106_st13 P) .nil .nil)) (.node (dk58 P) (.node (o90_st9 P) .nil .nil) .nil))) (.node (o14_pre P) (.node (o22_st1 P) (.node (dk38 P) (.node (dk70 P) .nil .nil) (.node (o102_st12 P) .nil .nil)) (.node (dk54 P) (.node (o86_st9 P) .nil .nil) .nil)) (.node (o30_st2 P) (.node (dk46 P) (.node (o78_st4 P) .nil .nil) .nil) (.node (dk62 P) (.node (o94_st11 P) .nil .nil) .nil))))))
noncomputable def s_st13 (P : Params) (os : OsState) : SharedT := ⟨tr_st13 P, 110, life0, #[], boot_drawn, 2266, os⟩
def p_st13 : Pos := ⟨55, 0, 59, 17⟩
noncomputable def o3_st14 (P : Params) : Obj := ⟨(.type "dict"), none, (.dict #[⟨PyData.keyHash P (Str.ofString "__name__"), (.str (Str.ofString "__name__") 165), (.str (Str.ofString "law_uy0010_01") 2243)⟩, ⟨PyData.keyHash P (Str.ofString "__doc__"), (.str (Str.ofString "__doc__") 166), .none⟩, ⟨PyData.keyHash P (Str.ofString "__package__"), (.str (Str.ofString "__package__") 167), .none⟩, ⟨PyData.keyHash P (Str.ofString "__loader__"), (.str (Str.ofString "__loader__") 168), (.builtin "__main__.__loader__#opaque")⟩, ⟨PyData.keyHash P (Str.ofString "__spec__"), (.str (Str.ofString "__spec__") 169), .none⟩, ⟨PyData.keyHash P (Str.ofString "__annotations__"), (.str (Str.ofString "__annotations__") 170), (.ref 6)⟩, ⟨PyData.keyHash P (Str.ofString "__builtins__"), (.str (Str.ofString "__builtins__") 171), (.ref 4)⟩, ⟨PyData.keyHash P (Str.ofString "__file__"), (.str (Str.ofString "__file__") 173), (.str (Str.ofString "/claim/cut.py") 172)⟩, ⟨PyData.keyHash P (Str.ofString "__cached__"), (.str (Str.ofString "__cached__") 174), .none⟩, ⟨PyData.keyHash P (Str.ofString "b1_set"), (.str (Str.ofString "b1_set") 248), (.ref 22)⟩, ⟨PyData.keyHash P (Str.ofString "in_table_b1"), (.str (Str.ofString "in_table_b1") 255), (.ref 32)⟩, ⟨PyData.keyHash P (Str.ofString "b3_exceptions"), (.str (Str.ofString "b3_exceptions") 2206), (.ref 33)⟩, ⟨PyData.keyHash P (Str.ofString "map_table_b3"), (.str (Str.ofString "map_table_b3") 2214), (.ref 78)⟩, ⟨PyData.keyHash P (Str.ofString "ELLIPSIS_MARKER"), (.str (Str.ofString "ELLIPSIS_MARKER") 2218), (.str (Str.ofString "...") 2217)⟩, ⟨PyData.keyHash P (Str.ofString "_ellipsis_match"), (.str (Str.ofString "_ellipsis_match") 2230), (.ref 85)⟩, ⟨PyData.keyHash P (Str.ofString "Int2AP"), (.str (Str.ofString "Int2AP") 2242), (.ref 92)⟩, ⟨PyData.keyHash P (Str.ofString "_law_letters"), (.str (Str.ofString "_law_letters") 2250), (.ref 97)⟩, ⟨PyData.keyHash P (Str.ofString "_law_bits"), (.str (Str.ofString "_law_bits") 2256), (.ref 102)⟩, ⟨PyData.keyHash P (Str.ofString "_law_number"), (.str (Str.ofString "_law_number") 2265), (.ref 109)⟩, ⟨PyData.keyHash P (Str.ofString "_law_typed"), (.str (Str.ofString "_law_typed") 2271), (.ref 114)⟩] 20), #[]⟩
noncomputable def o12_st14 (P : Params) : Obj := ⟨.none, none, (.fields #[(.int 3 0), (.int 0 0), (.ref 31), (.int 6 0), (.int 0 0), (.ref 77), (.int 13 0), (.int 0 0), (.ref 84), (.int 42 0), (.int 0 0), (.ref 91), (.int 51 0), (.int 0 0), (.ref 96), (.int 53 0), (.int 0 0), (.ref 101), (.int 55 0), (.int 0 0), (.ref 108), (.int 60 0), (.int 0 0), (.ref 113)]), #[]⟩
noncomputable def o110_st14 (P : Params) : Obj := ⟨(.type "tuple"), none, (.seq #[] 0), #[]⟩
noncomputable def o111_st14 (P : Params) : Obj := ⟨.none, none, (.fields #[]), #[]⟩
noncomputable def o112_st14 (P : Params) : Obj := ⟨.none, none, (.func ⟨(Str.ofString "_law_typed"), (Str.ofString "_law_typed"), fP 14, .stmts (fB 14), fS 14, 0, [], .none, .none, .none, .none, none, .none, .none, 0⟩), #[]⟩
noncomputable def o113_st14 (P : Params) : Obj := ⟨(.type "code"), none, (.fields #[(.str (Str.ofString "_law_typed") 2266), (.str (Str.ofString "_law_typed") 2267), (.str (Str.ofString "/claim/cut.py") 2268), (.int 60 0), (.int 2 0), (.int 0 0), (.int 0 0), (.int 3 0), (.ref 110), (.bool true), (.int 181 0), (.ref 111), .none, .none, .none, (.ref 112), (.int 2269 0), (.int 60 0), (.str (Str.ofString "/claim/cut.py") 2270)]), #[]⟩
noncomputable def o114_st14 (P : Params) : Obj := ⟨(.type "function"), none, (.func ⟨(Str.ofString "_law_typed"), (Str.ofString "_law_typed"), fP 14, .stmts (fB 14), fS 14, 3, [], .none, .none, .none, (.str (Str.ofString "law_uy0010_01") 2243), none, (.ref 113), .none, 0⟩), #[]⟩
noncomputable def tr_st14 (P : Params) : BT := (.node (boot_o_0 P) (.node (boot_o_1 P) (.node (o3_st14 P) (.node (boot_o_7 P) (.node (o15_st1 P) (.node (o31_st2 P) (.node (dk63 P) .nil .nil) (.node (o95_st11 P) .nil .nil)) (.node (dk47 P) (.node (o79_st7 P) .nil .nil) (.node (o111_st14 P) .nil .nil))) (.node (o23_st1 P) (.node (dk39 P) (.node (dk71 P) .nil .nil) (.node (o103_st13 P) .nil .nil)) (.node (dk55 P) (.node (o87_st9 P) .nil .nil) .nil))) (.node (o11_pre P) (.node (o19_st1 P) (.node (dk35 P) (.node (dk67 P) .nil .nil) (.node (o99_st12 P) .nil .nil)) (.node (dk51 P) (.node (o83_st7 P) .nil .nil) .nil)) (.node (o27_st2 P) (.node (dk43 P) (.node (o75_st4 P) .nil .nil) (.node (o107_st13 P) .nil .nil)) (.node (dk59 P) (.node (o91_st9 P) .nil .nil) .nil)))) (.node (boot_o_5 P) (.node (boot_o_9 P) (.node (o17_st1 P) (.node (dk33 P) (.node (dk65 P) .nil .nil) (.node (o97_st11 P) .nil .nil)) (.node (dk49 P) (.node (o81_st7 P) .nil .nil) (.node (o113_st14 P) .nil .nil))) (.node (o25_st1 P) (.node (dk41 P) (.node (o73_st4 P) .nil .nil) (.node (o105_st13 P) .nil .nil)) (.node (dk57 P) (.node (o89_st9 P) .nil .nil) .nil))) (.node (o13_pre P) (.node (o21_st1 P) (.node (dk37 P) (.node (dk69 P) .nil .nil) (.node (o101_st12 P) .nil .nil)) (.node (dk53 P) (.node (o85_st7 P) .nil .nil) .nil)) (.node (o29_st2 P) (.node (dk45 P) (.node (o77_st4 P) .nil .nil) (.node (o109_st13 P) .nil .nil)) (.node (dk61 P) (.node (o93_st11 P) .nil .nil) .nil))))) (.node (boot_o_2 P) (.node (boot_o_4 P) (.node (boot_o_8 P) (.node (o16_st1 P) (.node (o32_st2 P) (.node (dk64 P) .nil .nil) (.node (o96_st11 P) .nil .nil)) (.node (dk48 P) (.node (o80_st7 P) .nil .nil) (.node (o112_st14 P) .nil .nil))) (.node (o24_st1 P) (.node (dk40 P) (.node (o72_st4 P) .nil .nil) (.node (o104_st13 P) .nil .nil)) (.node (dk56 P) (.node (o88_st9 P) .nil .nil) .nil))) (.node (o12_st14 P) (.node (o20_st1 P) (.node (dk36 P) (.node (dk68 P) .nil .nil) (.node (o100_st12 P) .nil .nil)) (.node (dk52 P) (.node (o84_st7 P) .nil .nil) .nil)) (.node (o28_st2 P) (.node (dk44 P) (.node (o76_st4 P) .nil .nil) (.node (o108_st13 P) .nil .nil)) (.node (dk60 P) (.node (o92_st9 P) .nil .nil) .nil)))) (.node (boot_o_6 P) (.node (boot_o_10 P) (.node (o18_st1 P) (.node (dk34 P) (.node (dk66 P) .nil .nil) (.node (o98_st12 P) .nil .nil)) (.node (dk50 P) (.node (o82_st7 P) .nil .nil) (.node (o114_st14 P) .nil .nil))) (.node (o26_st2 P) (.node (dk42 P) (.node (o74_st4 P) .nil .nil) (.node (o106_st13 P) .nil .nil)) (.node (dk58 P) (.node (o90_st9 P) .nil .nil) .nil))) (.node (o14_pre P) (.node (o22_st1 P) (.node (dk38 P) (.node (dk70 P) .nil .nil) (.node (o102_st12 P) .nil .nil)) (.node (dk54 P) (.node (o86_st9 P) .nil .nil) .nil)) (.node (o30_st2 P) (.node (dk46 P) (.node (o78_st4 P) .nil .nil) (.node (o110_st14 P) .nil .nil)) (.node (dk62 P) (.node (o94_st11 P) .nil .nil) .nil))))))
noncomputable def s_st14 (P : Params) (os : OsState) : SharedT := ⟨tr_st14 P, 115, life0, #[], boot_drawn, 2272, os⟩
def p_st14 : Pos := ⟨60, 0, 69, 16⟩
noncomputable def o3_st15 (P : Params) : Obj := ⟨(.type "dict"), none, (.dict #[⟨PyData.keyHash P (Str.ofString "__name__"), (.str (Str.ofString "__name__") 165), (.str (Str.ofString "law_uy0010_01") 2243)⟩, ⟨PyData.keyHash P (Str.ofString "__doc__"), (.str (Str.ofString "__doc__") 166), .none⟩, ⟨PyData.keyHash P (Str.ofString "__package__"), (.str (Str.ofString "__package__") 167), .none⟩, ⟨PyData.keyHash P (Str.ofString "__loader__"), (.str (Str.ofString "__loader__") 168), (.builtin "__main__.__loader__#opaque")⟩, ⟨PyData.keyHash P (Str.ofString "__spec__"), (.str (Str.ofString "__spec__") 169), .none⟩, ⟨PyData.keyHash P (Str.ofString "__annotations__"), (.str (Str.ofString "__annotations__") 170), (.ref 6)⟩, ⟨PyData.keyHash P (Str.ofString "__builtins__"), (.str (Str.ofString "__builtins__") 171), (.ref 4)⟩, ⟨PyData.keyHash P (Str.ofString "__file__"), (.str (Str.ofString "__file__") 173), (.str (Str.ofString "/claim/cut.py") 172)⟩, ⟨PyData.keyHash P (Str.ofString "__cached__"), (.str (Str.ofString "__cached__") 174), .none⟩, ⟨PyData.keyHash P (Str.ofString "b1_set"), (.str (Str.ofString "b1_set") 248), (.ref 22)⟩, ⟨PyData.keyHash P (Str.ofString "in_table_b1"), (.str (Str.ofString "in_table_b1") 255), (.ref 32)⟩, ⟨PyData.keyHash P (Str.ofString "b3_exceptions"), (.str (Str.ofString "b3_exceptions") 2206), (.ref 33)⟩, ⟨PyData.keyHash P (Str.ofString "map_table_b3"), (.str (Str.ofString "map_table_b3") 2214), (.ref 78)⟩, ⟨PyData.keyHash P (Str.ofString "ELLIPSIS_MARKER"), (.str (Str.ofString "ELLIPSIS_MARKER") 2218), (.str (Str.ofString "...") 2217)⟩, ⟨PyData.keyHash P (Str.ofString "_ellipsis_match"), (.str (Str.ofString "_ellipsis_match") 2230), (.ref 85)⟩, ⟨PyData.keyHash P (Str.ofString "Int2AP"), (.str (Str.ofString "Int2AP") 2242), (.ref 92)⟩, ⟨PyData.keyHash P (Str.ofString "_law_letters"), (.str (Str.ofString "_law_letters") 2250), (.ref 97)⟩, ⟨PyData.keyHash P (Str.ofString "_law_bits"), (.str (Str.ofString "_law_bits") 2256), (.ref 102)⟩, ⟨PyData.keyHash P (Str.ofString "_law_number"), (.str (Str.ofString "_law_number") 2265), (.ref 109)⟩, ⟨PyData.keyHash P (Str.ofString "_law_typed"), (.str (Str.ofString "_law_typed") 2271), (.ref 114)⟩, ⟨PyData.keyHash P (Str.ofString "law"), (.str (Str.ofString "law") 2277), (.ref 119)⟩] 21), #[]⟩
noncomputable def o12_st15 (P : Params) : Obj := ⟨.none, none, (.fields #[(.int 3 0), (.int 0 0), (.ref 31), (.int 6 0), (.int 0 0), (.ref 77), (.int 13 0), (.int 0 0), (.ref 84), (.int 42 0), (.int 0 0), (.ref 91), (.int 51 0), (.int 0 0), (.ref 96), (.int 53 0), (.int 0 0), (.ref 101), (.int 55 0), (.int 0 0), (.ref 108), (.int 60 0), (.int 0 0), (.ref 113), (.int 70 0), (.int 0 0), (.ref 118)]), #[]⟩
noncomputable def o115_st15 (P : Params) : Obj := ⟨(.type "tuple"), none, (.seq #[] 0), #[]⟩
noncomputable def o116_st15 (P : Params) : Obj := ⟨.none, none, (.fields #[]), #[]⟩
noncomputable def o117_st15 (P : Params) : Obj := ⟨.none, none, (.func ⟨(Str.ofString "law"), (Str.ofString "law"), fP 15, .stmts (fB 15), fS 15, 0, [], .none, .none, .none, .none, none, .none, .none, 0⟩), #[]⟩
noncomputable def o118_st15 (P : Params) : Obj := ⟨(.type "code"), none, (.fields #[(.str (Str.ofString "law") 2272), (.str (Str.ofString "law") 2273), (.str (Str.ofString "/claim/cut.py") 2274), (.int 70 0), (.int 1 0), (.int 0 0), (.int 0 0), (.int 3 0), (.ref 115), (.bool true), (.int 181 0), (.ref 116), .none, .none, .none, (.ref 117), (.int 2275 0), (.int 70 0), (.str (Str.ofString "/claim/cut.py") 2276)]), #[]⟩
noncomputable def o119_st15 (P : Params) : Obj := ⟨(.type "function"), none, (.func ⟨(Str.ofString "law"), (Str.ofString "law"), fP 15, .stmts (fB 15), fS 15, 3, [], .none, .none, .none, (.str (Str.ofString "law_uy0010_01") 2243), none, (.ref 118), .none, 0⟩), #[]⟩
noncomputable def tr_st15 (P : Params) : BT := (.node (boot_o_0 P) (.node (boot_o_1 P) (.node (o3_st15 P) (.node (boot_o_7 P) (.node (o15_st1 P) (.node (o31_st2 P) (.node (dk63 P) .nil .nil) (.node (o95_st11 P) .nil .nil)) (.node (dk47 P) (.node (o79_st7 P) .nil .nil) (.node (o111_st14 P) .nil .nil))) (.node (o23_st1 P) (.node (dk39 P) (.node (dk71 P) .nil .nil) (.node (o103_st13 P) .nil .nil)) (.node (dk55 P) (.node (o87_st9 P) .nil .nil) (.node (o119_st15 P) .nil .nil)))) (.node (o11_pre P) (.node (o19_st1 P) (.node (dk35 P) (.node (dk67 P) .nil .nil) (.node (o99_st12 P) .nil .nil)) (.node (dk51 P) (.node (o83_st7 P) .nil .nil) (.node (o115_st15 P) .nil .nil))) (.node (o27_st2 P) (.node (dk43 P) (.node (o75_st4 P) .nil .nil) (.node (o107_st13 P) .nil .nil)) (.node (dk59 P) (.node (o91_st9 P) .nil .nil) .nil)))) (.node (boot_o_5 P) (.node (boot_o_9 P) (.node (o17_st1 P) (.node (dk33 P) (.node (dk65 P) .nil .nil) (.node (o97_st11 P) .nil .nil)) (.node (dk49 P) (.node (o81_st7 P) .nil .nil) (.node (o113_st14 P) .nil .nil))) (.node (o25_st1 P) (.node (dk41 P) (.node (o73_st4 P) .nil .nil) (.node (o105_st13 P) .nil .nil)) (.node (dk57 P) (.node (o89_st9 P) .nil .nil) .nil))) (.node (o13_pre P) (.node (o21_st1 P) (.node (dk37 P) (.node (dk69 P) .nil .nil) (.node (o101_st12 P) .nil .nil)) (.node (dk53 P) (.node (o85_st7 P) .nil .nil) (.node (o117_st15 P) .nil .nil))) (.node (o29_st2 P) (.node (dk45 P) (.node (o77_st4 P) .nil .nil) (.node (o109_st13 P) .nil .nil)) (.node (dk61 P) (.node (o93_st11 P) .nil .nil) .nil))))) (.node (boot_o_2 P) (.node (boot_o_4 P) (.node (boot_o_8 P) (.node (o16_st1 P) (.node (o32_st2 P) (.node (dk64 P) .nil .nil) (.node (o96_st11 P) .nil .nil)) (.node (dk48 P) (.node (o80_st7 P) .nil .nil) (.node (o112_st14 P) .nil .nil))) (.node (o24_st1 P) (.node (dk40 P) (.node (o72_st4 P) .nil .nil) (.node (o104_st13 P) .nil .nil)) (.node (dk56 P) (.node (o88_st9 P) .nil .nil) .nil))) (.node (o12_st15 P) (.node (o20_st1 P) (.node (dk36 P) (.node (dk68 P) .nil .nil) (.node (o100_st12 P) .nil .nil)) (.node (dk52 P) (.node (o84_st7 P) .nil .nil) (.node (o116_st15 P) .nil .nil))) (.node (o28_st2 P) (.node (dk44 P) (.node (o76_st4 P) .nil .nil) (.node (o108_st13 P) .nil .nil)) (.node (dk60 P) (.node (o92_st9 P) .nil .nil) .nil)))) (.node (boot_o_6 P) (.node (boot_o_10 P) (.node (o18_st1 P) (.node (dk34 P) (.node (dk66 P) .nil .nil) (.node (o98_st12 P) .nil .nil)) (.node (dk50 P) (.node (o82_st7 P) .nil .nil) (.node (o114_st14 P) .nil .nil))) (.node (o26_st2 P) (.node (dk42 P) (.node (o74_st4 P) .nil .nil) (.node (o106_st13 P) .nil .nil)) (.node (dk58 P) (.node (o90_st9 P) .nil .nil) .nil))) (.node (o14_pre P) (.node (o22_st1 P) (.node (dk38 P) (.node (dk70 P) .nil .nil) (.node (o102_st12 P) .nil .nil)) (.node (dk54 P) (.node (o86_st9 P) .nil .nil) (.node (o118_st15 P) .nil .nil))) (.node (o30_st2 P) (.node (dk46 P) (.node (o78_st4 P) .nil .nil) (.node (o110_st14 P) .nil .nil)) (.node (dk62 P) (.node (o94_st11 P) .nil .nil) .nil))))))
noncomputable def s_st15 (P : Params) (os : OsState) : SharedT := ⟨tr_st15 P, 120, life0, #[], boot_drawn, 2278, os⟩
def p_st15 : Pos := ⟨70, 0, 109, 95⟩
noncomputable def tr_fin (P : Params) : BT := (.node (boot_o_0 P) (.node (boot_o_1 P) (.node (o3_st15 P) (.node (boot_o_7 P) (.node (o15_st1 P) (.node (o31_st2 P) (.node (dk63 P) .nil .nil) (.node (o95_st11 P) .nil .nil)) (.node (dk47 P) (.node (o79_st7 P) .nil .nil) (.node (o111_st14 P) .nil .nil))) (.node (o23_st1 P) (.node (dk39 P) (.node (dk71 P) .nil .nil) (.node (o103_st13 P) .nil .nil)) (.node (dk55 P) (.node (o87_st9 P) .nil .nil) (.node (o119_st15 P) .nil .nil)))) (.node (o11_pre P) (.node (o19_st1 P) (.node (dk35 P) (.node (dk67 P) .nil .nil) (.node (o99_st12 P) .nil .nil)) (.node (dk51 P) (.node (o83_st7 P) .nil .nil) (.node (o115_st15 P) .nil .nil))) (.node (o27_st2 P) (.node (dk43 P) (.node (o75_st4 P) .nil .nil) (.node (o107_st13 P) .nil .nil)) (.node (dk59 P) (.node (o91_st9 P) .nil .nil) .nil)))) (.node (boot_o_5 P) (.node (boot_o_9 P) (.node (o17_st1 P) (.node (dk33 P) (.node (dk65 P) .nil .nil) (.node (o97_st11 P) .nil .nil)) (.node (dk49 P) (.node (o81_st7 P) .nil .nil) (.node (o113_st14 P) .nil .nil))) (.node (o25_st1 P) (.node (dk41 P) (.node (o73_st4 P) .nil .nil) (.node (o105_st13 P) .nil .nil)) (.node (dk57 P) (.node (o89_st9 P) .nil .nil) .nil))) (.node (o13_pre P) (.node (o21_st1 P) (.node (dk37 P) (.node (dk69 P) .nil .nil) (.node (o101_st12 P) .nil .nil)) (.node (dk53 P) (.node (o85_st7 P) .nil .nil) (.node (o117_st15 P) .nil .nil))) (.node (o29_st2 P) (.node (dk45 P) (.node (o77_st4 P) .nil .nil) (.node (o109_st13 P) .nil .nil)) (.node (dk61 P) (.node (o93_st11 P) .nil .nil) .nil))))) (.node (boot_o_2 P) (.node (boot_o_4 P) (.node (boot_o_8 P) (.node (o16_st1 P) (.node (o32_st2 P) (.node (dk64 P) .nil .nil) (.node (o96_st11 P) .nil .nil)) (.node (dk48 P) (.node (o80_st7 P) .nil .nil) (.node (o112_st14 P) .nil .nil))) (.node (o24_st1 P) (.node (dk40 P) (.node (o72_st4 P) .nil .nil) (.node (o104_st13 P) .nil .nil)) (.node (dk56 P) (.node (o88_st9 P) .nil .nil) .nil))) (.node (o12_st15 P) (.node (o20_st1 P) (.node (dk36 P) (.node (dk68 P) .nil .nil) (.node (o100_st12 P) .nil .nil)) (.node (dk52 P) (.node (o84_st7 P) .nil .nil) (.node (o116_st15 P) .nil .nil))) (.node (o28_st2 P) (.node (dk44 P) (.node (o76_st4 P) .nil .nil) (.node (o108_st13 P) .nil .nil)) (.node (dk60 P) (.node (o92_st9 P) .nil .nil) .nil)))) (.node (boot_o_6 P) (.node (boot_o_10 P) (.node (o18_st1 P) (.node (dk34 P) (.node (dk66 P) .nil .nil) (.node (o98_st12 P) .nil .nil)) (.node (dk50 P) (.node (o82_st7 P) .nil .nil) (.node (o114_st14 P) .nil .nil))) (.node (o26_st2 P) (.node (dk42 P) (.node (o74_st4 P) .nil .nil) (.node (o106_st13 P) .nil .nil)) (.node (dk58 P) (.node (o90_st9 P) .nil .nil) .nil))) (.node (o14_pre P) (.node (o22_st1 P) (.node (dk38 P) (.node (dk70 P) .nil .nil) (.node (o102_st12 P) .nil .nil)) (.node (dk54 P) (.node (o86_st9 P) .nil .nil) (.node (o118_st15 P) .nil .nil))) (.node (o30_st2 P) (.node (dk46 P) (.node (o78_st4 P) .nil .nil) (.node (o110_st14 P) .nil .nil)) (.node (dk62 P) (.node (o94_st11 P) .nil .nil) .nil))))))
noncomputable def s_fin (P : Params) (os : OsState) : SharedT := ⟨tr_fin P, 120, life0, #[], boot_drawn, 2278, os⟩
def p_fin : Pos := ⟨70, 0, 109, 95⟩
noncomputable def tr_mid (P : Params) : BT := (.node (boot_o_0 P) (.node (boot_o_1 P) (.node (o3_st2 P) (.node (boot_o_7 P) (.node (o15_st1 P) (.node (o31_st2 P) (.node (dk63 P) .nil .nil) .nil) (.node (dk47 P) .nil .nil)) (.node (o23_st1 P) (.node (dk39 P) (.node (dk71 P) .nil .nil) .nil) (.node (dk55 P) .nil .nil))) (.node (o11_pre P) (.node (o19_st1 P) (.node (dk35 P) (.node (dk67 P) .nil .nil) .nil) (.node (dk51 P) .nil .nil)) (.node (o27_st2 P) (.node (dk43 P) .nil .nil) (.node (dk59 P) .nil .nil)))) (.node (boot_o_5 P) (.node (boot_o_9 P) (.node (o17_st1 P) (.node (dk33 P) (.node (dk65 P) .nil .nil) .nil) (.node (dk49 P) .nil .nil)) (.node (o25_st1 P) (.node (dk41 P) .nil .nil) (.node (dk57 P) .nil .nil))) (.node (o13_pre P) (.node (o21_st1 P) (.node (dk37 P) (.node (dk69 P) .nil .nil) .nil) (.node (dk53 P) .nil .nil)) (.node (o29_st2 P) (.node (dk45 P) .nil .nil) (.node (dk61 P) .nil .nil))))) (.node (boot_o_2 P) (.node (boot_o_4 P) (.node (boot_o_8 P) (.node (o16_st1 P) (.node (o32_st2 P) (.node (dk64 P) .nil .nil) .nil) (.node (dk48 P) .nil .nil)) (.node (o24_st1 P) (.node (dk40 P) .nil .nil) (.node (dk56 P) .nil .nil))) (.node (o12_st2 P) (.node (o20_st1 P) (.node (dk36 P) (.node (dk68 P) .nil .nil) .nil) (.node (dk52 P) .nil .nil)) (.node (o28_st2 P) (.node (dk44 P) .nil .nil) (.node (dk60 P) .nil .nil)))) (.node (boot_o_6 P) (.node (boot_o_10 P) (.node (o18_st1 P) (.node (dk34 P) (.node (dk66 P) .nil .nil) .nil) (.node (dk50 P) .nil .nil)) (.node (o26_st2 P) (.node (dk42 P) .nil .nil) (.node (dk58 P) .nil .nil))) (.node (o14_pre P) (.node (o22_st1 P) (.node (dk38 P) (.node (dk70 P) .nil .nil) .nil) (.node (dk54 P) .nil .nil)) (.node (o30_st2 P) (.node (dk46 P) .nil .nil) (.node (dk62 P) .nil .nil))))))
noncomputable def s_mid (P : Params) (os : OsState) : SharedT := ⟨tr_mid P, 72, life0, #[], boot_drawn, 2206, os⟩
theorem run_0 (w : World) (os : OsState) : segRunT treeTable pw w 11 ann 1 10 (s_block w.params os) (pieceOf (stAt 0) envT cT p_block [topFrame pos0]) = some (.next, s_st0 w.params os, cT, p_st0) := by
  rw [PySem.W.Fast.te10110043849684766642, PySem.W.Fast.te14364793385576792824]
  kernel_rfl
def Run1 (w : World) : Prop := ∀ os : OsState, segRunT treeTable pw w 11 ann 1 999 (s_st0 w.params os) (pieceOf (stAt 1) envT cT p_st0 [topFrame pos0]) = some (.next, s_st1 w.params os, cT, p_st1)
theorem run_1_false_false (w : World) : Run1 ((w.withFollow "special-get-raises" false).withFollow "set-order" false) := by
  intro os
  rw [PySem.W.Fast.te10110043849684766642, PySem.W.Fast.te14364793385576792824]
  kernel_rfl
theorem run_1_false_true (w : World) : Run1 ((w.withFollow "special-get-raises" true).withFollow "set-order" false) := by
  intro os
  rw [PySem.W.Fast.te10110043849684766642, PySem.W.Fast.te14364793385576792824]
  kernel_rfl
theorem run_1_true_false (w : World) : Run1 ((w.withFollow "special-get-raises" false).withFollow "set-order" true) := by
  intro os
  rw [PySem.W.Fast.te10110043849684766642, PySem.W.Fast.te14364793385576792824]
  kernel_rfl
theorem run_1_true_true (w : World) : Run1 ((w.withFollow "special-get-raises" true).withFollow "set-order" true) := by
  intro os
  rw [PySem.W.Fast.te10110043849684766642, PySem.W.Fast.te14364793385576792824]
  kernel_rfl
theorem run_1 (w : World) : Run1 w :=
  byRow2 "set-order" (P := Run1) (fun w => byRow2 "special-get-raises" (P := fun w => Run1 (w.withFollow "set-order" false)) run_1_false_false run_1_false_true w)
    (fun w => byRow2 "special-get-raises" (P := fun w => Run1 (w.withFollow "set-order" true)) run_1_true_false run_1_true_true w) w
theorem run_2 (w : World) (os : OsState) : segRunT treeTable pw w 11 ann 1 30 (s_st1 w.params os) (pieceOf (stAt 2) envT cT p_st1 [topFrame pos0]) = some (.next, s_st2 w.params os, cT, p_st2) := by
  rw [PySem.W.Fast.te10110043849684766642, PySem.W.Fast.te14364793385576792824]
  kernel_rfl
theorem run_4 (w : World) (os : OsState) : segRunT treeTable pw w 11 ann 1 31 (s_st3 w.params os) (pieceOf (stAt 4) envT cT p_st3 [topFrame pos0]) = some (.next, s_st4 w.params os, cT, p_st4) := by
  rw [PySem.W.Fast.te10110043849684766642, PySem.W.Fast.te14364793385576792824]
  kernel_rfl
theorem run_5 (w : World) (os : OsState) : segRunT treeTable pw w 11 ann 1 10 (s_st4 w.params os) (pieceOf (stAt 5) envT cT p_st4 [topFrame pos0]) = some (.next, s_st5 w.params os, cT, p_st5) := by
  rw [PySem.W.Fast.te10110043849684766642, PySem.W.Fast.te14364793385576792824]
  kernel_rfl
theorem run_6 (w : World) (os : OsState) : segRunT treeTable pw w 11 ann 1 10 (s_st5 w.params os) (pieceOf (stAt 6) envT cT p_st5 [topFrame pos0]) = some (.next, s_st6 w.params os, cT, p_st6) := by
  rw [PySem.W.Fast.te10110043849684766642, PySem.W.Fast.te14364793385576792824]
  kernel_rfl
theorem run_7 (w : World) (os : OsState) : segRunT treeTable pw w 11 ann 1 35 (s_st6 w.params os) (pieceOf (stAt 7) envT cT p_st6 [topFrame pos0]) = some (.next, s_st7 w.params os, cT, p_st7) := by
  rw [PySem.W.Fast.te10110043849684766642, PySem.W.Fast.te14364793385576792824]
  kernel_rfl
theorem run_8 (w : World) (os : OsState) : segRunT treeTable pw w 11 ann 1 10 (s_st7 w.params os) (pieceOf (stAt 8) envT cT p_st7 [topFrame pos0]) = some (.next, s_st8 w.params os, cT, p_st8) := by
  rw [PySem.W.Fast.te10110043849684766642, PySem.W.Fast.te14364793385576792824]
  kernel_rfl
theorem run_9 (w : World) (os : OsState) : segRunT treeTable pw w 11 ann 1 33 (s_st8 w.params os) (pieceOf (stAt 9) envT cT p_st8 [topFrame pos0]) = some (.next, s_st9 w.params os, cT, p_st9) := by
  rw [PySem.W.Fast.te10110043849684766642, PySem.W.Fast.te14364793385576792824]
  kernel_rfl
theorem run_10 (w : World) (os : OsState) : segRunT treeTable pw w 11 ann 1 10 (s_st9 w.params os) (pieceOf (stAt 10) envT cT p_st9 [topFrame pos0]) = some (.next, s_st10 w.params os, cT, p_st10) := by
  rw [PySem.W.Fast.te10110043849684766642, PySem.W.Fast.te14364793385576792824]
  kernel_rfl
theorem run_11 (w : World) (os : OsState) : segRunT treeTable pw w 11 ann 1 27 (s_st10 w.params os) (pieceOf (stAt 11) envT cT p_st10 [topFrame pos0]) = some (.next, s_st11 w.params os, cT, p_st11) := by
  rw [PySem.W.Fast.te10110043849684766642, PySem.W.Fast.te14364793385576792824]
  kernel_rfl
theorem run_12 (w : World) (os : OsState) : segRunT treeTable pw w 11 ann 1 27 (s_st11 w.params os) (pieceOf (stAt 12) envT cT p_st11 [topFrame pos0]) = some (.next, s_st12 w.params os, cT, p_st12) := by
  rw [PySem.W.Fast.te10110043849684766642, PySem.W.Fast.te14364793385576792824]
  kernel_rfl
theorem run_13 (w : World) (os : OsState) : segRunT treeTable pw w 11 ann 1 32 (s_st12 w.params os) (pieceOf (stAt 13) envT cT p_st12 [topFrame pos0]) = some (.next, s_st13 w.params os, cT, p_st13) := by
  rw [PySem.W.Fast.te10110043849684766642, PySem.W.Fast.te14364793385576792824]
  kernel_rfl
theorem run_14 (w : World) (os : OsState) : segRunT treeTable pw w 11 ann 1 27 (s_st13 w.params os) (pieceOf (stAt 14) envT cT p_st13 [topFrame pos0]) = some (.next, s_st14 w.params os, cT, p_st14) := by
  rw [PySem.W.Fast.te10110043849684766642, PySem.W.Fast.te14364793385576792824]
  kernel_rfl
theorem run_15 (w : World) (os : OsState) : segRunT treeTable pw w 11 ann 1 27 (s_st14 w.params os) (pieceOf (stAt 15) envT cT p_st14 [topFrame pos0]) = some (.next, s_st15 w.params os, cT, p_st15) := by
  rw [PySem.W.Fast.te10110043849684766642, PySem.W.Fast.te14364793385576792824]
  kernel_rfl
end Mine
end
section
open PySem PySem.W PyProof.Rows
set_option linter.unusedVariables false
set_option maxRecDepth 100000
set_option maxHeartbeats 0
namespace Mine
noncomputable def preL (P : Params) : List Obj := (absHeap (tr_st2 P) 33 life0).objs.toList
theorem preL_len (P : Params) : (preL P).length = 33 := by
  unfold preL
  rw [Array.length_toList, absHeap_size]
theorem st_pre (P : Params) (os : OsState) : (s_st2 P os).abs = st (preL P) 256 os := by
  show Shared.mk (absHeap (tr_st2 P) 33 life0) _ _ _ _ = Shared.mk ⟨(preL P).toArray, life0⟩ _ _ _ _
  unfold preL
  rfl
theorem mid_list (P : Params) : (absHeap (tr_mid P) 72 life0).objs.toList = preL P ++ dkL := by
  unfold preL
  kernel_rfl
theorem st_mid (P : Params) (os : OsState) : (s_mid P os).abs = st (preL P ++ dkL) 2206 os := by
  show Shared.mk (absHeap (tr_mid P) 72 life0) _ _ _ _ = Shared.mk ⟨(preL P ++ dkL).toArray, life0⟩ _ _ _ _
  rw [← mid_list]
  rfl
/-- what is left behind the display: the name is stored -/
noncomputable def rest3 : Sem Flow := do
  standAt p3a
  bindName envT nm3 (.ref 33)
  pure .next
theorem run_3rest (w : World) (os : OsState) (p : Pos) : segRunT treeTable pw w 11 ann 1 8 (s_mid w.params os) ⟨rest3.wrap doneF deadEnd id id, cT, p, [topFrame pos0]⟩ = some (.next, s_st3 w.params os, cT, p_st3) := by
  rw [PySem.W.Fast.te10110043849684766642, PySem.W.Fast.te14364793385576792824]
  kernel_rfl
theorem swaps3 : swapsWith (.Dict kv3.1 kv3.2 p3b) (some (.Name nm3 p3a)) p3c.line envT = pure false := by kernel_rfl
theorem run_3 (w : World) (os : OsState) : segRun treeTable pw w 11 ann 1 12525 (s_st2 w.params os).abs (pieceOf (stAt 3) envT cT p_st2 [topFrame pos0]) = some (.next, (s_st3 w.params os).abs, cT, p_st3) := by
  rw [st_pre]
  have hl := preL_len w.params
  have hn : Nat.ble 11 (preL w.params).length = true := by rw [hl]; rfl
  obtain ⟨p', g⟩ := goDisplay (w := w) (pre := preL w.params) (tk := 256) (os := os) (p := p3b) (pos := p3b) hn b3a_len b3b_len (by rw [b3c_len]; omega) (by intro q; have := b3c_len; rw [q] at this; cases this)
    (by rw [b3_cut]; exact rising_nodup _ b3_rising) (by rw [b3c_len]; omega)
  rw [b3_cut, b3c_len, hl] at g
  have e1 : exec (stAt 3) envT = (do
      standAt p3c
      let v ← eval (.Dict kv3.1 kv3.2 p3b) envT
      standAt p3a
      bindName envT nm3 v
      pure .next) := by
    rw [st3_shape]
    exact exec_Assign_Name envT nm3 p3a _ p3c swaps3
  have g2 : Go w (eval (.Dict kv3.1 kv3.2 p3b) envT) (st (preL w.params) 256 os) p3c (1 + 12515) (.ref 33) (st (preL w.params ++ dkL) 2206 os) p' := by
    refine Go.of_eq (arm_eval_Dict ..) ?_
    refine Go.bind (c₁ := 1) (c₂ := 12515) Go.at ?_
    rw [items_of _ _ _ b3_pairs]
    exact g
  show SR w 12525 _ ⟨(exec (stAt 3) envT).wrap doneF deadEnd id id, cT, p_st2, BT1⟩ = _
  rw [e1]
  have g3 : Go w (do
      standAt p3c
      eval (.Dict kv3.1 kv3.2 p3b) envT : Sem Value) (st (preL w.params) 256 os) p_st2 (1 + (1 + 12515)) (.ref 33) (st (preL w.params ++ dkL) 2206 os) p' := Go.bind (c₁ := 1) Go.at g2
  have r := segRun_of (run_3rest w os p')
  rw [st_mid] at r
  have k := g3 (fun v => (do standAt p3a; bindName envT nm3 v; pure .next : Sem Flow).wrap doneF deadEnd id id) deadEnd id id 8 _ r
  have e2 : (do
      standAt p3c
      let v ← eval (.Dict kv3.1 kv3.2 p3b) envT
      standAt p3a
      bindName envT nm3 v
      pure .next : Sem Flow).wrap doneF deadEnd id id = (do
      standAt p3c
      eval (.Dict kv3.1 kv3.2 p3b) envT : Sem Value).wrap (fun v => (do standAt p3a; bindName envT nm3 v; pure .next : Sem Flow).wrap doneF deadEnd id id) deadEnd id id := by
    rw [Sem.bind_eq_wrap', Sem.bind_eq_wrap', Sem.wrap_wrap, Sem.wrap_wrap]
    rfl
  rw [e2]
  exact k
end Mine
end
section
open PySem PySem.W PyProof.Rows
set_option linter.unusedVariables false
set_option maxRecDepth 100000
set_option maxHeartbeats 0
namespace Mine
theorem cells : pw.main.body = [stAt 0, stAt 1, stAt 2, stAt 3, stAt 4, stAt 5, stAt 6, stAt 7, stAt 8, stAt 9, stAt 10, stAt 11, stAt 12, stAt 13, stAt 14, stAt 15] := by kernel_rfl
noncomputable def S0 (w : World) (os : OsState) : Shared := ⟨boot_heap w.params, Array.mk [], boot_drawn, boot_toks, os⟩
theorem run_pre (w : World) (os : OsState) : topGo treeTable pw w 11 ann 12 (S0 w os) (topStub pw) = some ((s_pre w.params os).abs, ⟨denote treeTable cT, cT, pos0, [topFrame pos0]⟩) := by
  rw [PySem.W.Fast.te15667345088766844465, PySem.W.Fast.te11892475500146522536]
  kernel_rfl
theorem run_block (w : World) (os : OsState) : segRunT treeTable pw w 11 ann 1 1 (s_pre w.params os) (blockOf pw.main.body envT cT p_pre [topFrame pos0]) = some (.next, s_block w.params os, cT, p_block) := by
  rw [PySem.W.Fast.te10110043849684766642]
  kernel_rfl
theorem run_fin (w : World) (os : OsState) : topRun treeTable pw w 11 ann 2 (s_st15 w.params os).abs ⟨doneF .next, cT, p_st15, [topFrame pos0]⟩ = some (s_fin w.params os).abs := by
  rw [PySem.W.Fast.te14082659384304107361]
  kernel_rfl
theorem chain_16 (w : World) (os : OsState) : topRun treeTable pw w 11 ann 2 (s_st15 w.params os).abs (restOf [] envT cT p_st15 [topFrame pos0]) = some (s_fin w.params os).abs := piece_nil (run_fin w os)
theorem chain_15 (w : World) (os : OsState) : topRun treeTable pw w 11 ann (27 + 2) (s_st14 w.params os).abs (restOf [stAt 15] envT cT p_st14 [topFrame pos0]) = some (s_fin w.params os).abs :=
  @piece_cons treeTable pw w 11 ann envT pos0 27 2 (s_st14 w.params os).abs (s_st15 w.params os).abs (s_fin w.params os).abs (stAt 15) [] cT p_st14 p_st15 (segRun_of (run_15 w os)) (chain_16 w os)
theorem chain_14 (w : World) (os : OsState) : topRun treeTable pw w 11 ann (27 + 29) (s_st13 w.params os).abs (restOf [stAt 14, stAt 15] envT cT p_st13 [topFrame pos0]) = some (s_fin w.params os).abs :=
  @piece_cons treeTable pw w 11 ann envT pos0 27 29 (s_st13 w.params os).abs (s_st14 w.params os).abs (s_fin w.params os).abs (stAt 14) [stAt 15] cT p_st13 p_st14 (segRun_of (run_14 w os)) (chain_15 w os)
theorem chain_13 (w : World) (os : OsState) : topRun treeTable pw w 11 ann (32 + 56) (s_st12 w.params os).abs (restOf [stAt 13, stAt 14, stAt 15] envT cT p_st12 [topFrame pos0]) = some (s_fin w.params os).abs :=
  @piece_cons treeTable pw w 11 ann envT pos0 32 56 (s_st12 w.params os).abs (s_st13 w.params os).abs (s_fin w.params os).abs (stAt 13) [stAt 14, stAt 15] cT p_st12 p_st13 (segRun_of (run_13 w os)) (chain_14 w os)
theorem chain_12 (w : World) (os : OsState) : topRun treeTable pw w 11 ann (27 + 88) (s_st11 w.params os).abs (restOf [stAt 12, stAt 13, stAt 14, stAt 15] envT cT p_st11 [topFrame pos0]) = some (s_fin w.params os).abs :=
  @piece_cons treeTable pw w 11 ann envT pos0 27 88 (s_st11 w.params os).abs (s_st12 w.params os).abs (s_fin w.params os).abs (stAt 12) [stAt 13, stAt 14, stAt 15] cT p_st11 p_st12 (segRun_of (run_12 w os)) (chain_13 w os)
theorem chain_11 (w : World) (os : OsState) : topRun treeTable pw w 11 ann (27 + 115) (s_st10 w.params os).abs (restOf [stAt 11, stAt 12, stAt 13, stAt 14, stAt 15] envT cT p_st10 [topFrame pos0]) = some (s_fin w.params os).abs :=
  @piece_cons treeTable pw w 11 ann envT pos0 27 115 (s_st10 w.params os).abs (s_st11 w.params os).abs (s_fin w.params os).abs (stAt 11) [stAt 12, stAt 13, stAt 14, stAt 15] cT p_st10 p_st11 (segRun_of (run_11 w os)) (chain_12 w os)
theorem chain_10 (w : World) (os : OsState) : topRun treeTable pw w 11 ann (10 + 142) (s_st9 w.params os).abs (restOf [stAt 10, stAt 11, stAt 12, stAt 13, stAt 14, stAt 15] envT cT p_st9 [topFrame pos0]) = some (s_fin w.params os).abs :=
  @piece_cons treeTable pw w 11 ann envT pos0 10 142 (s_st9 w.params os).abs (s_st10 w.params os).abs (s_fin w.params os).abs (stAt 10) [stAt 11, stAt 12, stAt 13, stAt 14, stAt 15] cT p_st9 p_st10 (segRun_of (run_10 w os)) (chain_11 w os)
theorem chain_9 (w : World) (os : OsState) : topRun treeTable pw w 11 ann (33 + 152) (s_st8 w.params os).abs (restOf [stAt 9, stAt 10, stAt 11, stAt 12, stAt 13, stAt 14, stAt 15] envT cT p_st8 [topFrame pos0]) = some (s_fin w.params os).abs :=
  @piece_cons treeTable pw w 11 ann envT pos0 33 152 (s_st8 w.params os).abs (s_st9 w.params os).abs (s_fin w.params os).abs (stAt 9) [stAt 10, stAt 11, stAt 12, stAt 13, stAt 14, stAt 15] cT p_st8 p_st9 (segRun_of (run_9 w os)) (chain_10 w os)
theorem chain_8 (w : World) (os : OsState) : topRun treeTable pw w 11 ann (10 + 185) (s_st7 w.params os).abs (restOf [stAt 8, stAt 9, stAt 10, stAt 11, stAt 12, stAt 13, stAt 14, stAt 15] envT cT p_st7 [topFrame pos0]) = some (s_fin w.params os).abs :=
  @piece_cons treeTable pw w 11 ann envT pos0 10 185 (s_st7 w.params os).abs (s_st8 w.params os).abs (s_fin w.params os).abs (stAt 8) [stAt 9, stAt 10, stAt 11, stAt 12, stAt 13, stAt 14, stAt 15] cT p_st7 p_st8 (segRun_of (run_8 w os)) (chain_9 w os)
theorem chain_7 (w : World) (os : OsState) : topRun treeTable pw w 11 ann (35 + 195) (s_st6 w.params os).abs (restOf [stAt 7, stAt 8, stAt 9, stAt 10, stAt 11, stAt 12, stAt 13, stAt 14, stAt 15] envT cT p_st6 [topFrame pos0]) = some (s_fin w.params os).abs :=
  @piece_cons treeTable pw w 11 ann envT pos0 35 195 (s_st6 w.params os).abs (s_st7 w.params os).abs (s_fin w.params os).abs (stAt 7) [stAt 8, stAt 9, stAt 10, stAt 11, stAt 12, stAt 13, stAt 14, stAt 15] cT p_st6 p_st7 (segRun_of (run_7 w os)) (chain_8 w os)
theorem chain_6 (w : World) (os : OsState) : topRun treeTable pw w 11 ann (10 + 230) (s_st5 w.params os).abs (restOf [stAt 6, stAt 7, stAt 8, stAt 9, stAt 10, stAt 11, stAt 12, stAt 13, stAt 14, stAt 15] envT cT p_st5 [topFrame pos0]) = some (s_fin w.params os).abs :=
  @piece_cons treeTable pw w 11 ann envT pos0 10 230 (s_st5 w.params os).abs (s_st6 w.params os).abs (s_fin w.params os).abs (stAt 6) [stAt 7, stAt 8, stAt 9, stAt 10, stAt 11, stAt 12, stAt 13, stAt 14, stAt 15] cT p_st5 p_st6 (segRun_of (run_6 w os)) (chain_7 w os)
theorem chain_5 (w : World) (os : OsState) : topRun treeTable pw w 11 ann (10 + 240) (s_st4 w.params os).abs (restOf [stAt 5, stAt 6, stAt 7, stAt 8, stAt 9, stAt 10, stAt 11, stAt 12, stAt 13, stAt 14, stAt 15] envT cT p_st4 [topFrame pos0]) = some (s_fin w.params os).abs :=
  @piece_cons treeTable pw w 11 ann envT pos0 10 240 (s_st4 w.params os).abs (s_st5 w.params os).abs (s_fin w.params os).abs (stAt 5) [stAt 6, stAt 7, stAt 8, stAt 9, stAt 10, stAt 11, stAt 12, stAt 13, stAt 14, stAt 15] cT p_st4 p_st5 (segRun_of (run_5 w os)) (chain_6 w os)
theorem chain_4 (w : World) (os : OsState) : topRun treeTable pw w 11 ann (31 + 250) (s_st3 w.params os).abs (restOf [stAt 4, stAt 5, stAt 6, stAt 7, stAt 8, stAt 9, stAt 10, stAt 11, stAt 12, stAt 13, stAt 14, stAt 15] envT cT p_st3 [topFrame pos0]) = some (s_fin w.params os).abs :=
  @piece_cons treeTable pw w 11 ann envT pos0 31 250 (s_st3 w.params os).abs (s_st4 w.params os).abs (s_fin w.params os).abs (stAt 4) [stAt 5, stAt 6, stAt 7, stAt 8, stAt 9, stAt 10, stAt 11, stAt 12, stAt 13, stAt 14, stAt 15] cT p_st3 p_st4 (segRun_of (run_4 w os)) (chain_5 w os)
theorem chain_3 (w : World) (os : OsState) : topRun treeTable pw w 11 ann (12525 + 281) (s_st2 w.params os).abs (restOf [stAt 3, stAt 4, stAt 5, stAt 6, stAt 7, stAt 8, stAt 9, stAt 10, stAt 11, stAt 12, stAt 13, stAt 14, stAt 15] envT cT p_st2 [topFrame pos0]) = some (s_fin w.params os).abs :=
  @piece_cons treeTable pw w 11 ann envT pos0 12525 281 (s_st2 w.params os).abs (s_st3 w.params os).abs (s_fin w.params os).abs (stAt 3) [stAt 4, stAt 5, stAt 6, stAt 7, stAt 8, stAt 9, stAt 10, stAt 11, stAt 12, stAt 13, stAt 14, stAt 15] cT p_st2 p_st3 (run_3 w os) (chain_4 w os)
theorem chain_2 (w : World) (os : OsState) : topRun treeTable pw w 11 ann (30 + 12806) (s_st1 w.params os).abs (restOf [stAt 2, stAt 3, stAt 4, stAt 5, stAt 6, stAt 7, stAt 8, stAt 9, stAt 10, stAt 11, stAt 12, stAt 13, stAt 14, stAt 15] envT cT p_st1 [topFrame pos0]) = some (s_fin w.params os).abs :=
  @piece_cons treeTable pw w 11 ann envT pos0 30 12806 (s_st1 w.params os).abs (s_st2 w.params os).abs (s_fin w.params os).abs (stAt 2) [stAt 3, stAt 4, stAt 5, stAt 6, stAt 7, stAt 8, stAt 9, stAt 10, stAt 11, stAt 12, stAt 13, stAt 14, stAt 15] cT p_st1 p_st2 (segRun_of (run_2 w os)) (chain_3 w os)
theorem chain_1 (w : World) (os : OsState) : topRun treeTable pw w 11 ann (999 + 12836) (s_st0 w.params os).abs (restOf [stAt 1, stAt 2, stAt 3, stAt 4, stAt 5, stAt 6, stAt 7, stAt 8, stAt 9, stAt 10, stAt 11, stAt 12, stAt 13, stAt 14, stAt 15] envT cT p_st0 [topFrame pos0]) = some (s_fin w.params os).abs :=
  @piece_cons treeTable pw w 11 ann envT pos0 999 12836 (s_st0 w.params os).abs (s_st1 w.params os).abs (s_fin w.params os).abs (stAt 1) [stAt 2, stAt 3, stAt 4, stAt 5, stAt 6, stAt 7, stAt 8, stAt 9, stAt 10, stAt 11, stAt 12, stAt 13, stAt 14, stAt 15] cT p_st0 p_st1 (segRun_of (run_1 w os)) (chain_2 w os)
theorem chain_0 (w : World) (os : OsState) : topRun treeTable pw w 11 ann (10 + 13835) (s_block w.params os).abs (restOf [stAt 0, stAt 1, stAt 2, stAt 3, stAt 4, stAt 5, stAt 6, stAt 7, stAt 8, stAt 9, stAt 10, stAt 11, stAt 12, stAt 13, stAt 14, stAt 15] envT cT p_block [topFrame pos0]) = some (s_fin w.params os).abs :=
  @piece_cons treeTable pw w 11 ann envT pos0 10 13835 (s_block w.params os).abs (s_st0 w.params os).abs (s_fin w.params os).abs (stAt 0) [stAt 1, stAt 2, stAt 3, stAt 4, stAt 5, stAt 6, stAt 7, stAt 8, stAt 9, stAt 10, stAt 11, stAt 12, stAt 13, stAt 14, stAt 15] cT p_block p_st0 (segRun_of (run_0 w os)) (chain_1 w os)
theorem chain_b (w : World) (os : OsState) : topRun treeTable pw w 11 ann (1 + 13845) (s_pre w.params os).abs ⟨denote treeTable cT, cT, p_pre, [topFrame pos0]⟩ = some (s_fin w.params os).abs := by
  have k := chain_0 w os
  rw [← cells] at k
  exact @piece_block treeTable pw w 11 ann envT pos0 1 13845 (s_pre w.params os).abs (s_block w.params os).abs (s_fin w.params os).abs pw.main.body cT p_pre p_block (segRun_of (run_block w os)) k
theorem run_all (w : World) (os : OsState) : topRun treeTable pw w 11 ann (12 + (1 + 13845)) (S0 w os) (topStub pw) = some (s_fin w.params os).abs :=
  go_top (run_pre w os) (chain_b w os)
end Mine
end
section
open PySem PySem.W PyProof.Rows
set_option linter.unusedVariables false
set_option maxRecDepth 100000
set_option maxHeartbeats 0
namespace Mine
noncomputable def qv : Program := { pw with main := { pw.main with body := [stAt 1, stAt 2, stAt 3, stAt 4, stAt 6, stAt 7, stAt 9, stAt 11, stAt 12, stAt 13, stAt 14, stAt 15] } }
def looseL : List Str := [Str.ofString "b1_set", Str.ofString "b3_exceptions"]
noncomputable def KK (P : Params) : Frag := (nat_lit 2, boot_o_2 P) :: (nat_lit 3, o3_st15 P) :: (nat_lit 6, boot_o_6 P) :: (nat_lit 22, o22_st1 P) :: (nat_lit 26, o26_st2 P) :: (nat_lit 28, o28_st2 P) :: (nat_lit 29, o29_st2 P) :: (nat_lit 31, o31_st2 P) :: (nat_lit 32, o32_st2 P) :: (nat_lit 33, dk33 P) :: (nat_lit 72, o72_st4 P) :: (nat_lit 74, o74_st4 P) :: (nat_lit 75, o75_st4 P) :: (nat_lit 77, o77_st4 P) :: (nat_lit 78, o78_st4 P) :: (nat_lit 79, o79_st7 P) :: (nat_lit 81, o81_st7 P) :: (nat_lit 82, o82_st7 P) :: (nat_lit 84, o84_st7 P) :: (nat_lit 85, o85_st7 P) :: (nat_lit 86, o86_st9 P) :: (nat_lit 88, o88_st9 P) :: (nat_lit 89, o89_st9 P) :: (nat_lit 91, o91_st9 P) :: (nat_lit 92, o92_st9 P) :: (nat_lit 93, o93_st11 P) :: (nat_lit 96, o96_st11 P) :: (nat_lit 97, o97_st11 P) :: (nat_lit 98, o98_st12 P) :: (nat_lit 101, o101_st12 P) :: (nat_lit 102, o102_st12 P) :: (nat_lit 103, o103_st13 P) :: (nat_lit 105, o105_st13 P) :: (nat_lit 106, o106_st13 P) :: (nat_lit 108, o108_st13 P) :: (nat_lit 109, o109_st13 P) :: (nat_lit 110, o110_st14 P) :: (nat_lit 113, o113_st14 P) :: (nat_lit 114, o114_st14 P) :: (nat_lit 115, o115_st15 P) :: (nat_lit 118, o118_st15 P) :: (nat_lit 119, o119_st15 P) :: []
def asL : List Addr := [2, 3, 6, 22, 26, 28, 29, 31, 32, 33, 72, 74, 75, 77, 78, 79, 81, 82, 84, 85, 86, 88, 89, 91, 92, 93, 96, 97, 98, 101, 102, 103, 105, 106, 108, 109, 110, 113, 114, 115, 118, 119]
theorem asL_of (P : Params) : asL = (KK P).map (·.1) := by kernel_rfl
noncomputable def HK : Hook := kHook KK asL asL_of
noncomputable def Xt (s : Shared) : Bool := xlAt qv [] s && recOk (RowW.records PySem.Challenge.rw_uy0010_01.row.toRowW) s
noncomputable def H1 (P : Params) : Heap := absHeap (tr_fin P) 120 life0
theorem open_ (w : World) : (fencedOpening treeTable pw w 30000).map (fun s => (s.heap, s.gens, s.drawn, s.toks)) = some (boot_heap w.params, Array.mk [], boot_drawn, boot_toks) :=
  boot_open (p := pw) (N := 30000) (by kernel_rfl) rfl (fun s => by kernel_rfl) w
theorem size_ (w : World) : ((boot_heap w.params).isNs mainGlobals && (Array.mk [] : Array GenState).size == 0, (boot_heap w.params).objs.size, (boot_heap w.params).nsMap mainGlobals "__annotations__") = (true, 11, ann) := by
  kernel_rfl
theorem look_1 (w : World) (os : OsState) : (staticsOk (importedModules pw.main.body) (boot_heap w.params) (H1 w.params) && namesBound pw (H1 w.params) && gensDone ⟨H1 w.params, #[], boot_drawn, 2278, os⟩ && laidKept (boot_heap w.params) (H1 w.params)) = true := by
  kernel_rfl
theorem look_3 (w : World) (os : OsState) : HK.obs ⟨H1 w.params, #[], boot_drawn, 2278, os⟩ = HK.val w := by
  kernel_rfl
end Mine
end
section
open PySem PySem.W PyProof.Rows
set_option linter.unusedVariables false
set_option maxRecDepth 100000
set_option maxHeartbeats 0
namespace Mine
/-- keys that rise lie apart: one comparison a key -/
def upKeys : List (PyData × PyData) → Bool
  | [] => true
  | [(.int _, _)] => true
  | (.int a, _) :: (.int b, v) :: r => decide (a < b) && upKeys ((.int b, v) :: r)
  | _ => false
theorem up_below : ∀ (D : List (PyData × PyData)) (a : Int) (v : PyData), upKeys ((.int a, v) :: D) = true → ∀ k, k ≤ a → hasIntKey k D = false
  | [], _, _, _, _, _ => rfl
  | (.int b, u) :: r, a, v, h, k, hk => by
    obtain ⟨h1, h2⟩ := Bool.and_eq_true_iff.mp h
    have h1 := of_decide_eq_true h1
    show ((b == k) || hasIntKey k r) = false
    rw [up_below r b u h2 k (by omega), beq_eq_false_iff_ne.mpr (by omega)]
    rfl
  | (.str _, _) :: _, _, _, h, _, _ => by cases h
  | (.none, _) :: _, _, _, h, _, _ => by cases h
  | (.bool _, _) :: _, _, _, h, _, _ => by cases h
  | (.list _, _) :: _, _, _, h, _, _ => by cases h
theorem up_apart : ∀ D : List (PyData × PyData), upKeys D = true → keysApartInt D = true
  | [], _ => rfl
  | [(.int _, _)], _ => rfl
  | (.int a, v) :: (.int b, u) :: r, h => by
    obtain ⟨h1, h2⟩ := Bool.and_eq_true_iff.mp h
    show (!hasIntKey a ((.int b, u) :: r) && keysApartInt ((.int b, u) :: r)) = true
    rw [up_below _ a v h a (Int.le_refl _), up_apart _ h2]
    rfl
def lightInt (h : Heap) (name : Str) (D : List (PyData × PyData)) : Bool :=
  match h.nsMap mainGlobals name with
  | some (.ref a) => (match h.get? a with
    | some o => (match o.cls, o.dict, o.data with
      | .type n, none, .dict es _ => (n == "dict") && (o.slots.size == 0) && entriesAreInt es.toList D && (a != sysModules)
      | _, _, _ => false)
    | none => false)
  | _ => false
theorem light_tab {h : Heap} {name : Str} {D : List (PyData × PyData)} (h1 : lightInt h name D = true) (h2 : upKeys D = true) : h.tabIntOk name D = true := by
  have hk := up_apart D h2
  unfold lightInt at h1
  unfold Heap.tabIntOk
  split at h1
  · split at h1
    · split at h1
      · simp only [Bool.and_eq_true] at h1 ⊢
        simp_all
      · cases h1
    · cases h1
  · cases h1
theorem light_tables {p : Program} {h : Heap} (h1 : ((valNames p).all fun x => (match tupIntsOf p x with | some ns => h.tupIntsOk x ns | none => true) && (match tupStrsOf p x with | some ss => h.tupStrsOk x ss | none => true) &&
    (match tabIntOf p x with | some D => lightInt h x D && upKeys D | none => true)) = true) : tablesOk p h = true := by
  unfold tablesOk
  rw [List.all_eq_true] at h1 ⊢
  intro x hx
  have := h1 x hx
  simp only [Bool.and_eq_true] at this ⊢
  refine ⟨this.1, ?_⟩
  have h2 := this.2
  cases hq : tabIntOf p x with
  | none => rfl
  | some D =>
    rw [hq] at h2
    have h3 := Bool.and_eq_true_iff.mp h2
    exact light_tab h3.1 h3.2
noncomputable abbrev sW (w : World) (os : OsState) : Shared := ⟨H1 w.params, #[], boot_drawn, 2278, os⟩
theorem look_a (w : World) (os : OsState) : seen ((recsOf qv).map (·.name)) (ownsOf qv) [] { sW w os with gens := #[] } = expectedOf qv := by kernel_rfl
theorem look_b (w : World) (os : OsState) : (sW w os).heap.bltView = bltViewBooted := by kernel_rfl
theorem look_c (w : World) (os : OsState) : ((sW w os).heap.keysOk (looseW qv looseL) ((recsOf qv).map (·.name)) ((litsOf qv).map (·.1)) ((clssOf qv (looseW qv looseL)).map (·.name)) && (sW w os).heap.accountedOkI (importedModules pw.main.body) && (sW w os).heap.isNs mainGlobals && (sW w os).heap.isNs builtinsNs) = true := by kernel_rfl
theorem look_d (w : World) (os : OsState) : tablesOk qv (sW w os).heap = true := light_tables (by kernel_rfl)
theorem look_e (w : World) (os : OsState) : Xt (sW w os) = true := by kernel_rfl
theorem look_f (w : World) (os : OsState) : tabsOk qv (sW w os) = true := by kernel_rfl
theorem look_g (w : World) (os : OsState) : pinSeenD qv (drecsOf qv) (sW w os) = pinGoodD (drecsOf qv) := by kernel_rfl
theorem look_h (w : World) (os : OsState) : plainSeenE qv (looseW qv looseL) (sW w os) = plainGoodE qv (looseW qv looseL) := by kernel_rfl
theorem look_i (w : World) (os : OsState) : plainSeenD qv looseL (sW w os) = plainGoodD qv looseL := by kernel_rfl
theorem look_j (w : World) (os : OsState) : wideSeen qv (sW w os) = wideGood qv := by kernel_rfl
theorem look_k (w : World) (os : OsState) : clsSeenW qv looseL (sW w os) = clsGoodW qv looseL := by kernel_rfl
theorem look_2 (w : World) (os : OsState) : openSeen qv looseL (importedModules pw.main.body) Xt true ⟨H1 w.params, #[], boot_drawn, 2278, os⟩ = openGood qv looseL := by
  unfold openSeen openGood
  rw [look_a w os, look_b w os, look_c w os, look_d w os, look_e w os, look_f w os, look_g w os, look_h w os, look_i w os, look_j w os, look_k w os]
  rfl
end Mine
end
section
open PySem PySem.W PyProof.Rows
set_option linter.unusedVariables false
set_option maxRecDepth 100000
set_option maxHeartbeats 0
namespace Mine
theorem left : LeftO pw qv looseL Xt HK.obs HK.val 30000 :=
  LeftO.of_pieces (H₀ := boot_heap) (H₁ := H1) (gs₀ := Array.mk []) (gs₁ := #[]) (d₀ := boot_drawn) (d₁ := boot_drawn) (k₀ := boot_toks) (k₁ := 2278) (m₀ := 11) (ann := ann) (M := 13858)
    open_ size_ (fun w os => run_all w os) (by decide +kernel)
    (fun w => funext fun os => by rw [look_1, look_2, look_3])
abbrev rw0 : OpenLaw := PySem.Challenge.rw_uy0010_01
noncomputable def posL : Pos := match stAt 15 with | .FunctionDef _ _ _ _ _ _ _ _ _ p => p | _ => default
noncomputable def dLaw : DefRec := ⟨Str.ofString "law", fP 15, fB 15, fS 15, posL⟩
theorem law_def : defOf qv (Str.ofString "law") = some (dLaw, []) := by kernel_rfl
theorem law_the : pw.theDef (Str.ofString "law") = some (dLaw.params, dLaw.body, dLaw.scope) := by kernel_rfl
theorem law_kw : kwWritten? dLaw.params.kwonlyargs dLaw.params.kw_defaults = some [] := by kernel_rfl
theorem law_chains : (chainsOk qv && opensWell rw0.row.prog && (frees rw0.row.toRowW && rw0.row.within.isEmpty)) = true := by kernel_rfl
theorem law_wit : rw0.row.toRowW.promised := by
  w_witness2
theorem said_row : PySem.Challenge.rw_uy0010_01.row.wellSaid = true := by kernel_rfl
theorem said_ : PySem.Challenge.rw_uy0010_01.wellSaid = true := by
  unfold OpenLaw.wellSaid
  iterate 18 refine look_both ?_ (by kernel_rfl)
  exact said_row
/-- what is left: the walk -/
theorem of_walk (h : WalkO qv looseL (XL qv []) HK.says rw0.row.toRowW dLaw [] (fun f vs => PySem.call f vs)) : rw0.Holds := by
  refine holds_law said_ fun said => ?_
  exact W.holds_open (r := rw0.row) (q := qv) (loose := looseL) (Xt := Xt) (XP := XL qv []) (Yf := HK.obs) (Ya := HK.val) (YP := HK.says) (d := dLaw) (kwd := []) (N := 30000) left HK.of HK.keeps
    (fun s e => xl_of s (Bool.and_eq_true_iff.mp e).1) XL.keeps law_def law_the law_kw (fun s e => recFacts_of (Bool.and_eq_true_iff.mp e).2) (by rfl) (by assumption) law_chains ⟨rfl, rfl, rfl, rfl, rfl, by decide +kernel⟩ law_wit h
end Mine
end
section
set_option linter.unusedVariables false
namespace Mine
/-- words over two letters, read as texts -/
def cat (x y : List Nat) : List Bool → List Nat
  | [] => []
  | true :: w => x ++ cat x y w
  | false :: w => y ++ cat x y w
theorem cat_append (x y : List Nat) : ∀ u v : List Bool, cat x y (u ++ v) = cat x y u ++ cat x y v
  | [], v => rfl
  | true :: u, v => by show x ++ cat x y (u ++ v) = (x ++ cat x y u) ++ cat x y v; rw [cat_append x y u v, List.append_assoc]
  | false :: u, v => by show y ++ cat x y (u ++ v) = (y ++ cat x y u) ++ cat x y v; rw [cat_append x y u v, List.append_assoc]
/-- one is the other's front -/
def Fits (a b : List Nat) : Prop := a <+: b ∨ b <+: a
theorem Fits.app {a b : List Nat} (c : List Nat) (h : Fits a b) : Fits (c ++ a) (c ++ b) :=
  h.elim (fun h => .inl ((List.prefix_append_right_inj c).mpr h)) (fun h => .inr ((List.prefix_append_right_inj c).mpr h))
/-- words of x and x ++ y' are words of x and y' -/
theorem cat_sub (x y : List Nat) : ∀ w : List Bool, ∃ u, cat x (x ++ y) w = cat x y u ∧ ∀ v, cat x y (u ++ v) = cat x (x ++ y) w ++ cat x y v
  | [] => ⟨[], rfl, fun v => rfl⟩
  | true :: w => by
    obtain ⟨u, e, f⟩ := cat_sub x y w
    refine ⟨true :: u, by show x ++ _ = x ++ _; rw [e], fun v => ?_⟩
    show x ++ cat x y (u ++ v) = (x ++ cat x (x ++ y) w) ++ _
    rw [f, List.append_assoc]
  | false :: w => by
    obtain ⟨u, e, f⟩ := cat_sub x y w
    refine ⟨true :: false :: u, by show (x ++ y) ++ _ = x ++ (y ++ _); rw [e, List.append_assoc], fun v => ?_⟩
    show x ++ (y ++ cat x y (u ++ v)) = ((x ++ y) ++ cat x (x ++ y) w) ++ _
    rw [f]; simp
/-- either word is a front of the other, or they part -/
theorem part : ∀ x y : List Nat, (∃ t, y = x ++ t) ∨ (∃ t, x = y ++ t) ∨ ∃ z a b x' y', a ≠ b ∧ x = z ++ a :: x' ∧ y = z ++ b :: y'
  | [], y => .inl ⟨y, rfl⟩
  | x, [] => .inr (.inl ⟨x, rfl⟩)
  | a :: x, b :: y => by
    by_cases h : a = b
    · subst h
      rcases part x y with ⟨t, e⟩ | ⟨t, e⟩ | ⟨z, c, d, x', y', hn, e1, e2⟩
      · exact .inl ⟨t, by rw [e]; rfl⟩
      · exact .inr (.inl ⟨t, by rw [e]; rfl⟩)
      · exact .inr (.inr ⟨a :: z, c, d, x', y', hn, by rw [e1]; rfl, by rw [e2]; rfl⟩)
    · exact .inr (.inr ⟨[], a, b, x, y, h, rfl, rfl⟩)
def Parts (x y z : List Nat) (a b : Nat) : Prop :=
  a ≠ b ∧ z.length < x.length + y.length ∧ ∀ w, Fits (x ++ cat x y w) (z ++ [a]) ∧ Fits (y ++ cat x y w) (z ++ [b])
theorem cat_swap (x y : List Nat) : ∀ w : List Bool, cat x y w = cat y x (w.map not)
  | [] => rfl
  | true :: w => by show x ++ _ = x ++ _; rw [cat_swap x y w]
  | false :: w => by show y ++ _ = y ++ _; rw [cat_swap x y w]
theorem Parts.swap {x y z : List Nat} {a b : Nat} (h : Parts x y z a b) : Parts y x z b a := by
  refine ⟨Ne.symm h.1, by have := h.2.1; omega, fun w => ?_⟩
  have := h.2.2 (w.map not)
  rw [cat_swap y x w]
  exact ⟨this.2, this.1⟩
theorem part_step {x t z : List Nat} {a b : Nat} (h : Parts x t z a b) : Parts x (x ++ t) (x ++ z) a b := by
  refine ⟨h.1, by have := h.2.1; simp only [List.length_append]; omega, fun w => ?_⟩
  obtain ⟨u, e, f⟩ := cat_sub x t w
  constructor
  · -- x ++ cat x (x ++ t) w
    rw [List.append_assoc]
    refine Fits.app x ?_
    cases w with
    | nil => exact .inl (List.nil_prefix)
    | cons c w =>
      obtain ⟨u', e', _⟩ := cat_sub x t w
      cases c with
      | true =>
        show Fits (x ++ cat x (x ++ t) w) _
        rw [e']
        exact (h.2.2 u').1
      | false =>
        show Fits ((x ++ t) ++ cat x (x ++ t) w) _
        rw [e', List.append_assoc]
        exact (h.2.2 (false :: u')).1
  · rw [e, List.append_assoc, List.append_assoc]
    exact Fits.app x (h.2.2 u).2
theorem parts_ex : ∀ (n : Nat) (x y : List Nat), x.length + y.length ≤ n → x ≠ [] → y ≠ [] → x ++ y ≠ y ++ x → ∃ z a b, Parts x y z a b := by
  intro n
  induction n with
  | zero =>
    intro x y h hx _ _
    exact absurd (List.eq_nil_of_length_eq_zero (by omega)) hx
  | succ n ih =>
    intro x y h hx hy hne
    have lx : 0 < x.length := List.length_pos_iff.mpr hx
    have ly : 0 < y.length := List.length_pos_iff.mpr hy
    rcases part x y with ⟨t, rfl⟩ | ⟨t, rfl⟩ | ⟨z, a, b, x', y', hab, e1, e2⟩
    · have ht : t ≠ [] := by rintro rfl; simp at hne
      have htn : x ++ t ≠ t ++ x := fun e => hne (by rw [List.append_assoc, e])
      obtain ⟨z, a, b, p⟩ := ih x t (by simp only [List.length_append] at h; omega) hx ht htn
      exact ⟨x ++ z, a, b, part_step p⟩
    · have ht : t ≠ [] := by rintro rfl; simp at hne
      have htn : y ++ t ≠ t ++ y := fun e => hne (by rw [List.append_assoc, e])
      obtain ⟨z, a, b, p⟩ := ih y t (by simp only [List.length_append] at h; omega) hy ht htn
      exact ⟨y ++ z, b, a, (part_step p).swap⟩
    · refine ⟨z, a, b, hab, by rw [e1]; simp only [List.length_append, List.length_cons]; omega, fun w => ?_⟩
      constructor
      · refine .inr ⟨x' ++ cat x y w, ?_⟩
        rw [e1]; simp
      · refine .inr ⟨y' ++ cat x y w, ?_⟩
        rw [e2]; simp
/-- words of two texts that commute commute -/
theorem cat_comm1 {x y : List Nat} (h : x ++ y = y ++ x) : ∀ w, cat x y w ++ x = x ++ cat x y w
  | [] => by simp [cat]
  | true :: w => by show (x ++ cat x y w) ++ x = x ++ (x ++ cat x y w); rw [List.append_assoc, cat_comm1 h w]
  | false :: w => by
    show (y ++ cat x y w) ++ x = x ++ (y ++ cat x y w)
    rw [List.append_assoc, cat_comm1 h w, ← List.append_assoc, ← List.append_assoc, h]
theorem cat_comm2 {x y : List Nat} (h : x ++ y = y ++ x) (w : List Bool) : cat x y w ++ y = y ++ cat x y w := by
  rw [cat_swap x y w]; exact cat_comm1 h.symm _
theorem cat_comm {x y : List Nat} (h : x ++ y = y ++ x) : ∀ u v, cat x y u ++ cat x y v = cat x y v ++ cat x y u
  | [], v => by simp [cat]
  | true :: u, v => by
    show (x ++ cat x y u) ++ cat x y v = cat x y v ++ (x ++ cat x y u)
    rw [List.append_assoc, cat_comm h u v, ← List.append_assoc, ← List.append_assoc, cat_comm1 h v]
  | false :: u, v => by
    show (y ++ cat x y u) ++ cat x y v = cat x y v ++ (y ++ cat x y u)
    rw [List.append_assoc, cat_comm h u v, ← List.append_assoc, ← List.append_assoc, cat_comm2 h v]
theorem fits_of_comm {a b : List Nat} (h : a ++ b = b ++ a) : Fits a b := by
  have h1 : a <+: b ++ a := h ▸ List.prefix_append a b
  exact List.prefix_or_prefix_of_prefix h1 (List.prefix_append b a)
end Mine
end
section
set_option linter.unusedVariables false
namespace Mine
/-- the first n letters of the word said over and over -/
def cyc : Nat → List Nat → List Nat
  | 0, _ => []
  | _ + 1, [] => []
  | n + 1, d :: D => d :: cyc n (D ++ [d])
def rep (m : Nat) (D : List Nat) : List Nat := (List.replicate m D).flatten
theorem cyc_len : ∀ (n : Nat) (D : List Nat), D ≠ [] → (cyc n D).length = n
  | 0, _, _ => by simp [cyc]
  | n + 1, [], h => absurd rfl h
  | n + 1, d :: D, _ => by rw [cyc, List.length_cons, cyc_len n (D ++ [d]) (by simp)]
theorem cyc_mono : ∀ (a b : Nat) (D : List Nat), cyc a D <+: cyc (a + b) D
  | 0, _, _ => by simp [cyc]
  | a + 1, b, [] => by rw [show a + 1 + b = a + b + 1 by omega]; simp [cyc]
  | a + 1, b, d :: D => by
    rw [show a + 1 + b = a + b + 1 by omega, cyc, cyc]
    exact (List.prefix_cons_inj d).mpr (cyc_mono a b (D ++ [d]))
theorem cyc_full : ∀ (W : Nat) (A B : List Nat), cyc (A.length + W) (A ++ B) = A ++ cyc W (B ++ A)
  | W, [], B => by simp
  | W, a :: A, B => by
    rw [show (a :: A).length + W = A.length + W + 1 by simp; omega]
    show a :: cyc (A.length + W) (A ++ B ++ [a]) = a :: (A ++ cyc W (B ++ a :: A))
    rw [List.append_assoc, cyc_full W A (B ++ [a])]
    simp
theorem cyc_rep (D : List Nat) : ∀ m, cyc (m * D.length) D = rep m D
  | 0 => by simp [rep, cyc]
  | m + 1 => by
    have := cyc_full (m * D.length) D []
    rw [List.append_nil, List.nil_append, cyc_rep D m] at this
    rw [show (m + 1) * D.length = D.length + m * D.length by rw [Nat.succ_mul, Nat.add_comm], this]
    simp [rep, List.replicate_succ]
theorem cyc_pre {D : List Nat} {W m : Nat} (h : W ≤ m * D.length) : cyc W D <+: rep m D := by
  rw [← cyc_rep]
  have := cyc_mono W (m * D.length - W) D
  rwa [show W + (m * D.length - W) = m * D.length by omega] at this
theorem cyc_preW {D : List Nat} (W : Nat) (h : D ≠ []) : cyc W D <+: rep W D :=
  cyc_pre (Nat.le_mul_of_pos_right W (List.length_pos_iff.mpr h))
theorem rep_true (x y : List Nat) : ∀ m, cat x y (List.replicate m true) = rep m x
  | 0 => rfl
  | m + 1 => by show x ++ cat x y (List.replicate m true) = _; rw [rep_true x y m]; simp [rep, List.replicate_succ]
theorem rep_false (x y : List Nat) : ∀ m, cat x y (List.replicate m false) = rep m y
  | 0 => rfl
  | m + 1 => by show y ++ cat x y (List.replicate m false) = _; rw [rep_false x y m]; simp [rep, List.replicate_succ]
theorem rep_len (D : List Nat) (m : Nat) : (rep m D).length = m * D.length := by
  rw [← cyc_rep]
  cases D with
  | nil => cases m <;> simp [cyc]
  | cons d D => exact cyc_len _ _ (by simp)
theorem Fits.pre {a b : List Nat} (h : Fits a b) (hl : b.length ≤ a.length) : b <+: a :=
  h.elim (fun h => by rw [h.eq_of_length_le hl]; exact List.prefix_rfl) id
def runP (p : Nat → Bool) : Nat → Nat → Nat
  | 0, a => a
  | n + 1, a => if p a = true then runP p n (a + 1) else a
theorem runP_all (p : Nat → Bool) : ∀ n a, (∀ i, a ≤ i → i < a + n → p i = true) → runP p n a = a + n
  | 0, a, _ => rfl
  | n + 1, a, h => by
    rw [runP, if_pos (h a (Nat.le_refl _) (by omega)), runP_all p n (a + 1) (fun i h1 h2 => h i (by omega) (by omega))]
    omega
theorem runP_at (p : Nat → Bool) (d : Nat) : ∀ n a, a ≤ d → d < a + n → (∀ i, a ≤ i → i < d → p i = true) → p d = false → runP p n a = d
  | 0, a, h1, h2, _, _ => by omega
  | n + 1, a, h1, h2, h, hd => by
    rw [runP]
    by_cases e : a = d
    · subst e; rw [hd]; simp
    · rw [if_pos (h a (Nat.le_refl _) (by omega)), runP_at p d n (a + 1) (by omega) (by omega) (fun i h3 h4 => h i (by omega) h4) hd]
theorem pre_getD {z l : List Nat} (h : z <+: l) {i : Nat} (hi : i < z.length) : l.getD i 0 = z.getD i 0 := by
  obtain ⟨t, rfl⟩ := h
  rw [List.getD_eq_getElem?_getD, List.getD_eq_getElem?_getD, List.getElem?_append_left hi]
theorem snoc_getD (z : List Nat) (a : Nat) : (z ++ [a]).getD z.length 0 = a := by
  rw [List.getD_eq_getElem?_getD]; simp
theorem snoc_getD' (z : List Nat) (a : Nat) {i : Nat} (hi : i < z.length) : (z ++ [a]).getD i 0 = z.getD i 0 := pre_getD ⟨[a], rfl⟩ hi
/-- how far the two words, each said over and over, are alike -/
def ahd (x y : List Nat) : Nat :=
  runP (fun i => (cyc (x.length + y.length) x).getD i 0 == (cyc (x.length + y.length) y).getD i 0) (x.length + y.length) 0
theorem ahd_parts {x y z : List Nat} {a b : Nat} (hx : x ≠ []) (hy : y ≠ []) (h : Parts x y z a b) : ahd x y = z.length := by
  obtain ⟨hab, hl, hw⟩ := h
  have key : ∀ W, W = x.length + y.length → (z ++ [a]) <+: cyc W x ∧ (z ++ [b]) <+: cyc W y := by
    intro W hW
    obtain ⟨V, rfl⟩ : ∃ V, W = V + 1 := ⟨W - 1, by omega⟩
    have f1 := (hw (List.replicate V true)).1
    have f2 := (hw (List.replicate V false)).2
    rw [rep_true, show x ++ rep V x = rep (V + 1) x by simp [rep, List.replicate_succ]] at f1
    rw [rep_false, show y ++ rep V y = rep (V + 1) y by simp [rep, List.replicate_succ]] at f2
    have l1 := cyc_len (V + 1) x hx
    have l2 := cyc_len (V + 1) y hy
    have p1 := cyc_preW (V + 1) hx
    have p2 := cyc_preW (V + 1) hy
    refine ⟨List.prefix_of_prefix_length_le (f1.pre ?_) p1 ?_, List.prefix_of_prefix_length_le (f2.pre ?_) p2 ?_⟩
    · have := p1.length_le; simp; omega
    · simp; omega
    · have := p2.length_le; simp; omega
    · simp; omega
  obtain ⟨k1, k2⟩ := key _ rfl
  refine runP_at _ z.length _ 0 (Nat.zero_le _) (by omega) (fun i _ hi => ?_) ?_
  · rw [pre_getD k1 (by simp; omega), pre_getD k2 (by simp; omega), snoc_getD' z a hi, snoc_getD' z b hi, beq_self_eq_true]
  · rw [pre_getD k1 (by simp), pre_getD k2 (by simp), snoc_getD, snoc_getD]
    exact beq_eq_false_iff_ne.mpr hab
theorem cyc_comm {x y : List Nat} (W : Nat) (hx : x ≠ []) (hy : y ≠ []) (h : x ++ y = y ++ x) : cyc W x = cyc W y := by
  have hf : Fits (rep W x) (rep W y) := by
    refine fits_of_comm ?_
    rw [← rep_true x y, ← rep_false x y]
    exact cat_comm h _ _
  have l1 := cyc_len W x hx
  have l2 := cyc_len W y hy
  have p1 := cyc_preW W hx
  have p2 := cyc_preW W hy
  rcases hf with hf | hf
  · exact (List.prefix_of_prefix_length_le (p1.trans hf) p2 (by omega)).eq_of_length (by omega)
  · exact (List.prefix_of_prefix_length_le p1 (p2.trans hf) (by omega)).eq_of_length (by omega)
theorem ahd_comm {x y : List Nat} (hx : x ≠ []) (hy : y ≠ []) (h : x ++ y = y ++ x) : ahd x y = x.length + y.length := by
  have := runP_all (fun i => (cyc (x.length + y.length) x).getD i 0 == (cyc (x.length + y.length) y).getD i 0) (x.length + y.length) 0 (fun i _ _ => by rw [cyc_comm _ hx hy h, beq_self_eq_true])
  rw [Nat.zero_add] at this
  exact this
theorem ahd_iff {x y : List Nat} (hx : x ≠ []) (hy : y ≠ []) : ahd x y = x.length + y.length ↔ x ++ y = y ++ x := by
  refine ⟨fun h => Classical.byContradiction fun hne => ?_, ahd_comm hx hy⟩
  obtain ⟨z, a, b, p⟩ := parts_ex _ x y (Nat.le_refl _) hx hy hne
  rw [ahd_parts hx hy p] at h
  have := p.2.1
  omega
/-- where two texts part -/
theorem cut_at {c p q : List Nat} {a b : Nat} (hab : a ≠ b) (hp : c ++ [a] <+: p) (hq : c ++ [b] <+: q) (k : Nat) (hk : k ≤ p.length) : p.take k <+: q ↔ k ≤ c.length := by
  constructor
  · intro h
    refine Classical.byContradiction fun hc => hab ?_
    have hl : (p.take k).length = k := by rw [List.length_take]; omega
    have e1 : (p.take k).getD c.length 0 = a := by
      rw [← pre_getD (List.take_prefix k p) (by omega), pre_getD hp (by simp), snoc_getD]
    rw [← e1, ← pre_getD h (by omega), pre_getD hq (by simp), snoc_getD]
  · intro h
    have h1 : p.take k <+: c ++ [b] := by
      have : p.take k = c.take k := by
        obtain ⟨t, rfl⟩ := hp
        rw [List.append_assoc, List.take_append_of_le_length h]
      rw [this]
      exact (List.take_prefix k c).trans (List.prefix_append _ _)
    exact h1.trans hq
theorem fits_take {p q : List Nat} (h : Fits p q) (k : Nat) (hk : k ≤ p.length) : p.take k <+: q ↔ k ≤ q.length := by
  constructor
  · intro h
    have := h.length_le
    rw [List.length_take] at this
    omega
  · intro hq
    rcases h with h | h
    · exact (List.take_prefix k p).trans h
    · obtain ⟨t, rfl⟩ := h
      rw [List.take_append_of_le_length hq]
      exact List.take_prefix k q
theorem cat_rev (x y : List Nat) : ∀ w : List Bool, (cat x y w).reverse = cat x.reverse y.reverse w.reverse
  | [] => rfl
  | true :: w => by
    show (x ++ cat x y w).reverse = _
    rw [List.reverse_append, cat_rev x y w, List.reverse_cons, cat_append]
    simp [cat]
  | false :: w => by
    show (y ++ cat x y w).reverse = _
    rw [List.reverse_append, cat_rev x y w, List.reverse_cons, cat_append]
    simp [cat]
abbrev rowP (f b e : List Bool) : List Bool := f ++ [true] ++ b ++ [false, true] ++ e
abbrev rowQ (f b e : List Bool) : List Bool := f ++ [false] ++ b ++ [true, false] ++ e
theorem cat_true (x y : List Nat) (w : List Bool) : cat x y (true :: w) = x ++ cat x y w := rfl
theorem cat_false (x y : List Nat) (w : List Bool) : cat x y (false :: w) = y ++ cat x y w := rfl
/-- the fronts -/
theorem front_cut {x y z : List Nat} {a b : Nat} (h : Parts x y z a b) (f b1 b2 e : List Bool) (k : Nat) (hk : k ≤ (cat x y (rowP f b1 e)).length) :
    (cat x y (rowP f b1 e)).take k <+: cat x y (rowQ f b2 e) ↔ k ≤ (cat x y f).length + z.length := by
  have e1 : cat x y (rowP f b1 e) = cat x y f ++ (x ++ cat x y (b1 ++ false :: true :: e)) := by
    rw [rowP, show f ++ [true] ++ b1 ++ [false, true] ++ e = f ++ true :: (b1 ++ false :: true :: e) by simp, cat_append, cat_true]
  have e2 : cat x y (rowQ f b2 e) = cat x y f ++ (y ++ cat x y (b2 ++ true :: false :: e)) := by
    rw [rowQ, show f ++ [false] ++ b2 ++ [true, false] ++ e = f ++ false :: (b2 ++ true :: false :: e) by simp, cat_append, cat_false]
  have hl := h.2.1
  have p1 := ((h.2.2 (b1 ++ false :: true :: e)).1).pre (by rw [cat_append, cat_false, cat_true]; simp; omega)
  have p2 := ((h.2.2 (b2 ++ true :: false :: e)).2).pre (by rw [cat_append, cat_true, cat_false]; simp; omega)
  have := cut_at (c := cat x y f ++ z) (p := cat x y (rowP f b1 e)) (q := cat x y (rowQ f b2 e)) h.1 (by rw [e1, List.append_assoc]; exact (List.prefix_append_right_inj _).mpr p1) (by rw [e2, List.append_assoc]; exact (List.prefix_append_right_inj _).mpr p2) k hk
  rw [this, List.length_append]
theorem drop_suffix {p q : List Nat} {j : Nat} (hj : j ≤ p.length) : p.drop (p.length - j) <:+ q ↔ p.reverse.take j <+: q.reverse := by
  rw [← List.reverse_prefix, List.reverse_drop]
  rw [show p.length - (p.length - j) = j by omega]
/-- the ends -/
theorem end_cut {x y z : List Nat} {a b : Nat} (h : Parts x.reverse y.reverse z a b) (f b1 b2 e : List Bool) (j : Nat) (hj : j ≤ (cat x y (rowP f b1 e)).length) :
    (cat x y (rowP f b1 e)).drop ((cat x y (rowP f b1 e)).length - j) <:+ cat x y (rowQ f b2 e) ↔ j ≤ (cat x y e).length + z.length := by
  rw [drop_suffix hj]
  have hlen : (cat x y (rowP f b1 e)).length = (cat x y (rowP f b1 e)).reverse.length := by simp
  rw [hlen] at hj
  revert hj
  have elen : (cat x y e).length = (cat x.reverse y.reverse e.reverse).length := by rw [← cat_rev]; simp
  rw [elen, cat_rev, cat_rev]
  intro hj
  generalize hX : x.reverse = X at *
  generalize hY : y.reverse = Y at *
  have e1 : cat X Y (rowP f b1 e).reverse = cat X Y e.reverse ++ (X ++ cat X Y (false :: (b1.reverse ++ true :: f.reverse))) := by
    rw [rowP, show (f ++ [true] ++ b1 ++ [false, true] ++ e).reverse = e.reverse ++ true :: false :: (b1.reverse ++ true :: f.reverse) by simp, cat_append, cat_true]
  have e2 : cat X Y (rowQ f b2 e).reverse = cat X Y e.reverse ++ (Y ++ cat X Y (true :: (b2.reverse ++ false :: f.reverse))) := by
    rw [rowQ, show (f ++ [false] ++ b2 ++ [true, false] ++ e).reverse = e.reverse ++ false :: true :: (b2.reverse ++ false :: f.reverse) by simp, cat_append, cat_false]
  have hl := h.2.1
  have p1 := ((h.2.2 (false :: (b1.reverse ++ true :: f.reverse))).1).pre (by rw [cat_false]; simp; omega)
  have p2 := ((h.2.2 (true :: (b2.reverse ++ false :: f.reverse))).2).pre (by rw [cat_true]; simp; omega)
  have := cut_at (c := cat X Y e.reverse ++ z) (p := cat X Y (rowP f b1 e).reverse) (q := cat X Y (rowQ f b2 e).reverse) h.1 (by rw [e1, List.append_assoc]; exact (List.prefix_append_right_inj _).mpr p1) (by rw [e2, List.append_assoc]; exact (List.prefix_append_right_inj _).mpr p2) j hj
  rw [this, List.length_append]
theorem rev_ne {x : List Nat} (h : x ≠ []) : x.reverse ≠ [] := by simpa using h
theorem rev_comm {x y : List Nat} : x.reverse ++ y.reverse = y.reverse ++ x.reverse ↔ x ++ y = y ++ x := by
  rw [← List.reverse_append, ← List.reverse_append, List.reverse_inj]
  exact eq_comm
/-- the bounds, as the law reckons them -/
def foreN (x y : List Nat) (f : List Bool) (ql : Nat) : Nat := if ahd x y = x.length + y.length then ql else (cat x y f).length + ahd x y
def aftN (x y : List Nat) (e : List Bool) (ql : Nat) : Nat := if ahd x y = x.length + y.length then ql else (cat x y e).length + ahd x.reverse y.reverse
theorem law_kj {x y : List Nat} (hx : x ≠ []) (hy : y ≠ []) (f b1 b2 e : List Bool) (k j : Nat) (hk : k ≤ (cat x y (rowP f b1 e)).length) (hj : j ≤ (cat x y (rowP f b1 e)).length) :
    ((cat x y (rowP f b1 e)).take k <+: cat x y (rowQ f b2 e) ↔ k ≤ foreN x y f (cat x y (rowQ f b2 e)).length) ∧
    ((cat x y (rowP f b1 e)).drop ((cat x y (rowP f b1 e)).length - j) <:+ cat x y (rowQ f b2 e) ↔ j ≤ aftN x y e (cat x y (rowQ f b2 e)).length) := by
  unfold foreN aftN
  by_cases hc : x ++ y = y ++ x
  · rw [if_pos ((ahd_iff hx hy).mpr hc), if_pos ((ahd_iff hx hy).mpr hc)]
    refine ⟨fits_take (fits_of_comm (cat_comm hc _ _)) k hk, ?_⟩
    rw [drop_suffix hj]
    have := fits_take (p := (cat x y (rowP f b1 e)).reverse) (q := (cat x y (rowQ f b2 e)).reverse) (fits_of_comm ?_) j (by simpa using hj)
    · rw [this]; simp
    · rw [← List.reverse_append, ← List.reverse_append, cat_comm hc]
  · rw [if_neg (fun h => hc ((ahd_iff hx hy).mp h)), if_neg (fun h => hc ((ahd_iff hx hy).mp h))]
    obtain ⟨z, a, b, p⟩ := parts_ex _ x y (Nat.le_refl _) hx hy hc
    obtain ⟨z', a', b', p'⟩ := parts_ex _ x.reverse y.reverse (Nat.le_refl _) (rev_ne hx) (rev_ne hy) (fun h => hc (rev_comm.mp h))
    rw [ahd_parts hx hy p, ahd_parts (rev_ne hx) (rev_ne hy) p']
    exact ⟨front_cut p f b1 b2 e k hk, end_cut p' f b1 b2 e j hj⟩
theorem law_eq {x y : List Nat} (hx : x ≠ []) (hy : y ≠ []) (f b1 b2 e : List Bool) :
    (cat x y (rowP f b1 e) == cat x y (rowQ f b2 e)) = (decide (ahd x y = x.length + y.length) && decide ((cat x y (rowP f b1 e)).length = (cat x y (rowQ f b2 e)).length)) := by
  rw [Bool.eq_iff_iff, beq_iff_eq, Bool.and_eq_true, decide_eq_true_eq, decide_eq_true_eq]
  constructor
  · intro h
    refine ⟨Classical.byContradiction fun hn => ?_, by rw [h]⟩
    have hc : ¬ x ++ y = y ++ x := fun h => hn ((ahd_iff hx hy).mpr h)
    obtain ⟨z, a, b, p⟩ := parts_ex _ x y (Nat.le_refl _) hx hy hc
    have := (front_cut p f b1 b2 e _ (Nat.le_refl _)).mp (by rw [List.take_length, h]; exact List.prefix_rfl)
    have hl := p.2.1
    rw [rowP, show f ++ [true] ++ b1 ++ [false, true] ++ e = f ++ true :: (b1 ++ false :: true :: e) by simp, cat_append, cat_true, cat_append, cat_false] at this
    simp at this
    omega
  · rintro ⟨h1, h2⟩
    have hf := fits_of_comm (cat_comm ((ahd_iff hx hy).mp h1) (rowP f b1 e) (rowQ f b2 e))
    exact hf.elim (fun h => h.eq_of_length h2) (fun h => (h.eq_of_length h2.symm).symm)
theorem law_xy {x y : List Nat} (hx : x ≠ []) (hy : y ≠ []) : (y <+: x ++ y ∧ x <:+ x ++ y) ↔ ahd x y = x.length + y.length := by
  rw [ahd_iff hx hy]
  constructor
  · rintro ⟨⟨t, e1⟩, ⟨s, e2⟩⟩
    have hl : s.length = y.length := by have := congrArg List.length e2; simp at this; omega
    have : s = y ∧ x = t := List.append_inj (e2.trans e1.symm) hl
    rw [← e2, this.1]
  · intro h
    exact ⟨h ▸ List.prefix_append y x, ⟨y, h.symm⟩⟩
end Mine
end
theorem Mine.fresh_1 : True ∧ True := by first | (walk1 <;> trivial) | exact ⟨trivial, trivial⟩
section
open PySem PySem.W PyProof.Rows
set_option linter.unusedVariables false
set_option maxRecDepth 100000
set_option maxHeartbeats 4000000
namespace Mine
def numZ (l : List Int) : Int := l.foldl (fun n c => n * 16 + c - 97) 0
theorem numZ_snoc (l : List Int) (c : Int) : numZ (l ++ [c]) = numZ l * 16 + c - 97 := by
  unfold numZ; rw [List.foldl_append]; rfl
abbrev pr : Program := PySem.Challenge.rw_uy0010_01.prog
section
variable {w : World} {mean : ExcName → Option Value} {mg mb : Str → Option Value}
theorem c_number (news : List (Addr × Obj)) (x : Str) (t : Tok) :
    CbClaim PySem.Challenge.rw_uy0010_01.prog w (KK w.params) qv looseL mean mg mb 109 news [] True [.str x t] (fun u => .int (numZ (KStt.codes x)) u) := by
  k_with "pyIter str" => k_state (fun (pre : List Int) k => k = numZ pre) "number"
  k_with "state" => (simp only [numZ_snoc]; omega)
  k_with "tree" => simp only [*]
  k_fill
  dsimp only [CbClaim, CbLists, CbRet]
  intros
  rename_i hret
  refine wpAny_call ?_
  k_dflt cell_enter
  k_steps
  all_goals cb_end hret
end
end Mine
end
theorem Mine.fresh_2 : True ∧ True := by first | (walk1 <;> trivial) | exact ⟨trivial, trivial⟩
section
open PySem PySem.W PyProof.Rows
set_option linter.unusedVariables false
set_option maxRecDepth 100000
set_option maxHeartbeats 4000000
namespace Mine
def lettersS (x : Str) (d n : Int) : Str := Txt.join (Str.ofString "") ((rangeKs 0 (n - 0).toNat).map fun a => Txt.item x ((d / 3 ^ a.toNat).fmod 3))
theorem pow3_le {k : Int} (h : k.toNat < 4) : 1 ≤ (3 : Int) ^ k.toNat ∧ (3 : Int) ^ k.toNat ≤ 27 := by
  rcases (by omega : k.toNat = 0 ∨ k.toNat = 1 ∨ k.toNat = 2 ∨ k.toNat = 3) with e | e | e | e <;> rw [e] <;> decide
theorem fd_pow3 {prog : Program} {w : World} {A : Around} {E : Value → Shared → Prop} {s : Shared} {a k : Int} {t u : Tok} {Q : Value → Shared → Prop} (hk : k.toNat < 4)
    (h : Q (.int (a / 3 ^ k.toNat) s.toks) { s with toks := s.toks + 1 }) : wpAny (model prog w) A (binaryOp .FloorDiv (.int a t) (.int (3 ^ k.toNat) u)) Q E s := by
  have p := pow3_le hk
  refine floordiv_int (by omega) ?_ (Or.inl (PyProof.noPylong_small (by omega)))
  rw [Int.fdiv_eq_ediv_of_nonneg _ (by omega)]
  exact h
local macro_rules | `(tactic| walk_at "binaryOp FloorDiv") => `(tactic| ((with_reducible show wpAny _ _ (binaryOp Operator.FloorDiv (Value.int _ _) (Value.int (3 ^ _) _)) _ _ _); refine fd_pow3 (by omega) ?_))
local macro_rules | `(tactic| walk_at "CompSrc") => `(tactic| (k_here; k_dflt (refine LCg.CompSrc.range (by rfl) (by k_asm) (by k_asm) (by assumption) (by first | decide | exact small_one (by l_bnd) (by l_bnd) (by l_bnd) (by l_bnd)) (by first | exact rangeSize_nat _ _ | rfl) (by first | exact Nat.le_of_ble_eq_true rfl | (rw [PySem.sizeLine_eq]; omega) | size_fits) ?_; intro g'; (refine' kct_range _ (fun k' t' I' oI' C' oC' D' m' ys' h' tk' E' hlo' hhi' hC' hx' F' N' off' ne' => ?_) ?_); (all_goals (try (simp only [LCg.Off3, and_true] at off'))); (all_goals (try ((show KPfMark → _); intro hMark'))); kcf_last)))
theorem item3 {prog : Program} {w : World} {A : Around} {E : Value → Shared → Prop} {s : Shared} {value slice : Expr} {x : Str} {t : Tok} {Q : Value → Shared → Prop} {a : Int} {u : Tok} (hx : x.length = 3)
    (h : Q (.str (Txt.item x (a.fmod 3)) s.toks) { s with toks := s.toks + 1 })
    (hs : subscripted slice false (.str x t) (.int (a.fmod 3) u) = operate [.str x t, .int (a.fmod 3) u] (getItem (.str x t) (.int (a.fmod 3) u)) := by with_unfolding_all rfl)
    (ht : ∀ r, letTemporaryGo value (.str x t) r = pure () := by intro _; with_unfolding_all rfl) :
    wpAny (model prog w) A (subscriptTail value slice (.str x t) (.int (a.fmod 3) u)) Q E s := by
  have e : a.fmod 3 = a % 3 := Int.fmod_eq_emod_of_nonneg _ (by omega)
  have h0 : 0 ≤ a.fmod 3 := by rw [e]; omega
  have h1 : a.fmod 3 < 3 := by rw [e]; omega
  exact item_str (fitsSsize_of (N := 9223372036854775808) (by omega) (by omega) (Int.le_refl _)) (by omega) (by omega) (fun _ => h) hs ht
local macro_rules | `(tactic| walk_at "subscriptTail") => `(tactic| ((with_reducible show wpAny _ _ (subscriptTail _ _ (Value.str _ _) (Value.int (Int.fmod _ _) _)) _ _ _); refine item3 (by assumption) ?_))
local macro_rules | `(tactic| walk_at "call builtin:str.join") => `(tactic| (k_here; (with_reducible rename CarriedAll _ (List.map _ _) => ktC); (refine KT.join_1 (by is_list) ktC (fun _ _ => len_item _ _) (by rw [rangeKs_length]; omega) ?_); intro _ _ ktE))
local macro_rules | `(tactic| walk_at "CompEnd") => `(tactic| (refine' LCg.CompEnd.intro (by assumption) (by assumption) ?nn ?aa ?oo ?ss ?ee; (case ee => exact kct_el rfl (by with_unfolding_all rfl) (by with_unfolding_all rfl)); (case aa => kcf_all); (case oo => first | assumption | (simp only [LCg.Off3, and_true]; done) | (simp only [LCg.Off3, and_true]; assumption)); (case ss => first | lcg_src | assumption)))
section
variable {w : World} {mean : ExcName → Option Value} {mg mb : Str → Option Value}
theorem c_letters (news : List (Addr × Obj)) (x : Str) (t : Tok) (d : Int) (t2 : Tok) (n : Int) (t3 : Tok) :
    CbClaim PySem.Challenge.rw_uy0010_01.prog w (KK w.params) qv looseL mean mg mb 97 news [] (x.length = 3 ∧ 0 ≤ d ∧ d < 1000000 ∧ 1 ≤ n ∧ n ≤ 4) [.str x t, .int d t2, .int n t3] (fun u => .str (lettersS x d n) u) := by
  k_fill
  dsimp only [CbClaim, CbLists, CbRet]
  intros
  rename_i hpre _ _ hret
  obtain ⟨hx3, hd0, hd1, hn1, hn4⟩ := hpre
  refine wpAny_call ?_
  k_dflt (
    refine' code_defC (binds := [(Str.ofString "letters", .str x t), (Str.ofString "draw", .int d t2), (Str.ofString "size", .int n t3)]) ?k1 ?k2 ?k3 ?k4 ?k5 ?kA ?kF ?kK ?k6 ?k7 ?k8 ?k9 ?kB ?kD ?_ ?c2 ?c3 ?c4
    (case kA => exact rfl); (case kF => exact rfl); (case kK => assumption); (case k1 => k_asm); (case k2 => k_asm); (case k3 => k_asm); (case k4 => k_asm); (case k5 => k_asm)
    (case k6 => k_is); (case k7 => k_is); (case k8 => ktr_room); (case k9 => exact BindsTo.of_eq rfl); (case kB => exact rfl); (case kD => decide +kernel); (case c2 => exact rfl); (case c3 => exact rfl); (case c4 => exact rfl)
    k_whole
    intro g' L' h' tk' cells' FG' F' N' Y' B' X' T' l1
    (try k_lt l1)
    k_cells Y'
    (try simp only [List.cons_append, List.nil_append] at N')
    (try dsimp only)
    (try k_lift B')
    (try k_fold))
  k_steps
  all_goals cb_end hret
end
end Mine
end
theorem Mine.fresh_3 : True ∧ True := by first | (walk1 <;> trivial) | exact ⟨trivial, trivial⟩
section
open PySem PySem.W PyProof.Rows
set_option linter.unusedVariables false
set_option maxRecDepth 100000
set_option maxHeartbeats 4000000
namespace Mine
def b1L : List Int := [173, 847, 6150, 6155, 6156, 6157, 8203, 8204, 8205, 8288, 65279, 65024, 65025, 65026, 65027, 65028, 65029, 65030, 65031, 65032, 65033, 65034, 65035, 65036, 65037, 65038, 65039]
def inB1 (c : Int) : Bool := b1L.contains c
noncomputable def setEs (P : Params) : Array (Int × Value) := match (o22_st1 P).data with | .set es _ _ => es | _ => #[]
noncomputable def setTb (P : Params) : SetTable := match (o22_st1 P).data with | .set _ _ t => t | _ => default
theorem set_checks (P : Params) : ((setEs P).toList.all fun e => match e.2 with | .int k _ => decide (e.1 = hashInt k) && b1L.contains k | _ => false) = true := by kernel_rfl
theorem set_back (P : Params) : (b1L.all fun k => (setEs P).toList.any fun e => Value.isInt k e.2) = true := by kernel_rfl
theorem set_data (P : Params) : (o22_st1 P).data = .set (setEs P) 29 (setTb P) := by kernel_rfl
theorem set_obj {prog : Program} {w : World} (P : Params) : (o22_st1 P).SetObjOf (intKind prog w) inB1 27 := by
  have hall := List.all_eq_true.mp (set_checks P)
  have hback := List.all_eq_true.mp (set_back P)
  have key : ∀ e ∈ (setEs P).toList, ∃ k t, e.2 = .int k t ∧ e.1 = hashInt k ∧ b1L.contains k = true := fun e he => by
    have := hall e he
    split at this
    · rename_i k t q
      obtain ⟨h1, h2⟩ := Bool.and_eq_true_iff.mp this
      exact ⟨k, t, q, of_decide_eq_true h1, h2⟩
    · cases this
  refine ⟨⟨rfl, rfl, rfl⟩, setEs P, 29, setTb P, set_data P, fun e he => ?_, fun k => ⟨fun h => ?_, fun ⟨e, he, hk⟩ => ?_⟩, by kernel_rfl, by kernel_rfl⟩
  · obtain ⟨k, t, e1, e2, _⟩ := key e he
    refine ⟨⟨k, ?_, e2⟩, ?_⟩
    · rw [e1]; exact isInt_self k t
    · rw [e1]; rfl
  · have h' : k ∈ b1L := List.contains_iff_mem.mp h
    obtain ⟨e, he, q⟩ := List.any_eq_true.mp (hback k h')
    exact ⟨e, he, q⟩
  · obtain ⟨k', t, e1, _, e3⟩ := key e he
    rw [e1] at hk
    have : k' = k := by simpa [intKind, Value.isInt] using hk
    exact this ▸ e3
theorem KK_set {P : Params} {h : Heap} (X : (KK P).In h) : h.get? 22 = some (o22_st1 P) := X 22 _ (by kernel_rfl)
local macro_rules | `(tactic| walk_at "compareOp In") => `(tactic| ((with_reducible show wpAny _ _ (compareOp CmpOp.In (Value.int _ _) (Value.ref 22)) _ _ _); refine in_argsetI (by k_asm) (set_obj _) (KK_set (by k_asm)) (by decide) ?_))
theorem c_b1 {w : World} {mean : ExcName → Option Value} {mg mb : Str → Option Value} (news : List (Addr × Obj)) (c : Nat) (t : Tok) :
    CbClaim PySem.Challenge.rw_uy0010_01.prog w (KK w.params) qv looseL mean mg mb 32 news [] (c < 1114112) [.str ⟨#[c]⟩ t] (fun _ => .bool (inB1 c)) := by
  k_fill
  dsimp only [CbClaim, CbLists, CbRet]
  intros
  rename_i hpre _ _ hret
  refine wpAny_call ?_
  k_dflt cell_enter
  k_steps
  all_goals cb_end hret
end Mine
end
theorem Mine.fresh_4 : True ∧ True := by first | (walk1 <;> trivial) | exact ⟨trivial, trivial⟩
section
open PySem PySem.W PyProof.Rows
set_option linter.unusedVariables false
set_option maxRecDepth 100000
set_option maxHeartbeats 4000000
namespace Mine
def b3val (c : Int) : Option Str := none
noncomputable def b3f (c : Int) : Option Value := findBy Value.isInt b3ents.toArray c
noncomputable def b3s (c : Int) : Option Str := (b3.find? fun x => x.1 == c).map (·.2)
theorem find_ents : ∀ (ps : List (Int × Str)) (t : Nat) (c : Int), ((ents t ps).find? fun e => Value.isInt c e.key).isSome = (ps.find? fun x => x.1 == c).isSome ∧
    ∀ e, ((ents t ps).find? fun e => Value.isInt c e.key) = some e → ∃ u x, e.val = .str x u ∧ ((ps.find? fun x => x.1 == c).map (·.2)) = some x
  | [], _, _ => ⟨rfl, fun e h => by cases h⟩
  | (k, s) :: r, t, c => by
    show ((ent k t (.str s (t + 1)) :: ents (t + 3) r).find? _).isSome = _ ∧ ∀ e, ((ent k t (.str s (t + 1)) :: ents (t + 3) r).find? _) = some e → _
    have q : Value.isInt c (ent k t (.str s (t + 1))).key = (k == c) := rfl
    rw [List.find?_cons, List.find?_cons, q]
    cases h : k == c with
    | true => exact ⟨rfl, fun e he => by cases he; exact ⟨t + 1, s, rfl, rfl⟩⟩
    | false => exact find_ents r (t + 3) c
theorem find_ents2 : ∀ (ps : List (Int × Str)) (t : Nat) (c : Int), ((ents2 t ps).find? fun e => Value.isInt c e.key).isSome = (ps.find? fun x => x.1 == c).isSome ∧
    ∀ e, ((ents2 t ps).find? fun e => Value.isInt c e.key) = some e → ∃ u x, e.val = .str x u ∧ ((ps.find? fun x => x.1 == c).map (·.2)) = some x
  | [], _, _ => ⟨rfl, fun e h => by cases h⟩
  | (k, s) :: r, t, c => by
    show ((ent k t (.str s (t + 1)) :: ents2 (t + 2) r).find? _).isSome = _ ∧ ∀ e, ((ent k t (.str s (t + 1)) :: ents2 (t + 2) r).find? _) = some e → _
    have q : Value.isInt c (ent k t (.str s (t + 1))).key = (k == c) := rfl
    rw [List.find?_cons, List.find?_cons, q]
    cases h : k == c with
    | true => exact ⟨rfl, fun e he => by cases he; exact ⟨t + 1, s, rfl, rfl⟩⟩
    | false => exact find_ents2 r (t + 2) c
theorem b3_cases (c : Int) : (b3f c = none ∧ b3s c = none) ∨ ∃ x u, b3f c = some (.str x u) ∧ b3s c = some x := by
  have e : b3s c = ((b3a ++ (b3b ++ b3c)).find? fun x => x.1 == c).map (·.2) := by unfold b3s; rw [b3_cut]
  have e2 : b3f c = ((ents 256 b3a ++ ents 307 b3b ++ ents2 2194 b3c).find? fun e => Value.isInt c e.key).map (·.val) := by
    unfold b3f findBy b3ents
    rw [List.find?_toArray]
  rw [e, e2, List.append_assoc, List.find?_append, List.find?_append, List.find?_append, List.find?_append]
  have f1 := find_ents b3a 256 c
  have f2 := find_ents b3b 307 c
  have f3 := find_ents2 b3c 2194 c
  cases h1 : (ents 256 b3a).find? (fun e => Value.isInt c e.key) with
  | some v =>
    obtain ⟨u, x, a, b⟩ := f1.2 v h1
    obtain ⟨y, hy, q⟩ := Option.map_eq_some_iff.mp b
    exact .inr ⟨x, u, by simp [a], by rw [hy]; simp [q]⟩
  | none =>
    have g1 : b3a.find? (fun x => x.1 == c) = none := by have := f1.1; rw [h1] at this; simpa using this.symm
    rw [g1]
    cases h2 : (ents 307 b3b).find? (fun e => Value.isInt c e.key) with
    | some v =>
      obtain ⟨u, x, a, b⟩ := f2.2 v h2
      obtain ⟨y, hy, q⟩ := Option.map_eq_some_iff.mp b
      exact .inr ⟨x, u, by simp [a], by rw [hy]; simp [q]⟩
    | none =>
      have g2 : b3b.find? (fun x => x.1 == c) = none := by have := f2.1; rw [h2] at this; simpa using this.symm
      rw [g2]
      cases h3 : (ents2 2194 b3c).find? (fun e => Value.isInt c e.key) with
      | some v =>
        obtain ⟨u, x, a, b⟩ := f3.2 v h3
        obtain ⟨y, hy, q⟩ := Option.map_eq_some_iff.mp b
        exact .inr ⟨x, u, by simp [a], by rw [hy]; simp [q]⟩
      | none =>
        have g3 : b3c.find? (fun x => x.1 == c) = none := by have := f3.1; rw [h3] at this; simpa using this.symm
        rw [g3]
        exact .inl ⟨rfl, rfl⟩
theorem KK_dict {P : Params} {h : Heap} (X : (KK P).In h) : h.get? 33 = some (dictObj b3ents) := X 33 _ (by kernel_rfl)
theorem b3_map {prog : Program} {w : World} {P : Params} {h : Heap} (X : (KK P).In h) : h.MapOf (intKind prog w) 33 b3f := by
  refine ⟨dictObj b3ents, b3ents.toArray, b3ents.length, KK_dict X, ⟨rfl, rfl, rfl⟩, rfl, fun e he => ?_, fun k => rfl⟩
  have he' : e ∈ b3ents := by simpa using he
  have : IntEnts b3ents := fun e he => by
    unfold b3ents at he
    rcases List.mem_append.mp he with he | he
    · rcases List.mem_append.mp he with he | he
      · exact ents_int _ _ e he
      · exact ents_int _ _ e he
    · exact ents2_int _ _ e he
  obtain ⟨k, u, e1, e2⟩ := this e he'
  exact ⟨k, by rw [e1]; exact isInt_self k u, e2⟩
noncomputable def b3of (c : Nat) : Str := match b3s c with | some x => x | none => Txt.lower ⟨#[c]⟩
section
variable {prog : Program} {w : World} {A : Around} {E : Value → Shared → Prop} {s : Shared} {h₀ : Heap} {L : Addr} {m : Str → Option Value}
theorem get_meth {pl : Sem Bool} {Q : Value × List Value → Shared → Prop} (F : Fr h₀ L s.heap m) (X : (KK w.params).In h₀) (h : Q (.builtin "dict.get", [.ref 33]) s) : wpAny (model prog w) A (getMethod (.ref 33) (Str.ofString "get") pl) Q E s :=
  have T := b3_map (prog := prog) (w := w) (X.keeps F.keep)
  getMethod_builtin T.typeIs PySem.F.plainAttrs_dict PySem.F.slot_dict_get PySem.F.type_dict_get T.noDict h
theorem get_call {c : Nat} {t : Tok} {v : Value} {Q : Value → Shared → Prop} (F : Fr h₀ L s.heap m) (X : (KK w.params).In h₀) (hv : (b3f c).getD .none = v) (h : Q v { s with toks := s.toks + 1 }) :
    wpAny (model prog w) A (call (.builtin "dict.get") [.ref 33, .int c t]) Q E s :=
  have T := b3_map (prog := prog) (w := w) (X.keeps F.keep)
  call_meetsIn PySem.F.slot_dict_get T.typeIs PySem.F.entry_dict_get (PySem.F.args_dict_get_2 _ _) (meets_dict_get (intKind prog w) 33 (k := (c : Int)) (isInt_self (c : Int) t) rfl) ⟨_, T, hv ▸ h⟩
end
local macro_rules | `(tactic| walk_at "getMethod") => `(tactic| ((with_reducible show wpAny _ _ (getMethod (Value.ref 33) _ _) _ _ _); refine get_meth (by k_asm) (by k_asm) ?_))
local macro_rules | `(tactic| walk_at "call builtin:dict.get") => `(tactic| (refine get_call (by k_asm) (by k_asm) (by assumption) ?_))
local macro_rules | `(tactic| walk_at "call builtin:str.lower") => `(tactic| ((show wpAny _ _ (call (Value.builtin "str.lower") [Value.str _ _]) _ _ _); refine SCL.lower (by (show 1 ≤ 5592405); decide) ?_; intro _))
theorem c_b3 {w : World} {mean : ExcName → Option Value} {mg mb : Str → Option Value} (news : List (Addr × Obj)) (c : Nat) (t : Tok) :
    CbClaim PySem.Challenge.rw_uy0010_01.prog w (KK w.params) qv looseL mean mg mb 78 news [] (c < 1114112) [.str ⟨#[c]⟩ t] (fun u => .str (b3of c) u) := by
  k_fill
  dsimp only [CbClaim, CbLists, CbRet]
  intros
  rename_i hpre _ _ hret
  unfold b3of at hret
  have hc := b3_cases c
  refine wpAny_call ?_
  k_dflt cell_enter
  rcases hc with ⟨h1, h2⟩ | ⟨x, u, h1, h2⟩
  · rw [h2] at hret
    dsimp only at hret
    have hv : (b3f c).getD .none = .none := by rw [h1]; rfl
    k_steps
    all_goals cb_end hret
  · rw [h2] at hret
    dsimp only at hret
    have hv : (b3f c).getD .none = .str x u := by rw [h1]; rfl
    k_steps
    all_goals cb_end hret
end Mine
end
theorem Mine.fresh_5 : True ∧ True := by first | (walk1 <;> trivial) | exact ⟨trivial, trivial⟩
section
open PySem PySem.W PyProof.Rows
set_option linter.unusedVariables false
set_option maxRecDepth 100000
set_option maxHeartbeats 4000000
namespace Mine
/-- Int2AP's letters: the figures to the base 16, most first -/
def apF : Nat → Nat → List UInt8
  | 0, _ => []
  | k + 1, n => if n = 0 then [] else apF k (n / 16) ++ [UInt8.ofNat (65 + n % 16)]
def apN (n : Nat) : List UInt8 := apF n n
theorem apF_more : ∀ (k j n : Nat), n ≤ k → n ≤ j → apF k n = apF j n
  | 0, 0, _, _, _ => rfl
  | 0, j + 1, n, h, _ => by
    rw [Nat.le_zero.mp h]; rfl
  | k + 1, 0, n, _, h => by
    rw [Nat.le_zero.mp h]; rfl
  | k + 1, j + 1, n, h1, h2 => by
    show (if n = 0 then [] else apF k (n / 16) ++ _) = if n = 0 then [] else apF j (n / 16) ++ _
    by_cases h : n = 0
    · rw [if_pos h, if_pos h]
    · rw [if_neg h, if_neg h, apF_more k j (n / 16) (by omega) (by omega)]
theorem apN_eq (n : Nat) : apN n = if h : n = 0 then [] else apN (n / 16) ++ [UInt8.ofNat (65 + n % 16)] := by
  cases n with
  | zero => rfl
  | succ n =>
    rw [dif_neg (Nat.succ_ne_zero n)]
    show (if n + 1 = 0 then [] else apF n ((n + 1) / 16) ++ _) = _
    rw [if_neg (Nat.succ_ne_zero n), apN, apF_more n ((n + 1) / 16) ((n + 1) / 16) (by omega) (Nat.le_refl _)]
def apB (n : Int) : Array UInt8 := (apN n.toNat).toArray
theorem ap_start {n : Int} (h : 0 ≤ n) : 0 ≤ (if n < 0 then -n else n) ∧ (if n < 0 then -n else n) ≤ n ∧ apN (if n < 0 then -n else n).toNat ++ (#[] : Array UInt8).toList = apN n.toNat ∧ (#[] : Array UInt8).size ≤ 64 := by
  rw [if_neg (by omega)]
  exact ⟨h, Int.le_refl _, by simp, by simp⟩
theorem apN_len : ∀ (k m : Nat), m < 16 ^ k → (apN m).length ≤ k
  | 0, m, h => by
    have : m = 0 := by simpa using h
    subst this
    rw [apN_eq]; simp
  | k + 1, m, h => by
    rw [apN_eq]
    split
    · simp
    · have := apN_len k (m / 16) (by rw [Nat.pow_succ] at h; omega)
      simp; omega
abbrev APb : Array UInt8 := #[65, 66, 67, 68, 69, 70, 71, 72, 73, 74, 75, 76, 77, 78, 79, 80]
theorem ap_pick : ∀ r : Nat, r < 16 → KBy.picked APb (some (r : Int)) (some ((r : Int) + 1)) = #[UInt8.ofNat (65 + r)] := by decide +kernel
theorem ap_turn {n a : Int} {v : Array UInt8} (h : 0 ≤ a ∧ a ≤ n ∧ apN a.toNat ++ v.toList = apN n.toNat ∧ v.size ≤ 64) (hne : a ≠ 0) (hn : n < 2 ^ 60) :
    0 ≤ a.fdiv 16 ∧ a.fdiv 16 ≤ n ∧ apN (a.fdiv 16).toNat ++ (KBy.picked APb (some (a.fmod 16)) (some (a.fmod 16 + 1)) ++ v).toList = apN n.toNat ∧ (KBy.picked APb (some (a.fmod 16)) (some (a.fmod 16 + 1)) ++ v).size ≤ 64 := by
  obtain ⟨h0, h1, h2, h3⟩ := h
  obtain ⟨m, rfl⟩ := Int.eq_ofNat_of_zero_le h0
  have e1 : Int.fdiv (m : Int) 16 = ((m / 16 : Nat) : Int) := by rw [Int.fdiv_eq_ediv_of_nonneg _ (by omega)]; omega
  have e2 : Int.fmod (m : Int) 16 = ((m % 16 : Nat) : Int) := by rw [Int.fmod_eq_emod_of_nonneg _ (by omega)]; omega
  rw [e1, e2, ap_pick (m % 16) (Nat.mod_lt _ (by omega))]
  have hm : apN m = apN (m / 16) ++ [UInt8.ofNat (65 + m % 16)] := by
    rw [apN_eq, dif_neg (by omega)]
  have h2' : apN (m / 16) ++ (#[UInt8.ofNat (65 + m % 16)] ++ v).toList = apN n.toNat := by
    rw [Int.toNat_natCast, hm] at h2
    simpa using h2
  refine ⟨by omega, by omega, by rw [Int.toNat_natCast]; exact h2', ?_⟩
  have l := apN_len 15 n.toNat (by omega)
  rw [← h2', List.length_append] at l
  have l2 : (#[UInt8.ofNat (65 + m % 16)] ++ v).toList.length ≤ 15 := Nat.le_trans (Nat.le_add_left _ _) l
  rw [Array.length_toList] at l2
  exact Nat.le_trans l2 (by decide)
theorem ap_less {a : Int} (h : 0 ≤ a) (hne : a ≠ 0) : (a.fdiv 16).toNat < a.toNat := by
  rw [Int.fdiv_eq_ediv_of_nonneg _ (by omega)]
  omega
theorem ap_done {n a : Int} {v : Array UInt8} (h : 0 ≤ a ∧ a ≤ n ∧ apN a.toNat ++ v.toList = apN n.toNat ∧ v.size ≤ 64) (h0 : a = 0) : v = apB n := by
  subst h0
  have e : apN (0 : Int).toNat = [] := by rw [apN_eq]; simp
  rw [e, List.nil_append] at h
  unfold apB
  rw [← h.2.2.1]
theorem ap_add {b v : Array UInt8} {lo hi : Option Int} (h : v.size ≤ 64) (hb : b.size ≤ 16) : (KBy.picked b lo hi).size + v.size ≤ 16777216 := by
  have := KBc.size_picked_le b lo hi
  omega
theorem ap_ret {n a : Int} {v : Array UInt8} (P : Array UInt8 → Prop) (h1 : 0 ≤ a) (h2 : a ≤ n) (h3 : apN a.toNat ++ v.toList = apN n.toNat) (h4 : v.size ≤ 64) (h0 : a = 0) (h : P (apB n)) : P v :=
  ap_done ⟨h1, h2, h3, h4⟩ h0 ▸ h
def Halt (P : Prop) : Prop := P
theorem halt {P : Prop} (h : Halt P) : P := h
local macro_rules | `(tactic| walk_at "exec While Name cons nil") => `(tactic| (refine halt ?_))
local macro_rules | `(tactic| walk_at "exec While") => `(tactic| (refine halt ?_))
local macro_rules | `(tactic| walk_at "exec") => `(tactic| ((with_reducible show wpAny _ _ (exec (Stmt.While _ _ _ _) _) _ _ _); refine halt ?_))
local macro_rules | `(tactic| walk_at "subscriptTail") => `(tactic| (k_here; (with_reducible show wpAny _ _ (subscriptTail _ (Expr.Slice _ _ none _) (Value.bytes _ _) (Value.ref _)) _ _ _); (with_reducible rename Fr _ _ _ _ => F'); (with_reducible rename News _ _ _ _ => N'); (refine KBc.slice_K (s := ⟨_, _, _, _, _⟩) F' N' rfl (by constructor) (by constructor) (by (show 16 ≤ 16777216); decide) ?_); intro _ _ _ _ _ _))
local macro_rules | `(tactic| walk_at "binaryOp Add") => `(tactic| (k_here; (with_reducible show wpAny _ _ (binaryOp _ (Value.bytes (KBy.picked _ _ _) _) (Value.bytes _ _)) _ _ _); (refine KBy.add_bytes (ap_add (by first | assumption | (simp_all; done)) (by decide)) ?_); intro _ _))
theorem c_ap {w : World} {mean : ExcName → Option Value} {mg mb : Str → Option Value} (news : List (Addr × Obj)) (n : Int) (t : Tok) :
    CbClaim PySem.Challenge.rw_uy0010_01.prog w (KK w.params) qv looseL mean mg mb 92 news [] (0 ≤ n ∧ n < 2 ^ 60) [.int n t] (fun u => .bytes (apB n) u) := by
  k_with "tree" => exact ap_done ⟨by assumption, by assumption, by assumption, by assumption⟩ (by assumption)
  k_fill
  dsimp only [CbClaim, CbLists, CbRet]
  intros
  rename_i hpre _ _ hret
  have hn0 := hpre.1
  have hn1 := hpre.2
  refine wpAny_call ?_
  k_dflt (
    refine' code_def (binds := [(Str.ofString "num", .int n t)]) ?k1 ?k2 ?k3 ?k4 ?k5 ?kA ?kF ?kK ?k6 ?k7 ?k8 ?k9 ?kB ?_ ?c2 ?c3 ?c4 ?c5
    (case kA => exact rfl); (case kF => exact rfl); (case kK => assumption); (case k1 => k_asm); (case k2 => k_asm); (case k3 => k_asm); (case k4 => k_asm); (case k5 => k_asm)
    (case k6 => k_is); (case k7 => k_is); (case k8 => ktr_room); (case k9 => exact BindsTo.of_eq rfl); (case c5 => decide); (case kB => exact locs rfl); (case c2 => exact rfl); (case c3 => exact rfl); (case c4 => exact rfl)
    k_whole
    intro g' L' h' FG' F' N' B' X' T'
    (try dsimp only)
    (try k_lift B')
    (try k_fold))
  k_steps
  unfold Halt
  k_with "state" => (first | exact ap_start (by assumption) | exact ap_turn ⟨by assumption, by assumption, by assumption, by assumption⟩ (by assumption) (by assumption))
  k_with "measure" => exact ap_less (by assumption) (by assumption)
  k_while (fun (_ : List Int) (a : Int) (v : Array UInt8) => 0 ≤ a ∧ a ≤ n ∧ apN a.toNat ++ v.toList = apN n.toNat ∧ v.size ≤ 64) (fun (_ : List Int) (a : Int) (v : Array UInt8) => a.toNat) "num" "val"
  all_goals k_steps
  rename_i kF kN _ _
  have key : apB n = _ := (ap_done (v := _) ⟨‹_›, ‹_›, ‹apN _ ++ _ = _›, ‹_›⟩ ‹_›).symm
  rw [key] at hret
  exact hret _ _ _ kF kN
end Mine
end
section
set_option linter.unusedVariables false
namespace Mine
def val (l : List Nat) : Nat := l.foldl (fun n d => n * 16 + d) 0
theorem val_snoc (l : List Nat) (d : Nat) : val (l ++ [d]) = val l * 16 + d := by simp [val, List.foldl_append]
theorem val_append (a : List Nat) : ∀ b : List Nat, val (a ++ b) = val a * 16 ^ b.length + val b := by
  have key : ∀ n : Nat, ∀ b : List Nat, b.length = n → val (a ++ b) = val a * 16 ^ b.length + val b := by
    intro n
    induction n with
    | zero => intro b hb; rw [List.eq_nil_of_length_eq_zero hb]; simp [val]
    | succ n ih =>
      intro b hb
      rcases List.eq_nil_or_concat b with rfl | ⟨c, d, rfl⟩
      · simp at hb
      · rw [List.concat_eq_append] at hb ⊢
        rw [← List.append_assoc, val_snoc, val_snoc, ih c (by simpa using hb), List.length_append, List.length_singleton, Nat.pow_succ]
        rw [Nat.add_mul, Nat.mul_assoc]; omega
  exact fun b => key _ b rfl
theorem val_cons (d : Nat) (l : List Nat) : val (d :: l) = d * 16 ^ l.length + val l := by
  have := val_append [d] l
  simpa [val] using this
theorem val_lt15 : ∀ l : List Nat, (∀ d ∈ l, d ≤ 14) → 15 * val l + 14 ≤ 14 * 16 ^ l.length
  | [], _ => by simp [val]
  | d :: l, h => by
    have ih := val_lt15 l (fun c hc => h c (List.mem_cons_of_mem _ hc))
    have hd := h d List.mem_cons_self
    rw [val_cons, List.length_cons, Nat.pow_succ]
    have : d * 16 ^ l.length ≤ 14 * 16 ^ l.length := Nat.mul_le_mul_right _ hd
    omega
theorem val_pos : ∀ l : List Nat, l ≠ [] → (∀ d ∈ l, 1 ≤ d) → 1 ≤ val l := by
  intro l hl h
  rcases List.eq_nil_or_concat l with rfl | ⟨c, d, rfl⟩
  · exact absurd rfl hl
  · rw [List.concat_eq_append, val_snoc]
    have := h d (by simp)
    omega
/-- Int2AP's letters are the figures' -/
theorem ap_val : ∀ (n : Nat) (l : List Nat), l.length = n → (∀ d ∈ l, 1 ≤ d ∧ d ≤ 15) → apN (val l) = l.map fun d => UInt8.ofNat (65 + d) := by
  intro n
  induction n with
  | zero =>
    intro l hl _
    rw [List.eq_nil_of_length_eq_zero hl, apN_eq]
    simp [val]
  | succ n ih =>
    intro l hl h
    rcases List.eq_nil_or_concat l with rfl | ⟨c, d, rfl⟩
    · simp at hl
    · rw [List.concat_eq_append] at hl h ⊢
      have hd := h d (by simp)
      rw [val_snoc, apN_eq, dif_neg (by omega)]
      rw [show (val c * 16 + d) / 16 = val c by omega, show (val c * 16 + d) % 16 = d by omega, ih c (by simpa using hl) (fun e he => h e (by simp [he]))]
      simp
def rot : Nat → List Nat → List Nat
  | 0, D => D
  | _ + 1, [] => []
  | n + 1, d :: D => rot n (D ++ [d])
theorem rot_len : ∀ (n : Nat) (D : List Nat), (rot n D).length = D.length
  | 0, D => rfl
  | n + 1, [] => rfl
  | n + 1, d :: D => by rw [rot, rot_len n (D ++ [d])]; simp
theorem rot_mem : ∀ (n : Nat) (D : List Nat) (c : Nat), c ∈ rot n D → c ∈ D
  | 0, D, c, h => h
  | n + 1, [], c, h => h
  | n + 1, d :: D, c, h => by
    have := rot_mem n (D ++ [d]) c h
    simp at this ⊢
    exact this.symm
theorem cyc_mem : ∀ (n : Nat) (D : List Nat) (c : Nat), c ∈ cyc n D → c ∈ D
  | 0, D, c, h => by simp [cyc] at h
  | n + 1, [], c, h => by simp [cyc] at h
  | n + 1, d :: D, c, h => by
    rw [cyc] at h
    rcases List.mem_cons.mp h with rfl | h
    · exact List.mem_cons_self
    · have := cyc_mem n (D ++ [d]) c h
      simp at this ⊢
      exact this.symm
/-- the long division -/
theorem long_div : ∀ (W : Nat) (D : List Nat), D ≠ [] → 16 ^ W * val D + val (cyc W D) = val (cyc W D) * 16 ^ D.length + val (rot W D)
  | 0, D, _ => by simp [cyc, rot, val]
  | W + 1, [], h => absurd rfl h
  | W + 1, d :: D, _ => by
    have ih := long_div W (D ++ [d]) (by simp)
    rw [cyc, rot, val_cons d (cyc W (D ++ [d])), cyc_len W _ (by simp), val_cons]
    rw [val_snoc, List.length_append, List.length_singleton, Nat.pow_succ] at ih
    rw [List.length_cons, Nat.pow_succ, Nat.pow_succ]
    generalize hp : 16 ^ W = P at *
    generalize hq : 16 ^ D.length = K at *
    generalize hv : val (cyc W (D ++ [d])) = V at *
    generalize val (rot W (D ++ [d])) = R at *
    generalize val D = v at *
    have e1 : P * 16 * (d * K + v) = d * P * (K * 16) + P * (v * 16) := by
      rw [Nat.mul_add, Nat.mul_assoc P 16, Nat.mul_assoc P 16 v, Nat.mul_comm 16 v, Nat.mul_comm d P, Nat.mul_assoc P d]
      congr 2
      rw [Nat.mul_left_comm, Nat.mul_comm 16 K]
    have e2 : P * (v * 16 + d) = P * (v * 16) + d * P := by rw [Nat.mul_add, Nat.mul_comm P d]
    rw [e1, Nat.add_mul]
    omega
theorem head_nat {W : Nat} {D : List Nat} (hD : D ≠ []) (h : ∀ d ∈ D, d ≤ 14) : (16 ^ W * val D) / (16 ^ D.length - 1) = val (cyc W D) := by
  have e := long_div W D hD
  have hr := val_lt15 (rot W D) (fun d hd => h d (rot_mem _ _ _ hd))
  rw [rot_len] at hr
  have hk : 16 ≤ 16 ^ D.length := by
    have := Nat.pow_le_pow_right (n := 16) (by decide) (List.length_pos_iff.mpr hD)
    simpa using this
  obtain ⟨K, hK⟩ : ∃ K, 16 ^ D.length = K + 1 := ⟨16 ^ D.length - 1, by omega⟩
  rw [hK] at e hr hk ⊢
  rw [Nat.add_sub_cancel]
  rw [Nat.mul_add, Nat.mul_one] at e
  rw [show 16 ^ W * val D = K * val (cyc W D) + val (rot W D) by rw [Nat.mul_comm K]; omega, Nat.mul_add_div (by omega), Nat.div_eq_of_lt (by omega), Nat.add_zero]
theorem rep_succ (m : Nat) (D : List Nat) : rep (m + 1) D = D ++ rep m D := by simp [rep, List.replicate_succ]
theorem rep_val (D : List Nat) : ∀ m, val (rep m D) * 16 ^ D.length + val D = val D * 16 ^ (D.length * m) + val (rep m D)
  | 0 => by simp [rep, val]
  | m + 1 => by
    have ih := rep_val D m
    rw [rep_succ, val_append, rep_len, Nat.mul_comm m, Nat.mul_succ, Nat.pow_add]
    generalize 16 ^ (D.length * m) = P at *
    generalize 16 ^ D.length = K at *
    rw [Nat.add_mul, ← Nat.mul_assoc]
    omega
theorem tail_nat {W : Nat} {D : List Nat} (hD : D ≠ []) : (val D * (16 ^ (D.length * W) - 1)) / (16 ^ D.length - 1) = val (rep W D) := by
  have e := rep_val D W
  have hk : 16 ≤ 16 ^ D.length := by
    have := Nat.pow_le_pow_right (n := 16) (by decide) (List.length_pos_iff.mpr hD)
    simpa using this
  have hp : 1 ≤ 16 ^ (D.length * W) := Nat.pow_pos (by decide)
  obtain ⟨K, hK⟩ : ∃ K, 16 ^ D.length = K + 1 := ⟨16 ^ D.length - 1, by omega⟩
  obtain ⟨P, hP⟩ : ∃ P, 16 ^ (D.length * W) = P + 1 := ⟨16 ^ (D.length * W) - 1, by omega⟩
  rw [hK, hP] at e
  rw [hK] at hk
  rw [hK, hP, Nat.add_sub_cancel, Nat.add_sub_cancel]
  rw [Nat.mul_add, Nat.mul_one, Nat.mul_add, Nat.mul_one] at e
  rw [show val D * P = val (rep W D) * K by omega, Nat.mul_div_cancel _ (by omega)]
theorem rep_rev (D : List Nat) (m : Nat) : (rep m D).reverse = rep m D.reverse := by
  rw [← rep_true D [], cat_rev, List.reverse_replicate, rep_true]
/-- the last W letters of the word said over and over -/
theorem rep_end {W : Nat} {D : List Nat} (hD : D ≠ []) : ∃ A, rep W D = A ++ (cyc W D.reverse).reverse := by
  obtain ⟨t, e⟩ := cyc_preW W (rev_ne hD)
  rw [← rep_rev] at e
  have := congrArg List.reverse e
  rw [List.reverse_reverse, List.reverse_append] at this
  exact ⟨_, this.symm⟩
theorem val_mod {A B : List Nat} (hB : ∀ d ∈ B, d ≤ 14) : val (A ++ B) % 16 ^ B.length = val B := by
  rw [val_append, Nat.mul_comm, Nat.mul_add_mod]
  have := val_lt15 B hB
  exact Nat.mod_eq_of_lt (by omega)
theorem tail_nat' {W : Nat} {D : List Nat} (hD : D ≠ []) (h : ∀ d ∈ D, d ≤ 14) : (val D * (16 ^ (D.length * W) - 1)) / (16 ^ D.length - 1) % 16 ^ W = val (cyc W D.reverse).reverse := by
  rw [tail_nat hD]
  obtain ⟨A, e⟩ := rep_end (W := W) hD
  rw [e]
  have := val_mod (A := A) (B := (cyc W D.reverse).reverse) (fun d hd => h d (by
    have := cyc_mem _ _ _ (List.mem_reverse.mp hd)
    exact List.mem_reverse.mp this))
  rw [List.length_reverse, cyc_len _ _ (rev_ne hD)] at this
  exact this
theorem cyc_map (f : Nat → Nat) : ∀ (n : Nat) (D : List Nat), cyc n (D.map f) = (cyc n D).map f
  | 0, _ => rfl
  | n + 1, [] => rfl
  | n + 1, d :: D => by
    show f d :: cyc n (D.map f ++ [f d]) = f d :: (cyc n (D ++ [d])).map f
    rw [← cyc_map f n (D ++ [d]), List.map_append]; rfl
end Mine
end
section
open PySem PySem.W PyProof.Rows
set_option linter.unusedVariables false
set_option maxRecDepth 100000
set_option maxHeartbeats 4000000
namespace Mine
open PySem.Builtin PySem.Builtin.Str PySem.StrLaws in
theorem occ_empty (x y : Str) (lo hi : Nat) (hy : y.length = 0) (h : lo ≤ hi) : ∃ r, occurrences x y lo hi 1 = lo :: r := by
  rw [occ_eq]
  obtain ⟨m, rfl⟩ : ∃ m, hi = lo + m := ⟨hi - lo, by omega⟩
  have e : lo + m + 1 - lo = m + 1 := by omega
  rw [e, List.range'_succ, List.forIn_cons]
  unfold occBody
  have hs : subAt x y lo = true := by
    rw [subAt_eq]
    rw [hy]
    have : y.cps.toList = [] := by
      obtain ⟨⟨l⟩⟩ := y
      cases l with
      | nil => rfl
      | cons a l => simp [Str.length] at hy
    rw [this]
    simp
  rw [if_pos ⟨⟨⟨by simp, by simp⟩, by omega⟩, hs⟩]
  have hk := occ_head_keeps x y (lo + m) 1 lo (List.range' (lo + 1) m) (#[lo], lo + y.length) (by simp)
  generalize hA : (forIn (List.range' (lo + 1) m) (#[lo], lo + y.length) (occBody x y (lo + m) 1)).run.fst = arr at hk
  have h1 : arr.toList[0]? = some lo := by simpa using hk
  have hB : (do
      let r ← (pure (ForInStep.yield ((#[] : Array Nat).push lo, lo + y.length)) : Id _)
      match r with
      | ForInStep.done b => pure b
      | ForInStep.yield b => forIn (List.range' (lo + 1) m) b (occBody x y (lo + m) 1)).run.fst = arr := hA
  refine ⟨arr.toList.tail, ?_⟩
  show (do
      let r ← (pure (ForInStep.yield ((#[] : Array Nat).push lo, lo + y.length)) : Id _)
      match r with
      | ForInStep.done b => pure b
      | ForInStep.yield b => forIn (List.range' (lo + 1) m) b (occBody x y (lo + m) 1)).run.fst.toList = _
  rw [hB]
  cases hL : arr.toList with
  | nil => rw [hL] at h1; cases h1
  | cons b t => rw [hL] at h1; simp at h1; rw [h1]; rfl
open PySem.Builtin PySem.Builtin.Str in
theorem gives_find4 (x y : Str) (i j : Int) (t u v z : Tok) : Gives («str.find» ⟨[.str x t, .str y u, .int i v, .int j z], []⟩) (.int (match occurrences x y (fromIndex x.length i) (min (fromIndex x.length j) x.length) 1 with | k :: _ => (k : Int) | [] => -1)) := by
  show Gives (match occurrences x y (fromIndex x.length i) (min (fromIndex x.length j) x.length) 1 with | k :: _ => retInt k | [] => (do rule "str.find.not-found"; retInt (-1))) _
  cases occurrences x y (fromIndex x.length i) (min (fromIndex x.length j) x.length) 1 with
  | nil => exact .rule (.of_eq rfl)
  | cons k _ => exact .of_eq rfl
theorem find4e {prog : Program} {w : World} {A : Around} {E : Value → Shared → Prop} {s : Shared} {x y : Str} {t u v z : Tok} {i j : Int} {Q : Value → Shared → Prop}
    (hy : y.length = 0) (h0 : 0 ≤ i) (h1 : i ≤ j) (h2 : j ≤ x.length)
    (hq : ∀ t', Q (.int i t') { s with toks := s.toks + 1 }) : wpAny (model prog w) A (call (.builtin "str.find") [.str x t, .str y u, .int i v, .int j z]) Q E s := by
  refine call_gives F.slot_str_find (typeIs_str _ _ _) F.entry_str_find (F.args_str_find_4 _ _ _ _) (gives_find4 x y i j t u v z) ?_
  have ei : fromIndex x.length i = i.toNat := by unfold fromIndex; rw [if_neg (by omega)]; congr 1; omega
  have ej : min (fromIndex x.length j) x.length = j.toNat := by unfold fromIndex; rw [if_neg (by omega)]; omega
  rw [ei, ej]
  obtain ⟨r, hr⟩ := occ_empty x y i.toNat j.toNat hy (by omega)
  rw [hr]
  show Q (.int ((i.toNat : Nat) : Int) _) _
  rw [Int.toNat_of_nonneg h0]
  exact hq _
end Mine
end
theorem Mine.fresh_6 : True ∧ True := by first | (walk1 <;> trivial) | exact ⟨trivial, trivial⟩
section
open PySem PySem.W PyProof.Rows
set_option linter.unusedVariables false
set_option maxRecDepth 100000
set_option maxHeartbeats 4000000
namespace Mine
def Held (P : Prop) : Prop := P
theorem split2 {prog : Program} {w : World} {A : Around} {E : Value → Shared → Prop} {s : Shared} {h₀ : Heap} {L : Addr} {m : Str → Option Value} {news : List (Addr × Obj)} {x y a b : Str} {t u : Tok} {Q : Value → Shared → Prop}
    (hF : Fr h₀ L s.heap m) (hN : News h₀ L s.heap news) (hy : (y.length == 0) = false) (e : Txt.split x y = [a, b])
    (h : ∀ t1 t2 l' h' k, Fr h₀ L h' m → News h₀ L h' ((l', { cls := .type "list", data := .seq #[.str a t1, .str b t2] }) :: news) → (∀ p ∈ news, p.1 < l') → Q (.ref l') { s with heap := h', toks := k }) (hsz : x.length + 2 ≤ sizeLine) :
    wpAny (model prog w) A (call (.builtin "str.split") [.str x t, .str y u]) Q E s :=
  splitN1A hF hN hy (fun l h' k el _ _ _ F N => by
    rw [e] at el
    obtain ⟨⟨a', t1⟩, ⟨b', t2⟩, rfl, e1, e2⟩ : ∃ p q, l = [p, q] ∧ p.1 = a ∧ q.1 = b := by
      match l, el with
      | [p, q], el => exact ⟨p, q, rfl, by simpa using (List.cons.inj el).1, by simpa using (List.cons.inj (List.cons.inj el).2).1⟩
    dsimp only at e1 e2
    subst e1 e2
    exact h t1 t2 _ h' k F N (fun p hp => Heap.lt_size (hN p hp).1)) hsz
local macro_rules | `(tactic| walk_at "call builtin:str.split") => `(tactic| (k_here; k_dflt (refine' split2 ?k1 ?k2 ?k3 ?k4 ?_ ?k5; (case k1 => k_asm); (case k2 => k_asm); (case k3 => decide); (case k4 => assumption); (case k5 => assumption); k_whole); intro _ _ l' h' k' F' N' l1; (try k_lt l1)))
def emB (a b y : Str) : Bool := Txt.startswith y a && Txt.endswith y b && decide (a.length + b.length ≤ y.length)
theorem sw_empty {a y : Str} (h : (a.length : Int) = 0) : Txt.startswith y a = true := by
  have h' : a.length = 0 := by omega
  have : a.cps.toList = [] := by
    obtain ⟨⟨l⟩⟩ := a
    cases l with
    | nil => rfl
    | cons c l => simp [Str.length] at h'
  unfold Txt.startswith
  rw [StrLaws.subAt_eq, this, h']
  simp
theorem ew_empty {a y : Str} (h : (a.length : Int) = 0) : Txt.endswith y a = true := by
  have h' : a.length = 0 := by omega
  have : a.cps.toList = [] := by
    obtain ⟨⟨l⟩⟩ := a
    cases l with
    | nil => rfl
    | cons c l => simp [Str.length] at h'
  unfold Txt.endswith
  rw [StrLaws.subAt_eq, this, h']
  simp
theorem emB_true {a b y : Str} (h1 : (a.length : Int) = 0 ∨ Txt.startswith y a = true) (h2 : (b.length : Int) = 0 ∨ Txt.endswith y b = true) (h3 : a.length + b.length ≤ y.length) : emB a b y = true := by
  have e1 : Txt.startswith y a = true := h1.elim sw_empty id
  have e2 : Txt.endswith y b = true := h2.elim ew_empty id
  unfold emB
  rw [e1, e2]
  simpa using h3
theorem emB_false {a b y : Str} (h : Txt.startswith y a = false ∨ Txt.endswith y b = false ∨ y.length < a.length + b.length) : emB a b y = false := by
  unfold emB
  rcases h with h | h | h
  · rw [h]; rfl
  · rw [h]; simp
  · rw [decide_eq_false (by omega)]; simp
theorem back_news {h₀ h g' h' : Heap} {L L' : Addr} {news : List (Addr × Obj)} {m' : Str → Option Value} (hN0 : Held (News h₀ L h news)) (kG : Held (∀ b o, h.get? b = some o → g'.get? b = some o)) (F : Fr g' L' h' m') : News h₀ L h' news :=
  News.grown hN0 (fun b o e => F.keep _ _ (kG b o e))
theorem em_end {h₀ : Heap} {L : Addr} {m : Str → Option Value} {news : List (Addr × Obj)} {Q : Value → Shared → Prop} {s : Shared} {v v' : Bool} {h' : Heap} {tk' : Nat} (e : v = v')
    (hret : ∀ (t : Tok) (h' : Heap) (tk' : Nat), Fr h₀ L h' m → News h₀ L h' news → Q (Value.bool v) { heap := h', gens := s.gens, drawn := s.drawn, toks := tk', os := s.os }) (kF : Fr h₀ L h' m) (kN : News h₀ L h' news) :
    Q (Value.bool v') { heap := h', gens := s.gens, drawn := s.drawn, toks := tk', os := s.os } := e ▸ hret 0 h' tk' kF kN
local macro_rules | `(tactic| walk_at "call builtin:str.find") => `(tactic| (k_here; k_dflt (refine' find4e ?k1 ?k2 ?k3 ?k4 ?_; (case k1 => omega); (case k2 => omega); (case k3 => omega); (case k4 => omega); k_whole); intro _))
theorem c_em {w : World} {mean : ExcName → Option Value} {mg mb : Str → Option Value} (news : List (Addr × Obj)) (a b x y : Str) (t u : Tok)  :
    CbClaim PySem.Challenge.rw_uy0010_01.prog w (KK w.params) qv looseL mean mg mb 85 news [] (a.length ≤ 1000 ∧ b.length ≤ 1000 ∧ y.length ≤ 1000 ∧ (Builtin.Str.occurrences x (Str.ofString "...") 0 x.length 1).isEmpty = false ∧ Txt.split x (Str.ofString "...") = [a, b] ∧ x.length ≤ 3000) [.str x t, .str y u] (fun _ => .bool (emB a b y)) := by
  k_fill
  dsimp only [CbClaim, CbLists, CbRet]
  intro dp un gd cn cs a0 ccd cl outer A₀ base h₀ L m s Q E hB hF hX hN hT hcs hpre hdp hun hret
  have hN0 : Held (News h₀ L s.heap news) := hN
  clear hN
  have hH0 : Held (∀ b o, s.heap.get? b = some o → s.heap.get? b = some o) := fun _ _ e => e
  refine wpAny_call ?_
  k_dflt (
    refine' code_defG (binds := [(Str.ofString "want", .str x t), (Str.ofString "got", .str y u)]) ?k1 ?k2 ?k3 ?k4 ?k5 ?kA ?kF ?kK ?k6 ?k7 ?k8 ?k9 ?kB ?_ ?c2 ?c3 ?c4 ?c5
    (case kA => exact rfl); (case kF => exact rfl); (case kK => assumption); (case k1 => k_asm); (case k2 => k_asm); (case k3 => k_asm); (case k4 => exact News.nil); (case k5 => k_asm)
    (case k6 => k_is); (case k7 => k_is); (case k8 => ktr_room); (case k9 => exact BindsTo.of_eq rfl); (case c5 => decide); (case kB => exact locs rfl); (case c2 => exact rfl); (case c3 => exact rfl); (case c4 => exact rfl)
    k_whole
    intro g' L' h' FG' F' N' B' X' T' kG
    replace kG : Held (∀ b o, s.heap.get? b = some o → g'.get? b = some o) := fun b o e => kG b o e (by simp)
    (try dsimp only)
    (try k_lift B')
    (try k_fold))
  obtain ⟨ha, hb, hy, hocc, hsp, hxl⟩ := hpre
  have hsz2 : x.length + 2 ≤ sizeLine := by rw [sizeLine_eq]; omega
  k_steps
  all_goals first
    | exact (0 : Int)
    | (rename (_ : Int) ∈ ([] : List Int) => hm; exact absurd hm List.not_mem_nil)
    | (rename _ ∈ [] => hm; exact absurd hm List.not_mem_nil)
    | (refine em_end (emB_true ?_ ?_ ?_) hret ?_ ?_
       (first | (left; assumption) | (right; assumption)); (first | (left; assumption) | (right; assumption)); omega; assumption; exact back_news hN0 kG (by assumption))
    | (refine em_end (emB_false ?_) hret ?_ ?_
       (first | (left; assumption) | (right; left; assumption) | (right; right; omega)); assumption; exact back_news hN0 kG (by assumption))
    | trace_state
end Mine
end
theorem Mine.fresh_7 : True ∧ True := by first | (walk1 <;> trivial) | exact ⟨trivial, trivial⟩
section
open PySem PySem.W PyProof.Rows
set_option linter.unusedVariables false
set_option maxRecDepth 100000
set_option maxHeartbeats 4000000
namespace Mine
theorem c_em0 {w : World} {mean : ExcName → Option Value} {mg mb : Str → Option Value} (news : List (Addr × Obj)) (x y : Str) (t u : Tok) :
    CbClaim PySem.Challenge.rw_uy0010_01.prog w (KK w.params) qv looseL mean mg mb 85 news [] ((Builtin.Str.occurrences x (Str.ofString "...") 0 x.length 1).isEmpty = true) [.str x t, .str y u] (fun _ => .bool (x == y)) := by
  k_fill
  dsimp only [CbClaim, CbLists, CbRet]
  intro dp un gd cn cs a0 ccd cl outer A₀ base h₀ L m s Q E hB hF hX hN hT hcs hpre hdp hun hret
  refine wpAny_call ?_
  k_dflt (
    refine' code_def (binds := [(Str.ofString "want", .str x t), (Str.ofString "got", .str y u)]) ?k1 ?k2 ?k3 ?k4 ?k5 ?kA ?kF ?kK ?k6 ?k7 ?k8 ?k9 ?kB ?_ ?c2 ?c3 ?c4 ?c5
    (case kA => exact rfl); (case kF => exact rfl); (case kK => assumption); (case k1 => k_asm); (case k2 => k_asm); (case k3 => k_asm); (case k4 => k_asm); (case k5 => k_asm)
    (case k6 => k_is); (case k7 => k_is); (case k8 => ktr_room); (case k9 => exact BindsTo.of_eq rfl); (case c5 => decide); (case kB => exact locs rfl); (case c2 => exact rfl); (case c3 => exact rfl); (case c4 => exact rfl)
    k_whole
    intro g' L' h' FG' F' N' B' X' T'
    (try dsimp only)
    (try k_lift B')
    (try k_fold))
  k_steps
  all_goals (try cb_end hret)
  all_goals trace_state
end Mine
end
section
open PySem PySem.W PyProof.Rows
set_option linter.unusedVariables false
set_option maxRecDepth 100000
set_option maxHeartbeats 4000000
namespace Mine
noncomputable abbrev lawE (L fa : Addr) (cd : Value) : Env := envOfC (Str.ofString "law") (fS 15) L fa cd
def isCell (o : Obj) (v : Option Value) : Prop := o.data = Data.cell v
/-- what is left of the law's call once its frame stands -/
def LawBody : Prop :=
  ∀ (w : World) (mean : ExcName → Option Value) (mg mb : Str → Option Value) (h₀ : Heap) (fa ca la : Addr) (vs : List Value) (ns : List Int) (c8 c7 c6 c5 c4 c3 c2 c1 : Obj) (s : Shared) (Q : Flow → Shared → Prop) (E : Value → Shared → Prop),
    (KK w.params).In h₀ → Top qv looseL mean mg mb h₀ → h₀.IsList la vs.toArray → IntsAre vs ns → ns.length ≤ 63 → Fr h₀ h₀.objs.size s.heap (fun _ => none) →
    News h₀ h₀.objs.size s.heap [(h₀.objs.size + 1 + 1 + 1 + 1 + 1 + 1 + 1 + 1, c8), (h₀.objs.size + 1 + 1 + 1 + 1 + 1 + 1 + 1, c7), (h₀.objs.size + 1 + 1 + 1 + 1 + 1 + 1, c6), (h₀.objs.size + 1 + 1 + 1 + 1 + 1, c5),
      (h₀.objs.size + 1 + 1 + 1 + 1, c4), (h₀.objs.size + 1 + 1 + 1, c3), (h₀.objs.size + 1 + 1, c2), (h₀.objs.size + 1, c1)] →
    c8.data = .cell none → c7.data = .cell none → c6.data = .cell none → c5.data = .cell none → c4.data = .cell none → c3.data = .cell none → c2.data = .cell none → c1.data = .cell (some (.ref la)) →
    PassesOwn (model PySem.Challenge.rw_uy0010_01.prog w) (callerA.deeper (lawE h₀.objs.size fa (.ref ca))) (lawE h₀.objs.size fa (.ref ca)) E →
    (∀ L' m' h' tk', Fr h₀ L' h' m' → Q (.ret (.bool true)) { s with heap := h', toks := tk' }) →
    wpAny (model PySem.Challenge.rw_uy0010_01.prog w) (callerA.deeper (lawE h₀.objs.size fa (.ref ca))) (execs (fB 15) (lawE h₀.objs.size fa (.ref ca))) Q E s
end Mine
end
section
open PySem PySem.Calls PyProof.Rows PyProof.Rows.LCg PySem.Spec PySem.W
set_option linter.unusedVariables false
set_option maxRecDepth 100000
set_option maxHeartbeats 4000000
namespace Mine
section
variable {prog : Program} {w : World} {A : Around} {E : Value → Shared → Prop} {s : Shared}
/-- the tests of a clause, as a turn runs them -/
abbrev zTests (ifs : List Expr) (env : Env) : Sem Bool :=
  forIn ifs true fun c r => if r = true then do let ok ← isTrue c env (eval c env); pure (ForInStep.yield ok) else pure (ForInStep.yield r)
theorem z_loop {elt target iter : Expr} {ifs : List Expr} {scope : Scope} {pos : Pos} {it acc : Value} {env : Env} {R : Result → Shared → Prop} (I : Nat → Shared → Prop)
    (turn : ∀ n s, I n s → wpAny (model prog w) A (pyNext it) (fun r s₁ => match r with
      | none => R (.ok .next) s₁
      | some v => wpAny (model prog w) A (letOwnedTupleGo target it v) (fun _ s₀ => wpAny (model prog w) A (assign target env v) (fun _ s₂ =>
          wpAny (model prog w) A (zTests ifs env) (fun ok s₃ =>
            if ok = true then wpAny (model prog w) A (eval elt env) (fun x s₄ =>
              wpAny (model prog w) A (call (.builtin "list.append") [acc, x]) (fun _ s₅ => ∃ m, m < n ∧ I m s₅) (notedBy (model prog w) A env fun e s' => R (.error e) s') s₄) (notedBy (model prog w) A env fun e s' => R (.error e) s') s₃
            else ∃ m, m < n ∧ I m s₃) (notedBy (model prog w) A env fun e s' => R (.error e) s') s₂) (notedBy (model prog w) A env fun e s' => R (.error e) s') s₀) (notedBy (model prog w) A env fun e s' => R (.error e) s') s₁)
        (notedBy (model prog w) A env fun e s' => R (.error e) s') s)
    (n : Nat) (h : I n s) : codeAny (model prog w) A (.compLoop (.ListComp elt [⟨target, iter, ifs, 0⟩] scope pos) 0 it acc env) R s := by
  refine codeAny_loop rfl I (fun n s hI => ?_) n h
  show wpAny _ A ((compTurn (.ListComp elt [⟨target, iter, ifs, 0⟩] scope pos) 0 it acc env).onRaise (fun x => do noteFrame x env; theTreesLotGoes x)) _ _ s
  refine wpAny_noted ?_
  rw [compTurn_list]
  refine wpAny_bind (wpAny_standAt (wpAny_bind (wpAny_mono (turn n s hI) (fun r s₁ h₁ => ?_) fun _ _ h' => h')))
  cases r with
  | none => exact wpAny_pure h₁
  | some v =>
    refine wpAny_bind (wpAny_mono h₁ (fun _ s₀ h₀ => ?_) fun _ _ h' => h')
    refine wpAny_bind (wpAny_mono h₀ (fun _ s₂ h₂ => wpAny_bind (wpAny_mono h₂ (fun ok s₃ h₃ => ?_) fun _ _ h' => h')) fun _ _ h' => h')
    cases ok with
    | false => exact wpAny_pure ⟨rfl, h₃⟩
    | true => exact wpAny_bind (wpAny_bind (wpAny_mono h₃ (fun x s₄ h₄ => wpAny_bind (wpAny_mono h₄ (fun _ s₅ h₅ => wpAny_pure (wpAny_pure ⟨rfl, h₅⟩)) fun _ _ h' => h')) fun _ _ h' => h'))
end
/-- a source: its next value bound to the target's names -/
structure ZSrc (prog : Program) (w : World) (A : Around) (I : Addr) (target : Expr) (names : List Str) (n : Nat) (fp wr : List Addr) (St : Nat → Heap → Prop) (B : Nat → (Str → Option Value) → Prop) : Prop where
  sub : ∀ b ∈ wr, b ∈ fp
  frame : ∀ i h h', St i h → (∀ b ∈ fp, ∀ o, h.get? b = some o → h'.get? b = some o) → St i h'
  objs : ∀ i h, St i h → ∀ b ∈ fp, ∃ o, h.get? b = some o
  item : ∀ (cenv : Env) (m' : Str → Option Value) (i : Nat) (s : Shared) (Q : Shared → Prop) (E : Value → Shared → Prop), i < n → St i s.heap → (∀ y ∈ names, cenv.kindOf y = some .local) →
    (cenv.scope.kind == .class || (cenv.scope.kind == .module && cenv.locals != cenv.globals)) = false → s.heap.Ns cenv.locals m' → cenv.locals ∉ fp →
    (∀ h' tk m₂, B i m₂ → h'.Ns cenv.locals m₂ → St (i + 1) h' → (∀ b o, b ∉ wr → b ≠ cenv.locals → s.heap.get? b = some o → h'.get? b = some o) → Q { s with heap := h', toks := tk }) →
    ∀ (X : Option Value → Shared → Prop), (∀ v s₁, wpAny (model prog w) A (letOwnedTupleGo target (.ref I) v) (fun _ s₀ => wpAny (model prog w) A (assign target cenv v) (fun _ s₂ => Q s₂) E s₀) E s₁ → X (some v) s₁) →
      wpAny (model prog w) A (pyNext (.ref I)) X E s
  done : ∀ (s : Shared) (Q : Option Value → Shared → Prop) (E : Value → Shared → Prop), St n s.heap →
    (∀ h' tk, (∀ b o, b ∉ wr → s.heap.get? b = some o → h'.get? b = some o) → Q none { s with heap := h', toks := tk }) → wpAny (model prog w) A (pyNext (.ref I)) Q E s
  self : ∀ i (s : Shared) (Q : Value → Shared → Prop) (E : Value → Shared → Prop), St i s.heap → Q (.ref I) s → wpAny (model prog w) A (pyIter (.ref I)) Q E s
section
variable {prog : Program} {w : World} {A : Around}
theorem ZSrc.name {I : Addr} {fp wr : List Addr} {n : Nat} {P : Nat → Value → Prop} {St : Nat → Heap → Prop} (W : Walks prog w A I fp wr n P St) (hob : ∀ i h, St i h → ∀ b ∈ fp, ∃ o, h.get? b = some o) (x : Str) (px : Pos) :
    ZSrc prog w A I (.Name x px) [x] n fp wr St (fun i m₂ => ∃ v, P i v ∧ m₂ x = some v) where
  sub := W.sub
  frame := W.frame
  objs := hob
  done := W.done
  self := W.self
  item := fun cenv m' i s Q E hi st hk hp hn hC hQ X hX => by
    refine W.item i s X E hi st fun v h₁ tk hP hst hkp => hX _ _ ?_
    refine wpAny_of_eq (show letOwnedTupleGo (.Name x px) (.ref I) v = pure () from rfl) ?_
    have hCw : cenv.locals ∉ wr := fun h => hC (W.sub _ h)
    refine wpAny_assign_Name (wpAny_storeName_local (hk x List.mem_cons_self) (hn.at' fun o e => hkp _ o hCw e) (fun h₂ hn₂ hs₂ => ?_) hp)
    refine hQ h₂ _ _ ⟨v, hP, by simp⟩ hn₂ (W.frame _ _ _ hst fun b hb o e => hs₂.extBut b o (fun q => hC (q ▸ hb)) e) fun b o hb hbC e => hs₂.extBut b o hbC (hkp b o hb e)
theorem ZSrc.pair {I : Addr} {fp wr : List Addr} {n : Nat} {Pt : Nat → Array Value → Prop} {St : Nat → Heap → Prop} {Mid : Nat → Addr → Heap → Prop} (hh : A.handled = none) (W : WalksU prog w A I fp wr n Pt St Mid)
    (hob : ∀ i h, St i h → ∀ b ∈ fp, ∃ o, h.get? b = some o) (h2 : ∀ i vals, Pt i vals → ∃ x y, vals = #[x, y]) (a b : Str) (pa pb tp : Pos) (kk : Nat) (hab : a ≠ b) :
    ZSrc prog w A I (.Tuple [.Name a pa, .Name b pb] kk tp) [a, b] n fp wr St (fun i m₂ => ∃ x y, Pt i #[x, y] ∧ m₂ a = some x ∧ m₂ b = some y) where
  sub := W.sub
  frame := W.frame
  objs := hob
  done := W.done
  self := W.self
  item := fun cenv m' i s Q E hi st hk hp hn hC hQ X hX => by
    refine W.item i s X E hi st fun T vals h₁ tk hP hT hMid hkp => hX _ _ ?_
    obtain ⟨x, y, rfl⟩ := h2 i vals hP
    have hCw : cenv.locals ∉ wr := fun h => hC (W.sub _ h)
    refine W.go _ _ _ i T _ _ _ hMid fun h₂ hst hk₂ => ?_
    have hT₂ : h₂.IsTuple T #[x, y] := by
      obtain ⟨o, e, r⟩ := hT
      exact ⟨o, hk₂ T o (W.apart i T _ hMid) e, r⟩
    refine kcp_assign hh hT₂ (hk a List.mem_cons_self) (hk b (List.mem_cons_of_mem _ List.mem_cons_self)) hp ((hn.at' fun o e => hkp _ o hCw e).at' fun o e => hk₂ _ o hCw e) fun h₃ tk₃ hn₃ hs₃ => ?_
    refine hQ h₃ _ _ ⟨x, y, hP, by simp [hab], by simp⟩ hn₃ (W.frame _ _ _ hst fun c hc o e => hs₃ c o (fun q => hC (q ▸ hc)) e) fun c o hc hcC e => hs₃ c o hcC (hk₂ c o hc (hkp c o hc e))
end
end Mine
end
section
open PySem PySem.Calls PyProof.Rows PyProof.Rows.LCg PySem.Spec PySem.W
set_option linter.unusedVariables false
set_option maxRecDepth 100000
set_option maxHeartbeats 4000000
namespace Mine
/-- the iterators' own objects, those that the base does not hold -/
def zIters (h₀ h : Heap) (fp : List Addr) : List (Addr × Obj) :=
  fp.flatMap fun b => match h₀.get? b, h.get? b with | none, some o => [(b, o)] | _, _ => []
theorem mem_zIters {h₀ h : Heap} {fp : List Addr} {p : Addr × Obj} : p ∈ zIters h₀ h fp ↔ p.1 ∈ fp ∧ h₀.get? p.1 = none ∧ h.get? p.1 = some p.2 := by
  unfold zIters
  rw [List.mem_flatMap]
  constructor
  · rintro ⟨b, hb, hp⟩
    cases e1 : h₀.get? b with
    | some o => simp only [e1] at hp; cases hp
    | none =>
      cases e2 : h.get? b with
      | none => simp only [e1, e2] at hp; cases hp
      | some o =>
        simp only [e1, e2] at hp
        rw [List.mem_singleton] at hp
        subst hp
        exact ⟨hb, e1, e2⟩
  · rintro ⟨h1, h2, h3⟩
    refine ⟨p.1, h1, ?_⟩
    simp only [h2, h3]
    exact List.mem_singleton.mpr rfl
theorem zIters_kept {h₀ h h' : Heap} {L : Addr} {m : Str → Option Value} {fp : List Addr} {led : List (Addr × Obj)} (F' : Fr h₀ L h' m) (F : Fr h₀ L h m) (N' : News h₀ L h' led) (hs : ∀ p ∈ zIters h₀ h fp, p ∈ led) :
    ∀ b ∈ fp, ∀ o, h.get? b = some o → h'.get? b = some o := by
  intro b hb o e
  cases e0 : h₀.get? b with
  | some o' =>
    have z := F.keep b o' e0
    rw [z] at e
    cases e
    exact F'.keep b _ e0
  | none => exact (N' (b, o) (hs _ (mem_zIters.mpr ⟨hb, e0, e⟩))).1
section
variable {prog : Program} {w : World} {A : Around} {E : Value → Shared → Prop} {h₀ : Heap} {L : Addr} {m : Str → Option Value}
/-- what a turn shows: its test, then its element -/
def ZTurn (prog : Program) (w : World) (A : Around) (h₀ : Heap) (L : Addr) (m : Str → Option Value) (env : Env) (elt : Expr) (ifs : List Expr) (scope : Scope) (cl : List (Str × Addr)) (s : Shared) (B : Nat → (Str → Option Value) → Prop) (n : Nat)
    (J : Nat → List Value → List (Addr × Obj) → Prop) (news : List (Addr × Obj)) : Prop :=
  ∀ (i : Nat) (ys : List Value) (own led : List (Addr × Obj)) (C : Addr) (oC : Obj) (m₂ : Str → Option Value) (h : Heap) (tk : Nat) (E' : Value → Shared → Prop), i < n → J i ys own → B i m₂ → NsObj oC m₂ → Fr h₀ L h m → News h₀ L h led →
    (C, oC) ∈ led → (∀ p ∈ news, p ∈ led) → (∀ p ∈ own, p ∈ led) →
    wpAny (model prog w) A (zTests ifs (compEnvC scope cl C env)) (fun ok s₃ =>
      (ok = false ∧ ∃ h' tk', s₃ = { s with heap := h', toks := tk' } ∧ Fr h₀ L h' m ∧ News h₀ L h' led ∧ J (i + 1) ys own) ∨
      (ok = true ∧ wpAny (model prog w) A (eval elt (compEnvC scope cl C env)) (fun y s₄ => ∃ h' tk' own', s₄ = { s with heap := h', toks := tk' } ∧ Fr h₀ L h' m ∧ News h₀ L h' (own' ++ led) ∧
        (∀ p ∈ own', ∀ q ∈ led, p.1 ≠ q.1) ∧ J (i + 1) (ys ++ [y]) (own' ++ own)) E' s₃)) E' { s with heap := h, toks := tk }
theorem z_block {elt iter target : Expr} {ifs : List Expr} {scope : Scope} {cl : List (Str × Addr)} {pos : Pos} {env : Env} {s₂ : Shared} {I : Addr} {names : List Str} {fp wr : List Addr} {n : Nat} {St : Nat → Heap → Prop} {B : Nat → (Str → Option Value) → Prop}
    {news : List (Addr × Obj)} {RR : Value → Addr → Result → Shared → Prop} (Z : ZSrc prog w A I target names n fp wr St B) (J : Nat → List Value → List (Addr × Obj) → Prop)
    (hsz : n ≤ sizeLine) (hcell : ∀ y ∈ scope.names, y.2 ≠ .cell) (hkind : scope.kind = .function) (hnames : ∀ y ∈ names, scope.names.lookup y = some .local)
    (hst : St 0 s₂.heap) (hfp : ∀ b ∈ fp, b < s₂.heap.objs.size) (hfL : ∀ b ∈ fp, b ≠ L) (hwr0 : ∀ b ∈ wr, h₀.get? b = none)
    (F : Fr h₀ L s₂.heap m) (N : News h₀ L s₂.heap news) (off : ∀ p ∈ news, p.1 ∉ wr) (J0 : J 0 [] [])
    (turn : ZTurn prog w A h₀ L m env elt ifs scope cl s₂ B n J news)
    (hRR : ∀ D C h tk m' ys own, J n ys own → Fr h₀ L h m → News h₀ L h ((D, lst ys) :: (own ++ news)) → (∀ p ∈ own ++ news, p.1 ≠ D) → h.Ns C m' → h₀.get? C = none → C ≠ L → D ≠ C → (∀ p ∈ own ++ news, p.1 ≠ C) →
      s₂.heap.objs.size ≤ D → RR (.ref D) C (.ok .next) { s₂ with heap := h, toks := tk }) :
    wpAny (model prog w) A (newList []) (fun acc s₃ => wpAny (model prog w) A (newFunctionEnv scope env.globals cl [] env.qual none .none (some env)) (fun cenv s₄ =>
      codeAny (model prog w) A (.compStart (.ListComp elt [⟨target, iter, ifs, 0⟩] scope pos) 0 (.ref I) acc { cenv with scope := relabel scope env }) (RR acc cenv.locals) s₄) E s₃) E s₂ := by
  refine wpAny_newObj_type (wpAny_newFunctionEnv hcell (by intro y hy; simp at hy) (fun h₁ hns₁ hsb₁ => ?_) hkind)
  dsimp only at hns₁ hsb₁ ⊢
  generalize hH2 : s₂.heap.push { cls := .type "list", dict := none, data := .seq ([] : List Value).toArray } = H2 at hns₁ hsb₁ ⊢
  generalize hDe : s₂.heap.objs.size = D at *
  have hC : H2.objs.size = D + 1 := by rw [← hH2, Heap.size_push, hDe]
  generalize hCe : H2.objs.size = C at *
  have hDC : D ≠ C := by rw [hC]; exact Nat.ne_of_lt (Nat.lt_succ_self _)
  have below : ∀ b, b < D → b ≠ C ∧ b ≠ D := fun b hb => ⟨by rw [hC]; exact Nat.ne_of_lt (Nat.lt_succ_of_lt hb), Nat.ne_of_lt hb⟩
  have szLt : ∀ b o, s₂.heap.get? b = some o → b < D := fun b o e => hDe ▸ Heap.lt_size e
  have old : ∀ b o, s₂.heap.get? b = some o → h₁.get? b = some o := fun b o e => hsb₁.extBut b o (below b (szLt b o e)).1 (Heap.get?_push_of_some _ (hH2 ▸ Heap.get?_push_of_some _ e))
  have hacc : h₁.get? D = some (lst []) := hsb₁.extBut _ _ hDC (Heap.get?_push_of_some _ (by rw [← hH2, ← hDe]; exact Heap.get?_push_size _ rfl))
  have fresh₀ : ∀ a, D ≤ a → h₀.get? a = none := fun a ha => by
    cases e : h₀.get? a with
    | none => rfl
    | some o' => exact absurd (szLt _ _ (F.keep a o' e)) (Nat.not_lt.mpr ha)
  have hD₀ : h₀.get? D = none := fresh₀ _ (Nat.le_refl _)
  have hC₀ : h₀.get? C = none := fresh₀ _ (by rw [hC]; exact Nat.le_succ _)
  have hLlt : L < D := hDe ▸ F.ns.lt
  have hDL : D ≠ L := Ne.symm (below L hLlt).2
  have hCL : C ≠ L := Ne.symm (below L hLlt).1
  have hCf : C ∉ fp := fun hm => (below C (hfp C hm)).1 rfl
  have hDf : D ∉ fp := fun hm => (below D (hfp D hm)).2 rfl
  have hDw : D ∉ wr := fun h => hDf (Z.sub _ h)
  have hCw : C ∉ wr := fun h => hCf (Z.sub _ h)
  have hLw : L ∉ wr := fun h => hfL _ (Z.sub _ h) rfl
  have hst₁ : St 0 h₁ := Z.frame _ _ _ hst fun b _ o e => old b o e
  have loop : ∀ s₃ : Shared, s₃ = { s₂ with heap := h₁, toks := s₂.toks + ([] : List (Str × Value)).length } →
      codeAny (model prog w) A (.compLoop (.ListComp elt [⟨target, iter, ifs, 0⟩] scope pos) 0 (.ref I) (.ref D) (compEnvC scope cl C env)) (RR (.ref D) C) s₃ := by
    rintro s₃ rfl
    refine z_loop
      (fun k s' => ∃ h' tk i ys m' own, s' = { s₂ with heap := h', toks := tk } ∧ i ≤ n ∧ k = n + 1 - i ∧ ys.length ≤ i ∧ St i h' ∧ Fr h₀ L h' m ∧ h'.Ns C m' ∧ News h₀ L h' ((D, lst ys) :: (own ++ news)) ∧
        (∀ p ∈ own ++ news, p.1 ∉ wr ∧ p.1 ≠ C ∧ p.1 ≠ D) ∧ J i ys own) ?_ (n + 1)
      ⟨h₁, _, 0, [], _, [], rfl, Nat.zero_le _, rfl, Nat.le_refl _, hst₁, F.keeps old, hns₁, ?_, ?_, J0⟩
    · rintro k s' ⟨h', tk, i, ys, m', own, rfl, hi, rfl, hyl, hst', F', hn', N', off', hJ⟩
      by_cases hlt : i < n
      · refine Z.item (compEnvC scope cl C env) m' i _ _ _ hlt hst' (fun y hy => lookup_relabel_local (hnames y hy)) (by simp [compEnvC, relabel, hkind]) hn' hCf (fun h₃ tk₃ m₂ hB hn₃ hst₃ hk₃ => ?_) _ (fun v s₁ h => h)
        dsimp only at hk₃ hn₃ hst₃
        have hk₃' : ∀ b o, b ∉ wr → b ≠ C → h'.get? b = some o → h₃.get? b = some o := hk₃
        obtain ⟨oC, heC, hoC⟩ := ns_obj (show h₃.Ns C m₂ from hn₃)
        have F₃ : Fr h₀ L h₃ m := ⟨F'.ns.at' fun o e => hk₃' _ o hLw (Ne.symm hCL) e, fun c o e => hk₃' c o (fun q => by rw [hwr0 c q] at e; cases e) (fun q => by rw [q, hC₀] at e; cases e) (F'.keep c o e), F'.above⟩
        have N₃ : News h₀ L h₃ ((D, lst ys) :: (own ++ news)) := fun p hp => by
          have z := N' p hp
          refine ⟨hk₃' _ _ ?_ ?_ z.1, z.2⟩
          · rcases List.mem_cons.mp hp with rfl | hp
            · exact hDw
            · exact (off' p hp).1
          · rcases List.mem_cons.mp hp with rfl | hp
            · exact hDC
            · exact (off' p hp).2.1
        generalize hled : zIters h₀ h₃ fp ++ ((C, oC) :: (D, lst ys) :: (own ++ news)) = led
        have N₄ : News h₀ L h₃ led := by
          subst hled
          intro p hp
          rcases List.mem_append.mp hp with hp | hp
          · obtain ⟨a1, a2, a3⟩ := mem_zIters.mp hp
            exact ⟨a3, hfL _ a1, a2⟩
          · rcases List.mem_cons.mp hp with rfl | hp
            · exact ⟨heC, hCL, hC₀⟩
            · exact N₃ p hp
        have sI : ∀ p ∈ zIters h₀ h₃ fp, p ∈ led := fun p hp => hled ▸ List.mem_append_left _ hp
        have sR : ∀ p ∈ (C, oC) :: (D, lst ys) :: (own ++ news), p ∈ led := fun p hp => hled ▸ List.mem_append_right _ hp
        have fin : ∀ (ys' : List Value) (o' : List (Addr × Obj)) (h₅ : Heap) (tk₅ : Nat), ys'.length ≤ i + 1 → St (i + 1) h₅ → Fr h₀ L h₅ m → h₅.Ns C m₂ → News h₀ L h₅ ((D, lst ys') :: (o' ++ news)) → (∀ p ∈ o' ++ news, p.1 ∉ wr ∧ p.1 ≠ C ∧ p.1 ≠ D) → J (i + 1) ys' o' →
            ∃ q, q < n + 1 - i ∧ (∃ h' tk i ys m' own, ({ s₂ with heap := h₅, toks := tk₅ } : Shared) = { s₂ with heap := h', toks := tk } ∧ i ≤ n ∧ q = n + 1 - i ∧ ys.length ≤ i ∧ St i h' ∧ Fr h₀ L h' m ∧ h'.Ns C m' ∧ News h₀ L h' ((D, lst ys) :: (own ++ news)) ∧
              (∀ p ∈ own ++ news, p.1 ∉ wr ∧ p.1 ≠ C ∧ p.1 ≠ D) ∧ J i ys own) := fun ys' o' h₅ tk₅ a1 a2 a3 a4 a5 a6 a8 =>
          ⟨n + 1 - (i + 1), by omega, h₅, tk₅, i + 1, ys', m₂, o', rfl, hlt, rfl, a1, a2, a3, a4, a5, a6, a8⟩
        refine wpAny_mono (turn i ys own led C oC m₂ h₃ tk₃ _ hlt hJ hB hoC F₃ N₄ (sR _ List.mem_cons_self) (fun p hp => sR _ (List.mem_cons_of_mem _ (List.mem_cons_of_mem _ (List.mem_append_right _ hp)))) (fun p hp => sR _ (List.mem_cons_of_mem _ (List.mem_cons_of_mem _ (List.mem_append_left _ hp)))))
          (fun ok s₅ h₅ => ?_) fun _ _ e => e
        rcases h₅ with ⟨rfl, h₅, tk₅, rfl, F₅, N₅, J₅⟩ | ⟨rfl, h₅⟩
        · simp only [Bool.false_eq_true, if_false]
          have zC := (N₅ _ (sR _ List.mem_cons_self)).1
          exact fin ys own h₅ tk₅ (Nat.le_succ_of_le hyl) (Z.frame _ _ _ hst₃ (zIters_kept F₅ F₃ N₅ sI)) F₅ (hoC.ns zC) (fun p hp => N₅ p (sR p (List.mem_cons_of_mem _ hp))) off' J₅
        · simp only [if_true]
          refine wpAny_mono h₅ (fun y s₆ h₆ => ?_) fun _ _ e => e
          obtain ⟨h₆, tk₆, o₆, rfl, F₆, N₆, off₆, J₆⟩ := h₆
          have N₆' : News h₀ L h₆ led := fun p hp => N₆ p (List.mem_append_right _ hp)
          have zC := (N₆' _ (sR _ List.mem_cons_self)).1
          have zD := (N₆' _ (sR (D, lst ys) (List.mem_cons_of_mem _ List.mem_cons_self))).1
          refine append_at (hsz := by show ys.toArray.size ≤ sizeLine; rw [List.size_toArray]; exact Nat.le_trans hyl (Nat.le_trans hi hsz)) zD fun h₇ hs₇ hD₇ => ?_
          refine fin (ys ++ [y]) (o₆ ++ own) h₇ _ (by rw [List.length_append, List.length_singleton]; exact Nat.succ_le_succ hyl)
            (Z.frame _ _ _ (Z.frame _ _ _ hst₃ (zIters_kept F₆ F₃ N₆' sI)) fun b hb o e => hs₇.extBut b o (fun q => hDf (q ▸ hb)) e) (F₆.change hs₇ hDL hD₀) ((hoC.ns zC).sameBut hs₇ (Ne.symm hDC)) ?_ ?_ J₆
          · intro p hp
            rcases List.mem_cons.mp hp with rfl | hp
            · exact ⟨hD₇.trans (congrArg some (lst_snoc ys y)), hDL, hD₀⟩
            · rw [List.append_assoc] at hp
              rcases List.mem_append.mp hp with hp | hp
              · have z := N₆ p (List.mem_append_left _ hp)
                exact ⟨hs₇.extBut _ _ (off₆ p hp _ (sR (D, lst ys) (List.mem_cons_of_mem _ List.mem_cons_self))) z.1, z.2⟩
              · have z := N₆' p (sR p (List.mem_cons_of_mem _ (List.mem_cons_of_mem _ hp)))
                exact ⟨hs₇.extBut _ _ (off' p hp).2.2 z.1, z.2⟩
          · intro p hp
            rw [List.append_assoc] at hp
            rcases List.mem_append.mp hp with hp | hp
            · refine ⟨fun hw => ?_, off₆ p hp _ (sR _ List.mem_cons_self), off₆ p hp _ (sR (D, lst ys) (List.mem_cons_of_mem _ List.mem_cons_self))⟩
              obtain ⟨o, e⟩ := Z.objs _ _ hst₃ _ (Z.sub _ hw)
              exact off₆ p hp (p.1, o) (sI _ (mem_zIters.mpr ⟨Z.sub _ hw, hwr0 _ hw, e⟩)) rfl
            · exact off' p hp
      · have hin : i = n := Nat.le_antisymm hi (Nat.not_lt.mp hlt)
        subst hin
        refine Z.done _ _ _ hst' fun h₂ tk₂ hk₂ => ?_
        exact hRR D C h₂ tk₂ m' ys own hJ ⟨F'.ns.at' fun o e => hk₂ _ o hLw e, fun c o e => hk₂ c o (fun q => by rw [hwr0 c q] at e; cases e) (F'.keep c o e), F'.above⟩
          (fun p hp => by
            have z := N' p hp
            refine ⟨hk₂ _ _ ?_ z.1, z.2⟩
            rcases List.mem_cons.mp hp with rfl | hp
            · exact hDw
            · exact (off' p hp).1)
          (fun p hp => (off' p hp).2.2) (hn'.at' fun o e => hk₂ _ o hCw e) hC₀ hCL hDC (fun p hp => (off' p hp).2.1) (Nat.le_refl _)
    · intro p hp
      rcases List.mem_cons.mp hp with rfl | hp
      · exact ⟨hacc, hDL, hD₀⟩
      · exact ⟨old _ _ (N p hp).1, (N p hp).2⟩
    · intro p hp
      have hp' : p ∈ news := hp
      have hb := below p.1 (szLt _ _ (N p hp').1)
      exact ⟨off p hp', hb.1, hb.2⟩
  exact codeAny_compStart_list (loop _ rfl) (Z.self 0 _ _ _ hst₁ (loop _ rfl))
end
end Mine
end
section
open PySem PySem.Calls PyProof.Rows PyProof.Rows.LCg PySem.Spec PySem.W
set_option linter.unusedVariables false
set_option maxRecDepth 100000
set_option maxHeartbeats 4000000
namespace Mine
section
variable {prog : Program} {w : World} {A : Around} {E : Value → Shared → Prop} {s : Shared} {h₀ : Heap} {L : Addr} {m : Str → Option Value} {env : Env}
/-- where the block stands: its iterator is made -/
def ZSt (prog : Program) (w : World) (A : Around) (h₀ : Heap) (L : Addr) (m : Str → Option Value) (env : Env) (elt target : Expr) (ifs : List Expr) (scope : Scope) (cl : List (Str × Addr)) (names : List Str)
    (Fin : Shared → (Nat → List Value → List (Addr × Obj) → Prop) → Nat → List (Addr × Obj) → Prop) (it : Value) (s₂ : Shared) : Prop :=
  ∃ (I : Addr) (fp wr : List Addr) (n : Nat) (St : Nat → Heap → Prop) (B : Nat → (Str → Option Value) → Prop) (J : Nat → List Value → List (Addr × Obj) → Prop) (news : List (Addr × Obj)),
    it = .ref I ∧ ZSrc prog w A I target names n fp wr St B ∧ n ≤ sizeLine ∧ St 0 s₂.heap ∧ (∀ b ∈ fp, b < s₂.heap.objs.size) ∧ (∀ b ∈ fp, b ≠ L) ∧ (∀ b ∈ wr, h₀.get? b = none) ∧
    Fr h₀ L s₂.heap m ∧ News h₀ L s₂.heap news ∧ (∀ p ∈ news, p.1 ∉ wr) ∧ J 0 [] [] ∧ ZTurn prog w A h₀ L m env elt ifs scope cl s₂ B n J news ∧ Fin s₂ J n news
def ZFinE (h₀ : Heap) (L : Addr) (m : Str → Option Value) (Q : Value → Shared → Prop) (s : Shared) (J : Nat → List Value → List (Addr × Obj) → Prop) (n : Nat) (news : List (Addr × Obj)) : Prop :=
  ∀ D h tk ys own, J n ys own → Fr h₀ L h m → News h₀ L h ((D, lst ys) :: (own ++ news)) → (∀ p ∈ own ++ news, p.1 ≠ D) → s.heap.objs.size ≤ D → Q (.ref D) { s with heap := h, toks := tk }
def ZFinA (h₀ : Heap) (L : Addr) (m : Str → Option Value) (y : Str) (Q : Flow → Shared → Prop) (s : Shared) (J : Nat → List Value → List (Addr × Obj) → Prop) (n : Nat) (news : List (Addr × Obj)) : Prop :=
  ∀ D h tk ys own, J n ys own → Fr h₀ L h (fun z => if z = y then some (.ref D) else m z) → News h₀ L h ((D, lst ys) :: (own ++ news)) → (∀ p ∈ own ++ news, p.1 ≠ D) → s.heap.objs.size ≤ D → Q .next { s with heap := h, toks := tk }
theorem z_ListComp {elt target iter : Expr} {ifs : List Expr} {scope : Scope} {cl : List (Str × Addr)} {pos : Pos} {names : List Str} {Q : Value → Shared → Prop}
    (hclos : closureFor scope env = pure cl) (hcell : ∀ y ∈ scope.names, y.2 ≠ .cell) (hkind : scope.kind = .function)
    (hlk : ∀ y ∈ scope.names, y.2 = .local → scope.names.lookup y.1 = some .local) (hnames : ∀ y ∈ names, scope.names.lookup y = some .local)
    (h : wpAny (model prog w) A (eval iter env) (fun xv s₁ => wpAny (model prog w) A (pyIter xv) (ZSt prog w A h₀ L m env elt target ifs scope cl names (ZFinE h₀ L m Q)) E s₁) E s)
    (hs : ∀ x, foldedSetIterable iter env x = pure x := by intro _; rfl) :
    wpAny (model prog w) A (eval (.ListComp elt [⟨target, iter, ifs, 0⟩] scope pos) env) Q E s := by
  rw [eval_ListComp]
  refine wpAny_comprehension_free (use := none) rfl hs hclos hkind hlk (wpAny_mono h (fun xv s₁ h₁ => wpAny_mono h₁ (fun it s₂ h₂ => ?_) fun _ _ e => e) fun _ _ e => e)
  obtain ⟨I, fp, wr, n, St, B, J, news, rfl, Z, hsz, hst, hfp, hfL, hwr, F, N, off, J0, turn, fin⟩ := h₂
  refine z_block Z J hsz hcell hkind hnames hst hfp hfL hwr F N off J0 turn ?_
  intro D C h tk m' ys own hJ F' N' o1 hn hC₀ hCL hDC offC low
  refine ⟨m', hn, fun h'' hs'' => fin D h'' tk ys own hJ (F'.change hs'' hCL hC₀) (fun p hp => ?_) o1 low⟩
  refine ⟨hs''.extBut _ _ ?_ (N' p hp).1, (N' p hp).2⟩
  rcases List.mem_cons.mp hp with rfl | hp
  · exact hDC
  · exact offC p hp
theorem z_Assign {elt target iter : Expr} {ifs : List Expr} {y : Str} {py : Pos} {scope : Scope} {cl : List (Str × Addr)} {pos spos : Pos} {names : List Str} {Q : Flow → Shared → Prop} (hLe : env.locals = L)
    (hsw : swapsWith (.ListComp elt [⟨target, iter, ifs, 0⟩] scope pos) (some (.Name y py)) spos.line env = pure true)
    (hclos : closureFor scope env = pure cl) (hcell : ∀ y ∈ scope.names, y.2 ≠ .cell) (hkind : scope.kind = .function)
    (hlk : ∀ y ∈ scope.names, y.2 = .local → scope.names.lookup y.1 = some .local) (hnames : ∀ y ∈ names, scope.names.lookup y = some .local)
    (hy : env.kindOf y = some .local) (hp : (env.scope.kind == .class || (env.scope.kind == .module && env.locals != env.globals)) = false)
    (h : wpAny (model prog w) A (eval iter env) (fun xv s₁ => wpAny (model prog w) A (pyIter xv) (ZSt prog w A h₀ L m env elt target ifs scope cl names (ZFinA h₀ L m y Q)) E s₁) E s)
    (hs : ∀ x, foldedSetIterable iter env x = pure x := by intro _; rfl) :
    wpAny (model prog w) A (exec (.Assign [.Name y py] (.ListComp elt [⟨target, iter, ifs, 0⟩] scope pos) spos) env) Q E s := by
  subst hLe
  rw [exec_Assign_Name_used _ _ _ _ hsw]
  refine wpAny_bind (wpAny_standAt (wpAny_bind ?_))
  show wpAny _ A (do let _ ← comprehension (.ListComp elt [⟨target, iter, ifs, 0⟩] scope pos) scope env _ (newList []) false (eval iter env) (some (assign (.Name y py) env))) _ _ s
  refine wpAny_bind (wpAny_mono (wpAny_comprehension_free (use := some (assign (.Name y py) env)) (Q := fun _ s' => Q .next s') rfl hs hclos hkind hlk
    (wpAny_mono h (fun xv s₁ h₁ => wpAny_mono h₁ (fun it s₂ h₂ => ?_) fun _ _ e => e) fun _ _ e => e)) (fun _ s' hq => wpAny_pure (wpAny_pure hq)) fun _ _ e => e)
  obtain ⟨I, fp, wr, n, St, B, J, news, rfl, Z, hsz, hst, hfp, hfL, hwr, F, N, off, J0, turn, fin⟩ := h₂
  refine z_block Z J hsz hcell hkind hnames hst hfp hfL hwr F N off J0 turn ?_
  intro D C h' tk m' ys own hJ F' N' o1 hn hC₀ hCL hDC offC low
  show wpAny _ A (assign (.Name y py) env (.ref D)) _ _ _
  refine wpAny_assign_Name (wpAny_storeName_local hy F'.ns (fun h₂ hn₂ hs₂ => ?_) hp)
  have hL₀ : h₀.get? env.locals = none := Heap.get?_none_of_le F'.above
  have F₂ : Fr h₀ env.locals h₂ (fun z => if z = y then some (.ref D) else m z) := ⟨hn₂, fun b o e => hs₂.extBut b o (fun q => by rw [q, hL₀] at e; cases e) (F'.keep b o e), F'.above⟩
  refine ⟨m', hn.sameBut hs₂ hCL, fun h'' hs'' => fin D h'' _ ys own hJ (F₂.change hs'' hCL hC₀) (fun p hp => ?_) o1 low⟩
  have z : h₂.get? p.1 = some p.2 := hs₂.extBut _ _ (N' p hp).2.1 (N' p hp).1
  refine ⟨hs''.extBut _ _ ?_ z, (N' p hp).2⟩
  rcases List.mem_cons.mp hp with rfl | hp
  · exact hDC
  · exact offC p hp
end
end Mine
end
section
open PySem PySem.Calls PyProof.Rows PyProof.Rows.LCg PySem.Spec PySem.W
set_option linter.unusedVariables false
set_option maxRecDepth 100000
set_option maxHeartbeats 4000000
namespace Mine
section
variable {prog : Program} {w : World} {A : Around} {E : Value → Shared → Prop} {s : Shared}
theorem z_letTup {elts : List Expr} {x1} {pos : Pos} {I l T : Addr} {i : Nat} {Q : Unit → Shared → Prop} (hit : s.heap.IsTupleIter I l i) (hQ : Q () s) :
    wpAny (model prog w) A (letOwnedTupleGo (.Tuple elts x1 pos) (.ref I) (.ref T)) Q E s := by
  obtain ⟨o, ho, hc, hd⟩ := hit
  unfold letOwnedTupleGo
  refine wpAny_bind (wpAny_load ho ?_)
  rw [hc, hd]
  show wpAny _ A (if (["enumerate", "zip", "dict_itemiterator", "dict_reverseitemiterator", "odict_iterator", "itertools.zip_longest", "itertools.pairwise"].contains "tuple_iterator" &&
      (#[.ref l, .int i 0] : Array Value)[0]? == some (rawInt T)) = true then _ else _) Q E s
  have e : (["enumerate", "zip", "dict_itemiterator", "dict_reverseitemiterator", "odict_iterator", "itertools.zip_longest", "itertools.pairwise"].contains "tuple_iterator") = false := by decide
  rw [e, Bool.false_and, if_neg Bool.false_ne_true]
  exact wpAny_pure hQ
end
/-- a tuple whose items are pairs -/
theorem z_tupTups {prog : Program} {w : World} {A : Around} (hh : A.handled = none) (I ax : Addr) (hne : ax ≠ I) (items : Array Value) (Ts : Nat → Addr) (vals : Nat → Array Value)
    (hit : ∀ j, j < items.size → items[j]? = some (.ref (Ts j))) (hTI : ∀ j, j < items.size → Ts j ≠ I) :
    WalksU prog w A I (I :: ax :: (List.range items.size).map Ts) [I] items.size (fun j v => j < items.size ∧ v = vals j)
      (fun j h => h.IsTupleIter I ax j ∧ h.IsTuple ax items ∧ ∀ k, k < items.size → h.IsTuple (Ts k) (vals k))
      (fun j T h => (j < items.size ∧ T = Ts j) ∧ h.IsTupleIter I ax (j + 1) ∧ h.IsTuple ax items ∧ ∀ k, k < items.size → h.IsTuple (Ts k) (vals k)) where
  sub := fun b hb => by simp at hb; simp [hb]
  frame := fun _ _ _ st hk => ⟨st.1.at fun o e => hk I (by simp) o e, st.2.1.at fun o e => hk ax (by simp) o e,
    fun k hk' => (st.2.2 k hk').at fun o e => hk (Ts k) (List.mem_cons_of_mem _ (List.mem_cons_of_mem _ (List.mem_map.mpr ⟨k, List.mem_range.mpr hk', rfl⟩))) o e⟩
  item := fun i s Q E hi st hQ => by
    refine wpAny_pyNext_tuple_item st.1 st.2.1 (x := .ref (Ts i)) (hit i hi) fun h' hit' hs' => ?_
    have tup : ∀ k, k < items.size → h'.IsTuple (Ts k) (vals k) := fun k hk' => (st.2.2 k hk').extBut hs'.extBut (hTI k hk')
    exact hQ (Ts i) (vals i) h' s.toks ⟨hi, rfl⟩ (tup i hi) ⟨⟨hi, rfl⟩, hit', st.2.1.extBut hs'.extBut hne, tup⟩ fun b o hb e => hs'.extBut b o (fun h => hb (by simp [h])) e
  go := fun _ _ _ _ _ s Q _ hm hQ => z_letTup hm.2.1 (hQ s.heap hm.2 fun _ _ _ e => e)
  apart := fun j T _ hm hmem => by
    rcases List.mem_cons.mp hmem with e | e
    · exact hTI j hm.1.1 (hm.1.2 ▸ e)
    · cases e
  done := fun s Q E st hQ => wpAny_pyNext_tuple_end hh st.1 st.2.1 (by simp) fun h' he' => hQ h' s.toks fun b o hb e => he' b o (fun h => hb (by simp [h])) e
  self := fun _ _ _ _ st hQ => wpAny_pyIter_tupleiter st.1 hQ
end Mine
end
section
open PySem PySem.Calls PyProof.Rows PyProof.Rows.LCg PySem.Spec PySem.W
set_option linter.unusedVariables false
set_option maxRecDepth 100000
set_option maxHeartbeats 4000000
namespace Mine
theorem ZSrc.mono {prog : Program} {w : World} {A : Around} {I : Addr} {target : Expr} {names : List Str} {n : Nat} {fp wr : List Addr} {St : Nat → Heap → Prop} {B B' : Nat → (Str → Option Value) → Prop}
    (Z : ZSrc prog w A I target names n fp wr St B) (hB : ∀ i m₂, i < n → B i m₂ → B' i m₂) : ZSrc prog w A I target names n fp wr St B' where
  sub := Z.sub
  frame := Z.frame
  objs := Z.objs
  done := Z.done
  self := Z.self
  item := fun cenv m' i s Q E hi st hk hp hn hC hQ => Z.item cenv m' i s Q E hi st hk hp hn hC fun h' tk m₂ b => hQ h' tk m₂ (hB i m₂ hi b)
abbrev tup2 (x y : Value) (n : Nat) : Obj := { cls := .type "tuple", data := .seq #[x, y] n }
/-- references to pairs of texts, each in the ledger -/
def PairsAt (news : List (Addr × Obj)) : List Value → List (Str × Str) → Prop
  | [], [] => True
  | v :: vs, p :: ps => (∃ T t u n, v = .ref T ∧ (T, tup2 (.str p.1 t) (.str p.2 u) n) ∈ news) ∧ PairsAt news vs ps
  | _, _ => False
theorem PairsAt.mono {news news' : List (Addr × Obj)} (hs : ∀ p ∈ news, p ∈ news') : ∀ {vs ps}, PairsAt news vs ps → PairsAt news' vs ps
  | [], [], h => h
  | _ :: _, _ :: _, ⟨⟨T, t, u, n, e, hm⟩, r⟩ => ⟨⟨T, t, u, n, e, hs _ hm⟩, r.mono hs⟩
theorem PairsAt.len {news : List (Addr × Obj)} : ∀ {vs ps}, PairsAt news vs ps → vs.length = ps.length
  | [], [], h => rfl
  | _ :: _, _ :: _, ⟨_, r⟩ => by simp [r.len]
theorem PairsAt.at {news : List (Addr × Obj)} : ∀ {vs ps}, PairsAt news vs ps → ∀ j, j < vs.length → ∃ T t u n p, vs[j]? = some (.ref T) ∧ ps[j]? = some p ∧ (T, tup2 (.str p.1 t) (.str p.2 u) n) ∈ news
  | _ :: _, p :: _, ⟨⟨T, t, u, n, e, hm⟩, r⟩, 0, _ => ⟨T, t, u, n, p, by simp [e], rfl, hm⟩
  | _ :: _, _ :: _, ⟨_, r⟩, j + 1, h => by
    obtain ⟨T, t, u, n, p, e1, e2, hm⟩ := r.at j (by simpa using h)
    exact ⟨T, t, u, n, p, by simpa using e1, by simpa using e2, hm⟩
theorem PairsAt.snoc {news : List (Addr × Obj)} {v : Value} {p : Str × Str} (h : ∃ T t u n, v = .ref T ∧ (T, tup2 (.str p.1 t) (.str p.2 u) n) ∈ news) : ∀ {vs ps}, PairsAt news vs ps → PairsAt news (vs ++ [v]) (ps ++ [p])
  | [], [], _ => ⟨h, trivial⟩
  | _ :: _, _ :: _, ⟨a, r⟩ => ⟨a, r.snoc h⟩
section
variable {prog : Program} {w : World} {A : Around} {E : Value → Shared → Prop} {h₀ : Heap} {L : Addr} {m : Str → Option Value} {env : Env} {s : Shared}
theorem zst_pairs {elt : Expr} {ifs : List Expr} {scope : Scope} {cl : List (Str × Addr)} {a b : Str} {pa pb tp : Pos} {kk : Nat} {ax : Addr} {items : Array Value} {na : Nat} {news : List (Addr × Obj)} {ps : List (Str × Str)}
    {Fin : Shared → (Nat → List Value → List (Addr × Obj) → Prop) → Nat → List (Addr × Obj) → Prop} (hh : A.handled = none) (hab : a ≠ b)
    (F : Fr h₀ L s.heap m) (N : News h₀ L s.heap news) (hax : (ax, ({ cls := .type "tuple", data := .seq items na } : Obj)) ∈ news) (hP : PairsAt news items.toList ps) (hsz : ps.length ≤ sizeLine) (test : Str × Str → Bool)
    (turn : ∀ p ∈ ps, ∀ (own led : List (Addr × Obj)) (C : Addr) (oC : Obj) (m₂ : Str → Option Value) (h : Heap) (tk : Nat) (E' : Value → Shared → Prop) (t u : Tok), m₂ a = some (.str p.1 t) → m₂ b = some (.str p.2 u) → NsObj oC m₂ → Fr h₀ L h m → News h₀ L h led →
      (C, oC) ∈ led → (∀ p ∈ news, p ∈ led) →
      wpAny (model prog w) A (zTests ifs (compEnvC scope cl C env)) (fun ok s₃ => ok = test p ∧ ∃ h' tk', s₃ = { s with heap := h', toks := tk' } ∧ Fr h₀ L h' m ∧ News h₀ L h' led ∧
        (ok = true → wpAny (model prog w) A (eval elt (compEnvC scope cl C env)) (fun y s₄ => ∃ h' tk' T, s₄ = { s with heap := h', toks := tk' } ∧ y = .ref T ∧ Fr h₀ L h' m ∧ News h₀ L h' ((T, tup2 (.str p.1 t) (.str p.2 u) 0) :: led) ∧ ∀ q ∈ led, T ≠ q.1) E' s₃)) E' { s with heap := h, toks := tk })
    (fin : Fin { s with heap := s.heap.push { cls := .type "tuple_iterator", data := .fields #[.ref ax, .int 0 0] } } (fun i ys own => PairsAt own ys ((ps.take i).filter test)) ps.length news) :
    wpAny (model prog w) A (pyIter (.ref ax)) (ZSt prog w A h₀ L m env elt (.Tuple [.Name a pa, .Name b pb] kk tp) ifs scope cl [a, b] Fin) E s := by
  have hT : s.heap.IsTuple ax items := ⟨_, (N _ hax).1, rfl, _, rfl⟩
  have hlt : ax < s.heap.objs.size := Heap.lt_size (N _ hax).1
  have hlen := hP.len
  refine wpAny_pyIter_tuple hT ?_
  have sk : ∀ j, ∃ (T : Addr) (vals : Array Value), j < items.size → items[j]? = some (.ref T) ∧ ∃ t u n p, ps[j]? = some p ∧ vals = #[.str p.1 t, .str p.2 u] ∧ (T, tup2 (.str p.1 t) (.str p.2 u) n) ∈ news := fun j => by
    by_cases hj : j < items.size
    · obtain ⟨T, t, u, n, p, e1, e2, hm⟩ := hP.at j (by simpa using hj)
      exact ⟨T, _, fun _ => ⟨by simpa using e1, t, u, n, p, e2, rfl, hm⟩⟩
    · exact ⟨0, #[], fun h => absurd h hj⟩
  let Ts : Nat → Addr := fun j => (sk j).choose
  let vals : Nat → Array Value := fun j => (sk j).choose_spec.choose
  have spec : ∀ j, j < items.size → items[j]? = some (.ref (Ts j)) ∧ ∃ t u n p, ps[j]? = some p ∧ vals j = #[.str p.1 t, .str p.2 u] ∧ (Ts j, tup2 (.str p.1 t) (.str p.2 u) n) ∈ news := fun j hj => (sk j).choose_spec.choose_spec hj
  have up : ∀ b o, s.heap.get? b = some o → (s.heap.push { cls := .type "tuple_iterator", data := .fields #[.ref ax, .int 0 0] }).get? b = some o := fun b o e => Heap.get?_push_of_some _ e
  have tlt : ∀ j, j < items.size → Ts j < s.heap.objs.size := fun j hj => by
    obtain ⟨_, t, u, n, p, _, _, hm⟩ := spec j hj
    exact Heap.lt_size (N _ hm).1
  have hn : items.size = ps.length := by simpa using hlen
  have W := z_tupTups (prog := prog) (w := w) (A := A) hh s.heap.objs.size ax (Nat.ne_of_lt hlt) items Ts vals (fun j hj => (spec j hj).1) (fun j hj => Nat.ne_of_lt (tlt j hj))
  have Z := ZSrc.pair (a := a) (b := b) (pa := pa) (pb := pb) (tp := tp) (kk := kk) hh W (fun i h st b hb => by
    rcases List.mem_cons.mp hb with rfl | hb
    · obtain ⟨o, e, _⟩ := st.1; exact ⟨o, e⟩
    rcases List.mem_cons.mp hb with rfl | hb
    · obtain ⟨o, e, _⟩ := st.2.1; exact ⟨o, e⟩
    · obtain ⟨k, hk, rfl⟩ := List.mem_map.mp hb
      obtain ⟨o, e, _⟩ := st.2.2 k (List.mem_range.mp hk)
      exact ⟨o, e⟩) (fun i v h => by
    obtain ⟨hi, rfl⟩ := h
    obtain ⟨_, t, u, n, p, _, e, _⟩ := spec i hi
    exact ⟨_, _, e⟩) hab
  have Z' := Z.mono (B' := fun i m₂ => ∃ t u p, ps[i]? = some p ∧ m₂ a = some (.str p.1 t) ∧ m₂ b = some (.str p.2 u)) (fun i m₂ hi ⟨x, y, ⟨_, e⟩, e1, e2⟩ => by
    obtain ⟨_, t, u, n, p, ep, ev, _⟩ := spec i hi
    rw [ev] at e
    have := Array.mk.inj e
    simp only [List.cons.injEq, and_true] at this
    exact ⟨t, u, p, ep, this.1 ▸ e1, this.2 ▸ e2⟩)
  refine ⟨s.heap.objs.size, _, _, items.size, _, _, (fun i ys own => PairsAt own ys ((ps.take i).filter test)), news, rfl, Z', hn ▸ hsz, ⟨⟨_, Heap.get?_push_size _ rfl, rfl, rfl⟩, hT.at fun o e => up _ o e, fun k hk => ?_⟩, ?_, ?_, ?_, F.keeps up, N.grown up, ?_, trivial, ?_, hn ▸ fin⟩
  · obtain ⟨_, t, u, n, p, _, e, hm⟩ := spec k hk
    rw [e]
    exact ⟨_, up _ _ (N _ hm).1, rfl, _, rfl⟩
  · intro b hb
    show b < (s.heap.push _).objs.size
    rw [Heap.size_push]
    rcases List.mem_cons.mp hb with rfl | hb
    · exact Nat.lt_succ_self _
    rcases List.mem_cons.mp hb with rfl | hb
    · exact Nat.lt_succ_of_lt hlt
    · obtain ⟨k, hk, rfl⟩ := List.mem_map.mp hb
      exact Nat.lt_succ_of_lt (tlt k (List.mem_range.mp hk))
  · intro b hb
    rcases List.mem_cons.mp hb with rfl | hb
    · exact Ne.symm (Nat.ne_of_lt F.ns.lt)
    rcases List.mem_cons.mp hb with rfl | hb
    · exact (N _ hax).2.1
    · obtain ⟨k, hk, rfl⟩ := List.mem_map.mp hb
      obtain ⟨_, t, u, n, p, _, _, hm⟩ := spec k (List.mem_range.mp hk)
      exact (N _ hm).2.1
  · intro b hb
    rw [List.mem_singleton.mp hb]
    exact next_is_new F
  · intro p hp hw
    exact Nat.ne_of_lt (Heap.lt_size (N p hp).1) (List.mem_singleton.mp hw)
  · intro i ys own led C oC m₂ h tk E' hi hJ hB hoC F' N' hC hnl hol
    obtain ⟨t, u, p, ep, ea, eb⟩ := hB
    have hpm : p ∈ ps := List.mem_of_getElem? ep
    have hi' : i < ps.length := hn ▸ hi
    have ept : ps[i] = p := by
      have := List.getElem?_eq_getElem hi'
      rw [this] at ep
      exact Option.some.inj ep
    have e1 : ps.take (i + 1) = ps.take i ++ [p] := by rw [List.take_succ_eq_append_getElem hi', ept]
    refine wpAny_mono (turn p hpm own led C oC m₂ h tk E' t u ea eb hoC F' N' hC hnl) (fun ok s₃ hs => ?_) fun _ _ e => e
    obtain ⟨rfl, h', tk', rfl, F₁, N₁, hel⟩ := hs
    cases ht : test p with
    | false =>
      refine .inl ⟨rfl, h', tk', rfl, F₁, N₁, ?_⟩
      show PairsAt own ys ((ps.take (i + 1)).filter test)
      rw [e1, List.filter_append, List.filter_cons_of_neg (by simp [ht]), List.filter_nil, List.append_nil]
      exact hJ
    | true =>
      refine .inr ⟨rfl, wpAny_mono (hel ht) (fun y s₄ hy => ?_) fun _ _ e => e⟩
      obtain ⟨h₂, tk₂, T, rfl, rfl, F₂, N₂, hfr⟩ := hy
      refine ⟨h₂, tk₂, [(T, tup2 (.str p.1 t) (.str p.2 u) 0)], rfl, F₂, N₂, fun q hq r hr => ?_, ?_⟩
      · rw [List.mem_singleton.mp hq]; exact hfr r hr
      · show PairsAt ([(T, tup2 (.str p.1 t) (.str p.2 u) 0)] ++ own) (ys ++ [.ref T]) ((ps.take (i + 1)).filter test)
        rw [e1, List.filter_append, List.filter_cons_of_pos (by simp [ht]), List.filter_nil]
        exact PairsAt.snoc ⟨T, t, u, 0, rfl, List.mem_cons_self⟩ (hJ.mono fun _ h => List.mem_cons_of_mem _ h)
end
end Mine
end
section
open PySem PySem.Calls PyProof.Rows PyProof.V PySem.Spec PySem.W
set_option linter.unusedVariables false
set_option maxRecDepth 100000
set_option maxHeartbeats 4000000
namespace Mine
section
variable {prog : Program} {w : World} {A₀ A : Around} {E : Value → Shared → Prop} {s : Shared} {base h₀ : Heap} {outer : List Env} {L : Addr} {m : Str → Option Value} {news : List (Addr × Obj)}
/-- a def with cells entered, the caller's heap kept -/
theorem code_defCG {K : Frag} {p : Program} {loose : List Str} {mean : ExcName → Option Value} {mg mb : Str → Option Value} {env : Env} {R : Result → Shared → Prop} {name qual : Str} {params : Arguments} {body : List Stmt} {scope : Scope} {dV kV doc pm cdv ct oc : Value} {an od : Option Addr} {osl : Array (Option Value)} {f : Addr} {args : Args} {binds : List (Str × Value)}
    (B : Below A₀ base outer h₀) (F : Fr h₀ L s.heap m) (X₀ : K.In h₀) (T : Top p loose mean mg mb h₀) (hA : A.frames = some (env :: outer)) (hf : env.frame = some L) (hke : env.scope.kind = .function)
    (ho : K.lookup f = some ⟨oc, od, .func (fnOf name qual params body scope dV kV doc pm an cdv ct), osl⟩) (hcd : codeIn K cdv qual = true) (hroom : A.depth < recursionLimit)
    (hbind : BindsTo s (fnOf name qual params body scope dV kV doc pm an cdv ct) args binds) (hkind : (binds.all fun y => scope.names.lookup y.1 == some .local || scope.names.lookup y.1 == some .cell) = true)
    (hnd : ((cellsFrom 0 scope.names []).map (·.1)).Nodup)
    (h : ∀ g L' h₁ tk cells, Fr h₀ L g m → Fr g L' h₁ (bindL (envOfC qual scope L' f cdv).kindOf binds fun _ => none) → News g L' h₁ cells →
      CellsAre (bindC (envOfC qual scope L' f cdv).kindOf binds fun _ => none) (cellsFrom (L' + 1) scope.names []) cells → Below A base (env :: outer) g → K.In g → Top p loose mean mg mb g → GSub s.heap g [] →
      wpAny (model prog w) (A.deeper (envOfC qual scope L' f cdv)) (execs body (envOfC qual scope L' f cdv))
        (fun fl s' => LeaveK h₀ L m g R (match fl with | .ret v => v | _ => .none) s')
        (fun e s' => wpAny (model prog w) (A.deeper (envOfC qual scope L' f cdv)) (leaving (envOfC qual scope L' f cdv) e) (fun _ s'' => R (.error e) s'') (fun e' s'' => R (.error e') s'') s')
        { s with heap := h₁, toks := tk })
    (hco : scope.isCoroutine = false) (hgen : scope.isGenerator = false) (hk : scope.kind = .function) : codeAny (model prog w) A (.call (.ref f) args) R s := by
  obtain ⟨FG, BG, st, lv⟩ := groundX (R := R) (news := []) B F (fun _ hp => nomatch hp) hA hf hke
  refine codeAny_call_function hroom ((X₀.keeps F.keep) _ _ ho) rfl hco hgen rfl (codeRec_of (X₀.keeps F.keep) hcd) (hbind _ _ _ _ ?_)
  refine wpAny_newFunctionEnv_cells hk (kindsX hkind _) fun env' he s' x => ?_
  subst he
  refine ⟨(T.nolimit.keeps F.keep).keeps x.toInCall.keep, codeAny_func ?_⟩
  obtain ⟨h₁, tk, rfl, _⟩ := x.done
  have hk₁ := x.toInCall.keep
  obtain ⟨cells, NC, Y⟩ := Cl.news (h₀ := s.heap) (Nat.le_refl _) fun n c hm => ⟨x.cell n c (lookup_of_mem_nodup (cellsFrom_names scope.names 0 (s.heap.objs.size + 1) [] [] rfl ▸ hnd) hm), x.above n c hm⟩
  refine wpAny_mono (h _ s.heap.objs.size h₁ tk cells FG ⟨x.toInCall.ns, fun b o e => hk₁ b o (of_hideAll _ e), Nat.le_of_eq (hideAll_size _ _)⟩ (fun p hp => ?_) Y BG (X₀.keeps st) (T.keeps st) (fun b o e n => hideAll_get _ e n)) (fun fl s' hl => lv _ _ hl) fun _ _ y => y
  refine ⟨(NC p hp).1, (NC p hp).2.1, ?_⟩
  cases e : (hideAll s.heap (([] : List (Addr × Obj)).map (·.1))).get? p.1 with
  | none => rfl
  | some o =>
    have := of_hideAll _ e
    rw [(NC p hp).2.2] at this
    cases this
end
end Mine
end
section
open PySem PySem.Calls PyProof.Rows PyProof.Rows.LCg PySem.Spec PySem.W
set_option linter.unusedVariables false
set_option maxRecDepth 100000
set_option maxHeartbeats 4000000
namespace Mine
/-- what a comprehension has gathered after i turns -/
def Got (R : Nat → Value → Prop) (test : Nat → Bool) : Nat → List Value → Prop
  | 0, ys => ys = []
  | i + 1, ys => if test i = true then ∃ ys' y, ys = ys' ++ [y] ∧ Got R test i ys' ∧ R i y else Got R test i ys
theorem Got.all {R : Nat → Value → Prop} : ∀ {n : Nat} {ys : List Value}, Got R (fun _ => true) n ys → ys.length = n ∧ ∀ i, i < n → ∃ y, ys[i]? = some y ∧ R i y
  | 0, ys, h => by
    have h : ys = [] := h
    subst h; exact ⟨rfl, fun i hi => absurd hi (Nat.not_lt_zero _)⟩
  | n + 1, ys, h => by
    have h : ∃ ys' y, ys = ys' ++ [y] ∧ Got R (fun _ => true) n ys' ∧ R n y := by simpa [Got] using h
    obtain ⟨ys', y, rfl, hg, hr⟩ := h
    obtain ⟨hl, ha⟩ := hg.all
    refine ⟨by rw [List.length_append, hl]; rfl, fun i hi => ?_⟩
    rcases Nat.lt_or_eq_of_le (Nat.le_of_lt_succ hi) with hi' | rfl
    · obtain ⟨z, e, r⟩ := ha i hi'
      exact ⟨z, by rw [List.getElem?_append_left (by omega)]; exact e, r⟩
    · exact ⟨y, by rw [List.getElem?_append_right (by omega), hl]; simp, hr⟩
section
variable {prog : Program} {w : World} {A : Around} {E : Value → Shared → Prop} {h₀ : Heap} {L : Addr} {m : Str → Option Value} {env : Env} {s : Shared}
/-- a turn whose element makes no object of its own that is kept -/
def GTurn (prog : Program) (w : World) (A : Around) (h₀ : Heap) (L : Addr) (m : Str → Option Value) (env : Env) (elt : PySem.Expr) (ifs : List PySem.Expr) (scope : Scope) (cl : List (Str × Addr)) (s : Shared) (B : Nat → (Str → Option Value) → Prop) (n : Nat)
    (R : Nat → Value → Prop) (test : Nat → Bool) (news : List (Addr × Obj)) : Prop :=
  ∀ (i : Nat) (led : List (Addr × Obj)) (C : Addr) (oC : Obj) (m₂ : Str → Option Value) (h : Heap) (tk : Nat) (E' : Value → Shared → Prop), i < n → B i m₂ → NsObj oC m₂ → Fr h₀ L h m → News h₀ L h led →
    (C, oC) ∈ led → (∀ p ∈ news, p ∈ led) →
    wpAny (model prog w) A (zTests ifs (compEnvC scope cl C env)) (fun ok s₃ => ok = test i ∧ ∃ h' tk', s₃ = { s with heap := h', toks := tk' } ∧ Fr h₀ L h' m ∧ News h₀ L h' led ∧
      (ok = true → wpAny (model prog w) A (eval elt (compEnvC scope cl C env)) (fun y s₄ => ∃ h' tk', s₄ = { s with heap := h', toks := tk' } ∧ Fr h₀ L h' m ∧ News h₀ L h' led ∧ R i y) E' s₃)) E' { s with heap := h, toks := tk }
theorem zst_gen {elt target : PySem.Expr} {ifs : List PySem.Expr} {scope : Scope} {cl : List (Str × Addr)} {names : List Str} {I : Addr} {fp wr : List Addr} {n : Nat} {St : Nat → Heap → Prop} {B : Nat → (Str → Option Value) → Prop} {h₂ : Heap} {tk₂ : Nat}
    {Fin : Shared → (Nat → List Value → List (Addr × Obj) → Prop) → Nat → List (Addr × Obj) → Prop} {R : Nat → Value → Prop} {test : Nat → Bool} {news : List (Addr × Obj)}
    (Z : ZSrc prog w A I target names n fp wr St B) (hsz : n ≤ sizeLine) (hst : St 0 h₂) (hfp : ∀ b ∈ fp, b < h₂.objs.size) (hfL : ∀ b ∈ fp, b ≠ L) (hwr : ∀ b ∈ wr, s.heap.objs.size ≤ b)
    (F : Fr h₀ L s.heap m) (N : News h₀ L s.heap news) (up : ∀ b o, s.heap.get? b = some o → h₂.get? b = some o)
    (turn : GTurn prog w A h₀ L m env elt ifs scope cl s B n R test news)
    (fin : Fin { s with heap := h₂, toks := tk₂ } (fun i ys own => own = [] ∧ Got R test i ys) n news) :
    ZSt prog w A h₀ L m env elt target ifs scope cl names Fin (.ref I) { s with heap := h₂, toks := tk₂ } := by
  refine ⟨I, fp, wr, n, St, B, fun i ys own => own = [] ∧ Got R test i ys, news, rfl, Z, hsz, hst, hfp, hfL, fun b hb => ?_, F.keeps up, N.grown up, fun p hp hw => ?_, ⟨rfl, rfl⟩, ?_, fin⟩
  · cases e : h₀.get? b with
    | none => rfl
    | some o => exact absurd (Nat.lt_of_lt_of_le (Heap.lt_size (F.keep b o e)) (hwr b hb)) (Nat.lt_irrefl _)
  · exact absurd (Nat.lt_of_lt_of_le (Heap.lt_size (N p hp).1) (hwr _ hw)) (Nat.lt_irrefl _)
  · rintro i ys own led C oC m₂ h tk E' hi ⟨rfl, hG⟩ hB hoC F' N' hC hnl _
    refine wpAny_mono (turn i led C oC m₂ h tk E' hi hB hoC F' N' hC hnl) (fun ok s₃ hs => ?_) fun _ _ e => e
    obtain ⟨rfl, h', tk', rfl, F₁, N₁, hel⟩ := hs
    cases ht : test i with
    | false => exact .inl ⟨rfl, h', tk', rfl, F₁, N₁, rfl, by simpa [Got, ht] using hG⟩
    | true =>
      refine .inr ⟨rfl, wpAny_mono (hel ht) (fun y s₄ hy => ?_) fun _ _ e => e⟩
      obtain ⟨h₂, tk₂, rfl, F₂, N₂, hR⟩ := hy
      exact ⟨h₂, tk₂, [], rfl, F₂, N₂, (fun q hq => nomatch hq), rfl, by simp only [Got, ht, if_true]; exact ⟨ys, y, rfl, hG, hR⟩⟩
theorem finE {Q : Value → Shared → Prop} {R : Nat → Value → Prop} {test : Nat → Bool} {n : Nat} {news : List (Addr × Obj)} {h₂ : Heap} {tk₂ : Nat}
    (hQ : ∀ D h tk ys, Got R test n ys → Fr h₀ L h m → News h₀ L h ((D, lst ys) :: news) → (∀ p ∈ news, p.1 ≠ D) → Q (.ref D) { s with heap := h, toks := tk }) :
    ZFinE h₀ L m Q { s with heap := h₂, toks := tk₂ } (fun i ys own => own = [] ∧ Got R test i ys) n news := by
  rintro D h tk ys own ⟨rfl, hG⟩ F N off low
  exact hQ D h tk ys hG F N off
theorem finA {y : Str} {Q : Flow → Shared → Prop} {R : Nat → Value → Prop} {test : Nat → Bool} {n : Nat} {news : List (Addr × Obj)} {h₂ : Heap} {tk₂ : Nat}
    (hQ : ∀ D h tk ys, Got R test n ys → Fr h₀ L h (fun z => if z = y then some (.ref D) else m z) → News h₀ L h ((D, lst ys) :: news) → (∀ p ∈ news, p.1 ≠ D) → Q .next { s with heap := h, toks := tk }) :
    ZFinA h₀ L m y Q { s with heap := h₂, toks := tk₂ } (fun i ys own => own = [] ∧ Got R test i ys) n news := by
  rintro D h tk ys own ⟨rfl, hG⟩ F N off low
  exact hQ D h tk ys hG F N off
variable {elt : PySem.Expr} {ifs : List PySem.Expr} {scope : Scope} {cl : List (Str × Addr)} {x : Str} {px : Pos} {R : Nat → Value → Prop} {test : Nat → Bool} {news : List (Addr × Obj)} {ax : Addr}
  {Fin : Shared → (Nat → List Value → List (Addr × Obj) → Prop) → Nat → List (Addr × Obj) → Prop}
theorem zst_list {vs : Array Value} (hh : A.handled = none) (F : Fr h₀ L s.heap m) (N : News h₀ L s.heap news) (hT : s.heap.IsList ax vs) (hL : ax ≠ L) (hsz : vs.size ≤ sizeLine)
    (turn : GTurn prog w A h₀ L m env elt ifs scope cl s (fun i m₂ => ∃ v, vs[i]? = some v ∧ m₂ x = some v) vs.size R test news)
    (fin : ∀ h₂ tk₂, Fin { s with heap := h₂, toks := tk₂ } (fun i ys own => own = [] ∧ Got R test i ys) vs.size news) :
    wpAny (model prog w) A (pyIter (.ref ax)) (ZSt prog w A h₀ L m env elt (.Name x px) ifs scope cl [x] Fin) E s := by
  refine wpAny_pyIter_list hT ?_
  have hlt : ax < s.heap.objs.size := by obtain ⟨o, e, _⟩ := hT; exact Heap.lt_size e
  have up : ∀ b o, s.heap.get? b = some o → (s.heap.push { cls := .type "list_iterator", data := .fields #[.ref ax, .int 0 0] }).get? b = some o := fun b o e => Heap.get?_push_of_some _ e
  refine zst_gen (s := s) (fp := [s.heap.objs.size, ax]) (wr := [s.heap.objs.size]) (ZSrc.name (Walks.list (prog := prog) (w := w) (A := A) hh s.heap.objs.size ax (Nat.ne_of_lt hlt) vs) (fun i h st b hb => ?_) x px) hsz ⟨⟨_, Heap.get?_push_size _ rfl, rfl, rfl⟩, hT.at fun o e => up _ o e⟩ ?_ ?_ ?_ F N up turn (fin _ _)
  · rcases List.mem_cons.mp hb with rfl | hb
    · obtain ⟨o, e, _⟩ := st.1; exact ⟨o, e⟩
    · rw [List.mem_singleton.mp hb]; obtain ⟨o, e, _⟩ := st.2; exact ⟨o, e⟩
  · intro b hb
    rw [Heap.size_push]
    rcases List.mem_cons.mp hb with rfl | hb
    · exact Nat.lt_succ_self _
    · rw [List.mem_singleton.mp hb]; exact Nat.lt_succ_of_lt hlt
  · intro b hb
    rcases List.mem_cons.mp hb with rfl | hb
    · exact Ne.symm (Nat.ne_of_lt F.ns.lt)
    · rw [List.mem_singleton.mp hb]; exact hL
  · intro b hb
    rw [List.mem_singleton.mp hb]; exact Nat.le_refl _
theorem zst_tuple {vs : Array Value} (hh : A.handled = none) (F : Fr h₀ L s.heap m) (N : News h₀ L s.heap news) (hT : s.heap.IsTuple ax vs) (hL : ax ≠ L) (hsz : vs.size ≤ sizeLine)
    (turn : GTurn prog w A h₀ L m env elt ifs scope cl s (fun i m₂ => ∃ v, vs[i]? = some v ∧ m₂ x = some v) vs.size R test news)
    (fin : ∀ h₂ tk₂, Fin { s with heap := h₂, toks := tk₂ } (fun i ys own => own = [] ∧ Got R test i ys) vs.size news) :
    wpAny (model prog w) A (pyIter (.ref ax)) (ZSt prog w A h₀ L m env elt (.Name x px) ifs scope cl [x] Fin) E s := by
  refine wpAny_pyIter_tuple hT ?_
  have hlt : ax < s.heap.objs.size := by obtain ⟨o, e, _⟩ := hT; exact Heap.lt_size e
  have up : ∀ b o, s.heap.get? b = some o → (s.heap.push { cls := .type "tuple_iterator", data := .fields #[.ref ax, .int 0 0] }).get? b = some o := fun b o e => Heap.get?_push_of_some _ e
  refine zst_gen (s := s) (fp := [s.heap.objs.size, ax]) (wr := [s.heap.objs.size]) (ZSrc.name (Walks.tuple (prog := prog) (w := w) (A := A) hh s.heap.objs.size ax (Nat.ne_of_lt hlt) vs) (fun i h st b hb => ?_) x px) hsz ⟨⟨_, Heap.get?_push_size _ rfl, rfl, rfl⟩, hT.at fun o e => up _ o e⟩ ?_ ?_ ?_ F N up turn (fin _ _)
  · rcases List.mem_cons.mp hb with rfl | hb
    · obtain ⟨o, e, _⟩ := st.1; exact ⟨o, e⟩
    · rw [List.mem_singleton.mp hb]; obtain ⟨o, e, _⟩ := st.2; exact ⟨o, e⟩
  · intro b hb
    rw [Heap.size_push]
    rcases List.mem_cons.mp hb with rfl | hb
    · exact Nat.lt_succ_self _
    · rw [List.mem_singleton.mp hb]; exact Nat.lt_succ_of_lt hlt
  · intro b hb
    rcases List.mem_cons.mp hb with rfl | hb
    · exact Ne.symm (Nat.ne_of_lt F.ns.lt)
    · rw [List.mem_singleton.mp hb]; exact hL
  · intro b hb
    rw [List.mem_singleton.mp hb]; exact Nat.le_refl _
end
end Mine
end
section
open PySem PySem.Calls PyProof.Rows PyProof.Rows.LCg PySem.Spec PySem.W
set_option linter.unusedVariables false
set_option maxRecDepth 100000
set_option maxHeartbeats 4000000
namespace Mine
section
variable {M : Model} {A : Around} {E : Value → Shared → Prop} {s : Shared}
/-- a comprehension's scope with one cell of its own -/
theorem newEnv1 {scope : Scope} {globals : Addr} {cl : List (Str × Addr)} {qual : Str} {env : Env} {a : Str} {Q : Env → Shared → Prop} (hcf : ∀ n, cellsFrom n scope.names cl = (a, n) :: cl)
    (hpc : ∀ h, pushCells h scope.names = h.push { cls := .type "cell", data := .cell none })
    (hQ : Q { scope, locals := s.heap.objs.size, globals, cells := (a, s.heap.objs.size + 1) :: cl, qual, func := none, code := env.code, frame := env.frame, builtins := env.builtins }
      { s with heap := (s.heap.push { cls := .type "dict", data := .dict #[] }).push { cls := .type "cell", data := .cell none } }) :
    wpAny M A (newFunctionEnv scope globals cl [] qual none .none (some env)) Q E s := by
  simp only [newFunctionEnv, Option.isSome_some, if_true]
  refine wpAny_bind (wpAny_alloc ?_)
  refine wpAny_bind (wpAny_layCells _ (fun name kind cells => by cases hkc : kind == NameKind.cell <;> simp) _ _ _ _ ?_)
  rw [show ({ s with heap := s.heap.push { cls := .type "dict", data := .dict #[] } } : Shared).heap.objs.size = s.heap.objs.size + 1 from Heap.size_push .., hcf]
  show wpAny M A _ Q E { s with heap := pushCells (s.heap.push { cls := .type "dict", data := .dict #[] }) scope.names }
  rw [hpc]
  refine wpAny_bind ?_
  rw [List.forIn_nil]
  exact wpAny_pure (wpAny_pure hQ)
end
section
variable {prog : Program} {w : World} {A : Around} {E : Value → Shared → Prop} {h₀ : Heap} {L : Addr} {m : Str → Option Value}
/-- a turn's element, the cell and the local bound -/
def CTurn (prog : Program) (w : World) (A : Around) (h₀ : Heap) (L : Addr) (m : Str → Option Value) (env : Env) (elt : PySem.Expr) (scope : Scope) (cl : List (Str × Addr)) (a b : Str) (s : Shared) (n : Nat)
    (Pt : Nat → Array Value → Prop) (R : Nat → Value → Prop) (news : List (Addr × Obj)) : Prop :=
  ∀ (i : Nat) (led : List (Addr × Obj)) (C P : Addr) (oC oP : Obj) (m₂ : Str → Option Value) (h : Heap) (tk : Nat) (E' : Value → Shared → Prop) (x y : Value), i < n → Pt i #[x, y] → m₂ b = some y → oP.data = .cell (some x) → NsObj oC m₂ → Fr h₀ L h m → News h₀ L h led →
    (C, oC) ∈ led → (P, oP) ∈ led → (∀ p ∈ news, p ∈ led) →
    wpAny (model prog w) A (eval elt (compEnvC scope ((a, P) :: cl) C env)) (fun y s₄ => ∃ h' tk', s₄ = { s with heap := h', toks := tk' } ∧ Fr h₀ L h' m ∧ News h₀ L h' led ∧ R i y) E' { s with heap := h, toks := tk }
theorem z_blockC {elt iter : PySem.Expr} {scope : Scope} {cl : List (Str × Addr)} {pos : Pos} {env : Env} {s₂ : Shared} {I : Addr} {a b : Str} {pa pb tp : Pos} {kk : Nat} {fp wr : List Addr} {n : Nat} {Pt : Nat → Array Value → Prop} {St : Nat → Heap → Prop} {Mid : Nat → Addr → Heap → Prop}
    {news : List (Addr × Obj)} {RR : Value → Addr → Result → Shared → Prop} {R : Nat → Value → Prop} (hh : A.handled = none) (W : WalksU prog w A I fp wr n Pt St Mid) (hob : ∀ i h, St i h → ∀ b ∈ fp, ∃ o, h.get? b = some o) (h2 : ∀ i vals, Pt i vals → ∃ x y, vals = #[x, y])
    (hsz : n ≤ sizeLine) (hkind : scope.kind = .function) (hcf : ∀ n, cellsFrom n scope.names cl = (a, n) :: cl) (hpc : ∀ h, pushCells h scope.names = h.push { cls := .type "cell", data := .cell none })
    (hka : ∀ cs C, (compEnvC scope cs C env).kindOf a = some .cell) (hkb : ∀ cs C, (compEnvC scope cs C env).kindOf b = some .local)
    (hst : St 0 s₂.heap) (hfp : ∀ b ∈ fp, b < s₂.heap.objs.size) (hfL : ∀ b ∈ fp, b ≠ L) (hwr0 : ∀ b ∈ wr, h₀.get? b = none)
    (F : Fr h₀ L s₂.heap m) (N : News h₀ L s₂.heap news) (off : ∀ p ∈ news, p.1 ∉ wr)
    (turn : CTurn prog w A h₀ L m env elt scope cl a b s₂ n Pt R news)
    (hRR : ∀ D C h tk m' ys, Got R (fun _ => true) n ys → Fr h₀ L h m → News h₀ L h ((D, lst ys) :: news) → (∀ p ∈ news, p.1 ≠ D) → h.Ns C m' → h₀.get? C = none → C ≠ L → D ≠ C → (∀ p ∈ news, p.1 ≠ C) →
      RR (.ref D) C (.ok .next) { s₂ with heap := h, toks := tk }) :
    wpAny (model prog w) A (newList []) (fun acc s₃ => wpAny (model prog w) A (newFunctionEnv scope env.globals cl [] env.qual none .none (some env)) (fun cenv s₄ =>
      codeAny (model prog w) A (.compStart (.ListComp elt [⟨.Tuple [.Name a pa, .Name b pb] kk tp, iter, [], 0⟩] scope pos) 0 (.ref I) acc { cenv with scope := relabel scope env }) (RR acc cenv.locals) s₄) E s₃) E s₂ := by
  refine wpAny_newObj_type (newEnv1 hcf hpc ?_)
  dsimp only
  generalize hH2 : s₂.heap.push { cls := .type "list", dict := none, data := .seq ([] : List Value).toArray } = H2
  generalize hDe : s₂.heap.objs.size = D at *
  have hC : H2.objs.size = D + 1 := by rw [← hH2, Heap.size_push, hDe]
  generalize hCe : H2.objs.size = C at *
  generalize hPe : C + 1 = P
  generalize hH3 : (H2.push { cls := .type "dict", data := .dict #[] }) = H3
  have hH3s : H3.objs.size = P := by rw [← hH3, Heap.size_push, hCe, hPe]
  generalize hh₁ : H3.push { cls := .type "cell", data := .cell none } = h₁
  have hDC : D ≠ C := by rw [hC]; exact Nat.ne_of_lt (Nat.lt_succ_self _)
  have hCP : C ≠ P := by rw [← hPe]; exact Nat.ne_of_lt (Nat.lt_succ_self _)
  have hDP : D ≠ P := by rw [← hPe, hC]; exact Nat.ne_of_lt (Nat.lt_succ_of_lt (Nat.lt_succ_self _))
  have below : ∀ b, b < D → b ≠ C ∧ b ≠ D ∧ b ≠ P := fun b hb => ⟨by rw [hC]; exact Nat.ne_of_lt (Nat.lt_succ_of_lt hb), Nat.ne_of_lt hb, by rw [← hPe, hC]; exact Nat.ne_of_lt (Nat.lt_succ_of_lt (Nat.lt_succ_of_lt hb))⟩
  have szLt : ∀ b o, s₂.heap.get? b = some o → b < D := fun b o e => hDe ▸ Heap.lt_size e
  have old : ∀ b o, s₂.heap.get? b = some o → h₁.get? b = some o := fun b o e => by
    rw [← hh₁, ← hH3, ← hH2]
    exact Heap.get?_push_of_some _ (Heap.get?_push_of_some _ (Heap.get?_push_of_some _ e))
  have hacc : h₁.get? D = some (lst []) := by
    rw [← hh₁, ← hH3]
    refine Heap.get?_push_of_some _ (Heap.get?_push_of_some _ ?_)
    rw [← hH2, ← hDe]; exact Heap.get?_push_size _ rfl
  have hns₁ : h₁.Ns C (fun _ => none) := by
    have := Heap.Ns.new H2 (.type "dict")
    rw [hCe, hH3] at this
    rw [← hh₁]
    exact this.keeps fun b o e => Heap.get?_push_of_some _ e
  have hcell₁ : h₁.IsCell P none := by
    rw [← hh₁, ← hH3s]
    exact ⟨_, Heap.get?_push_size _ rfl, rfl⟩
  have fresh₀ : ∀ a, D ≤ a → h₀.get? a = none := fun a ha => by
    cases e : h₀.get? a with
    | none => rfl
    | some o' => exact absurd (szLt _ _ (F.keep a o' e)) (Nat.not_lt.mpr ha)
  have hD₀ : h₀.get? D = none := fresh₀ _ (Nat.le_refl _)
  have hC₀ : h₀.get? C = none := fresh₀ _ (by rw [hC]; exact Nat.le_succ _)
  have hP₀ : h₀.get? P = none := fresh₀ _ (by rw [← hPe, hC]; exact Nat.le_succ_of_le (Nat.le_succ _))
  have hLlt : L < D := hDe ▸ F.ns.lt
  have hDL : D ≠ L := Ne.symm (below L hLlt).2.1
  have hCL : C ≠ L := Ne.symm (below L hLlt).1
  have hPL : P ≠ L := Ne.symm (below L hLlt).2.2
  have hCf : C ∉ fp := fun hm => (below C (hfp C hm)).1 rfl
  have hDf : D ∉ fp := fun hm => (below D (hfp D hm)).2.1 rfl
  have hPf : P ∉ fp := fun hm => (below P (hfp P hm)).2.2 rfl
  have hDw : D ∉ wr := fun h => hDf (W.sub _ h)
  have hCw : C ∉ wr := fun h => hCf (W.sub _ h)
  have hPw : P ∉ wr := fun h => hPf (W.sub _ h)
  have hLw : L ∉ wr := fun h => hfL _ (W.sub _ h) rfl
  have hst₁ : St 0 h₁ := W.frame _ _ _ hst fun b _ o e => old b o e
  have loop : ∀ s₃ : Shared, s₃ = { s₂ with heap := h₁, toks := s₂.toks } →
      codeAny (model prog w) A (.compLoop (.ListComp elt [⟨.Tuple [.Name a pa, .Name b pb] kk tp, iter, [], 0⟩] scope pos) 0 (.ref I) (.ref D) (compEnvC scope ((a, P) :: cl) C env)) (RR (.ref D) C) s₃ := by
    rintro s₃ rfl
    refine z_loop
      (fun k s' => ∃ h' tk i ys m' v, s' = { s₂ with heap := h', toks := tk } ∧ i ≤ n ∧ k = n + 1 - i ∧ ys.length ≤ i ∧ St i h' ∧ Fr h₀ L h' m ∧ h'.Ns C m' ∧ h'.IsCell P v ∧ News h₀ L h' ((D, lst ys) :: news) ∧ Got R (fun _ => true) i ys) ?_ (n + 1)
      ⟨h₁, _, 0, [], _, _, rfl, Nat.zero_le _, rfl, Nat.le_refl _, hst₁, F.keeps old, hns₁, hcell₁, ?_, rfl⟩
    · have offN : ∀ p ∈ news, p.1 ∉ wr ∧ p.1 ≠ C ∧ p.1 ≠ D ∧ p.1 ≠ P := fun p hp => by
        have hb := below p.1 (szLt _ _ (N p hp).1)
        exact ⟨off p hp, hb⟩
      rintro k s' ⟨h', tk, i, ys, m', vP, rfl, hi, rfl, hyl, hst', F', hn', hcP, N', hJ⟩
      by_cases hlt : i < n
      · refine W.item i _ _ _ hlt hst' fun T vals h₂ tk₂ hP hT hMid hkp => ?_
        obtain ⟨x, y, rfl⟩ := h2 i vals hP
        refine W.go _ _ _ i T _ _ _ hMid fun h₃ hst₃ hk₃ => ?_
        have hT₃ : h₃.IsTuple T #[x, y] := by
          obtain ⟨o, e, r⟩ := hT
          exact ⟨o, hk₃ T o (W.apart i T _ hMid) e, r⟩
        have up₃ : ∀ c o, c ∉ wr → h'.get? c = some o → h₃.get? c = some o := fun c o hc e => hk₃ c o hc (hkp c o hc e)
        have hn₃ : h₃.Ns C m' := hn'.at' fun o e => up₃ _ o hCw e
        have hc₃ : h₃.IsCell P vP := by obtain ⟨o, e, d⟩ := hcP; exact ⟨o, up₃ _ o hPw e, d⟩
        refine wpAny_assign_Tuple hh hT₃ rfl rfl fun h₄ he₄ => ?_
        have up₄ : ∀ c o, h₃.get? c = some o → h₄.get? c = some o := fun c o e => he₄ c o (Nat.ne_of_lt (Heap.lt_size e)) e
        have hn₄ : h₄.Ns C m' := hn₃.at' fun o e => up₄ _ o e
        have hc₄ : h₄.IsCell P vP := hc₃.keeps up₄
        show wpAny _ _ (assignInOrder [assign (.Name a pa) (compEnvC scope ((a, P) :: cl) C env), assign (.Name b pb) (compEnvC scope ((a, P) :: cl) C env)] [x, y]) _ _ _
        refine assignInOrder_cons ?_
        refine wpAny_assign_Name (wpAny_storeName_cell (c := P) (by simp [compEnvC, relabel, hkind]) (hka _ _) (by simp [compEnvC, List.lookup]) hc₄ fun h₅ hc₅ hs₅ => ?_)
        have hn₅ : h₅.Ns C m' := hn₄.sameBut hs₅ hCP
        refine assignInOrder_cons ?_
        refine wpAny_assign_Name (wpAny_storeName_local (hkb _ _) hn₅ (fun h₆ hn₆ hs₆ => ?_) (by simp [compEnvC, relabel, hkind]))
        refine assignInOrder_nil ?_
        have hn₆ : h₆.Ns C (fun z => if z = b then some y else m' z) := hn₆
        have hs₆ : Heap.SameBut C h₅ h₆ := hs₆
        have hc₆ : h₆.IsCell P (some x) := hc₅.sameBut hs₆ (Ne.symm hCP)
        have up₆ : ∀ c o, c ∉ wr → c ≠ C → c ≠ P → h'.get? c = some o → h₆.get? c = some o := fun c o h1 hc hp e => hs₆.extBut c o hc (hs₅.extBut c o hp (up₄ c o (up₃ c o h1 e)))
        have hst₆ : St (i + 1) h₆ := W.frame _ _ _ hst₃ fun c hc o e => hs₆.extBut c o (fun q => hCf (q ▸ hc)) (hs₅.extBut c o (fun q => hPf (q ▸ hc)) (up₄ c o e))
        obtain ⟨oC, heC, hoC⟩ := ns_obj hn₆
        obtain ⟨oP, heP, hoP⟩ := hc₆
        have F₆ : Fr h₀ L h₆ m := ⟨F'.ns.at' fun o e => up₆ _ o hLw (Ne.symm hCL) (Ne.symm hPL) e, fun c o e => up₆ c o (fun q => by rw [hwr0 c q] at e; cases e) (fun q => by rw [q, hC₀] at e; cases e) (fun q => by rw [q, hP₀] at e; cases e) (F'.keep c o e), F'.above⟩
        have N₆ : News h₀ L h₆ ((D, lst ys) :: news) := fun p hp => by
          have z := N' p hp
          refine ⟨up₆ _ _ ?_ ?_ ?_ z.1, z.2⟩
          · rcases List.mem_cons.mp hp with rfl | hp
            · exact hDw
            · exact (offN p hp).1
          · rcases List.mem_cons.mp hp with rfl | hp
            · exact hDC
            · exact (offN p hp).2.1
          · rcases List.mem_cons.mp hp with rfl | hp
            · exact hDP
            · exact (offN p hp).2.2.2
        generalize hled : zIters h₀ h₆ fp ++ ((C, oC) :: (P, oP) :: (D, lst ys) :: news) = led
        have N₇ : News h₀ L h₆ led := by
          subst hled
          intro p hp
          rcases List.mem_append.mp hp with hp | hp
          · obtain ⟨a1, a2, a3⟩ := mem_zIters.mp hp
            exact ⟨a3, hfL _ a1, a2⟩
          · rcases List.mem_cons.mp hp with rfl | hp
            · exact ⟨heC, hCL, hC₀⟩
            rcases List.mem_cons.mp hp with rfl | hp
            · exact ⟨heP, hPL, hP₀⟩
            · exact N₆ p hp
        have sI : ∀ p ∈ zIters h₀ h₆ fp, p ∈ led := fun p hp => hled ▸ List.mem_append_left _ hp
        have sR : ∀ p ∈ (C, oC) :: (P, oP) :: (D, lst ys) :: news, p ∈ led := fun p hp => hled ▸ List.mem_append_right _ hp
        show wpAny _ _ (zTests [] (compEnvC scope ((a, P) :: cl) C env)) _ _ _
        refine wpAny_of_eq (a := true) (by simp [zTests]) ?_
        simp only [if_true]
        refine wpAny_mono (turn i led C P oC oP _ h₆ _ _ x y hlt hP (if_pos rfl) hoP hoC F₆ N₇ (sR _ List.mem_cons_self) (sR _ (List.mem_cons_of_mem _ List.mem_cons_self)) (fun p hp => sR _ (List.mem_cons_of_mem _ (List.mem_cons_of_mem _ (List.mem_cons_of_mem _ hp)))))
          (fun v s₇ h₇ => ?_) fun _ _ e => e
        obtain ⟨h₇, tk₇, rfl, F₇, N₈, hR⟩ := h₇
        have zC := (N₈ _ (sR _ List.mem_cons_self)).1
        have zP := (N₈ _ (sR (P, oP) (List.mem_cons_of_mem _ List.mem_cons_self))).1
        have zD := (N₈ _ (sR (D, lst ys) (List.mem_cons_of_mem _ (List.mem_cons_of_mem _ List.mem_cons_self)))).1
        refine append_at (hsz := by show ys.toArray.size ≤ sizeLine; rw [List.size_toArray]; exact Nat.le_trans hyl (Nat.le_trans hi hsz)) zD fun h₈ hs₈ hD₈ => ?_
        refine ⟨n + 1 - (i + 1), by omega, h₈, _, i + 1, ys ++ [v], _, _, rfl, hlt, rfl, by rw [List.length_append, List.length_singleton]; exact Nat.succ_le_succ hyl,
          W.frame _ _ _ (W.frame _ _ _ hst₆ (zIters_kept F₇ F₆ N₈ sI)) fun c hc o e => hs₈.extBut c o (fun q => hDf (q ▸ hc)) e, F₇.change hs₈ hDL hD₀, (hoC.ns zC).sameBut hs₈ (Ne.symm hDC), (show h₇.IsCell P (some x) from ⟨oP, zP, hoP⟩).sameBut hs₈ (Ne.symm hDP), ?_, ?_⟩
        · intro p hp
          rcases List.mem_cons.mp hp with rfl | hp
          · exact ⟨hD₈.trans (congrArg some (lst_snoc ys v)), hDL, hD₀⟩
          · have z := N₈ p (sR p (List.mem_cons_of_mem _ (List.mem_cons_of_mem _ (List.mem_cons_of_mem _ hp))))
            exact ⟨hs₈.extBut _ _ (offN p hp).2.2.1 z.1, z.2⟩
        · simp only [Got, if_true]
          exact ⟨ys, v, rfl, hJ, hR⟩
      · have hin : i = n := Nat.le_antisymm hi (Nat.not_lt.mp hlt)
        subst hin
        refine W.done _ _ _ hst' fun h₂ tk₂ hk₂ => ?_
        exact hRR D C h₂ tk₂ m' ys hJ ⟨F'.ns.at' fun o e => hk₂ _ o hLw e, fun c o e => hk₂ c o (fun q => by rw [hwr0 c q] at e; cases e) (F'.keep c o e), F'.above⟩
          (fun p hp => by
            have z := N' p hp
            refine ⟨hk₂ _ _ ?_ z.1, z.2⟩
            rcases List.mem_cons.mp hp with rfl | hp
            · exact hDw
            · exact (offN p hp).1)
          (fun p hp => (offN p hp).2.2.1) (hn'.at' fun o e => hk₂ _ o hCw e) hC₀ hCL hDC (fun p hp => (offN p hp).2.1)
    · intro p hp
      rcases List.mem_cons.mp hp with rfl | hp
      · exact ⟨hacc, hDL, hD₀⟩
      · exact ⟨old _ _ (N p hp).1, (N p hp).2⟩
  exact codeAny_compStart_list (loop _ rfl) (W.self 0 _ _ _ hst₁ (loop _ rfl))
end
end Mine
end
section
open PySem PySem.Calls PyProof.Rows PyProof.Rows.LCg PySem.Spec PySem.W
open PySem.AutoSeq1 (wpAny_loadPart')
set_option linter.unusedVariables false
set_option maxRecDepth 100000
set_option maxHeartbeats 4000000
namespace Mine
section
variable {prog : Program} {w : World} {A : Around} {E : Value → Shared → Prop} {s : Shared}
theorem tup_draw {it t : Addr} {i : Nat} {items : Array Value} {x : Value} {Q : Value → Shared → Prop} (hit : s.heap.IsTupleIter it t i) (ht : s.heap.IsTuple t items) (hx : items[i]? = some x)
    (hQ : ∀ h', h'.IsTupleIter it t (i + 1) → Heap.SameBut it s.heap h' → Q x { s with heap := h' }) : wpAny (model prog w) A (Builtin.SmallTypes.nextOf (.ref it)) Q E s := by
  obtain ⟨o, ho, hc, hd⟩ := id hit
  obtain ⟨ot, hot, _, k, hdt⟩ := ht
  unfold Builtin.SmallTypes.nextOf
  refine wpAny_bind (wpAny_callSpecial?_slot (name := Str.ofString "__next__") hit.typeIs F.slot_tuple_iterator_next (wpAny_call_entry F.slot_tuple_iterator_next hit.typeIs F.entry_tuple_iterator_next ?_ (F.args_tuple_iterator_next_1 _)))
  show wpAny _ _ (field (.ref it) 0 >>= _) _ _ s
  refine wpAny_bind (wpAny_field ho hd (x := .ref t) rfl ?_)
  show wpAny _ _ (if (Value.ref t == Value.none) = true then _ else _) _ _ s
  rw [if_neg (show ¬ ((Value.ref t == Value.none) = true) from Bool.false_ne_true)]
  show wpAny _ _ (field (.ref it) 1 >>= _) _ _ s
  refine wpAny_bind (wpAny_field ho hd (x := .int i 0) rfl ?_)
  show wpAny _ _ (seqItems? (.ref t) >>= _) _ _ s
  refine wpAny_bind (wpAny_seqItems hot hdt ?_)
  simp only [Int.toNat_natCast, hx]
  refine wpAny_bind (wpAny_setField ho hd (by simp) (wpAny_pure ⟨x, rfl, wpAny_pure (hQ _ ?_ (Heap.SameBut.update ..))⟩))
  exact ⟨_, Heap.get?_update_self _ ho (Obj.isFreed_of_fields (Obj.data_mapFields hd _)), (Obj.cls_mapFields ..).trans hc, by rw [Obj.data_mapFields hd]; simp [rawInt]⟩
theorem tup_drawn {it t : Addr} {i : Nat} {items : Array Value} {Q : Value → Shared → Prop} (hh : A.handled = none) (hit : s.heap.IsTupleIter it t i) (ht : s.heap.IsTuple t items) (hx : items[i]? = none)
    (hE : ∀ h' e, Heap.ExtBut it s.heap h' → (∃ o, h'.get? e = some o ∧ o.cls = .type "StopIteration") → E (.ref e) { s with heap := h' }) : wpAny (model prog w) A (Builtin.SmallTypes.nextOf (.ref it)) Q E s := by
  obtain ⟨o, ho, hc, hd⟩ := id hit
  obtain ⟨ot, hot, _, k, hdt⟩ := ht
  unfold Builtin.SmallTypes.nextOf
  refine wpAny_bind (wpAny_callSpecial?_slot (name := Str.ofString "__next__") hit.typeIs F.slot_tuple_iterator_next (wpAny_call_entry F.slot_tuple_iterator_next hit.typeIs F.entry_tuple_iterator_next ?_ (F.args_tuple_iterator_next_1 _)))
  show wpAny _ _ (field (.ref it) 0 >>= _) _ _ s
  refine wpAny_bind (wpAny_field ho hd (x := .ref t) rfl ?_)
  show wpAny _ _ (if (Value.ref t == Value.none) = true then _ else _) _ _ s
  rw [if_neg (show ¬ ((Value.ref t == Value.none) = true) from Bool.false_ne_true)]
  show wpAny _ _ (field (.ref it) 1 >>= _) _ _ s
  refine wpAny_bind (wpAny_field ho hd (x := .int i 0) rfl ?_)
  show wpAny _ _ (seqItems? (.ref t) >>= _) _ _ s
  refine wpAny_bind (wpAny_seqItems hot hdt ?_)
  simp only [Int.toNat_natCast, hx]
  refine wpAny_bind (wpAny_rule (wpAny_bind (wpAny_setField ho hd (by simp) ?_)))
  show wpAny _ _ (newExc (.type "StopIteration") [] >>= _) _ _ _
  refine wpAny_bind ?_
  simp only [newExc, newTuple]
  refine wpAny_bind (wpAny_newObj_type ?_ (by size_fits))
  refine wpAny_bind (m := firstArgMember _ _) (wpAny_of_eq (a := Value.none) (by first | rfl | (simp only [firstArgMember]; rfl)) ?_)
  refine wpAny_newObj_type ?_ (by size_fits)
  simp only [raiseNew]
  refine wpAny_bind (wpAny_handled ?_)
  first | rw [show A.in1.handled = none from hh] | rw [hh]
  refine wpAny_bind (wpAny_pure (wpAny_throw ?_))
  exact hE _ _ (((Heap.SameBut.update ..).extBut.push _).push _) ⟨_, Heap.get?_push_size _ rfl, rfl⟩
theorem drawsTup (hh : A.handled = none) (it t : Addr) (hne : t ≠ it) (items : Array Value) :
    Draws prog w A it [it, t] items.size (fun i v => items[i]? = some v) (fun i h => h.IsTupleIter it t i ∧ h.IsTuple t items) where
  live := fun _ _ st => let ⟨o, ho, _⟩ := st.1; ⟨o, ho⟩
  frame := fun _ _ _ st hk => ⟨st.1.at fun o e => hk it (by simp) o e, st.2.at fun o e => hk t (by simp) o e⟩
  item := fun i s Q E hi st hQ => tup_draw st.1 st.2 (x := items[i]) (by simp [hi]) fun h' hit' hs' => hQ _ h' s.toks (by simp [hi]) ⟨hit', st.2.extBut hs'.extBut hne⟩ hs'
  done := fun s Q E st hE => tup_drawn hh st.1 st.2 (by simp) hE
theorem enum_newT (l : Addr) (items : Array Value) (n : Nat) (dct : Option Addr) (sl : Array (Option Value)) :
    Meets (Builtin.«enumerate.__new__» ⟨[.type "enumerate", .ref l], []⟩) (fun _ R s => s.heap.get? l = some { cls := .type "tuple", dict := dct, data := .seq items n, slots := sl } ∧
      R (.ok (.ret (.ref (s.heap.push { cls := .type "tuple_iterator", data := .fields #[.ref l, .int 0 0] }).objs.size)))
        { s with heap := (s.heap.push { cls := .type "tuple_iterator", data := .fields #[.ref l, .int 0 0] }).push { cls := .type "enumerate", data := .fields #[.none, .bool false, .ref s.heap.objs.size, rawInt 0, .none, .none] } }) :=
  .of_wp fun prog w A R s h => by
    obtain ⟨hp, g, d, tk, os⟩ := s; obtain ⟨hl, h⟩ := h
    have hsub := sub_enumerate
    have hL : Heap.IsTuple (Shared.heap ⟨hp, g, d, tk, os⟩) l items := ⟨_, hl, rfl, n, rfl⟩
    wp_walk using wpAny_loadPart' hl
    refine wpAny_stack_any fun st => wpAny_pure ?_
    split
    · rename_i c _ _ _ _ _
      cases (c == Value.type "enumerate")
      · wp_walk using wpAny_loadPart' hl, wpAny_pyIter_tuple hL
        exact ⟨_, rfl, h⟩
      · wp_walk using wpAny_loadPart' hl, wpAny_pyIter_tuple hL
        exact ⟨_, rfl, h⟩
    · wp_walk using wpAny_loadPart' hl, wpAny_pyIter_tuple hL
      exact ⟨_, rfl, h⟩
theorem call_enumT {l : Addr} {items : Array Value} {Q : Value → Shared → Prop} (hL : s.heap.IsTuple l items)
    (h : ∀ h', IsEnum h' (s.heap.objs.size + 1) s.heap.objs.size 0 .none → h'.IsTupleIter s.heap.objs.size l 0 → h'.objs.size = s.heap.objs.size + 2 →
      (∀ b o, s.heap.get? b = some o → h'.get? b = some o) → Q (.ref (s.heap.objs.size + 1)) { s with heap := h' }) :
    wpAny (model prog w) A (call (.type "enumerate") [.ref l]) Q E s := by
  obtain ⟨⟨c, dct, dt, sl⟩, hl, hc, n, hd⟩ := hL
  replace hc : c = .type "tuple" := hc
  replace hd : dt = .seq items n := hd
  subst hc hd
  refine callType_new F.called_enumerate (by decide) (F.typeCall_enumerate_1 _) (F.newCall_enumerate_1 _) (fun obj => F.args_object_init_2 obj _) F.entry_enumerate_new (enum_newT l items n dct sl) ⟨hl, ?_⟩
  have hz : (s.heap.push { cls := .type "tuple_iterator", data := .fields #[.ref l, .int 0 0] }).objs.size = s.heap.objs.size + 1 := Heap.size_push ..
  show _ ∧ _
  rw [hz]
  have he : IsEnum ((s.heap.push { cls := .type "tuple_iterator", data := .fields #[.ref l, .int 0 0] }).push
      { cls := .type "enumerate", data := .fields #[.none, .bool false, .ref s.heap.objs.size, rawInt 0, .none, .none] }) (s.heap.objs.size + 1) s.heap.objs.size 0 .none := by
    have := Heap.get?_push_size (s.heap.push { cls := .type "tuple_iterator", data := .fields #[.ref l, .int 0 0] })
      (o := { cls := .type "enumerate", data := .fields #[.none, .bool false, .ref s.heap.objs.size, rawInt 0, .none, .none] }) rfl
    rw [hz] at this; exact this
  exact ⟨⟨_, he, rfl⟩, h _ he ⟨_, Heap.get?_push_of_some _ (Heap.get?_push_size _ rfl), rfl, rfl⟩ (by rw [Heap.size_push, hz]) fun b o x => Heap.get?_push_of_some _ (Heap.get?_push_of_some _ x)⟩
end
end Mine
end
section
open PySem PySem.Calls PyProof.Rows PyProof.Rows.LCg PySem.Spec PySem.W
set_option linter.unusedVariables false
set_option maxRecDepth 100000
set_option maxHeartbeats 4000000
namespace Mine
section
variable {prog : Program} {w : World} {A : Around} {E : Value → Shared → Prop} {h₀ : Heap} {L : Addr} {m : Str → Option Value} {env : Env} {s : Shared}
variable {elt : PySem.Expr} {ifs : List PySem.Expr} {scope : Scope} {cl : List (Str × Addr)} {R : Nat → Value → Prop} {test : Nat → Bool} {news : List (Addr × Obj)}
  {Fin : Shared → (Nat → List Value → List (Addr × Obj) → Prop) → Nat → List (Addr × Obj) → Prop}
def EnPt (xs : Array Value) (i : Nat) (vals : Array Value) : Prop := ∃ t x, xs[i]? = some x ∧ vals = #[.int i t, x]
theorem EnPt.two {xs : Array Value} (i : Nat) (vals : Array Value) (h : EnPt xs i vals) : ∃ x y, vals = #[x, y] := let ⟨_, _, _, e⟩ := h; ⟨_, _, e⟩
theorem zst_enumL {l : Addr} {xs : Array Value} {a b : Str} {pa pb tp : Pos} {kk : Nat} (hh : A.handled = none) (hab : a ≠ b) (F : Fr h₀ L s.heap m) (N : News h₀ L s.heap news) (h1 : s.heap.IsList l xs) (hL1 : l ≠ L) (hsz : xs.size ≤ sizeLine)
    (turn : GTurn prog w A h₀ L m env elt ifs scope cl s (fun i m₂ => ∃ x y, EnPt xs i #[x, y] ∧ m₂ a = some x ∧ m₂ b = some y) xs.size R test news)
    (fin : ∀ h₂ tk₂, Fin { s with heap := h₂, toks := tk₂ } (fun i ys own => own = [] ∧ Got R test i ys) xs.size news) :
    wpAny (model prog w) A (call (.type "enumerate") [.ref l]) (fun xv s₁ => wpAny (model prog w) A (pyIter xv) (ZSt prog w A h₀ L m env elt (.Tuple [.Name a pa, .Name b pb] kk tp) ifs scope cl [a, b] Fin) E s₁) E s := by
  have hl : l < s.heap.objs.size := by obtain ⟨o, e, _⟩ := h1; exact Heap.lt_size e
  have hLs : L < s.heap.objs.size := F.ns.lt
  refine call_enumerate_list h1 fun h' he hit hs up => ?_
  have W := (WalksT.enumerateD (Draws.list (prog := prog) (w := w) (A := A.in1) hh s.heap.objs.size l (Nat.ne_of_lt hl) xs) (s.heap.objs.size + 1) (Nat.succ_ne_self _) (by
    intro hm
    rcases List.mem_cons.mp hm with e | hm
    · exact Nat.succ_ne_self _ e
    · exact Nat.ne_of_gt (Nat.lt_succ_of_lt hl) (List.mem_singleton.mp hm)) (by simp)).toU
  refine W.self 0 _ _ _ ⟨⟨_, by simpa using he⟩, hit, h1.at fun o e => up _ o e⟩ ?_
  refine zst_gen (s := s) (tk₂ := s.toks) (ZSrc.pair (a := a) (b := b) (pa := pa) (pb := pb) (tp := tp) (kk := kk) hh W (fun i h st b hb => ?_) EnPt.two hab) hsz ⟨⟨_, by simpa using he⟩, hit, h1.at fun o e => up _ o e⟩ ?_ ?_ ?_ F N up turn (fin _ _)
  · rcases List.mem_cons.mp hb with rfl | hb
    · obtain ⟨⟨_, q⟩, _⟩ := st; exact ⟨_, q⟩
    rcases List.mem_cons.mp hb with rfl | hb
    · obtain ⟨_, ⟨o, e, _⟩, _⟩ := st; exact ⟨o, e⟩
    · rw [List.mem_singleton.mp hb]; obtain ⟨_, _, ⟨o, e, _⟩⟩ := st; exact ⟨o, e⟩
  · intro b hb
    rw [hs]
    rcases List.mem_cons.mp hb with rfl | hb
    · exact Nat.lt_succ_self _
    rcases List.mem_cons.mp hb with rfl | hb
    · exact Nat.lt_succ_of_lt (Nat.lt_succ_self _)
    · rw [List.mem_singleton.mp hb]; exact Nat.lt_succ_of_lt (Nat.lt_succ_of_lt hl)
  · intro b hb
    rcases List.mem_cons.mp hb with rfl | hb
    · exact Ne.symm (Nat.ne_of_lt (Nat.lt_succ_of_lt hLs))
    rcases List.mem_cons.mp hb with rfl | hb
    · exact Ne.symm (Nat.ne_of_lt hLs)
    · rw [List.mem_singleton.mp hb]; exact hL1
  · intro b hb
    rcases List.mem_cons.mp hb with rfl | hb
    · exact Nat.le_succ _
    · rw [List.mem_singleton.mp hb]; exact Nat.le_refl _
theorem zc_enumT {T : Addr} {xs : Array Value} {iter : PySem.Expr} {pos : Pos} {a b : Str} {pa pb tp : Pos} {kk : Nat} {Q : Value → Shared → Prop} (hh : A.handled = none) (F : Fr h₀ L s.heap m) (N : News h₀ L s.heap news) (h1 : s.heap.IsTuple T xs) (hL1 : T ≠ L) (hsz : xs.size ≤ sizeLine)
    (hkind : scope.kind = .function) (hcf : ∀ n, cellsFrom n scope.names cl = (a, n) :: cl) (hpc : ∀ h, pushCells h scope.names = h.push { cls := .type "cell", data := .cell none })
    (hka : ∀ cs C, (compEnvC scope cs C env).kindOf a = some .cell) (hkb : ∀ cs C, (compEnvC scope cs C env).kindOf b = some .local)
    (turn : CTurn prog w A h₀ L m env elt scope cl a b s xs.size (EnPt xs) R news)
    (fin : ∀ D h tk ys, Got R (fun _ => true) xs.size ys → Fr h₀ L h m → News h₀ L h ((D, lst ys) :: news) → (∀ p ∈ news, p.1 ≠ D) → Q (.ref D) { s with heap := h, toks := tk }) :
    wpAny (model prog w) A (call (.type "enumerate") [.ref T]) (fun xv s₁ => wpAny (model prog w) A (pyIter xv) (fun it s₂ => wpAny (model prog w) A (newList []) (fun acc s₃ =>
      wpAny (model prog w) A (newFunctionEnv scope env.globals cl [] env.qual none .none (some env)) (fun cenv s₄ =>
        codeAny (model prog w) A (.compStart (.ListComp elt [⟨.Tuple [.Name a pa, .Name b pb] kk tp, iter, [], 0⟩] scope pos) 0 it acc { cenv with scope := relabel scope env }) (compPost (model prog w) A E none Q acc cenv.locals) s₄) E s₃) E s₂) E s₁) E s := by
  have hl : T < s.heap.objs.size := by obtain ⟨o, e, _⟩ := h1; exact Heap.lt_size e
  have hLs : L < s.heap.objs.size := F.ns.lt
  refine call_enumT h1 fun h' he hit hs up => ?_
  have W := (WalksT.enumerateD (drawsTup (prog := prog) (w := w) (A := A.in1) hh s.heap.objs.size T (Nat.ne_of_lt hl) xs) (s.heap.objs.size + 1) (Nat.succ_ne_self _) (by
    intro hm
    rcases List.mem_cons.mp hm with e | hm
    · exact Nat.succ_ne_self _ e
    · exact Nat.ne_of_gt (Nat.lt_succ_of_lt hl) (List.mem_singleton.mp hm)) (by simp)).toU
  have nowr : ∀ b ∈ [s.heap.objs.size + 1, s.heap.objs.size], s.heap.objs.size ≤ b := by
    intro b hb
    rcases List.mem_cons.mp hb with rfl | hb
    · exact Nat.le_succ _
    · rw [List.mem_singleton.mp hb]; exact Nat.le_refl _
  refine W.self 0 _ _ _ ⟨⟨_, by simpa using he⟩, hit, h1.at fun o e => up _ o e⟩ ?_
  refine z_blockC (s₂ := { s with heap := h' }) (L := L) (m := m) (h₀ := h₀) (news := news) (R := R) hh W (fun i h st b hb => ?_) EnPt.two hsz hkind hcf hpc hka hkb ⟨⟨_, by simpa using he⟩, hit, h1.at fun o e => up _ o e⟩ ?_ ?_ ?_ (F.keeps up) (N.grown up) ?_ turn ?_
  · rcases List.mem_cons.mp hb with rfl | hb
    · obtain ⟨⟨_, q⟩, _⟩ := st; exact ⟨_, q⟩
    rcases List.mem_cons.mp hb with rfl | hb
    · obtain ⟨_, ⟨o, e, _⟩, _⟩ := st; exact ⟨o, e⟩
    · rw [List.mem_singleton.mp hb]; obtain ⟨_, _, ⟨o, e, _⟩⟩ := st; exact ⟨o, e⟩
  · intro b hb
    show b < h'.objs.size
    rw [hs]
    rcases List.mem_cons.mp hb with rfl | hb
    · exact Nat.lt_succ_self _
    rcases List.mem_cons.mp hb with rfl | hb
    · exact Nat.lt_succ_of_lt (Nat.lt_succ_self _)
    · rw [List.mem_singleton.mp hb]; exact Nat.lt_succ_of_lt (Nat.lt_succ_of_lt hl)
  · intro b hb
    rcases List.mem_cons.mp hb with rfl | hb
    · exact Ne.symm (Nat.ne_of_lt (Nat.lt_succ_of_lt hLs))
    rcases List.mem_cons.mp hb with rfl | hb
    · exact Ne.symm (Nat.ne_of_lt hLs)
    · rw [List.mem_singleton.mp hb]; exact hL1
  · intro b hb
    cases e : h₀.get? b with
    | none => rfl
    | some o => exact absurd (Nat.lt_of_lt_of_le (Heap.lt_size (F.keep b o e)) (nowr b hb)) (Nat.lt_irrefl _)
  · intro p hp hw
    exact absurd (Nat.lt_of_lt_of_le (Heap.lt_size (N p hp).1) (nowr _ hw)) (Nat.lt_irrefl _)
  · intro D C h tk m' ys hG F' N' o1 hn hC₀ hCL hDC offC
    refine ⟨m', hn, fun h'' hs'' => fin D h'' tk ys hG (F'.change hs'' hCL hC₀) (fun p hp => ?_) o1⟩
    refine ⟨hs''.extBut _ _ ?_ (N' p hp).1, (N' p hp).2⟩
    rcases List.mem_cons.mp hp with rfl | hp
    · exact hDC
    · exact offC p hp
end
end Mine
end
section
open PySem PySem.Calls PyProof.Rows PyProof.Rows.LCg PySem.Spec PySem.W
set_option linter.unusedVariables false
set_option maxRecDepth 100000
set_option maxHeartbeats 4000000
namespace Mine
section
variable {prog : Program} {w : World} {A : Around} {E : Value → Shared → Prop} {h₀ : Heap} {L : Addr} {m : Str → Option Value} {env : Env} {s : Shared}
variable {elt : PySem.Expr} {ifs : List PySem.Expr} {scope : Scope} {cl : List (Str × Addr)} {x : Str} {px : Pos} {R : Nat → Value → Prop} {test : Nat → Bool} {news : List (Addr × Obj)} {ax : Addr}
  {Fin : Shared → (Nat → List Value → List (Addr × Obj) → Prop) → Nat → List (Addr × Obj) → Prop}
theorem zst_range {a b c : Int} {t u v : Tok} {n : Nat} (hh : A.handled = none) (F : Fr h₀ L s.heap m) (N : News h₀ L s.heap news) (hr : IsRange s.heap ax a b c t u v) (hsmall : Builtin.Range.small a b c = true) (hn : Builtin.Range.rangeSize a b c = (n : Int)) (hsz : n ≤ sizeLine)
    (turn : GTurn prog w A h₀ L m env elt ifs scope cl s (fun i m₂ => ∃ v, (∃ t, v = .int (a + i * c) t) ∧ m₂ x = some v) n R test news)
    (fin : ∀ h₂ tk₂, Fin { s with heap := h₂, toks := tk₂ } (fun i ys own => own = [] ∧ Got R test i ys) n news) :
    wpAny (model prog w) A (pyIter (.ref ax)) (ZSt prog w A h₀ L m env elt (.Name x px) ifs scope cl [x] Fin) E s := by
  refine wpAny_pyIter_range hr hsmall ?_
  have up : ∀ b₀ o, s.heap.get? b₀ = some o → (s.heap.push { cls := .type "range_iterator", data := .fields #[rawInt a, rawInt (Builtin.Range.rangeSize a b c), rawInt c] }).get? b₀ = some o := fun b₀ o e => Heap.get?_push_of_some _ e
  refine zst_gen (s := s) (fp := [s.heap.objs.size]) (wr := [s.heap.objs.size]) (ZSrc.name (Walks.range (prog := prog) (w := w) (A := A) hh s.heap.objs.size a c n) (fun i h st b hb => ?_) x px) hsz ?_ ?_ ?_ ?_ F N up turn (fin _ _)
  · rw [List.mem_singleton.mp hb]; exact ⟨_, st⟩
  · show IsRangeIter _ _ _ _ _
    rw [hn]
    have e1 : a + ((0 : Nat) : Int) * c = a := by simp
    have e2 : (n : Int) - ((0 : Nat) : Int) = n := by simp
    rw [e1, e2]
    exact Heap.get?_push_size _ rfl
  · intro b hb
    rw [Heap.size_push, List.mem_singleton.mp hb]
    exact Nat.lt_succ_self _
  · intro b hb
    rw [List.mem_singleton.mp hb]
    exact Ne.symm (Nat.ne_of_lt F.ns.lt)
  · intro b hb
    rw [List.mem_singleton.mp hb]; exact Nat.le_refl _
theorem zst_str {y : Str} {t : Tok} (hh : A.handled = none) (F : Fr h₀ L s.heap m) (N : News h₀ L s.heap news) (hsz : y.cps.size ≤ sizeLine)
    (turn : GTurn prog w A h₀ L m env elt ifs scope cl s (fun i m₂ => ∃ v, SignAt y i v ∧ m₂ x = some v) y.cps.size R test news)
    (fin : ∀ h₂ tk₂, Fin { s with heap := h₂, toks := tk₂ } (fun i ys own => own = [] ∧ Got R test i ys) y.cps.size news) :
    wpAny (model prog w) A (pyIter (.str y t)) (ZSt prog w A h₀ L m env elt (.Name x px) ifs scope cl [x] Fin) E s := by
  cases ha : y.cps.all (· < 128)
  · refine wpAny_pyIter_wide ha ?_
    refine zst_gen (s := s) (fp := [s.heap.objs.size]) (wr := [s.heap.objs.size]) (ZSrc.name (Walks.strWide (prog := prog) (w := w) (A := A) hh s.heap.objs.size y t) (fun i h st b hb => ?_) x px) hsz ⟨_, Heap.get?_push_size _ rfl, rfl, rfl⟩ ?_ ?_ ?_ F N (fun b o e => Heap.get?_push_of_some _ e) turn (fin _ _)
    · rw [List.mem_singleton.mp hb]; obtain ⟨o, e, _⟩ := st; exact ⟨o, e⟩
    · intro b hb
      rw [Heap.size_push, List.mem_singleton.mp hb]
      exact Nat.lt_succ_self _
    · intro b hb
      rw [List.mem_singleton.mp hb]
      exact Ne.symm (Nat.ne_of_lt F.ns.lt)
    · intro b hb
      rw [List.mem_singleton.mp hb]; exact Nat.le_refl _
  · refine wpAny_pyIter_ascii ha ?_
    refine zst_gen (s := s) (fp := [s.heap.objs.size]) (wr := [s.heap.objs.size]) (ZSrc.name (Walks.strAscii (prog := prog) (w := w) (A := A) hh s.heap.objs.size y t) (fun i h st b hb => ?_) x px) hsz ⟨_, Heap.get?_push_size _ rfl, rfl, rfl⟩ ?_ ?_ ?_ F N (fun b o e => Heap.get?_push_of_some _ e) turn (fin _ _)
    · rw [List.mem_singleton.mp hb]; obtain ⟨o, e, _⟩ := st; exact ⟨o, e⟩
    · intro b hb
      rw [Heap.size_push, List.mem_singleton.mp hb]
      exact Nat.lt_succ_self _
    · intro b hb
      rw [List.mem_singleton.mp hb]
      exact Ne.symm (Nat.ne_of_lt F.ns.lt)
    · intro b hb
      rw [List.mem_singleton.mp hb]; exact Nat.le_refl _
end
end Mine
end
theorem Mine.fresh_8 : True ∧ True := by first | (walk1 <;> trivial) | exact ⟨trivial, trivial⟩
section
open PySem PySem.W PyProof.Rows
set_option linter.unusedVariables false
set_option maxRecDepth 100000
set_option maxHeartbeats 4000000
namespace Mine
local macro_rules | `(tactic| walk_at "z lit") => `(tactic| (conv => pattern (exec _ _); arg 1; whnf))
local macro_rules | `(tactic| walk_at "my mem") => `(tactic| repeat (first | exact List.Mem.head _ | refine List.Mem.tail _ ?_))
theorem fresh_9 : True ∧ True := by first | (walk1 <;> trivial) | exact ⟨trivial, trivial⟩
section
open PySem PySem.W PyProof.Rows
set_option linter.unusedVariables false
set_option maxRecDepth 100000
set_option maxHeartbeats 4000000
noncomputable abbrev tE (L : Addr) : Env := envOfC (Str.ofString "_law_typed") (fS 14) L 114 (.ref 113)
noncomputable def tW (i : Nat) : Stmt := match ((fB 14)[3]? : Option Stmt) with | some (Stmt.While _ b _ _) => ((b[i]? : Option Stmt)).getD (Stmt.Pass default) | _ => Stmt.Pass default
def tabL : List (Str × Str) := [("FFI", "ﬃ"), ("FFL", "ﬄ"), ("FF", "ﬀ"), ("FI", "ﬁ"), ("FL", "ﬂ"), ("KM", "㏎"), ("KK", "㏍"), ("KB", "㎅"), ("MB", "㎆"), ("NF", "㎋"), ("NO", "№")].map fun p => (Str.ofString p.1, Str.ofString p.2)
def isHead (word : Str) (p : Str × Str) : Bool := Txt.slice word none (some (p.1.length : Int)) == p.1
theorem led_drop2 {h₀ h : Heap} {L : Addr} {a b : Addr × Obj} {led : List (Addr × Obj)} (N : News h₀ L h (a :: b :: led)) : News h₀ L h led := fun p hp => N p (List.mem_cons_of_mem _ (List.mem_cons_of_mem _ hp))
theorem led_drop12 {h₀ h : Heap} {L : Addr} {x a b : Addr × Obj} {led : List (Addr × Obj)} (N : News h₀ L h (x :: a :: b :: led)) : News h₀ L h (x :: led) := fun p hp => by
  rcases List.mem_cons.mp hp with rfl | hp
  · exact N _ List.mem_cons_self
  · exact N p (List.mem_cons_of_mem _ (List.mem_cons_of_mem _ (List.mem_cons_of_mem _ hp)))
theorem allLt_ne {d : Addr} {led : List (Addr × Obj)} (h : AllLt d led) : ∀ q ∈ led, d ≠ q.1 := by
  induction led with
  | nil => intro q hq; cases hq
  | cons p r ih =>
    intro q hq
    have h' : (@LT.lt Nat _ p.1 d) ∧ AllLt d r := h
    rcases List.mem_cons.mp hq with e | hq
    · rw [e]; exact fun e' => Nat.lt_irrefl d (by have := h'.1; rw [← e'] at this; exact this)
    · exact ih h'.2 q hq
theorem tab_len : ∀ p ∈ tabL, 2 ≤ p.1.length ∧ p.1.length ≤ 3 := by decide
theorem ways_stmt {w : World} {mean : ExcName → Option Value} {mg mb : Str → Option Value} {A : Around} {h₀ : Heap} {L ax : Addr} {m : Str → Option Value} {s : Shared} {Q : Flow → Shared → Prop} {E : Value → Shared → Prop} {oc : Obj} {word : Str} {tw : Tok}
    {items : Array Value} {na : Nat} {news : List (Addr × Obj)} (hh : A.handled = none) (hX : (KK w.params).In h₀) (hT : Top qv looseL mean mg mb h₀) (hF : Fr h₀ L s.heap m) (hm : m (Str.ofString "table") = some (.ref ax)) (hN : News h₀ L s.heap news)
    (hc : (L + 1, oc) ∈ news) (hoc : oc.data = .cell (some (.str word tw))) (hw6 : word.length ≤ 6) (hax : (ax, ({ cls := .type "tuple", data := .seq items na } : Obj)) ∈ news) (hP : PairsAt news items.toList tabL)
    (hQ : ∀ D h' tk' ys own, PairsAt own ys (tabL.filter (isHead word)) → Fr h₀ L h' (fun z => if z = Str.ofString "ways" then some (.ref D) else m z) → News h₀ L h' ((D, PyProof.Rows.LCg.lst ys) :: (own ++ news)) → (∀ p ∈ own ++ news, p.1 ≠ D) → Q .next { s with heap := h', toks := tk' }) :
    wpAny (model PySem.Challenge.rw_uy0010_01.prog w) A (exec (tW 0) (tE L)) Q E s := by
  revert hX
  k_fill
  intro hX
  walk_at "z lit"
  k_dflt (
    refine' z_Assign (names := [Str.ofString "meaning", Str.ofString "sign"]) (h₀ := h₀) (L := L) (m := m) ?k1 ?k2 ?k3 ?k4 ?k5 ?k6 ?k7 ?k8 ?k9 ?_
    (case k1 => rfl); (case k2 => with_unfolding_all rfl); (case k3 => with_unfolding_all rfl); (case k4 => decide); (case k5 => rfl); (case k6 => decide); (case k7 => decide); (case k8 => rfl); (case k9 => rfl))
  refine wpAny_mono (Q := fun v s' => v = .ref ax ∧ s' = s) ?_ (fun v s' hv => ?_) (fun _ _ e => e)
  · exact nameX_L hF hm ⟨rfl, rfl⟩
  · obtain ⟨rfl, rfl⟩ := hv
    refine zst_pairs hh (by decide) hF hN hax hP (by decide) (isHead word) ?_ ?_
    · rintro ⟨me, si⟩ hp own led C oC m₂ h tk E' t u ea eb hoC F' N' hC hnl
      dsimp only at ea eb ⊢
      have hml : 2 ≤ me.length ∧ me.length ≤ 3 := tab_len (me, si) hp
      refine wpAny_tests_one ?_
      have N₂ : News h₀ L h ((C, oC) :: (L + 1, oc) :: led) := fun q hq => by
        rcases List.mem_cons.mp hq with rfl | hq
        · exact N' _ hC
        rcases List.mem_cons.mp hq with rfl | hq
        · exact N' _ (hnl _ hc)
        · exact N' _ hq
      clear hN hF N'
      k_steps
      all_goals (try (with_reducible rename News _ _ _ (_ :: _ :: _ :: _) => kN; (with_reducible show News _ _ _ (_ :: _)); exact led_drop12 kN))
      all_goals (try (with_reducible rename News _ _ _ (_ :: _ :: _) => kN; (with_reducible show News _ _ _ _); with_reducible exact led_drop2 kN))
      all_goals (try (with_reducible show Fr _ _ _ _; with_reducible assumption))
      all_goals (try (rename_i l1 q hq; (with_reducible show _ ≠ _); exact allLt_ne l1.2.2 q hq))
    · intro D h tk ys own hJ F' N' o1 low
      exact hQ D h tk ys own (by simpa using hJ) F' N' o1
end
theorem fresh_10 : True ∧ True := by first | (walk1 <;> trivial) | exact ⟨trivial, trivial⟩
section
local macro_rules | `(tactic| walk_at "eval Name") => `(tactic| (k_here; k_dflt (refine' nameX_L ?F ?v ?_ ?a ?b; (case F => k_asm); (case a => rfl); (case b => rfl); (case v => with_reducible assumption); k_whole)))
theorem fresh_11 : True ∧ True := by first | (walk1 <;> trivial) | exact ⟨trivial, trivial⟩
section
open PySem PySem.W PyProof.Rows
set_option linter.unusedVariables false
set_option maxRecDepth 100000
set_option maxHeartbeats 4000000
def alphL : List Int := [65, 119808, 119860, 119912, 120016, 120172, 120224, 120276, 120328, 120380, 120432, 97]
abbrev alphO (t : Tok) : Obj := { cls := .type "tuple", data := .seq #[.int 65 t, .int 119808 (t + 1), .int 119860 (t + 1 + 1), .int 119912 (t + 1 + 1 + 1), .int 120016 (t + 1 + 1 + 1 + 1), .int 120172 (t + 1 + 1 + 1 + 1 + 1), .int 120224 (t + 1 + 1 + 1 + 1 + 1 + 1), .int 120276 (t + 1 + 1 + 1 + 1 + 1 + 1 + 1), .int 120328 (t + 1 + 1 + 1 + 1 + 1 + 1 + 1 + 1), .int 120380 (t + 1 + 1 + 1 + 1 + 1 + 1 + 1 + 1 + 1), .int 120432 (t + 1 + 1 + 1 + 1 + 1 + 1 + 1 + 1 + 1 + 1), .int 97 (t + 1 + 1 + 1 + 1 + 1 + 1 + 1 + 1 + 1 + 1 + 1)] }
theorem alph_bd {r : Int} (h0 : 0 ≤ r) (h1 : r < 12) : 65 ≤ alphL.getD r.toNat 0 ∧ alphL.getD r.toNat 0 ≤ 120432 := by
  have key : ∀ k : Nat, k < 12 → 65 ≤ alphL.getD k 0 ∧ alphL.getD k 0 ≤ 120432 := by decide
  exact key r.toNat (by omega)
theorem chr_sign {prog : Program} {w : World} {A : Around} {E : Value → Shared → Prop} {s : Shared} {r : Int} {c : Nat} {t : Tok} {Q : Value → Shared → Prop} (h0 : 0 ≤ r) (h1 : r < 12) (hc : 65 ≤ c ∧ c ≤ 90)
    (h : Q (.str ⟨#[(alphL.getD r.toNat 0 + (c : Int) - 65).toNat]⟩ s.toks) { s with toks := s.toks + 1 }) :
    wpAny (model prog w) A (call (.builtin "chr") [.int (alphL.getD r.toNat 0 + (c : Int) - 65) t]) Q E s := by
  have b := alph_bd h0 h1
  exact chr_of_range (by omega) (by omega) h
local macro_rules | `(tactic| walk_at "call builtin:chr") => `(tactic| (k_here; k_dflt (refine chr_sign (by assumption) (by assumption) (by assumption) ?_)))
theorem app_last {prog : Program} {w : World} {A : Around} {E : Value → Shared → Prop} {s : Shared} {h₀ : Heap} {L D T : Addr} {m : Str → Option Value} {o : Obj} {ys : List Value} {rest : List (Addr × Obj)} {Q : Value → Shared → Prop}
    (F : Fr h₀ L s.heap m) (N : News h₀ L s.heap ((T, o) :: (D, PyProof.Rows.LCg.lst ys) :: rest)) (hap : ∀ p ∈ rest, p.1 ≠ D) (hTD : T ≠ D) (hys : ys.length ≤ 11)
    (h : ∀ h', Fr h₀ L h' m → News h₀ L h' ((D, PyProof.Rows.LCg.lst (ys ++ [.ref T])) :: (T, o) :: rest) → Q .none { s with heap := h' }) :
    wpAny (model prog w) A (call (.builtin "list.append") [.ref D, .ref T]) Q E s := by
  refine append_head (its := ys.toArray) (n := ys.length) (rest := (T, o) :: rest) F (fun p hp => ?_) (fun p hp => ?_) (fun h' F' N' => h h' F' (fun p hp => ?_)) (by show ys.toArray.size ≤ sizeLine; rw [List.size_toArray, sizeLine_eq]; omega)
  · rcases List.mem_cons.mp hp with rfl | hp
    · exact N _ (List.mem_cons_of_mem _ List.mem_cons_self)
    rcases List.mem_cons.mp hp with rfl | hp
    · exact N _ List.mem_cons_self
    · exact N _ (List.mem_cons_of_mem _ (List.mem_cons_of_mem _ hp))
  · rcases List.mem_cons.mp hp with rfl | hp
    · exact hTD
    · exact hap p hp
  · rw [← PyProof.Rows.LCg.lst_snoc] at hp
    exact N' p hp
local macro_rules | `(tactic| walk_at "call builtin:list.append") => `(tactic| (k_here; k_dflt (
  refine' app_last ?k1 ?k2 ?k3 ?k4 ?k5 ?_
  (case k1 => k_asm); (case k2 => k_asm); (case k3 => assumption); (case k5 => assumption); (case k4 => first | omega | (rename_i l1; exact Ne.symm (Nat.ne_of_lt l1.1)))); intro h' F' N'))
theorem app_stmt {w : World} {mean : ExcName → Option Value} {mg mb : Str → Option Value} {A : Around} {h₀ : Heap} {L al D : Addr} {m : Str → Option Value} {s : Shared} {Q : Flow → Shared → Prop} {E : Value → Shared → Prop} {oc : Obj} {word : Str} {tw td ta : Tok} {d : Int}
    {ys : List Value} {news : List (Addr × Obj)} (hh : A.handled = none) (hX : (KK w.params).In h₀) (hT : Top qv looseL mean mg mb h₀) (hF : Fr h₀ L s.heap m)
    (hm1 : m (Str.ofString "ways") = some (.ref D)) (hm2 : m (Str.ofString "alphabets") = some (.ref al)) (hm3 : m (Str.ofString "draw") = some (.int d td))
    (hN : News h₀ L s.heap ((D, PyProof.Rows.LCg.lst ys) :: (L + 1, oc) :: (al, alphO ta) :: news)) (hap : ∀ p ∈ (L + 1, oc) :: (al, alphO ta) :: news, p.1 ≠ D)
    (hoc : oc.data = .cell (some (.str word tw))) (hw1 : 1 ≤ word.length) (hw6 : word.length ≤ 6) (hd0 : 0 ≤ d) (hd1 : d < 2 ^ 60) (hys : ys.length ≤ 11)
    (hc : 65 ≤ (Txt.item word 0).cps.getD 0 0 ∧ (Txt.item word 0).cps.getD 0 0 ≤ 90)
    (hQ : ∀ T h' tk' t1 t2, Fr h₀ L h' m → News h₀ L h' ((D, PyProof.Rows.LCg.lst (ys ++ [.ref T])) :: (T, tup2 (.str (Txt.item word 0) t1) (.str ⟨#[(alphL.getD (d.fmod 12).toNat 0 + ((Txt.item word 0).cps.getD 0 0 : Nat) - 65).toNat]⟩ t2) 0) :: (L + 1, oc) :: (al, alphO ta) :: news) → T ≠ D → Q .next { s with heap := h', toks := tk' }) :
    wpAny (model PySem.Challenge.rw_uy0010_01.prog w) A (exec (tW 1) (tE L)) Q E s := by
  revert hX
  k_fill
  intro hX
  walk_at "z lit"
  k_steps
  all_goals (rename_i l1 _ kF kN; exact hQ _ _ _ _ _ kF kN (Ne.symm (Nat.ne_of_lt l1.1)))
end
theorem fresh_12 : True ∧ True := by first | (walk1 <;> trivial) | exact ⟨trivial, trivial⟩
section
open PySem PySem.W PyProof.Rows
set_option linter.unusedVariables false
set_option maxRecDepth 100000
set_option maxHeartbeats 4000000
theorem pick_item {prog : Program} {w : World} {A : Around} {E : Value → Shared → Prop} {s : Shared} {h₀ : Heap} {L D : Addr} {value slice : Expr} {k : Int} {u : Tok} {ys : List Value} {ps : List (Str × Str)} {news : List (Addr × Obj)} {Q : Value → Shared → Prop}
    (N : News h₀ L s.heap ((D, PyProof.Rows.LCg.lst ys) :: news)) (hP : PairsAt news ys ps) (h0 : 0 ≤ k) (h1 : k < (ys.length : Int)) (hys : ys.length ≤ 12)
    (h : ∀ T t1 t2 p n, ps[k.toNat]? = some p → News h₀ L s.heap ((T, tup2 (.str p.1 t1) (.str p.2 t2) n) :: (D, PyProof.Rows.LCg.lst ys) :: news) → Q (.ref T) s)
    (hs : subscripted slice false (.ref D) (.int k u) = operate [.ref D, .int k u] (getItem (.ref D) (.int k u)) := by with_unfolding_all rfl) (hg : ∀ r, letTemporaryGo value (.ref D) r = pure () := by intro _; with_unfolding_all rfl) :
    wpAny (model prog w) A (subscriptTail value slice (.ref D) (.int k u)) Q E s := by
  obtain ⟨T, t1, t2, n, p, e1, e2, hm⟩ := hP.at k.toNat (by omega)
  refine item_list (items := ys.toArray) ⟨_, (N _ List.mem_cons_self).1, rfl, _, rfl⟩ h0 (by omega) (x := .ref T) (by simpa using e1) (h T t1 t2 p n e2 (fun q hq => ?_)) hs hg
  rcases List.mem_cons.mp hq with rfl | hq
  · exact N _ (List.mem_cons_of_mem _ hm)
  · exact N _ hq
theorem len_lst {prog : Program} {w : World} {A : Around} {E : Value → Shared → Prop} {s : Shared} {h₀ : Heap} {L D : Addr} {ys : List Value} {news : List (Addr × Obj)} {Q : Value → Shared → Prop}
    (N : News h₀ L s.heap ((D, PyProof.Rows.LCg.lst ys) :: news)) (hys : ys.length ≤ 12) (h : Q (.int (ys.length : Int) (s.toks + 1)) { s with toks := s.toks + 1 + 1 }) : wpAny (model prog w) A (call (.builtin "len") [.ref D]) Q E s :=
  kun_lenL (items := ys.toArray) ⟨_, (N _ List.mem_cons_self).1, rfl, _, rfl⟩ (by simp) (by omega) h
local macro_rules | `(tactic| walk_at "call builtin:len") => `(tactic| (k_here; k_dflt (refine' len_lst ?k1 ?k2 ?_; (case k1 => k_asm); (case k2 => assumption))))
local macro_rules | `(tactic| walk_at "subscriptTail") => `(tactic| (k_here; k_dflt (refine' pick_item ?k1 ?k2 ?k3 ?k4 ?k5 ?_; (case k1 => k_asm); (case k2 => assumption); (case k3 => omega); (case k4 => omega); (case k5 => omega)); rintro T' t1' t2' ⟨me', si'⟩ n' ep' kN'; (try dsimp only at kN')))
theorem fmod_bd {d : Int} {n : Nat} (hn : 1 ≤ n) : 0 ≤ d.fmod (n : Int) ∧ d.fmod (n : Int) < (n : Int) := by
  rw [Int.fmod_eq_emod_of_nonneg _ (by omega)]
  exact ⟨Int.emod_nonneg _ (by omega), Int.emod_lt_of_pos _ (by omega)⟩
theorem pick_stmt {w : World} {mean : ExcName → Option Value} {mg mb : Str → Option Value} {A : Around} {h₀ : Heap} {L D : Addr} {m : Str → Option Value} {s : Shared} {Q : Flow → Shared → Prop} {E : Value → Shared → Prop} {td : Tok} {d : Int}
    {ys : List Value} {ps : List (Str × Str)} {news : List (Addr × Obj)} (hh : A.handled = none) (hX : (KK w.params).In h₀) (hT : Top qv looseL mean mg mb h₀) (hF : Fr h₀ L s.heap m)
    (hm1 : m (Str.ofString "ways") = some (.ref D)) (hm3 : m (Str.ofString "draw") = some (.int d td))
    (hN : News h₀ L s.heap ((D, PyProof.Rows.LCg.lst ys) :: news)) (hP : PairsAt news ys ps) (hd0 : 0 ≤ d) (hd1 : d < 2 ^ 60) (hy0 : 1 ≤ ys.length) (hys : ys.length ≤ 12)
    (hQ : ∀ h' tk' t1 t2 p, ps[(d.fmod (ys.length : Int)).toNat]? = some p → Fr h₀ L h' (fun z => if z = Str.ofString "sign" then some (.str p.2 t2) else if z = Str.ofString "meaning" then some (.str p.1 t1) else m z) →
      News h₀ L h' ((D, PyProof.Rows.LCg.lst ys) :: news) → Q .next { s with heap := h', toks := tk' }) :
    wpAny (model PySem.Challenge.rw_uy0010_01.prog w) A (exec (tW 2) (tE L)) Q E s := by
  revert hX
  k_fill
  intro hX
  walk_at "z lit"
  have hfb := fmod_bd (d := d) hy0
  k_steps
  rename_i T' t1' t2' me' si' n' ep' kN'
  have hL₀ : h₀.get? L = none := Heap.get?_none_of_le hF.above
  refine kcp_assign (m := m) hh ⟨_, (kN' _ List.mem_cons_self).1, rfl, _, rfl⟩ (by rfl) (by rfl) (by rfl) hF.ns (fun h' tk hn hk => ?_)
  exact hQ h' tk _ _ (me', si') ep' ⟨hn, fun b o e => hk b o (fun q => by rw [show b = L from q, hL₀] at e; cases e) (hF.keep b o e), hF.above⟩ (fun p hp => ⟨hk _ _ (hN p hp).2.1 (hN p hp).1, (hN p hp).2⟩)
end
section
open PySem PySem.W PyProof.Rows
set_option linter.unusedVariables false
set_option maxRecDepth 100000
set_option maxHeartbeats 4000000
section
variable {M : Model} {A : Around} {E : Value → Shared → Prop} {s : Shared} {h₀ : Heap} {L a : Addr} {m : Str → Option Value} {cn : Str} {cs : Scope} {ccd : Value} {cl : List (Str × Addr)} {x : Str} {px : Pos} {v : Value} {Q : Unit → Shared → Prop} {news : List (Addr × Obj)} {c : Addr} {o : Obj} {v₀ : Option Value}
theorem stL (F : Fr h₀ L s.heap m) (N : News h₀ L s.heap news)
    (h : ∀ h', Fr h₀ L h' (fun y => if y = x then some v else m y) → News h₀ L h' news → Q () { s with heap := h', toks := s.toks + 1 })
    (hk : cs.kind = .function := by rfl) (hx : (envX cn cs L a ccd cl).kindOf x = some .local := by rfl) : wpAny M A (assign (.Name x px) (envX cn cs L a ccd cl) v) Q E s :=
  wpAny_assign_Name (storeX_L F N h hk hx)
theorem stC (F : Fr h₀ L s.heap m) (N : News h₀ L s.heap ((c, o) :: news)) (hap : ∀ p ∈ news, p.1 ≠ c) (hc : cl.lookup x = some c) (hd : o.data = .cell v₀)
    (h : ∀ h' o', Fr h₀ L h' m → News h₀ L h' ((c, o') :: news) → o'.data = .cell (some v) → Q () { s with heap := h' })
    (hk : cs.kind = .function := by rfl) (hx : (envX cn cs L a ccd cl).kindOf x = some .cell := by rfl) : wpAny M A (assign (.Name x px) (envX cn cs L a ccd cl) v) Q E s :=
  wpAny_assign_Name (storeX_C (g := fun o' => (c, o') :: news) F N hc (UpdF.head hap) hd h hk hx)
end
end
theorem fresh_13 : True ∧ True := by first | (walk1 <;> trivial) | exact ⟨trivial, trivial⟩
section
open PySem PySem.W PyProof.Rows
set_option linter.unusedVariables false
set_option maxRecDepth 100000
set_option maxHeartbeats 4000000
theorem set_stmt {w : World} {mean : ExcName → Option Value} {mg mb : Str → Option Value} {A : Around} {h₀ : Heap} {L : Addr} {m : Str → Option Value} {s : Shared} {Q : Flow → Shared → Prop} {E : Value → Shared → Prop} {oc : Obj} {tw td tt t1 t2 : Tok} {d : Int} {word ty me si : Str}
    {news : List (Addr × Obj)} (hh : A.handled = none) (hX : (KK w.params).In h₀) (hT : Top qv looseL mean mg mb h₀) (hF : Fr h₀ L s.heap m)
    (hm1 : m (Str.ofString "typed") = some (.str ty tt)) (hm2 : m (Str.ofString "draw") = some (.int d td)) (hm3 : m (Str.ofString "meaning") = some (.str me t1)) (hm4 : m (Str.ofString "sign") = some (.str si t2))
    (hN : News h₀ L s.heap ((L + 1, oc) :: news)) (hap : ∀ p ∈ news, p.1 ≠ L + 1) (hoc : oc.data = .cell (some (.str word tw))) (hw6 : word.length ≤ 6) (hme : 1 ≤ me.length ∧ me.length ≤ 3) (hty : ty.length ≤ 100) (hsi : si.length ≤ 1) (hd0 : 0 ≤ d) (hd1 : d < 2 ^ 60)
    (hQ : ∀ oc' h' tk' tt' tw' td', Fr h₀ L h' (fun z => if z = Str.ofString "draw" then some (.int (d.fdiv 12) td') else if z = Str.ofString "typed" then some (.str (ty ++ si) tt') else m z) →
      News h₀ L h' ((L + 1, oc') :: news) → oc'.data = .cell (some (.str (Txt.slice word (some (me.length : Int)) none) tw')) → Q .next { s with heap := h', toks := tk' }) :
    wpAny (model PySem.Challenge.rw_uy0010_01.prog w) A (exec (tW 3) (tE L)) Q E s := by
  revert hX
  k_fill
  intro hX
  walk_at "z lit"
  k_steps
  rename_i kF kN l1
  have ht := (kN _ List.mem_cons_self).1
  refine wpAny_assign_Tuple hh ⟨_, ht, rfl, _, rfl⟩ rfl rfl fun h₁ he₁ => ?_
  have F₁ : Fr h₀ L h₁ m := kF.extBut he₁ (Nat.le_refl _)
  have N₁ : News h₀ L h₁ ((L + 1, oc) :: news) := fun p hp => ⟨he₁ _ _ (Nat.ne_of_lt (Heap.lt_size (kN p (List.mem_cons_of_mem _ hp)).1)) (kN p (List.mem_cons_of_mem _ hp)).1, (kN p (List.mem_cons_of_mem _ hp)).2⟩
  refine assignInOrder_cons ?_
  refine stL F₁ N₁ (fun h₂ F₂ N₂ => ?_) rfl rfl
  refine assignInOrder_cons ?_
  refine stC F₂ N₂ hap rfl hoc (fun h₃ o₃ F₃ N₃ d₃ => ?_) rfl rfl
  refine assignInOrder_cons ?_
  refine stL F₃ N₃ (fun h₄ F₄ N₄ => ?_) rfl rfl
  refine assignInOrder_nil ?_
  exact hQ _ _ _ _ _ _ F₄ N₄ d₃
end
section
open PySem PySem.W PyProof.Rows
set_option linter.unusedVariables false
set_option maxRecDepth 100000
set_option maxHeartbeats 4000000
/-- a text of its code points -/
abbrev tx (l : List Nat) : Str := ⟨l.toArray⟩
theorem tx_len (l : List Nat) : (tx l).length = l.length := by show l.toArray.size = _; simp
theorem tx_add (a b : List Nat) : tx a ++ tx b = tx (a ++ b) := by
  show (⟨a.toArray ++ b.toArray⟩ : Str) = _
  simp
theorem tx_inj {a b : List Nat} (h : tx a = tx b) : a = b := by
  have := congrArg (fun s => s.cps.toList) h
  simpa using this
theorem tx_beq (a b : List Nat) : (tx a == tx b) = (a == b) := by
  rw [Bool.eq_iff_iff, beq_iff_eq, beq_iff_eq]
  exact ⟨tx_inj, fun h => by rw [h]⟩
theorem tx_from {l : List Nat} {k : Nat} : Txt.slice (tx l) (some (k : Int)) none = tx (l.drop k) := by
  by_cases h : k ≤ l.length
  · have := PyProof.Rows.slice_closes_from (x := tx l) (i := (k : Int)) ⟨by omega, by simpa using h⟩
    rw [beq_iff_eq.mp this]
    show (⟨_⟩ : Str) = ⟨_⟩
    congr 2
    simp only [Int.toNat_natCast]
    rw [List.take_of_length_le]
    simp
  · rw [PyProof.Rows.slice_beyond (by rw [tx_len]; omega), List.drop_eq_nil_of_le (by omega)]
    rfl
theorem ix_beyond {n : Nat} {j : Int} (h : (n : Int) ≤ j) : PySem.Builtin.Str.strSliceIndices none (some j) 1 n = PySem.Builtin.Str.strSliceIndices none (some (n : Int)) 1 n := by
  have h0 : ¬ j < 0 := by omega
  have h1 : ¬ ((n : Int) < 0) := by omega
  have h2 : (1 : Int) > 0 := by decide
  simp only [PySem.Builtin.Str.strSliceIndices, h0, h1, h2, if_false, if_true, Int.min_eq_right h, Int.min_self]
theorem tx_to {l : List Nat} {k : Nat} : Txt.slice (tx l) none (some (k : Int)) = tx (l.take k) := by
  have key : ∀ k, k ≤ l.length → Txt.slice (tx l) none (some (k : Int)) = tx (l.take k) := by
    intro k h
    have := PyProof.Rows.slice_closes_to (x := tx l) (j := (k : Int)) ⟨by omega, by simpa using h⟩
    rw [beq_iff_eq.mp this]
    simp
  by_cases h : k ≤ l.length
  · exact key k h
  · have e : Txt.slice (tx l) none (some (k : Int)) = Txt.slice (tx l) none (some (l.length : Int)) := by
      unfold Txt.slice
      rw [tx_len, ix_beyond (by omega)]
    rw [e, key _ (Nat.le_refl _), List.take_of_length_le (Nat.le_refl _), List.take_of_length_le (by omega)]
theorem tx_item {l : List Nat} {k : Nat} (h : k < l.length) : Txt.item (tx l) (k : Int) = tx [l.getD k 0] := by
  unfold Txt.item Txt.charAt seqIndex?
  have h0 : ¬ ((k : Int) < 0) := by omega
  rw [tx_len]
  have h1 : (decide ((0 : Int) ≤ (k : Int)) && decide ((k : Int) < (l.length : Int))) = true := by simp; omega
  simp only [h0, if_false, h1, if_true, Option.bind_some, Int.toNat_natCast]
  simp [List.getElem?_eq_getElem h, List.getD_eq_getElem?_getD]
theorem tx_head {c : Nat} {l : List Nat} : Txt.item (tx (c :: l)) 0 = tx [c] := tx_item (l := c :: l) (k := 0) (by simp)
def tabN : List (List Nat × List Nat) := [([70,70,73],[64259]), ([70,70,76],[64260]), ([70,70],[64256]), ([70,73],[64257]), ([70,76],[64258]), ([75,77],[13262]), ([75,75],[13261]), ([75,66],[13189]), ([77,66],[13190]), ([78,70],[13195]), ([78,79],[8470])]
def txP (p : List Nat × List Nat) : Str × Str := (tx p.1, tx p.2)
theorem tab_eq : tabL = tabN.map txP := by decide +kernel
def waysN (c : Nat) (word : List Nat) (d : Int) : List (List Nat × List Nat) := tabN.filter (fun p => word.take p.1.length == p.1) ++ [([c], [(alphL.getD (d.fmod 12).toNat 0 + (c : Int) - 65).toNat])]
def pickN (c : Nat) (word : List Nat) (d : Int) : List Nat × List Nat := (waysN c word d).getD (d.fmod ((waysN c word d).length : Int)).toNat ([], [])
def typedN : Nat → List Nat → Int → List Nat
  | 0, _, _ => []
  | _, [], _ => []
  | n + 1, c :: word, d => (pickN c (c :: word) d).2 ++ typedN n ((c :: word).drop (pickN c (c :: word) d).1.length) (d.fdiv 12)
theorem heads_eq (word : List Nat) : tabL.filter (isHead (tx word)) = (tabN.filter (fun p => word.take p.1.length == p.1)).map txP := by
  rw [tab_eq, List.filter_map]
  congr 1
  refine List.filter_congr fun p hp => ?_
  show isHead (tx word) (txP p) = _
  unfold isHead txP
  dsimp only
  rw [tx_len, tx_to, tx_beq]
theorem ways_eq (c : Nat) (word : List Nat) (d : Int) : tabL.filter (isHead (tx (c :: word))) ++ [(Txt.item (tx (c :: word)) 0, (⟨#[(alphL.getD (d.fmod 12).toNat 0 + ((Txt.item (tx (c :: word)) 0).cps.getD 0 0 : Nat) - 65).toNat]⟩ : Str))] = (waysN c (c :: word) d).map txP := by
  rw [heads_eq, tx_head]
  simp [waysN, txP, tx]
theorem pick_mem (c : Nat) (word : List Nat) (d : Int) : pickN c word d ∈ waysN c word d := by
  unfold pickN
  have hn : 1 ≤ (waysN c word d).length := by unfold waysN; simp
  have hb := fmod_bd (d := d) hn
  have hlt : (d.fmod ((waysN c word d).length : Int)).toNat < (waysN c word d).length := by omega
  rw [List.getD_eq_getElem?_getD, List.getElem?_eq_getElem hlt]
  exact List.getElem_mem hlt
theorem ways_len (c : Nat) (word : List Nat) (d : Int) : ∀ p ∈ waysN c word d, 1 ≤ p.1.length ∧ p.1.length ≤ 3 ∧ p.2.length = 1 := by
  intro p hp
  unfold waysN at hp
  rcases List.mem_append.mp hp with hp | hp
  · have key : ∀ p ∈ tabN, 1 ≤ p.1.length ∧ p.1.length ≤ 3 ∧ p.2.length = 1 := by decide
    exact key p (List.mem_filter.mp hp).1
  · rw [List.mem_singleton.mp hp]; exact ⟨by simp, by simp, rfl⟩
end
theorem fresh_14 : True ∧ True := by first | (walk1 <;> trivial) | exact ⟨trivial, trivial⟩
section
open PySem PySem.W PyProof.Rows
set_option linter.unusedVariables false
set_option maxRecDepth 100000
set_option maxHeartbeats 4000000
noncomputable def tTest : PySem.Expr := match ((fB 14)[3]? : Option Stmt) with | some (Stmt.While t _ _ _) => t | _ => (Classical.choice inferInstance)
noncomputable def tBody : List Stmt := match ((fB 14)[3]? : Option Stmt) with | some (Stmt.While _ b _ _) => b | _ => []
theorem tBody_eq : tBody = [tW 0, tW 1, tW 2, tW 3] := by rfl
local macro_rules | `(tactic| walk_at "z test") => `(tactic| (conv => pattern (PySem.isTrue _ _ _); arg 1; whnf); (conv => pattern (eval tTest _); arg 1; whnf))
theorem test_stmt {w : World} {mean : ExcName → Option Value} {mg mb : Str → Option Value} {A : Around} {h₀ : Heap} {L : Addr} {m : Str → Option Value} {s : Shared} {Q : Bool → Shared → Prop} {E : Value → Shared → Prop} {oc : Obj} {word : Str} {tw : Tok}
    {news : List (Addr × Obj)} (hh : A.handled = none) (hX : (KK w.params).In h₀) (hT : Top qv looseL mean mg mb h₀) (hF : Fr h₀ L s.heap m)
    (hN : News h₀ L s.heap ((L + 1, oc) :: news)) (hoc : oc.data = .cell (some (.str word tw)))
    (hQ : ∀ tk', Q (word != Str.ofString "") { s with toks := tk' }) :
    wpAny (model PySem.Challenge.rw_uy0010_01.prog w) A (isTrue tTest (tE L) (eval tTest (tE L))) Q E s := by
  revert hX
  k_fill
  intro hX
  walk_at "z test"
  k_steps
  all_goals exact hQ _
theorem word_bne (c : Nat) (r : List Nat) : (tx (c :: r) != Str.ofString "") = true := by
  rw [bne_iff_ne]
  intro h
  have := congrArg Str.length h
  rw [tx_len] at this
  cases this
theorem nil_bne : (tx [] != Str.ofString "") = false := by rfl
theorem typed_loop {w : World} {mean : ExcName → Option Value} {mg mb : Str → Option Value} {A : Around} {h₀ : Heap} {L al ax : Addr} {s : Shared} {Q : Flow → Shared → Prop} {E : Value → Shared → Prop} {items : Array Value} {na : Nat} {ta : Tok}
    {news : List (Addr × Obj)} (hh : A.handled = none) (hX : (KK w.params).In h₀) (hT : Top qv looseL mean mg mb h₀) (hap : ∀ p ∈ (al, alphO ta) :: news, p.1 ≠ L + 1)
    (hax : (ax, ({ cls := .type "tuple", data := .seq items na } : Obj)) ∈ news) (hP : PairsAt news items.toList tabL) (hE : PassesOwn (model PySem.Challenge.rw_uy0010_01.prog w) A (tE L) E) (full : List Nat) (d₀ : Int)
    (hQ : ∀ h' tk' m' t, Fr h₀ L h' m' → m' (Str.ofString "typed") = some (.str (tx (typedN 6 full d₀)) t) → Q .next { s with heap := h', toks := tk' }) :
    ∀ (n : Nat) (word : List Nat) (d : Int) (ty : List Nat) (h : Heap) (tk : Nat) (m : Str → Option Value) (oc : Obj) (tw tt td : Tok), n ≤ 6 → word.length ≤ n → (∀ c ∈ word, 65 ≤ c ∧ c ≤ 90) → 0 ≤ d → d < 2 ^ 60 → ty.length + n ≤ 6 →
      ty ++ typedN n word d = typedN 6 full d₀ →
      Fr h₀ L h m → m (Str.ofString "typed") = some (.str (tx ty) tt) → m (Str.ofString "draw") = some (.int d td) → m (Str.ofString "alphabets") = some (.ref al) → m (Str.ofString "table") = some (.ref ax) →
      News h₀ L h ((L + 1, oc) :: (al, alphO ta) :: news) → oc.data = .cell (some (.str (tx word) tw)) →
      WhlRest PySem.Challenge.rw_uy0010_01.prog w A E (tE L) tTest tBody [] Q (n + 1) { s with heap := h, toks := tk } := by
  intro n
  induction n with
  | zero =>
    intro word d ty h tk m oc tw tt td hn6 hwn hup hd0 hd1 hty hres hF hm1 hm2 hm3 hm4 hN hoc
    have : word = [] := List.eq_nil_of_length_eq_zero (Nat.le_zero.mp hwn)
    subst this
    refine whl_turn hE (test_stmt hh hX hT hF hN hoc (fun tk' => ?_))
    refine WhlIf.no nil_bne (wpAny_execs_nil ?_)
    refine hQ _ _ _ tt hF ?_
    rw [← hres]
    simpa [typedN] using hm1
  | succ n ih =>
    intro word d ty h tk m oc tw tt td hn6 hwn hup hd0 hd1 hty hres hF hm1 hm2 hm3 hm4 hN hoc
    refine whl_turn hE (test_stmt hh hX hT hF hN hoc (fun tk' => ?_))
    cases word with
    | nil =>
      refine WhlIf.no nil_bne (wpAny_execs_nil ?_)
      refine hQ _ _ _ tt hF ?_
      rw [← hres]
      simpa [typedN] using hm1
    | cons c r =>
      refine WhlIf.yes (word_bne c r) ?_
      rw [tBody_eq]
      have hc := hup c List.mem_cons_self
      have hlen : (tx (c :: r)).length ≤ 6 := by rw [tx_len]; omega
      have hlen1 : 1 ≤ (tx (c :: r)).length := by rw [tx_len]; simp
      refine wpAny_execs_cons (ways_stmt hh hX hT hF hm4 hN List.mem_cons_self hoc hlen (List.mem_cons_of_mem _ (List.mem_cons_of_mem _ hax)) (hP.mono fun p hp => List.mem_cons_of_mem _ (List.mem_cons_of_mem _ hp)) ?_)
      intro D h₁ tk₁ ys own hP₁ F₁ N₁ off₁
      dsimp only
      have hys : ys.length ≤ 11 := by
        rw [hP₁.len]
        exact Nat.le_trans (List.length_filter_le _ _) (by decide)
      have N₁' : News h₀ L h₁ ((D, PyProof.Rows.LCg.lst ys) :: (L + 1, oc) :: (al, alphO ta) :: (own ++ news)) := by
        intro p hp
        refine N₁ p ?_
        simp only [List.mem_cons, List.mem_append] at hp ⊢
        rcases hp with hp | hp | hp | hp | hp <;> simp [hp]
      have off₁' : ∀ p ∈ (L + 1, oc) :: (al, alphO ta) :: (own ++ news), p.1 ≠ D := by
        intro p hp
        refine off₁ p ?_
        simp only [List.mem_cons, List.mem_append] at hp ⊢
        rcases hp with hp | hp | hp | hp <;> simp [hp]
      refine wpAny_execs_cons (app_stmt hh hX hT F₁ (by rw [if_pos rfl]) (by rw [if_neg (by decide)]; exact hm3) (by rw [if_neg (by decide)]; exact hm2) N₁' off₁' hoc hlen1 hlen hd0 hd1 hys (by rw [tx_head]; exact hc) ?_)
      intro T h₂ tk₂ t1 t2 F₂ N₂ hTD
      dsimp only
      have hP₂ : PairsAt ((T, tup2 (.str (Txt.item (tx (c :: r)) 0) t1) (.str ⟨#[(alphL.getD (d.fmod 12).toNat 0 + ((Txt.item (tx (c :: r)) 0).cps.getD 0 0 : Nat) - 65).toNat]⟩ t2) 0) :: (L + 1, oc) :: (al, alphO ta) :: (own ++ news)) (ys ++ [.ref T]) ((waysN c (c :: r) d).map txP) := by
        rw [← ways_eq]
        exact (hP₁.mono fun p hp => List.mem_cons_of_mem _ (List.mem_cons_of_mem _ (List.mem_cons_of_mem _ (List.mem_append_left _ hp)))).snoc (p := (Txt.item (tx (c :: r)) 0, (⟨#[(alphL.getD (d.fmod 12).toNat 0 + ((Txt.item (tx (c :: r)) 0).cps.getD 0 0 : Nat) - 65).toNat]⟩ : Str))) ⟨T, t1, t2, 0, rfl, List.mem_cons_self⟩
      have hyl : (ys ++ [Value.ref T]).length = (waysN c (c :: r) d).length := by rw [hP₂.len, List.length_map]
      refine wpAny_execs_cons (pick_stmt hh hX hT F₂ (by rw [if_pos rfl]) (by rw [if_neg (by decide)]; exact hm2) N₂ hP₂ hd0 hd1 (by simp) (by simp; omega) ?_)
      intro h₃ tk₃ t3 t4 p hp F₃ N₃
      dsimp only
      have hpk : p = txP (pickN c (c :: r) d) := by
        rw [hyl, List.getElem?_map] at hp
        unfold pickN
        rw [List.getD_eq_getElem?_getD]
        cases e : (waysN c (c :: r) d)[(d.fmod ((waysN c (c :: r) d).length : Int)).toNat]? with
        | none => rw [e] at hp; cases hp
        | some q => rw [e] at hp; exact (Option.some.inj hp).symm
      subst hpk
      have hw := ways_len c (c :: r) d _ (pick_mem c (c :: r) d)
      have N₃' : News h₀ L h₃ ((L + 1, oc) :: (al, alphO ta) :: news) := by
        intro p hp
        refine N₃ p ?_
        simp only [List.mem_cons, List.mem_append] at hp ⊢
        rcases hp with hp | hp | hp <;> simp [hp]
      refine wpAny_execs_cons (set_stmt (me := tx (pickN c (c :: r) d).1) (si := tx (pickN c (c :: r) d).2) (ty := tx ty) hh hX hT F₃ (tt := tt) (td := td) (t1 := t3) (t2 := t4) (d := d) (word := tx (c :: r)) ?_ ?_ ?_ ?_ N₃' hap hoc hlen (by rw [tx_len]; omega) (by rw [tx_len]; omega) (by rw [tx_len]; omega) hd0 hd1 ?_)
      · rw [if_neg (by decide), if_neg (by decide), if_neg (by decide)]; exact hm1
      · rw [if_neg (by decide), if_neg (by decide), if_neg (by decide)]; exact hm2
      · rw [if_neg (by decide), if_pos rfl]; rfl
      · rw [if_pos rfl]; rfl
      · intro oc' h₄ tk₄ t5 t6 t7 F₄ N₄ hoc'
        dsimp only
        refine wpAny_execs_nil ?_
        show WhlRest _ _ _ _ _ _ _ _ _ (n + 1) _
        have hdd : d.fdiv 12 = d / 12 := Int.fdiv_eq_ediv_of_nonneg _ (by omega)
        refine ih ((c :: r).drop (pickN c (c :: r) d).1.length) (d.fdiv 12) (ty ++ (pickN c (c :: r) d).2) h₄ _ _ oc' t6 t5 t7 (by omega) (by rw [List.length_drop]; omega) (fun q hq => hup q (List.mem_of_mem_drop hq)) (by omega) (by omega) (by rw [List.length_append]; omega) ?_ F₄ ?_ ?_ ?_ ?_ N₄ ?_
        · rw [← hres, List.append_assoc]; rfl
        · rw [if_neg (by decide), if_pos rfl, tx_add]
        · rw [if_pos rfl]
        · simp only [if_neg (show ¬ Str.ofString "alphabets" = Str.ofString "draw" by decide), if_neg (show ¬ Str.ofString "alphabets" = Str.ofString "typed" by decide), if_neg (show ¬ Str.ofString "alphabets" = Str.ofString "sign" by decide), if_neg (show ¬ Str.ofString "alphabets" = Str.ofString "meaning" by decide), if_neg (show ¬ Str.ofString "alphabets" = Str.ofString "ways" by decide)]; exact hm3
        · simp only [if_neg (show ¬ Str.ofString "table" = Str.ofString "draw" by decide), if_neg (show ¬ Str.ofString "table" = Str.ofString "typed" by decide), if_neg (show ¬ Str.ofString "table" = Str.ofString "sign" by decide), if_neg (show ¬ Str.ofString "table" = Str.ofString "meaning" by decide), if_neg (show ¬ Str.ofString "table" = Str.ofString "ways" by decide)]; exact hm4
        · rw [hoc', tx_len, tx_from]
end
theorem fresh_15 : True ∧ True := by first | (walk1 <;> trivial) | exact ⟨trivial, trivial⟩
section
open PySem PySem.W PyProof.Rows
set_option linter.unusedVariables false
set_option maxRecDepth 100000
set_option maxHeartbeats 4000000
def isSeqO (p : Addr × Obj) : Bool := match p.2.data with | .seq _ _ => true | _ => false
theorem PairsAt.seqs {news : List (Addr × Obj)} : ∀ {vs ps}, PairsAt news vs ps → PairsAt (news.filter isSeqO) vs ps
  | [], [], _ => trivial
  | _ :: _, _ :: _, ⟨⟨T, t, u, n, e, hm⟩, r⟩ => ⟨⟨T, t, u, n, e, List.mem_filter.mpr ⟨hm, rfl⟩⟩, r.seqs⟩
theorem typed_while {w : World} {mean : ExcName → Option Value} {mg mb : Str → Option Value} {A : Around} {h₀ : Heap} {L al ax : Addr} {s : Shared} {Q : Flow → Shared → Prop} {E : Value → Shared → Prop} {items : Array Value} {na : Nat} {ta : Tok} {m : Str → Option Value} {oc : Obj} {tw tt td : Tok}
    {prs : List (Addr × Obj)} {word : List Nat} {d : Int} (hF : Fr h₀ L s.heap m) (hX : (KK w.params).In h₀) (hT : Top qv looseL mean mg mb h₀)
    (hN : News h₀ L s.heap ((al, alphO ta) :: (ax, ({ cls := .type "tuple", data := .seq items na } : Obj)) :: prs)) (hc : (L + 1, oc) ∈ prs) (hoc : oc.data = .cell (some (.str (tx word) tw))) (hP : PairsAt prs items.toList tabL)
    (hw : word.length ≤ 6) (hup : ∀ c ∈ word, 65 ≤ c ∧ c ≤ 90) (hd0 : 0 ≤ d) (hd1 : d < 2 ^ 60)
    (hm1 : m (Str.ofString "typed") = some (.str (tx []) tt)) (hm2 : m (Str.ofString "draw") = some (.int d td)) (hm3 : m (Str.ofString "alphabets") = some (.ref al)) (hm4 : m (Str.ofString "table") = some (.ref ax))
    (hh : A.handled = none) (hE : PassesOwn (model PySem.Challenge.rw_uy0010_01.prog w) A (tE L) E)
    (hQ : ∀ h' tk' m' t, Fr h₀ L h' m' → m' (Str.ofString "typed") = some (.str (tx (typedN 6 word d)) t) → News h₀ L h' [] → Q .next { s with heap := h', toks := tk' }) :
    WhlRest PySem.Challenge.rw_uy0010_01.prog w A E (tE L) tTest tBody [] Q 7 s := by
  have hcell : ∀ p ∈ (al, alphO ta) :: (((ax, ({ cls := .type "tuple", data := .seq items na } : Obj)) :: prs).filter isSeqO), p.1 ≠ L + 1 := by
    have hcm := (hN _ (List.mem_cons_of_mem _ (List.mem_cons_of_mem _ hc))).1
    have key : ∀ p : Addr × Obj, isSeqO p = true → p ∈ (al, alphO ta) :: (ax, ({ cls := .type "tuple", data := .seq items na } : Obj)) :: prs → p.1 ≠ L + 1 := by
      intro p hp hm e
      have h1 := (hN _ hm).1
      rw [e, hcm] at h1
      cases Option.some.inj h1
      simp [isSeqO, hoc] at hp
    intro p hp
    rcases List.mem_cons.mp hp with rfl | hp
    · exact key _ rfl List.mem_cons_self
    · obtain ⟨a, b⟩ := List.mem_filter.mp hp
      exact key p b (List.mem_cons_of_mem _ a)
  refine typed_loop (items := items) (na := na) hh hX hT hcell (List.mem_filter.mpr ⟨List.mem_cons_self, rfl⟩) (hP.seqs.mono fun p hp => ?_) hE word d (fun h' tk' m' t F e => hQ h' tk' m' t F e (fun _ hp => nomatch hp)) 6 word d [] s.heap s.toks m oc tw tt td (Nat.le_refl _) hw hup hd0 hd1 (by simp) rfl hF hm1 hm2 hm3 hm4 (fun p hp => ?_) hoc
  · obtain ⟨a, b⟩ := List.mem_filter.mp hp
    exact List.mem_filter.mpr ⟨List.mem_cons_of_mem _ a, b⟩
  · rcases List.mem_cons.mp hp with rfl | hp
    · exact hN _ (List.mem_cons_of_mem _ (List.mem_cons_of_mem _ hc))
    rcases List.mem_cons.mp hp with rfl | hp
    · exact hN _ List.mem_cons_self
    · exact hN _ (List.mem_cons_of_mem _ (List.mem_filter.mp hp).1)
theorem stopped {P : Prop} (h : Held P) : P := h
local macro_rules | `(tactic| walk_at "exec While Compare") => `(tactic| (k_here; refine stopped ?_))
theorem c_typed {w : World} {mean : ExcName → Option Value} {mg mb : Str → Option Value} (news : List (Addr × Obj)) (x : List Nat) (t : Tok) (d : Int) (t2 : Tok) :
    CbClaim PySem.Challenge.rw_uy0010_01.prog w (KK w.params) qv looseL mean mg mb 114 news [] (x.length ≤ 6 ∧ (∀ c ∈ x, 65 ≤ c ∧ c ≤ 90) ∧ 0 ≤ d ∧ d < 2 ^ 60) [.str (tx x) t, .int d t2] (fun u => .str (tx (typedN 6 x d)) u) := by
  k_fill
  dsimp only [CbClaim, CbLists, CbRet]
  intro dp un gd cn cs a0 ccd cl outer A₀ base h₀ L m s Q E hB hF hX hN hT hcs hpre hdp hun hret
  have hN0 : Held (News h₀ L s.heap news) := hN
  clear hN
  have hH0 : Held (∀ b o, s.heap.get? b = some o → s.heap.get? b = some o) := fun _ _ e => e
  refine wpAny_call ?_
  k_dflt (
    refine' code_defCG (binds := [(Str.ofString "word", .str (tx x) t), (Str.ofString "draw", .int d t2)]) ?k1 ?k2 ?k3 ?k5 ?kA ?kF ?kK ?k6 ?k7 ?k8 ?k9 ?kB ?kD ?_ ?c2 ?c3 ?c4
    (case kA => exact rfl); (case kF => exact rfl); (case kK => assumption); (case k1 => k_asm); (case k2 => k_asm); (case k3 => k_asm); (case k5 => k_asm)
    (case k6 => k_is); (case k7 => k_is); (case k8 => ktr_room); (case k9 => exact BindsTo.of_eq rfl); (case kB => exact rfl); (case kD => decide +kernel); (case c2 => exact rfl); (case c3 => exact rfl); (case c4 => exact rfl)
    k_whole
    intro g' L' h' tk' cells' FG' F' N' Y' B' X' T' kG
    replace kG : Held (∀ b o, s.heap.get? b = some o → g'.get? b = some o) := fun b o e => kG b o e (by simp)
    k_cells Y'
    (try simp only [List.cons_append, List.nil_append] at N')
    (try dsimp only)
    (try k_lift B')
    (try k_fold))
  obtain ⟨hx6, hx, hd0, hd1⟩ := hpre
  k_steps
  unfold Held
  refine whl_start 7 ?_
  refine' typed_while ?k1 ?k2 ?k3 ?k4 ?k5 ?k6 ?k7 ?k8 ?k9 ?kA ?kB ?kC ?kD ?kE ?kF ?kG ?kH ?_
  (case k1 => k_asm)
  (case k2 => k_asm)
  (case k3 => k_asm)
  (case k4 => k_asm)
  (case k5 => walk_at "my mem")
  (case k6 => first | with_reducible assumption | assumption)
  (case k8 => assumption)
  (case k9 => assumption)
  (case kA => assumption)
  (case kB => assumption)
  (case kC => exact rfl)
  (case kD => exact rfl)
  (case kE => exact rfl)
  (case kF => exact rfl)
  (case kG => exact rfl)
  (case kH => with_unfolding_all passes_own)
  (case k7 => refine' ⟨⟨_, _, _, _, rfl, ?_⟩, ⟨_, _, _, _, rfl, ?_⟩, ⟨_, _, _, _, rfl, ?_⟩, ⟨_, _, _, _, rfl, ?_⟩, ⟨_, _, _, _, rfl, ?_⟩, ⟨_, _, _, _, rfl, ?_⟩, ⟨_, _, _, _, rfl, ?_⟩, ⟨_, _, _, _, rfl, ?_⟩, ⟨_, _, _, _, rfl, ?_⟩, ⟨_, _, _, _, rfl, ?_⟩, ⟨_, _, _, _, rfl, ?_⟩, trivial⟩ <;> walk_at "my mem")
  intro h' tk' m' t' F' em' N'
  k_steps
  exact hret _ _ _ (by assumption) (back_news hN0 kG F')
end
end
theorem fresh_16 : True ∧ True := by first | (walk1 <;> trivial) | exact ⟨trivial, trivial⟩
section
open PySem PySem.W PyProof.Rows
set_option linter.unusedVariables false
set_option maxRecDepth 100000
set_option maxHeartbeats 4000000
theorem join_tx : ∀ ls : List (List Nat), Txt.join (Str.ofString "") (ls.map tx) = tx ls.flatten := by
  intro ls
  have key : ∀ ls : List (List Nat), Str.join (Str.ofString "") (ls.map tx) = tx ls.flatten := by
    intro ls
    induction ls with
    | nil => rfl
    | cons a r ih =>
      cases r with
      | nil => show tx a = _; simp
      | cons b r' =>
        show tx a ++ Str.ofString "" ++ Str.join (Str.ofString "") ((b :: r').map tx) = _
        rw [ih, show Str.ofString "" = tx [] from rfl, tx_add, tx_add]
        simp
  unfold Txt.join
  rw [StrLaws.glued_eq_join]
  exact key ls
def lettersL (l : List Nat) (d n : Int) : List Nat := (List.range n.toNat).map fun p => l.getD ((d / 3 ^ p).fmod 3).toNat 0
theorem letters_eq {l : List Nat} {d n : Int} (h3 : l.length = 3) : lettersS (tx l) d n = tx (lettersL l d n) := by
  unfold lettersS lettersL rangeKs
  rw [List.map_map, show (n - 0).toNat = n.toNat by congr 1; omega]
  have e : ((List.range n.toNat).map ((fun a : Int => Txt.item (tx l) ((d / 3 ^ a.toNat).fmod 3)) ∘ fun (i : Nat) => (0 : Int) + (i : Int))) = ((List.range n.toNat).map fun p => [l.getD ((d / 3 ^ p).fmod 3).toNat 0]).map tx := by
    rw [List.map_map]
    refine List.map_congr_left fun p _ => ?_
    show Txt.item (tx l) ((d / 3 ^ (((0 : Int) + (p : Int)).toNat)).fmod 3) = tx [l.getD ((d / 3 ^ p).fmod 3).toNat 0]
    have ep : ((0 : Int) + (p : Int)).toNat = p := by omega
    rw [ep]
    have hb : 0 ≤ (d / 3 ^ p).fmod 3 ∧ (d / 3 ^ p).fmod 3 < 3 := fmod_bd (n := 3) (by decide)
    have e2 : (d / 3 ^ p).fmod 3 = (((d / 3 ^ p).fmod 3).toNat : Int) := by omega
    rw [e2, tx_item (by omega), Int.toNat_natCast]
  rw [e, join_tx]
  have : ∀ (xs : List Nat) (f : Nat → Nat), (xs.map fun p => [f p]).flatten = xs.map f := by
    intro xs f
    induction xs with
    | nil => rfl
    | cons a r ih => simp [ih]
  rw [this]
theorem lettersL_len {l : List Nat} {d n : Int} : (lettersL l d n).length = n.toNat := by simp [lettersL]
theorem lettersL_mem {l : List Nat} {d n : Int} (h3 : l.length = 3) : ∀ c ∈ lettersL l d n, c ∈ l := by
  intro c hc
  obtain ⟨p, _, rfl⟩ := List.mem_map.mp hc
  have hb : 0 ≤ (d / 3 ^ p).fmod 3 ∧ (d / 3 ^ p).fmod 3 < 3 := fmod_bd (n := 3) (by decide)
  rw [List.getD_eq_getElem?_getD, List.getElem?_eq_getElem (by omega)]
  exact List.getElem_mem _
theorem mul_tx {a : List Nat} {n : Int} (hn : 1 ≤ n) : Txt.mul (tx a) n = tx (List.replicate n.toNat a).flatten := by
  have key : ∀ (k : Nat) (acc : List Nat), (List.replicate k a.toArray).foldl (· ++ ·) acc.toArray = (acc ++ (List.replicate k a).flatten).toArray := by
    intro k
    induction k with
    | zero => intro acc; simp
    | succ k ih =>
      intro acc
      rw [List.replicate_succ, List.foldl_cons, List.replicate_succ, List.flatten_cons]
      have : acc.toArray ++ a.toArray = (acc ++ a).toArray := by simp
      rw [this, ih]
      simp
  unfold Txt.mul
  rw [if_neg (by omega)]
  split
  · rename_i h
    simp only [Bool.or_eq_true, beq_iff_eq, tx_len] at h
    rcases h with h | h
    · rw [h]; show tx a = tx _; simp
    · have : a = [] := List.eq_nil_of_length_eq_zero h
      subst this
      simp
  · have := key n.toNat []
    show (⟨_⟩ : Str) = ⟨_⟩
    rw [show (#[] : Array Nat) = ([] : List Nat).toArray from rfl, this]
    simp
end
section
open PySem PySem.W PyProof.Rows
set_option linter.unusedVariables false
set_option maxRecDepth 100000
set_option maxHeartbeats 4000000
noncomputable def lS (i : Nat) : Stmt := match ((fB 15)[i]? : Option Stmt) with | some st => st | none => Stmt.Pass default
noncomputable abbrev lA (L fa ca : Addr) : Around := callerA.deeper (lawE L fa (.ref ca))
theorem below0 {h₀ : Heap} : Below callerA h₀ [] h₀ := ⟨rfl, fun _ _ e => e, trivial⟩
theorem two_of {ys : List Value} {a b : Value} (hl : ys.length = 2) (h0 : ys[0]? = some a) (h1 : ys[1]? = some b) : ys = [a, b] := by
  match ys, hl, h0, h1 with
  | [_, _], _, h0, h1 => rw [Option.some.inj h0, Option.some.inj h1]
theorem body_law : fB 15 = [lS 0, lS 1, lS 2, lS 3, lS 4, lS 5, lS 6, lS 7, lS 8, lS 9, lS 10, lS 11, lS 12, lS 13, lS 14, lS 15, lS 16, lS 17, lS 18, lS 19, lS 20, lS 21, lS 22, lS 23] := by rfl
end
theorem fresh_17 : True ∧ True := by first | (walk1 <;> trivial) | exact ⟨trivial, trivial⟩
section
local macro_rules | `(tactic| walk_at "eval ListComp") => `(tactic| (k_here; refine stopped ?_))
local macro_rules | `(tactic| walk_at "pyIter") => `(tactic| (k_here; refine stopped ?_))
theorem fresh_18 : True ∧ True := by first | (walk1 <;> trivial) | exact ⟨trivial, trivial⟩
section
open PySem PySem.W PyProof.Rows
set_option linter.unusedVariables false
set_option maxRecDepth 100000
set_option maxHeartbeats 4000000
def bitsL (d n : Int) : List Int := (List.range n.toNat).map fun p => (d.fdiv (2 ^ p)).fmod 2
theorem got_ints {f : Nat → Int} : ∀ {n : Nat} {ys : List Value}, Got (fun i y => ∃ u, y = .int (f i) u) (fun _ => true) n ys → IntsAre ys ((List.range n).map f)
  | 0, ys, h => by
    have h : ys = [] := h
    subst h; exact .nil
  | n + 1, ys, h => by
    have h : ∃ ys' y, ys = ys' ++ [y] ∧ Got (fun i y => ∃ u, y = .int (f i) u) (fun _ => true) n ys' ∧ (∃ u, y = .int (f n) u) := by simpa [Got] using h
    obtain ⟨ys', y, rfl, hg, u, rfl⟩ := h
    rw [List.range_succ, List.map_append]
    exact (got_ints hg).append (.cons _ _ .nil)
theorem pow2_le {k : Int} (h : k.toNat < 2) : 1 ≤ (2 : Int) ^ k.toNat ∧ (2 : Int) ^ k.toNat ≤ 2 := by
  rcases (by omega : k.toNat = 0 ∨ k.toNat = 1) with e | e <;> rw [e] <;> decide
theorem fd_pow2 {prog : Program} {w : World} {A : Around} {E : Value → Shared → Prop} {s : Shared} {a k : Int} {t u : Tok} {Q : Value → Shared → Prop} (hk : k.toNat < 2)
    (h : Q (.int (a.fdiv (2 ^ k.toNat)) s.toks) { s with toks := s.toks + 1 }) : wpAny (model prog w) A (binaryOp .FloorDiv (.int a t) (.int (2 ^ k.toNat) u)) Q E s := by
  have p := pow2_le hk
  exact floordiv_int (by omega) h (Or.inl (PyProof.noPylong_small (by omega)))
local macro_rules | `(tactic| walk_at "binaryOp FloorDiv") => `(tactic| ((with_reducible show wpAny _ _ (binaryOp Operator.FloorDiv (Value.int _ _) (Value.int (2 ^ _) _)) _ _ _); refine fd_pow2 (by omega) ?_))
theorem c_bits {w : World} {mean : ExcName → Option Value} {mg mb : Str → Option Value} (news : List (Addr × Obj)) (d : Int) (t : Tok) (n : Int) (t2 : Tok) :
    ∀ (dp un : Nat) (gd : Option (List Code)) (cn : Str) (cs : Scope) (a0 : Addr) (ccd : Value) (cl : List (Str × Addr)) (outer : List Env) (A₀ : Around) (base h₀ : Heap) (L : Addr) (m : Str → Option Value) (s : Shared) (Q E : Value → Shared → Prop),
      Below A₀ base outer h₀ → Fr h₀ L s.heap m → (KK w.params).In h₀ → News h₀ L s.heap news → Top qv looseL mean mg mb h₀ → cs.kind = .function →
      (0 ≤ d ∧ d < 1000000 ∧ 0 ≤ n ∧ n ≤ 2) → dp + 1 < recursionLimit → un + 8 < cLine → (∀ D h' tk' ys, IntsAre ys (bitsL d n) → Fr h₀ L h' m → News h₀ L h' ((D, PyProof.Rows.LCg.lst ys) :: news) → (∀ p ∈ news, p.1 ≠ D) → Q (.ref D) { s with heap := h', toks := tk' }) →
      wpAny (model PySem.Challenge.rw_uy0010_01.prog w) (ktrTop dp un gd cn cs L a0 ccd cl outer) (call (.ref 102) [.int d t, .int n t2]) Q E s := by
  k_fill
  intro dp un gd cn cs a0 ccd cl outer A₀ base h₀ L m s Q E hB hF hX hN hT hcs hpre hdp hun hret
  have hN0 : Held (News h₀ L s.heap news) := hN
  clear hN
  have hH0 : Held (∀ b o, s.heap.get? b = some o → s.heap.get? b = some o) := fun _ _ e => e
  refine wpAny_call ?_
  k_dflt (
    refine' code_defCG (binds := [(Str.ofString "draw", .int d t), (Str.ofString "size", .int n t2)]) ?k1 ?k2 ?k3 ?k5 ?kA ?kF ?kK ?k6 ?k7 ?k8 ?k9 ?kB ?kD ?_ ?c2 ?c3 ?c4
    (case kA => exact rfl); (case kF => exact rfl); (case kK => assumption); (case k1 => k_asm); (case k2 => k_asm); (case k3 => k_asm); (case k5 => k_asm)
    (case k6 => k_is); (case k7 => k_is); (case k8 => ktr_room); (case k9 => exact BindsTo.of_eq rfl); (case kB => exact rfl); (case kD => decide +kernel); (case c2 => exact rfl); (case c3 => exact rfl); (case c4 => exact rfl)
    k_whole
    intro g' L' h' tk' cells' FG' F' N' Y' B' X' T' kG
    replace kG : Held (∀ b o, s.heap.get? b = some o → g'.get? b = some o) := fun b o e => kG b o e (by simp)
    k_cells Y'
    (try simp only [List.cons_append, List.nil_append] at N')
    (try dsimp only)
    (try k_lift B')
    (try k_fold))
  obtain ⟨hd0, hd1, hn0, hn1⟩ := hpre
  k_steps
  unfold Held
  rename_i o1 d1
  replace d1 : o1.data = .cell (some (.int d t)) := d1
  k_dflt (
    refine' z_ListComp (names := [Str.ofString "place"]) (h₀ := g') (L := L') (m := bindL (envOfC (Str.ofString "_law_bits") (fS 12) L' 102 (Value.ref 101)).kindOf [(Str.ofString "draw", Value.int d t), (Str.ofString "size", Value.int n t2)] fun x => none) ?z1 ?z2 ?z3 ?z4 ?z5 ?_
    (case z1 => with_unfolding_all rfl); (case z2 => decide); (case z3 => rfl); (case z4 => decide); (case z5 => decide))
  k_steps
  unfold Held
  rename_i hr kF kN up2
  have hn : Builtin.Range.rangeSize 0 n 1 = ((n.toNat : Nat) : Int) := by rw [rangeSize_nat]; omega
  refine zst_range (n := n.toNat) (R := fun i y => ∃ u, y = .int ((d.fdiv (2 ^ i)).fmod 2) u) (test := fun _ => true) rfl kF kN hr (small_one (by omega) (by omega) (by omega) (by omega)) hn (by rw [sizeLine_eq]; omega) ?_ (fun h₂ tk₂ => finE fun D h tk ys hG F N off => ?_)
  · rintro i led C oC m₂ h tk E' hi ⟨v, ⟨tv, ev⟩, em⟩ hoC F' N' hC hnl
    have ev : v = .int (i : Int) tv := by rw [ev]; congr 1; omega
    subst ev
    have N₂ : News g' L' h ((C, oC) :: (L' + 1, o1) :: led) := fun q hq => by
      rcases List.mem_cons.mp hq with rfl | hq
      · exact N' _ hC
      rcases List.mem_cons.mp hq with rfl | hq
      · exact N' _ (hnl _ List.mem_cons_self)
      · exact N' _ hq
    have hi2 : (i : Int).toNat < 2 := by omega
    clear N' kF kN hr up2
    refine wpAny_tests_nil ⟨rfl, _, _, rfl, F', led_drop2 N₂, fun _ => ?_⟩
    k_steps
    · exact F'
    · exact led_drop2 N₂
  · have hI := got_ints hG
    have hD := (N _ List.mem_cons_self).2.2
    clear hF kF kN up2 hr
    have off2 : ∀ p ∈ news, p.1 ≠ D := fun p hp e => by
      have := kG _ _ ((show News h₀ L s.heap news from hN0) p hp).1
      rw [e, hD] at this
      cases this
    k_steps
    refine hret D h tk ys hI (by assumption) (fun p hp => ?_) off2
    rcases List.mem_cons.mp hp with rfl | hp
    · with_reducible rename News h₀ L _ (_ :: _) => kN
      exact kN _ List.mem_cons_self
    · exact back_news hN0 kG F p hp
end
section
open PySem PySem.Calls PyProof.Rows PyProof.Rows.LCg PySem.Spec PySem.W
set_option linter.unusedVariables false
set_option maxRecDepth 100000
set_option maxHeartbeats 4000000
inductive TxsAre : List Value → List (List Nat) → Prop
  | nil : TxsAre [] []
  | cons (a : List Nat) (t : Tok) {vs as} : TxsAre vs as → TxsAre (.str (tx a) t :: vs) (a :: as)
theorem TxsAre.append : ∀ {vs as}, TxsAre vs as → ∀ {ws bs}, TxsAre ws bs → TxsAre (vs ++ ws) (as ++ bs)
  | _, _, .nil, _, _, h => h
  | _, _, .cons a t r, _, _, h => .cons a t (r.append h)
theorem TxsAre.carried : ∀ {vs as}, TxsAre vs as → CarriedAll vs (as.map fun a => PyData.str (tx a))
  | _, _, .nil => .nil
  | _, _, .cons a t r => .cons (.str _ _) r.carried
theorem TxsAre.len : ∀ {vs as}, TxsAre vs as → vs.length = as.length
  | _, _, .nil => rfl
  | _, _, .cons a t r => by simp [r.len]
theorem TxsAre.at : ∀ {vs as}, TxsAre vs as → ∀ i, i < as.length → ∃ t, vs[i]? = some (.str (tx (as.getD i [])) t)
  | _, _, .nil, i, h => absurd h (Nat.not_lt_zero _)
  | _, _, .cons a t r, 0, _ => ⟨t, rfl⟩
  | _, _, .cons a t r, i + 1, h => by
    obtain ⟨u, e⟩ := r.at i (by simpa using h)
    exact ⟨u, by simpa using e⟩
theorem IntsAre.at' : ∀ {vs ns}, IntsAre vs ns → ∀ i, i < ns.length → ∃ t, vs[i]? = some (.int (ns.getD i 0) t)
  | _, _, .nil, i, h => absurd h (Nat.not_lt_zero _)
  | _, _, .cons a t r, 0, _ => ⟨t, rfl⟩
  | _, _, .cons a t r, i + 1, h => by
    obtain ⟨u, e⟩ := IntsAre.at' r i (by simpa using h)
    exact ⟨u, by simpa using e⟩
theorem got_txs {f : Nat → List Nat} {test : Nat → Bool} : ∀ {n : Nat} {ys : List Value}, Got (fun i y => ∃ u, y = .str (tx (f i)) u) test n ys → TxsAre ys (((List.range n).filter test).map f)
  | 0, ys, h => by
    have h : ys = [] := h
    subst h; exact .nil
  | n + 1, ys, h => by
    rw [List.range_succ, List.filter_append, List.map_append]
    cases ht : test n with
    | true =>
      have h : ∃ ys' y, ys = ys' ++ [y] ∧ Got (fun i y => ∃ u, y = .str (tx (f i)) u) test n ys' ∧ (∃ u, y = .str (tx (f n)) u) := by simpa [Got, ht] using h
      obtain ⟨ys', y, rfl, hg, u, rfl⟩ := h
      rw [List.filter_cons_of_pos (by simp [ht])]
      exact (got_txs hg).append (.cons _ _ .nil)
    | false =>
      have h : Got (fun i y => ∃ u, y = .str (tx (f i)) u) test n ys := by simpa [Got, ht] using h
      rw [List.filter_cons_of_neg (by simp [ht])]
      simpa using got_txs h
section
variable {prog : Program} {w : World} {A : Around} {E : Value → Shared → Prop} {h₀ : Heap} {L : Addr} {m : Str → Option Value} {env : Env} {s : Shared}
variable {elt : PySem.Expr} {ifs : List PySem.Expr} {scope : Scope} {cl : List (Str × Addr)} {x : Str} {px : Pos} {R : Nat → Value → Prop} {test : Nat → Bool} {news : List (Addr × Obj)} {ax : Addr}
  {Fin : Shared → (Nat → List Value → List (Addr × Obj) → Prop) → Nat → List (Addr × Obj) → Prop}
theorem join_txs {ys : List Value} {ls : List (List Nat)} {t : Tok} {D : Addr} {Q : Value → Shared → Prop} (B : Nat) (hl : s.heap.IsList D ys.toArray) (hc : TxsAre ys ls) (hB : ∀ a ∈ ls, a.length ≤ B) (hB16 : B ≤ 16) (hn : ls.length ≤ 1048576)
    (h : ∀ t' k, Q (.str (tx ls.flatten) t') { s with toks := k }) : wpAny (model prog w) A (call (.builtin "str.join") [.str (PySem.Str.ofString "") t, .ref D]) Q E s := by
  refine KT.join_B (x := PySem.Str.ofString "") B hl hc.carried (fun a ha => by rw [tx_len]; exact hB a ha) hn (by show B + 0 ≤ 16; omega) (fun t' k => ?_)
  rw [join_tx]
  exact h t' k
theorem zst_bytes {y : Array UInt8} {t : Tok} (hh : A.handled = none) (F : Fr h₀ L s.heap m) (N : News h₀ L s.heap news) (hsz : y.size ≤ sizeLine)
    (turn : GTurn prog w A h₀ L m env elt ifs scope cl s (fun i m₂ => ∃ v, (∃ c u, y[i]? = some c ∧ v = .int (c.toNat : Int) u) ∧ m₂ x = some v) y.size R test news)
    (fin : ∀ h₂ tk₂, Fin { s with heap := h₂, toks := tk₂ } (fun i ys own => own = [] ∧ Got R test i ys) y.size news) :
    wpAny (model prog w) A (pyIter (.bytes y t)) (ZSt prog w A h₀ L m env elt (.Name x px) ifs scope cl [x] Fin) E s := by
  refine KBw.pyIter_bytes ?_
  refine zst_gen (s := s) (fp := [s.heap.objs.size]) (wr := [s.heap.objs.size]) (ZSrc.name (KBw.walks (prog := prog) (w := w) (A := A) hh s.heap.objs.size y t) (fun i h st b hb => ?_) x px) hsz ⟨_, Heap.get?_push_size _ rfl, rfl, rfl⟩ ?_ ?_ ?_ F N (fun b o e => Heap.get?_push_of_some _ e) turn (fin _ _)
  · rw [List.mem_singleton.mp hb]; obtain ⟨o, e, _⟩ := st; exact ⟨o, e⟩
  · intro b hb
    rw [Heap.size_push, List.mem_singleton.mp hb]
    exact Nat.lt_succ_self _
  · intro b hb
    rw [List.mem_singleton.mp hb]
    exact Ne.symm (Nat.ne_of_lt F.ns.lt)
  · intro b hb
    rw [List.mem_singleton.mp hb]; exact Nat.le_refl _
end
end
section
open PySem PySem.W PyProof.Rows
set_option linter.unusedVariables false
set_option maxRecDepth 100000
set_option maxHeartbeats 4000000
noncomputable def rB : List Stmt := match lS 9 with | Stmt.For _ _ b _ _ => b | _ => []
noncomputable def rS (i : Nat) : Stmt := match (rB[i]? : Option Stmt) with | some st => st | none => Stmt.Pass default
theorem rB_eq : rB = [rS 0, rS 1, rS 2] := by rfl
def pickT (a b : List Nat) (ns : List Int) : List Nat := (ns.map fun n => if n = 0 then a else b).flatten
theorem pick2 {prog : Program} {w : World} {A : Around} {E : Value → Shared → Prop} {s : Shared} {h₀ : Heap} {L Y : Addr} {value slice : PySem.Expr} {n : Int} {u ta tb : Tok} {a b : List Nat} {news : List (Addr × Obj)} {Q : Value → Shared → Prop}
    (N : News h₀ L s.heap news) (hm : (Y, PyProof.Rows.LCg.lst [.str (tx a) ta, .str (tx b) tb]) ∈ news) (hn : n = 0 ∨ n = 1) (h : ∀ t, Q (.str (tx (if n = 0 then a else b)) t) s)
    (hs : subscripted slice false (.ref Y) (.int n u) = operate [.ref Y, .int n u] (getItem (.ref Y) (.int n u)) := by with_unfolding_all rfl) (hg : ∀ r, letTemporaryGo value (.ref Y) r = pure () := by intro _; with_unfolding_all rfl) :
    wpAny (model prog w) A (subscriptTail value slice (.ref Y) (.int n u)) Q E s := by
  rcases hn with rfl | rfl
  · exact item_list (items := #[.str (tx a) ta, .str (tx b) tb]) ⟨_, (N _ hm).1, rfl, _, rfl⟩ (by decide) (by decide) (x := .str (tx a) ta) rfl (h ta) hs hg
  · exact item_list (items := #[.str (tx a) ta, .str (tx b) tb]) ⟨_, (N _ hm).1, rfl, _, rfl⟩ (by decide) (by decide) (x := .str (tx b) tb) rfl (h tb) hs hg
theorem picked {a b : List Nat} (ns : List Int) : ((((List.range ns.length).filter fun _ => true).map fun i => if ns.getD i 0 = 0 then a else b)).flatten = pickT a b ns := by
  rw [List.filter_eq_self.mpr (fun _ _ => rfl)]
  unfold pickT
  have : ((List.range ns.length).map fun i => if ns.getD i 0 = 0 then a else b) = ((List.range ns.length).map fun i => ns.getD i 0).map (fun n => if n = 0 then a else b) := by rw [List.map_map]; rfl
  rw [this, range_getD]
end
section
open PySem PySem.Calls PyProof.Rows PyProof.Rows.LCg PySem.Spec PySem.W
set_option linter.unusedVariables false
set_option maxRecDepth 100000
set_option maxHeartbeats 4000000
def isFl (p : Addr × Obj) : Bool := match p.2.data with | .fields _ => true | _ => false
section
variable {prog : Program} {w : World} {A : Around} {E : Value → Shared → Prop} {s : Shared} {env : Env} {h₀ : Heap} {L t : Addr} {m : Str → Option Value}
/-- a for loop over a tuple of the ledger, by an invariant over frame and ledger -/
theorem for_tup {x : Str} {px : Pos} {body : List Stmt} {items : Array Value} {led : List (Addr × Obj)} {R : Result → Shared → Prop} (hLe : env.locals = L) (hh : A.handled = none) (hx : env.kindOf x = some .local)
    (hp : (env.scope.kind == .class || (env.scope.kind == .module && env.locals != env.globals)) = false) (hT : s.heap.IsTuple t items) (htL : t ≠ L) (F : Fr h₀ L s.heap m) (N : News h₀ L s.heap led)
    (J : Nat → (Str → Option Value) → List (Addr × Obj) → Prop) (J0 : J 0 m led) (hnf : ∀ p ∈ led, isFl p = false)
    (turn : ∀ i v m₁ led₁ own (s₂ : Shared) (E' : Value → Shared → Prop), i < items.size → items[i]? = some v → J i m₁ led₁ → Fr h₀ L s₂.heap (fun z => if z = x then some v else m₁ z) → News h₀ L s₂.heap (own ++ led₁) → (∀ p ∈ led₁, isFl p = false) → (∀ p ∈ own, p.1 = t ∨ isFl p = true) →
      wpAny (model prog w) A (execs body env) (fun f s₃ => f = .next ∧ ∃ h' tk' m' led', s₃ = { s₂ with heap := h', toks := tk' } ∧ Fr h₀ L h' m' ∧ News h₀ L h' (own ++ led') ∧ (∀ p ∈ led', isFl p = false) ∧ J (i + 1) m' led') E' s₂)
    (fin : ∀ h' tk m' led', Fr h₀ L h' m' → News h₀ L h' led' → J items.size m' led' → (∀ p ∈ led', isFl p = false) → R (.ok .next) { s with heap := h', toks := tk }) :
    wpAny (model prog w) A (pyIter (.ref t)) (fun it s₂ => codeAny (model prog w) A (.forLoop (.Name x px) it body [] env) R s₂) E s := by
  subst hLe
  have hlt : t < s.heap.objs.size := by obtain ⟨_, e, _⟩ := hT; exact Heap.lt_size e
  refine wpAny_pyIter_tuple hT ?_
  have up : ∀ b o, s.heap.get? b = some o → (s.heap.push { cls := .type "tuple_iterator", data := .fields #[.ref t, .int 0 0] }).get? b = some o := fun b o e => Heap.get?_push_of_some _ e
  refine codeAny_forLoop_anyU (h₀ := h₀) (s := { s with heap := s.heap.push { cls := .type "tuple_iterator", data := .fields #[.ref t, .int 0 0] } }) (m := m) (news := led) (Walks.tuple (prog := prog) (w := w) (A := A) hh s.heap.objs.size t (Nat.ne_of_lt hlt) items) ?_ ?_ ?_
    ⟨⟨_, Heap.get?_push_size _ rfl, rfl, rfl⟩, hT.at fun o e => up _ o e⟩ (F.push _) (N.grown up) (fun i s' v Q' st hQ' => letGo_tupleiter st.1 hQ') (fun i m' led' => J i m' led' ∧ ∀ p ∈ led', isFl p = false) ⟨J0, hnf⟩ ?_ (fun h' tk m' led' F' N' _ hJ => fin h' tk m' led' F' N' hJ.1 hJ.2)
  · intro hm
    rcases List.mem_cons.mp hm with e | hm
    · exact absurd F.ns.lt (e ▸ Nat.lt_irrefl _)
    · exact htL (List.mem_singleton.mp hm).symm
  · intro b hb
    rw [List.mem_singleton.mp hb]
    exact Heap.get?_none_of_le (Nat.le_of_lt (Nat.lt_of_le_of_lt F.above F.ns.lt))
  · intro p hp hI
    exact absurd (Heap.lt_size (N p hp).1) ((List.mem_singleton.mp hI) ▸ Nat.lt_irrefl _)
  · rintro i v m₁ led₁ s₁ own hi hP ⟨hJ, hfl⟩ hnw hown hget hall hst F₁ N₁
    obtain ⟨oI, eI, _, dI⟩ := hst.1
    have hIo : (s.heap.objs.size, oI) ∈ own := hall s.heap.objs.size (by simp) (Heap.get?_none_of_le (Nat.le_of_lt (Nat.lt_of_le_of_lt F.above F.ns.lt))) oI eI
    refine wpAny_assign_Name (wpAny_storeName_local hx F₁.ns (fun h₂ hn₂ hs₂ => ?_) hp)
    refine wpAny_mono (turn i v m₁ led₁ own { s₁ with heap := h₂, toks := s₁.toks + 1 } _ hi hP hJ (F₁.set hn₂ hs₂) (N₁.set hs₂) hfl (fun p hp => ?_)) (fun f s₃ h₃ => ?_) (fun _ _ e => e)
    · rcases List.mem_cons.mp (hown p hp) with e | e
      · have e2 := hget p hp
        rw [e, eI] at e2
        exact .inr (by unfold isFl; rw [← Option.some.inj e2, dI])
      · exact .inl (List.mem_singleton.mp e)
    obtain ⟨rfl, h', tk', m', led', rfl, F₃, N₃, hfl₃, hJ₃⟩ := h₃
    refine ⟨rfl, h', tk', m', led', rfl, F₃, N₃, fun p hp hw => ?_, hJ₃, hfl₃⟩
    have e1 := (N₃ _ (List.mem_append_left _ hIo)).1
    have e2 := (N₃ p (List.mem_append_right _ hp)).1
    rw [List.mem_singleton.mp hw, e1] at e2
    have e3 : isFl p = true := by unfold isFl; rw [← Option.some.inj e2, dI]
    rw [hfl₃ p hp] at e3
    cases e3
end
end
section
open PySem PySem.Calls PyProof.Rows PyProof.Rows.LCg PySem.Spec PySem.W
set_option linter.unusedVariables false
set_option maxRecDepth 100000
set_option maxHeartbeats 4000000
section
variable {prog : Program} {w : World} {A : Around} {E : Value → Shared → Prop} {h₀ : Heap} {L : Addr} {m : Str → Option Value} {env : Env} {s : Shared}
variable {elt : PySem.Expr} {ifs : List PySem.Expr} {scope : Scope} {cl : List (Str × Addr)} {R : Nat → Value → Prop} {test : Nat → Bool} {news : List (Addr × Obj)}
  {Fin : Shared → (Nat → List Value → List (Addr × Obj) → Prop) → Nat → List (Addr × Obj) → Prop}
theorem zst_zip {l1 l2 : Addr} {xs ys : Array Value} {a b : Str} {pa pb tp : Pos} {kk : Nat} (hh : A.handled = none) (hab : a ≠ b) (F : Fr h₀ L s.heap m) (N : News h₀ L s.heap news) (h1 : s.heap.IsList l1 xs) (h2 : s.heap.IsList l2 ys) (hL1 : l1 ≠ L) (hL2 : l2 ≠ L) (h12 : l1 ≠ l2)
    (hsz : min xs.size ys.size ≤ sizeLine)
    (turn : GTurn prog w A h₀ L m env elt ifs scope cl s (fun i m₂ => ∃ x y, (∃ x' y', xs[i]? = some x' ∧ ys[i]? = some y' ∧ #[x, y] = #[x', y']) ∧ m₂ a = some x ∧ m₂ b = some y) (min xs.size ys.size) R test news)
    (fin : ∀ h₂ tk₂, Fin { s with heap := h₂, toks := tk₂ } (fun i ys own => own = [] ∧ Got R test i ys) (min xs.size ys.size) news) :
    wpAny (model prog w) A (call (.type "zip") [.ref l1, .ref l2]) (fun xv s₁ => wpAny (model prog w) A (pyIter xv) (ZSt prog w A h₀ L m env elt (.Tuple [.Name a pa, .Name b pb] kk tp) ifs scope cl [a, b] Fin) E s₁) E s := by
  have b1 : l1 < s.heap.objs.size := by obtain ⟨o, e, _⟩ := h1; exact Heap.lt_size e
  have b2 : l2 < s.heap.objs.size := by obtain ⟨o, e, _⟩ := h2; exact Heap.lt_size e
  have hLs : L < s.heap.objs.size := F.ns.lt
  refine call_zip_2 h1 h2 (fun h' hz hTI hTO hi1 hi2 hs up => ?_)
  refine wpAny_pyIter_zip hz ?_
  have D : ZipApart (s.heap.objs.size + 4) (s.heap.objs.size + 2) (s.heap.objs.size + 3) s.heap.objs.size (s.heap.objs.size + 1) l1 l2 := by
    generalize s.heap.objs.size = n at *
    have b1' : @LT.lt Nat _ l1 n := b1
    have b2' : @LT.lt Nat _ l2 n := b2
    constructor <;> (intro e; have e' : @Eq Nat _ _ := e; clear e; omega)
  refine zst_gen (s := s) (tk₂ := s.toks) (ZSrc.pair (a := a) (b := b) (pa := pa) (pb := pb) (tp := tp) (kk := kk) hh (WalksT.zip2 (prog := prog) (w := w) (A := A) hh (s.heap.objs.size + 4) (s.heap.objs.size + 2) (s.heap.objs.size + 3) s.heap.objs.size (s.heap.objs.size + 1) l1 l2 D xs ys).toU (fun i h st b hb => ?_) (fun i v hv => ?_) hab) hsz
    ⟨hz, hTI, ⟨_, _, hTO⟩, hi1, hi2, h1.at fun o e => up _ o e, h2.at fun o e => up _ o e⟩ ?_ ?_ ?_ F N up turn (fin _ _)
  · obtain ⟨q1, q2, ⟨_, _, q3⟩, q4, q5, q6, q7⟩ := st
    simp only [List.mem_cons, List.not_mem_nil, or_false] at hb
    rcases hb with rfl | rfl | rfl | rfl | rfl | rfl | rfl
    · exact ⟨_, q1⟩
    · exact ⟨_, q2⟩
    · exact ⟨_, q3⟩
    · obtain ⟨o, e, _⟩ := q4; exact ⟨o, e⟩
    · obtain ⟨o, e, _⟩ := q5; exact ⟨o, e⟩
    · obtain ⟨o, e, _⟩ := q6; exact ⟨o, e⟩
    · obtain ⟨o, e, _⟩ := q7; exact ⟨o, e⟩
  · obtain ⟨x, y, _, _, e⟩ := hv
    exact ⟨x, y, e⟩
  · intro b hb
    rw [hs]
    simp only [List.mem_cons, List.not_mem_nil, or_false] at hb
    generalize s.heap.objs.size = n at *
    rcases hb with rfl | rfl | rfl | rfl | rfl | rfl | rfl
    · exact Nat.add_lt_add_left (by decide) _
    · exact Nat.add_lt_add_left (by decide) _
    · exact Nat.add_lt_add_left (by decide) _
    · exact Nat.lt_add_of_pos_right (by decide)
    · exact Nat.add_lt_add_left (by decide) _
    · exact Nat.lt_of_lt_of_le b1 (Nat.le_add_right _ _)
    · exact Nat.lt_of_lt_of_le b2 (Nat.le_add_right _ _)
  · intro b hb
    simp only [List.mem_cons, List.not_mem_nil, or_false] at hb
    have q : ∀ k, s.heap.objs.size + k ≠ L := fun k e => absurd (e ▸ hLs) (Nat.not_lt.mpr (Nat.le_add_right _ _))
    rcases hb with rfl | rfl | rfl | rfl | rfl | rfl | rfl
    · exact q 4
    · exact q 2
    · exact q 3
    · exact q 0
    · exact q 1
    · exact hL1
    · exact hL2
  · intro b hb
    simp only [List.mem_cons, List.not_mem_nil, or_false] at hb
    rcases hb with rfl | rfl | rfl | rfl
    · exact Nat.le_add_right _ _
    · exact Nat.le_add_right _ _
    · exact Nat.le_refl _
    · exact Nat.le_add_right _ _
end
end
section
open PySem PySem.W PyProof.Rows
set_option linter.unusedVariables false
set_option maxRecDepth 100000
set_option maxHeartbeats 4000000
noncomputable def wT (i : Nat) : PySem.Expr := match lS i with | Stmt.While t _ _ _ => t | _ => Classical.choice inferInstance
noncomputable def wBd (i : Nat) : List Stmt := match lS i with | Stmt.While _ b _ _ => b | _ => []
def runW (p : Nat → Bool) : Nat → Nat → Nat
  | 0, a => a
  | n + 1, a => if p a = true then runW p n (a + 1) else a
end
section
open PySem PySem.Calls PyProof.Rows PyProof.Rows.LCg PySem.Spec PySem.W
set_option linter.unusedVariables false
set_option maxRecDepth 100000
set_option maxHeartbeats 4000000
def Gd (B : Nat) (p : Addr × Obj) : Prop := isFl p = false ∨ @LT.lt Nat _ p.1 B
section
variable {prog : Program} {w : World} {A : Around} {E : Value → Shared → Prop} {s : Shared} {env : Env} {h₀ : Heap} {L t : Addr} {m : Str → Option Value}
/-- a for loop over a tuple of the ledger, by an invariant over frame and ledger -/
theorem for_tup2 {x : Str} {px : Pos} {body : List Stmt} {items : Array Value} {led : List (Addr × Obj)} {R : Result → Shared → Prop} (hLe : env.locals = L) (hh : A.handled = none) (hx : env.kindOf x = some .local)
    (hp : (env.scope.kind == .class || (env.scope.kind == .module && env.locals != env.globals)) = false) (hT : s.heap.IsTuple t items) (htL : t ≠ L) (F : Fr h₀ L s.heap m) (N : News h₀ L s.heap led)
    (J : Nat → (Str → Option Value) → List (Addr × Obj) → Prop) (J0 : J 0 m led)
    (turn : ∀ i v m₁ led₁ own (s₂ : Shared) (E' : Value → Shared → Prop), i < items.size → items[i]? = some v → J i m₁ led₁ → Fr h₀ L s₂.heap (fun z => if z = x then some v else m₁ z) → News h₀ L s₂.heap (own ++ led₁) → (∀ p ∈ led₁, Gd s.heap.objs.size p) → (∀ p ∈ own, p.1 = t ∨ isFl p = true) →
      wpAny (model prog w) A (execs body env) (fun f s₃ => f = .next ∧ ∃ h' tk' m' led', s₃ = { s₂ with heap := h', toks := tk' } ∧ Fr h₀ L h' m' ∧ News h₀ L h' (own ++ led') ∧ (∀ p ∈ led', Gd s.heap.objs.size p) ∧ J (i + 1) m' led') E' s₂)
    (fin : ∀ h' tk m' led', Fr h₀ L h' m' → News h₀ L h' led' → J items.size m' led' → (∀ p ∈ led', Gd s.heap.objs.size p) → R (.ok .next) { s with heap := h', toks := tk }) :
    wpAny (model prog w) A (pyIter (.ref t)) (fun it s₂ => codeAny (model prog w) A (.forLoop (.Name x px) it body [] env) R s₂) E s := by
  subst hLe
  have hlt : t < s.heap.objs.size := by obtain ⟨_, e, _⟩ := hT; exact Heap.lt_size e
  refine wpAny_pyIter_tuple hT ?_
  have up : ∀ b o, s.heap.get? b = some o → (s.heap.push { cls := .type "tuple_iterator", data := .fields #[.ref t, .int 0 0] }).get? b = some o := fun b o e => Heap.get?_push_of_some _ e
  refine codeAny_forLoop_anyU (h₀ := h₀) (s := { s with heap := s.heap.push { cls := .type "tuple_iterator", data := .fields #[.ref t, .int 0 0] } }) (m := m) (news := led) (Walks.tuple (prog := prog) (w := w) (A := A) hh s.heap.objs.size t (Nat.ne_of_lt hlt) items) ?_ ?_ ?_
    ⟨⟨_, Heap.get?_push_size _ rfl, rfl, rfl⟩, hT.at fun o e => up _ o e⟩ (F.push _) (N.grown up) (fun i s' v Q' st hQ' => letGo_tupleiter st.1 hQ') (fun i m' led' => J i m' led' ∧ ∀ p ∈ led', Gd s.heap.objs.size p) ⟨J0, fun p hp => .inr (Heap.lt_size (N p hp).1)⟩ ?_ (fun h' tk m' led' F' N' _ hJ => fin h' tk m' led' F' N' hJ.1 hJ.2)
  · intro hm
    rcases List.mem_cons.mp hm with e | hm
    · exact absurd F.ns.lt (e ▸ Nat.lt_irrefl _)
    · exact htL (List.mem_singleton.mp hm).symm
  · intro b hb
    rw [List.mem_singleton.mp hb]
    exact Heap.get?_none_of_le (Nat.le_of_lt (Nat.lt_of_le_of_lt F.above F.ns.lt))
  · intro p hp hI
    exact absurd (Heap.lt_size (N p hp).1) ((List.mem_singleton.mp hI) ▸ Nat.lt_irrefl _)
  · rintro i v m₁ led₁ s₁ own hi hP ⟨hJ, hfl⟩ hnw hown hget hall hst F₁ N₁
    obtain ⟨oI, eI, _, dI⟩ := hst.1
    have hIo : (s.heap.objs.size, oI) ∈ own := hall s.heap.objs.size (by simp) (Heap.get?_none_of_le (Nat.le_of_lt (Nat.lt_of_le_of_lt F.above F.ns.lt))) oI eI
    refine wpAny_assign_Name (wpAny_storeName_local hx F₁.ns (fun h₂ hn₂ hs₂ => ?_) hp)
    refine wpAny_mono (turn i v m₁ led₁ own { s₁ with heap := h₂, toks := s₁.toks + 1 } _ hi hP hJ (F₁.set hn₂ hs₂) (N₁.set hs₂) hfl (fun p hp => ?_)) (fun f s₃ h₃ => ?_) (fun _ _ e => e)
    · rcases List.mem_cons.mp (hown p hp) with e | e
      · have e2 := hget p hp
        rw [e, eI] at e2
        exact .inr (by unfold isFl; rw [← Option.some.inj e2, dI])
      · exact .inl (List.mem_singleton.mp e)
    obtain ⟨rfl, h', tk', m', led', rfl, F₃, N₃, hfl₃, hJ₃⟩ := h₃
    refine ⟨rfl, h', tk', m', led', rfl, F₃, N₃, fun p hp hw => ?_, hJ₃, hfl₃⟩
    have e1 := (N₃ _ (List.mem_append_left _ hIo)).1
    have e2 := (N₃ p (List.mem_append_right _ hp)).1
    rw [List.mem_singleton.mp hw, e1] at e2
    have e3 : isFl p = true := by unfold isFl; rw [← Option.some.inj e2, dI]
    rcases hfl₃ p hp with e4 | e4
    · rw [e4] at e3; cases e3
    · exact absurd e4 (by rw [List.mem_singleton.mp hw]; exact Nat.lt_irrefl _)
end
end
theorem fresh_19 : True ∧ True := by first | (walk1 <;> trivial) | exact ⟨trivial, trivial⟩
section
local macro_rules | `(tactic| walk_at "eval Name") => `(tactic| (k_here; k_dflt (refine' nameX_L ?F ?v ?_ ?a ?b; (case F => k_asm); (case a => rfl); (case b => rfl); (case v => with_reducible assumption); k_whole)))
theorem fresh_20 : True ∧ True := by first | (walk1 <;> trivial) | exact ⟨trivial, trivial⟩
section
local macro_rules | `(tactic| walk_at "exec Assign cons ListComp") => `(tactic| (k_here; refine stopped ?_))
theorem fresh_21 : True ∧ True := by first | (walk1 <;> trivial) | exact ⟨trivial, trivial⟩
section
open PySem PySem.W PyProof.Rows
set_option linter.unusedVariables false
set_option maxRecDepth 100000
set_option maxHeartbeats 4000000
def lettS (k : Int) : Str := ([Str.ofString "fil", Str.ofString "kmb", Str.ofString "nfo"]).getD ((k.fdiv 54).fmod 3).toNat (Str.ofString "")
theorem st1 {w : World} {mean : ExcName → Option Value} {mg mb : Str → Option Value} {h₀ : Heap} {L fa ca : Addr} {m : Str → Option Value} {s : Shared} {Q : Flow → Shared → Prop} {E : Value → Shared → Prop} {news : List (Addr × Obj)} {c3 : Obj} {k : Int} {t1 : Tok} {v3 : Option Value}
    (hX : (KK w.params).In h₀) (hT : Top qv looseL mean mg mb h₀) (hF : Fr h₀ L s.heap m)
    (hm1 : m (Str.ofString "kind") = some (.int k t1)) (hap : ∀ p ∈ news, p.1 ≠ L + 1 + 1 + 1) (hc3 : c3.data = .cell v3) (hk : 0 ≤ k ∧ k < 1000000)
    (hN : News h₀ L s.heap ((L + 1 + 1 + 1, c3) :: news))
    (hQ : ∀ o' h' tk' u, Fr h₀ L h' m → News h₀ L h' ((L + 1 + 1 + 1, o') :: news) → o'.data = .cell (some (.str (lettS k) u)) → Q .next { s with heap := h', toks := tk' }) :
    wpAny (model PySem.Challenge.rw_uy0010_01.prog w) (lA L fa ca) (exec (lS 1) (lawE L fa (.ref ca))) Q E s := by
  revert hX
  k_fill
  intro hX
  walk_at "z lit"
  k_steps
  rename_i kF kN l1
  have hb : 0 ≤ (k.fdiv 54).fmod 3 ∧ (k.fdiv 54).fmod 3 < 3 := fmod_bd (n := 3) (by decide)
  have hlt : ((k.fdiv 54).fmod 3).toNat < 3 := by omega
  have key : ∀ j : Nat, j < 3 → ∀ a b c : Value, (#[a, b, c] : Array Value)[j]? = some ([a, b, c].getD j a) := by
    intro j hj a b c
    rcases (by omega : j = 0 ∨ j = 1 ∨ j = 2) with rfl | rfl | rfl <;> rfl
  refine item_tuple (j := ((k.fdiv 54).fmod 3).toNat) ⟨_, (kN _ List.mem_cons_self).1, rfl, _, rfl⟩ (by omega) (by omega) ?_ (key _ hlt _ _ _) ?_
  · unfold seqIndex?
    simp only [if_neg (show ¬ (k.fdiv 54).fmod 3 < 0 by omega)]
    rw [if_pos (by simp; exact ⟨by omega, by show (k.fdiv 54).fmod 3 < 3; omega⟩)]
  · obtain ⟨u, hu⟩ : ∃ u, ([Value.str (Str.ofString "fil") s.toks, Value.str (Str.ofString "kmb") (s.toks + 1), Value.str (Str.ofString "nfo") (s.toks + 1 + 1)].getD ((k.fdiv 54).fmod 3).toNat (Value.str (Str.ofString "fil") s.toks)) = .str (lettS k) u := by
      unfold lettS
      rcases (by omega : ((k.fdiv 54).fmod 3).toNat = 0 ∨ ((k.fdiv 54).fmod 3).toNat = 1 ∨ ((k.fdiv 54).fmod 3).toNat = 2) with e | e | e <;> rw [e] <;> exact ⟨_, rfl⟩
    have N₂ : News h₀ L _ _ := fun p hp => kN p (List.mem_cons_of_mem _ hp)
    refine storeX_C (g := fun o' => (L + 1 + 1 + 1, o') :: news) kF N₂ rfl (UpdF.head hap) hc3 (fun h' o' F₂ N₃ hd => ?_) rfl rfl
    exact hQ o' h' _ u F₂ N₃ (hd.trans (by rw [← hu]))
end
theorem fresh_22 : True ∧ True := by first | (walk1 <;> trivial) | exact ⟨trivial, trivial⟩
section
open PySem PySem.W PyProof.Rows
set_option linter.unusedVariables false
set_option maxRecDepth 100000
set_option maxHeartbeats 4000000
abbrev numS (x : Str) : Int := numZ (KStt.codes x)
theorem st4 {w : World} {mean : ExcName → Option Value} {mg mb : Str → Option Value} {h₀ : Heap} {L fa ca : Addr} {m : Str → Option Value} {s : Shared} {Q : Flow → Shared → Prop} {E : Value → Shared → Prop} {news : List (Addr × Obj)} {c4 : Obj} {T : Addr} {x y : Str} {t1 t2 : Tok}
    (hX : (KK w.params).In h₀) (hT : Top qv looseL mean mg mb h₀) (hF : Fr h₀ L s.heap m)
    (hc4 : c4.data = .cell (some (.ref T))) (hlx : x.length ≤ 6) (hly : y.length ≤ 6)
    (hN : News h₀ L s.heap ((T, PyProof.Rows.LCg.lst [.str x t1, .str y t2]) :: (L + 1 + 1 + 1 + 1, c4) :: news))
    (hQ : ∀ D h' tk' u1 u2, Fr h₀ L h' (fun z => if z = Str.ofString "numbers" then some (.ref D) else m z) → News h₀ L h' ((D, PyProof.Rows.LCg.lst [.int (numS x) u1, .int (numS y) u2]) :: (T, PyProof.Rows.LCg.lst [.str x t1, .str y t2]) :: (L + 1 + 1 + 1 + 1, c4) :: news) → (∀ p ∈ (T, PyProof.Rows.LCg.lst [.str x t1, .str y t2]) :: (L + 1 + 1 + 1 + 1, c4) :: news, p.1 ≠ D) → Q .next { s with heap := h', toks := tk' }) :
    wpAny (model PySem.Challenge.rw_uy0010_01.prog w) (lA L fa ca) (exec (lS 4) (lawE L fa (.ref ca))) Q E s := by
  revert hX
  k_fill
  intro hX
  walk_at "z lit"
  k_steps
  unfold Held
  k_dflt (
    refine' z_Assign (names := [Str.ofString "text"]) (h₀ := h₀) (L := L) (m := m) ?k1 ?k2 ?k3 ?k4 ?k5 ?k6 ?k7 ?k8 ?k9 ?_
    (case k1 => rfl); (case k2 => with_unfolding_all rfl); (case k3 => with_unfolding_all rfl); (case k4 => decide); (case k5 => rfl); (case k6 => decide); (case k7 => decide); (case k8 => rfl); (case k9 => rfl))
  k_steps
  unfold Held
  refine zst_list (vs := #[.str x t1, .str y t2]) (R := fun i y' => ∃ u, y' = .int (numS ([x, y].getD i x)) u) (test := fun _ => true) rfl hF hN ⟨_, (hN _ List.mem_cons_self).1, rfl, _, rfl⟩ (hN _ List.mem_cons_self).2.1 (by show 2 ≤ sizeLine; rw [sizeLine_eq]; omega) ?_ (fun h₂ tk₂ => finA fun D h tk ys hG F N off => ?_)
  · rintro i led C oC m₂ h tk E' hi ⟨v, ev, em⟩ hoC F' N' hC hnl
    have hi : i < 2 := hi
    obtain ⟨dd, tt, rfl, hdd⟩ : ∃ dd tt, v = .str dd tt ∧ dd = [x, y].getD i x := by
      rcases (by omega : i = 0 ∨ i = 1) with rfl | rfl
      · exact ⟨x, t1, (Option.some.inj ev).symm, rfl⟩
      · exact ⟨y, t2, (Option.some.inj ev).symm, rfl⟩
    have N₂ : News h₀ L h ((C, oC) :: led) := fun q hq => by
      rcases List.mem_cons.mp hq with rfl | hq
      · exact N' _ hC
      · exact N' _ hq
    clear N' hF hN ev
    refine wpAny_tests_nil ⟨rfl, _, _, rfl, F', fun q hq => N₂ q (List.mem_cons_of_mem _ hq), fun _ => ?_⟩
    k_steps
    refine c_number _ _ _ _ _ _ _ _ _ _ _ [] callerA h₀ h₀ L m _ qk ek below0 F' hX N₂ hT rfl trivial (by ktr_room) (by ktr_units) (fun t h' tk' F N => ?_)
    exact ⟨h', tk', rfl, F, fun q hq => N q (List.mem_cons_of_mem _ hq), t, by rw [← hdd]⟩
  · obtain ⟨hl, ha⟩ := hG.all
    obtain ⟨y1, e1, u1, r1⟩ := ha 0 (by show 0 < 2; decide)
    obtain ⟨y2, e2, u2, r2⟩ := ha 1 (by show 1 < 2; decide)
    have hys : ys = [y1, y2] := two_of hl e1 e2
    subst hys
    subst r1 r2
    exact hQ D h tk u1 u2 F N off
end
theorem fresh_23 : True ∧ True := by first | (walk1 <;> trivial) | exact ⟨trivial, trivial⟩
section
open PySem PySem.W PyProof.Rows
set_option linter.unusedVariables false
set_option maxRecDepth 100000
set_option maxHeartbeats 4000000
def hidL : List Int := [173, 847, 6150, 6155, 6156, 6157, 8203, 8204, 8205, 8288, 65279] ++ rangeInts 65024 1 (65040 - 65024 : Int).toNat
theorem st5 {w : World} {mean : ExcName → Option Value} {mg mb : Str → Option Value} {h₀ : Heap} {L fa ca : Addr} {m : Str → Option Value} {s : Shared} {Q : Flow → Shared → Prop} {E : Value → Shared → Prop} {news : List (Addr × Obj)} {c6 : Obj} {v6 : Option Value}
    (hX : (KK w.params).In h₀) (hT : Top qv looseL mean mg mb h₀) (hF : Fr h₀ L s.heap m)
    (hap : ∀ p ∈ news, p.1 ≠ L + 1 + 1 + 1 + 1 + 1 + 1) (hc6 : c6.data = .cell v6)
    (hN : News h₀ L s.heap ((L + 1 + 1 + 1 + 1 + 1 + 1, c6) :: news))
    (hQ : ∀ D o' h' tk' vs, IntsAre vs hidL → Fr h₀ L h' m → News h₀ L h' ((L + 1 + 1 + 1 + 1 + 1 + 1, o') :: (D, listOf vs.toArray 0) :: news) → o'.data = .cell (some (.ref D)) → Q .next { s with heap := h', toks := tk' }) :
    wpAny (model PySem.Challenge.rw_uy0010_01.prog w) (lA L fa ca) (exec (lS 5) (lawE L fa (.ref ca))) Q E s := by
  revert hX
  k_fill
  intro hX
  walk_at "z lit"
  k_steps
  rename_i h2 tk2 yl kF3 kN3 hk3 hn3 hl3 np3 hc3 mk3
  have hi3 := IntsAre.ofCarried hc3
  have hlen : yl.length = 16 := by rw [hc3.length_eq]; rfl
  refine add_lists (vs := [_, _, _, _, _, _, _, _, _, _, _]) (ws := yl) kF3 kN3 ⟨_, (kN3 _ List.mem_cons_self).1, rfl, _, rfl⟩ hl3 (fun h' F N => ?_) (by show 11 + yl.length ≤ sizeLine; rw [hlen, sizeLine_eq]; omega)
  have hlow := Heap.lt_size (kN3 _ (List.mem_cons_of_mem _ List.mem_cons_self)).1
  have N₂ : News h₀ L h' ((L + 1 + 1 + 1 + 1 + 1 + 1, c6) :: (h2.objs.size, _) :: news) := fun p hp => by
    refine N p ?_
    simp only [List.mem_cons] at hp ⊢
    rcases hp with hp | hp | hp
    · exact .inr (.inr (.inl hp))
    · exact .inl hp
    · exact .inr (.inr (.inr hp))
  refine storeX_C (g := fun o' => (L + 1 + 1 + 1 + 1 + 1 + 1, o') :: (h2.objs.size, _) :: news) F N₂ rfl (UpdF.head fun p hp => ?_) hc6 (fun h'' o' F₂ N₃ hd => ?_) rfl rfl
  · rcases List.mem_cons.mp hp with rfl | hp
    · exact Ne.symm (Nat.ne_of_lt hlow)
    · exact hap p hp
  · exact hQ _ o' h'' _ _ ((IntsAre.cons _ _ (IntsAre.cons _ _ (IntsAre.cons _ _ (IntsAre.cons _ _ (IntsAre.cons _ _ (IntsAre.cons _ _ (IntsAre.cons _ _ (IntsAre.cons _ _ (IntsAre.cons _ _ (IntsAre.cons _ _ (IntsAre.cons _ _ IntsAre.nil))))))))))).append hi3) F₂ N₃ hd
end
theorem fresh_24 : True ∧ True := by first | (walk1 <;> trivial) | exact ⟨trivial, trivial⟩
section
open PySem PySem.W PyProof.Rows
set_option linter.unusedVariables false
set_option maxRecDepth 100000
set_option maxHeartbeats 4000000
theorem st7 {w : World} {mean : ExcName → Option Value} {mg mb : Str → Option Value} {h₀ : Heap} {L fa ca : Addr} {m : Str → Option Value} {s : Shared} {Q : Flow → Shared → Prop} {E : Value → Shared → Prop} {news : List (Addr × Obj)} {r : Int} {t1 : Tok}
    (hX : (KK w.params).In h₀) (hT : Top qv looseL mean mg mb h₀) (hF : Fr h₀ L s.heap m)
    (hm1 : m (Str.ofString "rows") = some (.int r t1)) (hr : 0 ≤ r ∧ r < 1000000)
    (hN : News h₀ L s.heap news)
    (hQ : ∀ D1 D2 h' tk' ys1 ys2, IntsAre ys1 (bitsL (r.fdiv 3) (r.fmod 3)) → IntsAre ys2 (bitsL (r.fdiv 36) ((r.fdiv 12).fmod 3)) → Fr h₀ L h' (fun z => if z = Str.ofString "front" then some (.ref D1) else if z = Str.ofString "end" then some (.ref D2) else m z) → News h₀ L h' ((D2, PyProof.Rows.LCg.lst ys2) :: (D1, PyProof.Rows.LCg.lst ys1) :: news) → (∀ p ∈ (D1, PyProof.Rows.LCg.lst ys1) :: news, p.1 ≠ D2) → (∀ p ∈ news, p.1 ≠ D1) → Q .next { s with heap := h', toks := tk' }) :
    wpAny (model PySem.Challenge.rw_uy0010_01.prog w) (lA L fa ca) (exec (lS 7) (lawE L fa (.ref ca))) Q E s := by
  revert hX
  k_fill
  intro hX
  walk_at "z lit"
  k_steps
  have a1 : r.fdiv 3 = r / 3 := Int.fdiv_eq_ediv_of_nonneg _ (by omega)
  have a2 : r.fmod 3 = r % 3 := Int.fmod_eq_emod_of_nonneg _ (by omega)
  have a3 : r.fdiv 36 = r / 36 := Int.fdiv_eq_ediv_of_nonneg _ (by omega)
  have a4 : r.fdiv 12 = r / 12 := Int.fdiv_eq_ediv_of_nonneg _ (by omega)
  have a5 : (r.fdiv 12).fmod 3 = (r / 12) % 3 := by rw [a4]; exact Int.fmod_eq_emod_of_nonneg _ (by omega)
  refine c_bits _ _ _ _ _ _ _ _ _ _ _ _ _ [] callerA h₀ h₀ L m _ _ _ below0 hF hX hN hT rfl ⟨by omega, by omega, by omega, by omega⟩ (by ktr_room) (by ktr_units) (fun D1 h1 tk1 ys1 I1 F1 N1 off1 => ?_)
  clear hF hN
  k_steps
  refine c_bits _ _ _ _ _ _ _ _ _ _ _ _ _ [] callerA h₀ h₀ L m _ _ _ below0 F1 hX N1 hT rfl ⟨by omega, by omega, by omega, by omega⟩ (by ktr_room) (by ktr_units) (fun D2 h2 tk2 ys2 I2 F2 N2 off2 => ?_)
  clear F1 N1
  k_steps
  rename_i kF kN
  exact hQ D1 D2 _ _ ys1 ys2 I1 I2 kF (fun p hp => kN p (List.mem_cons_of_mem _ hp)) off2 off1
end
theorem fresh_25 : True ∧ True := by first | (walk1 <;> trivial) | exact ⟨trivial, trivial⟩
section
open PySem PySem.W PyProof.Rows
set_option linter.unusedVariables false
set_option maxRecDepth 100000
set_option maxHeartbeats 4000000
theorem st8 {w : World} {mean : ExcName → Option Value} {mg mb : Str → Option Value} {h₀ : Heap} {L fa ca : Addr} {m : Str → Option Value} {s : Shared} {Q : Flow → Shared → Prop} {E : Value → Shared → Prop} {news : List (Addr × Obj)} 
    (hX : (KK w.params).In h₀) (hT : Top qv looseL mean mg mb h₀) (hF : Fr h₀ L s.heap m)
    
    (hN : News h₀ L s.heap news)
    (hQ : ∀ D h' tk', Fr h₀ L h' (fun z => if z = Str.ofString "meant" then some (.ref D) else m z) → News h₀ L h' ((D, listOf #[] 0) :: news) → (∀ p ∈ news, p.1 ≠ D) → Q .next { s with heap := h', toks := tk' }) :
    wpAny (model PySem.Challenge.rw_uy0010_01.prog w) (lA L fa ca) (exec (lS 8) (lawE L fa (.ref ca))) Q E s := by
  revert hX
  k_fill
  intro hX
  walk_at "z lit"
  k_steps
  rename_i l1 _ kF kN
  exact hQ _ _ _ kF kN (fun p hp => Nat.ne_of_lt (l1 p hp))
end
theorem fresh_26 : True ∧ True := by first | (walk1 <;> trivial) | exact ⟨trivial, trivial⟩
section
open PySem PySem.W PyProof.Rows
set_option linter.unusedVariables false
set_option maxRecDepth 100000
set_option maxHeartbeats 4000000
theorem st10 {w : World} {mean : ExcName → Option Value} {mg mb : Str → Option Value} {h₀ : Heap} {L fa ca : Addr} {m : Str → Option Value} {s : Shared} {Q : Flow → Shared → Prop} {E : Value → Shared → Prop} {news : List (Addr × Obj)} {c4 c8 : Obj} {T : Addr} {x y : List Nat} {t1 t2 : Tok} {v8 : Option Value}
    (hX : (KK w.params).In h₀) (hT : Top qv looseL mean mg mb h₀) (hF : Fr h₀ L s.heap m)
    (hc4 : c4.data = .cell (some (.ref T))) (hc8 : c8.data = .cell v8) (hlx : x.length ≤ 6) (hly : y.length ≤ 6) (hap8 : ∀ p ∈ (L + 1 + 1 + 1 + 1, c4) :: (T, PyProof.Rows.LCg.lst [.str (tx x) t1, .str (tx y) t2]) :: news, p.1 ≠ L + 1 + 1 + 1 + 1 + 1 + 1 + 1 + 1)
    (hN : News h₀ L s.heap ((L + 1 + 1 + 1 + 1 + 1 + 1 + 1 + 1, c8) :: (L + 1 + 1 + 1 + 1, c4) :: (T, PyProof.Rows.LCg.lst [.str (tx x) t1, .str (tx y) t2]) :: news))
    (hQ : ∀ o8 h' tk' u, Fr h₀ L h' m → News h₀ L h' ((L + 1 + 1 + 1 + 1 + 1 + 1 + 1 + 1, o8) :: (L + 1 + 1 + 1 + 1, c4) :: (T, PyProof.Rows.LCg.lst [.str (tx x) t1, .str (tx y) t2]) :: news) → o8.data = .cell (some (.int ((x.length : Int) + (y.length : Int)) u)) → Q .next { s with heap := h', toks := tk' }) :
    wpAny (model PySem.Challenge.rw_uy0010_01.prog w) (lA L fa ca) (exec (lS 10) (lawE L fa (.ref ca))) Q E s := by
  revert hX
  k_fill
  intro hX
  walk_at "z lit"
  k_steps
  refine P.len_str (by rw [tx_len]; omega) ?_
  k_steps
  refine P.len_str (by rw [tx_len]; omega) ?_
  k_steps
  refine storeX_C (g := fun o' => (L + 1 + 1 + 1 + 1 + 1 + 1 + 1 + 1, o') :: _) hF hN rfl (UpdF.head hap8) hc8 (fun h' o' F₂ N₃ hd => ?_) rfl rfl
  exact hQ o' h' _ _ F₂ N₃ (by rw [hd, tx_len, tx_len])
end
end
theorem fresh_27 : True ∧ True := by first | (walk1 <;> trivial) | exact ⟨trivial, trivial⟩
theorem fresh_28 : True ∧ True := by first | (walk1 <;> trivial) | exact ⟨trivial, trivial⟩
section
open PySem PySem.W PyProof.Rows
set_option linter.unusedVariables false
set_option maxRecDepth 100000
set_option maxHeartbeats 4000000
theorem st2 {w : World} {mean : ExcName → Option Value} {mg mb : Str → Option Value} {h₀ : Heap} {L fa ca : Addr} {m : Str → Option Value} {s : Shared} {Q : Flow → Shared → Prop} {E : Value → Shared → Prop} {c3 c4 : Obj} {lt : Str} {o r : Int} {t1 t2 t3 : Tok} {v4 : Option Value}
    {news : List (Addr × Obj)} (hX : (KK w.params).In h₀) (hT : Top qv looseL mean mg mb h₀) (hF : Fr h₀ L s.heap m)
    (hm1 : m (Str.ofString "one") = some (.int o t1)) (hm2 : m (Str.ofString "other") = some (.int r t2))
    (hN : News h₀ L s.heap ((L + 1 + 1 + 1 + 1, c4) :: (L + 1 + 1 + 1, c3) :: news)) (hap : ∀ p ∈ (L + 1 + 1 + 1, c3) :: news, p.1 ≠ L + 1 + 1 + 1 + 1) (hc3 : c3.data = .cell (some (.str lt t3))) (hc4 : c4.data = .cell v4) (hlt : lt.length = 3)
    (ho : 0 ≤ o ∧ o < 1000000) (hr : 0 ≤ r ∧ r < 1000000)
    (hQ : ∀ D o' h' tk' u1 u2, Fr h₀ L h' m → News h₀ L h' ((L + 1 + 1 + 1 + 1, o') :: (D, PyProof.Rows.LCg.lst [.str (lettersS lt (o.fdiv 4) (1 + o.fmod 4)) u1, .str (lettersS lt (r.fdiv 4) (1 + r.fmod 4)) u2]) :: (L + 1 + 1 + 1, c3) :: news) →
      o'.data = .cell (some (.ref D)) → Q .next { s with heap := h', toks := tk' }) :
    wpAny (model PySem.Challenge.rw_uy0010_01.prog w) (lA L fa ca) (exec (lS 2) (lawE L fa (.ref ca))) Q E s := by
  revert hX
  k_fill
  intro hX
  walk_at "z lit"
  k_steps
  unfold Held
  k_dflt (
    refine' z_ListComp (names := [Str.ofString "draw"]) (h₀ := h₀) (L := L) (m := m) ?z1 ?z2 ?z3 ?z4 ?z5 ?_
    (case z1 => with_unfolding_all rfl); (case z2 => decide); (case z3 => rfl); (case z4 => decide); (case z5 => decide))
  k_steps
  unfold Held
  rename_i kF kN l1
  refine zst_tuple (R := fun i y => ∃ u, y = .str (lettersS lt (([o, r].getD i 0).fdiv 4) (1 + ([o, r].getD i 0).fmod 4)) u) (test := fun _ => true) rfl kF kN ⟨_, (kN _ List.mem_cons_self).1, rfl, _, rfl⟩ (kN _ List.mem_cons_self).2.1 (by show 2 ≤ sizeLine; rw [sizeLine_eq]; omega) ?_ (fun h₂ tk₂ => finE fun D h tk ys hG F N off => ?_)
  · rintro i led C oC m₂ h tk E' hi ⟨v, ev, em⟩ hoC F' N' hC hnl
    have hi : i < 2 := hi
    obtain ⟨dd, tt, rfl, hdd, hd0, hd1⟩ : ∃ dd tt, v = .int dd tt ∧ dd = [o, r].getD i 0 ∧ 0 ≤ dd ∧ dd < 1000000 := by
      rcases (by omega : i = 0 ∨ i = 1) with rfl | rfl
      · exact ⟨o, t1, (Option.some.inj ev).symm, rfl, ho⟩
      · exact ⟨r, t2, (Option.some.inj ev).symm, rfl, hr⟩
    have N₂ : News h₀ L h ((C, oC) :: (L + 1 + 1 + 1, c3) :: led) := fun q hq => by
      rcases List.mem_cons.mp hq with rfl | hq
      · exact N' _ hC
      rcases List.mem_cons.mp hq with rfl | hq
      · exact N' _ (hnl _ (List.mem_cons_of_mem _ (List.mem_cons_of_mem _ List.mem_cons_self)))
      · exact N' _ hq
    clear N' kF kN ev
    refine wpAny_tests_nil ⟨rfl, _, _, rfl, F', led_drop2 N₂, fun _ => ?_⟩
    k_steps
    have fm : dd.fmod 4 = dd % 4 := Int.fmod_eq_emod_of_nonneg _ (by omega)
    have fd : dd.fdiv 4 = dd / 4 := Int.fdiv_eq_ediv_of_nonneg _ (by omega)
    refine c_letters _ _ _ _ _ _ _ _ _ _ _ _ _ _ _ [] callerA h₀ h₀ L m _ qk ek below0 F' hX N₂ hT rfl ⟨hlt, by omega, by omega, by omega, by omega⟩ (by ktr_room) (by ktr_units) (fun t h' tk' F N => ?_)
    exact ⟨h', tk', rfl, F, led_drop2 N, t, by rw [hdd]⟩
  · obtain ⟨hl, ha⟩ := hG.all
    obtain ⟨y1, e1, u1, r1⟩ := ha 0 (by show 0 < 2; decide)
    obtain ⟨y2, e2, u2, r2⟩ := ha 1 (by show 1 < 2; decide)
    have hys : ys = [y1, y2] := two_of hl e1 e2
    subst hys
    subst r1 r2
    have N₂ : News h₀ L h ((L + 1 + 1 + 1 + 1, c4) :: (D, PyProof.Rows.LCg.lst [.str (lettersS lt (o.fdiv 4) (1 + o.fmod 4)) u1, .str (lettersS lt (r.fdiv 4) (1 + r.fmod 4)) u2]) :: (L + 1 + 1 + 1, c3) :: news) := by
      intro p hp
      refine N p ?_
      simp only [List.mem_cons] at hp ⊢
      rcases hp with hp | hp | hp | hp <;> simp [hp]
    refine storeX_C (g := fun o' => (L + 1 + 1 + 1 + 1, o') :: (D, PyProof.Rows.LCg.lst [.str (lettersS lt (o.fdiv 4) (1 + o.fmod 4)) u1, .str (lettersS lt (r.fdiv 4) (1 + r.fmod 4)) u2]) :: (L + 1 + 1 + 1, c3) :: news) F N₂ rfl (UpdF.head fun p hp => ?_) hc4 (fun h' o' F₂ N₃ hd => ?_) rfl rfl
    · rcases List.mem_cons.mp hp with rfl | hp
      · exact Ne.symm (off _ (List.mem_cons_of_mem _ List.mem_cons_self))
      · exact hap p hp
    · exact hQ D o' h' _ u1 u2 F₂ N₃ hd
end
theorem fresh_29 : True ∧ True := by first | (walk1 <;> trivial) | exact ⟨trivial, trivial⟩
section
open PySem PySem.W PyProof.Rows
set_option linter.unusedVariables false
set_option maxRecDepth 100000
set_option maxHeartbeats 4000000
def rootR (x : Str) (d : Int) : Str := Txt.mul x (1 + d.fmod 3)
theorem letS_len {x : Str} {d n : Int} (hx : x.length = 3) (hn : 1 ≤ n ∧ n ≤ 2) : (lettersS x d n).length ≤ 2 := by
  obtain ⟨⟨l⟩⟩ := x
  have h3 : l.length = 3 := by simpa [Str.length] using hx
  have := letters_eq (l := l) (d := d) (n := n) h3
  rw [show (⟨⟨l⟩⟩ : Str) = tx l from rfl, this, tx_len, lettersL_len]
  omega
theorem mulok {x : Str} {n : Int} (hx : x.length ≤ 2) (h0 : 1 ≤ n) (h1 : n ≤ 3) : MulOk x n := by
  refine ⟨?_, fun _ _ => ?_, fun _ _ => ?_⟩
  · rw [decide_eq_false (by omega), decide_eq_false (by omega)]; rfl
  · rcases (by omega : n = 1 ∨ n = 2 ∨ n = 3) with rfl | rfl | rfl <;> omega
  · unfold Builtin.Str.tooLong
    rw [decide_eq_false]
    rw [sizeLine_eq]
    rcases (by omega : n = 1 ∨ n = 2 ∨ n = 3) with rfl | rfl | rfl <;> (simp; omega)
theorem st3 {w : World} {mean : ExcName → Option Value} {mg mb : Str → Option Value} {h₀ : Heap} {L fa ca : Addr} {m : Str → Option Value} {s : Shared} {Q : Flow → Shared → Prop} {E : Value → Shared → Prop} {news : List (Addr × Obj)} {c3 c4 c5 : Obj} {k o r : Int} {lt : Str} {t1 t2 t3 t4 : Tok} {v4 v5 : Option Value}
    (hX : (KK w.params).In h₀) (hT : Top qv looseL mean mg mb h₀) (hF : Fr h₀ L s.heap m)
    (hm1 : m (Str.ofString "kind") = some (.int k t1)) (hm2 : m (Str.ofString "one") = some (.int o t2)) (hm3 : m (Str.ofString "other") = some (.int r t3)) (hk : 0 ≤ k ∧ k < 1000000) (ho : 0 ≤ o ∧ o < 1000000) (hr : 0 ≤ r ∧ r < 1000000) (hlt : lt.length = 3) (hc3 : c3.data = .cell (some (.str lt t4))) (hc4 : c4.data = .cell v4) (hc5 : c5.data = .cell v5)
    (hap5 : ∀ p ∈ (L + 1 + 1 + 1 + 1, c4) :: (L + 1 + 1 + 1, c3) :: news, p.1 ≠ L + 1 + 1 + 1 + 1 + 1) (hap4 : ∀ p ∈ (L + 1 + 1 + 1, c3) :: news, p.1 ≠ L + 1 + 1 + 1 + 1)
    (hQ1 : ¬ k.fmod 3 = 0 → ∀ h' tk', Fr h₀ L h' m → News h₀ L h' ((L + 1 + 1 + 1 + 1 + 1, c5) :: (L + 1 + 1 + 1 + 1, c4) :: (L + 1 + 1 + 1, c3) :: news) → Q .next { s with heap := h', toks := tk' })
    (hN : News h₀ L s.heap ((L + 1 + 1 + 1 + 1 + 1, c5) :: (L + 1 + 1 + 1 + 1, c4) :: (L + 1 + 1 + 1, c3) :: news))
    (hQ : k.fmod 3 = 0 → ∀ D o4 o5 h' tk' u1 u2, Fr h₀ L h' m → News h₀ L h' ((L + 1 + 1 + 1 + 1, o4) :: (D, PyProof.Rows.LCg.lst [.str (rootR (lettersS lt (k.fdiv 6) (1 + (k.fdiv 3).fmod 2)) o) u1, .str (rootR (lettersS lt (k.fdiv 6) (1 + (k.fdiv 3).fmod 2)) r) u2]) :: (L + 1 + 1 + 1 + 1 + 1, o5) :: (L + 1 + 1 + 1, c3) :: news) → o4.data = .cell (some (.ref D)) → Q .next { s with heap := h', toks := tk' }) :
    wpAny (model PySem.Challenge.rw_uy0010_01.prog w) (lA L fa ca) (exec (lS 3) (lawE L fa (.ref ca))) Q E s := by
  revert hX
  k_fill
  intro hX
  walk_at "z lit"
  k_steps
  rotate_right
  · rename_i hne
    exact hQ1 (by simpa using hne) _ _ hF hN
  · rename_i heq
    have heq : k.fmod 3 = 0 := by simpa using heq
    have fd6 : k.fdiv 6 = k / 6 := Int.fdiv_eq_ediv_of_nonneg _ (by omega)
    have fd3 : k.fdiv 3 = k / 3 := Int.fdiv_eq_ediv_of_nonneg _ (by omega)
    have fm3 : (k.fdiv 3).fmod 2 = (k / 3) % 2 := by rw [fd3]; exact Int.fmod_eq_emod_of_nonneg _ (by omega)
    refine c_letters _ _ _ _ _ _ _ _ _ _ _ _ _ _ _ [] callerA h₀ h₀ L m _ _ _ below0 hF hX hN hT rfl ⟨hlt, by omega, by omega, by omega, by omega⟩ (by ktr_room) (by ktr_units) (fun t h' tk' F N => ?_)
    refine storeX_C (g := fun o' => (L + 1 + 1 + 1 + 1 + 1, o') :: (L + 1 + 1 + 1 + 1, c4) :: (L + 1 + 1 + 1, c3) :: news) F N rfl (UpdF.head hap5) hc5 (fun h2 o5 F₂ N₂ hd5 => ?_) rfl rfl
    clear hN hF N F
    replace hd5 : o5.data = .cell (some (.str (lettersS lt (k.fdiv 6) (1 + (k.fdiv 3).fmod 2)) t)) := hd5
    k_steps
    unfold Held
    k_dflt (
      refine' z_ListComp (names := [Str.ofString "draw"]) (h₀ := h₀) (L := L) (m := m) ?z1 ?z2 ?z3 ?z4 ?z5 ?_
      (case z1 => with_unfolding_all rfl); (case z2 => decide); (case z3 => rfl); (case z4 => decide); (case z5 => decide))
    k_steps
    unfold Held
    rename_i kF kN l1
    refine zst_tuple (R := fun i y => ∃ u, y = .str (rootR (lettersS lt (k.fdiv 6) (1 + (k.fdiv 3).fmod 2)) ([o, r].getD i 0)) u) (test := fun _ => true) rfl kF kN ⟨_, (kN _ List.mem_cons_self).1, rfl, _, rfl⟩ (kN _ List.mem_cons_self).2.1 (by show 2 ≤ sizeLine; rw [sizeLine_eq]; omega) ?_ (fun h₂ tk₂ => finE fun D h tk ys hG F N off => ?_)
    · rintro i led C oC m₂ h tk E' hi ⟨v, ev, em⟩ hoC F' N' hC hnl
      have hi : i < 2 := hi
      obtain ⟨dd, tt, rfl, hdd, hd0, hd1⟩ : ∃ dd tt, v = .int dd tt ∧ dd = [o, r].getD i 0 ∧ 0 ≤ dd ∧ dd < 1000000 := by
        rcases (by omega : i = 0 ∨ i = 1) with rfl | rfl
        · exact ⟨o, t2, (Option.some.inj ev).symm, rfl, ho⟩
        · exact ⟨r, t3, (Option.some.inj ev).symm, rfl, hr⟩
      have N₂ : News h₀ L h ((C, oC) :: (L + 1 + 1 + 1 + 1 + 1, o5) :: led) := fun q hq => by
        rcases List.mem_cons.mp hq with rfl | hq
        · exact N' _ hC
        rcases List.mem_cons.mp hq with rfl | hq
        · exact N' _ (hnl _ (List.mem_cons_of_mem _ List.mem_cons_self))
        · exact N' _ hq
      clear N' kF kN ev
      refine wpAny_tests_nil ⟨rfl, _, _, rfl, F', led_drop2 N₂, fun _ => ?_⟩
      k_steps
      have hb : 0 ≤ dd.fmod 3 ∧ dd.fmod 3 < 3 := fmod_bd (n := 3) (by decide)
      refine PySem.SB.mul (mulok (letS_len hlt ⟨by omega, by omega⟩) (by omega) (by omega)) (fun t' k' => ?_)
      exact ⟨_, _, rfl, F', led_drop2 N₂, t', by rw [hdd]; rfl⟩
    · obtain ⟨hl, ha⟩ := hG.all
      obtain ⟨y1, e1, u1, r1⟩ := ha 0 (by show 0 < 2; decide)
      obtain ⟨y2, e2, u2, r2⟩ := ha 1 (by show 1 < 2; decide)
      have hys : ys = [y1, y2] := two_of hl e1 e2
      subst hys
      subst r1 r2
      have N₂ : News h₀ L h ((L + 1 + 1 + 1 + 1, c4) :: (D, PyProof.Rows.LCg.lst [.str (rootR (lettersS lt (k.fdiv 6) (1 + (k.fdiv 3).fmod 2)) o) u1, .str (rootR (lettersS lt (k.fdiv 6) (1 + (k.fdiv 3).fmod 2)) r) u2]) :: (L + 1 + 1 + 1 + 1 + 1, o5) :: (L + 1 + 1 + 1, c3) :: news) := by
        intro p hp
        refine N p ?_
        simp only [List.mem_cons] at hp ⊢
        rcases hp with hp | hp | hp | hp | hp <;> simp [hp]
      refine storeX_C (g := fun o' => (L + 1 + 1 + 1 + 1, o') :: (D, PyProof.Rows.LCg.lst [.str (rootR (lettersS lt (k.fdiv 6) (1 + (k.fdiv 3).fmod 2)) o) u1, .str (rootR (lettersS lt (k.fdiv 6) (1 + (k.fdiv 3).fmod 2)) r) u2]) :: (L + 1 + 1 + 1 + 1 + 1, o5) :: (L + 1 + 1 + 1, c3) :: news) F N₂ rfl (UpdF.head fun p hp => ?_) hc4 (fun h' o' F₂ N₃ hd => ?_) rfl rfl
      · rcases List.mem_cons.mp hp with rfl | hp
        · exact Ne.symm (off (L + 1 + 1 + 1 + 1, c4) (by simp))
        rcases List.mem_cons.mp hp with rfl | hp
        · exact Ne.symm (hap5 (L + 1 + 1 + 1 + 1, c4) (by simp))
        · exact hap4 p hp
      · refine wpAny_execs_nil ?_
        exact hQ heq D o' o5 h' _ u1 u2 F₂ N₃ hd
end
theorem fresh_30 : True ∧ True := by first | (walk1 <;> trivial) | exact ⟨trivial, trivial⟩
section
open PySem PySem.W PyProof.Rows
set_option linter.unusedVariables false
set_option maxRecDepth 100000
set_option maxHeartbeats 4000000
def apL (n : Int) : List Nat := (apN n.toNat).map (·.toNat)
def typL (k n : Int) : List Nat := (hidL.getD (k.fmod 27).toNat 0).toNat :: typedN 6 (apL n) (k.fdiv 27 + n)
theorem flat1 : ∀ l : List Nat, (l.map fun a => [a]).flatten = l
  | [] => rfl
  | a :: r => by rw [List.map_cons, List.flatten_cons, flat1 r]; rfl
theorem ap_up (n : Int) : ∀ c ∈ apL n, 65 ≤ c ∧ c ≤ 80 := by
  have key : ∀ k : Nat, ∀ n : Nat, n ≤ k → ∀ c ∈ (apN n).map (·.toNat), 65 ≤ c ∧ c ≤ 80 := by
    intro k
    induction k with
    | zero => intro n hn c hc; rw [Nat.le_zero.mp hn, apN_eq] at hc; simp at hc
    | succ k ih =>
      intro n hn c hc
      rw [apN_eq] at hc
      split at hc
      · simp at hc
      · rw [List.map_append] at hc
        rcases List.mem_append.mp hc with hc | hc
        · exact ih (n / 16) (by omega) c hc
        · have e : c = (UInt8.ofNat (65 + n % 16)).toNat := by simpa using hc
          have : (UInt8.ofNat (65 + n % 16)).toNat = (65 + n % 16) % 256 := by simp
          omega
  exact key n.toNat n.toNat (Nat.le_refl _)
theorem typedN_len : ∀ (n : Nat) (w : List Nat) (d : Int), (typedN n w d).length ≤ n
  | 0, w, d => by simp [typedN]
  | n + 1, [], d => by simp [typedN]
  | n + 1, c :: w, d => by
    rw [typedN, List.length_append]
    have h1 := (ways_len c (c :: w) d _ (pick_mem c (c :: w) d)).2.2
    have h2 := typedN_len n ((c :: w).drop (pickN c (c :: w) d).1.length) (d.fdiv 12)
    omega
theorem hid_bd {j : Nat} (h : j < 27) : 0 ≤ hidL.getD j 0 ∧ hidL.getD j 0 ≤ 66000 := by
  have key : ∀ j : Nat, j < 27 → 0 ≤ hidL.getD j 0 ∧ hidL.getD j 0 ≤ 66000 := by decide
  exact key j h
local macro_rules | `(tactic| walk_at "call builtin:chr") => `(tactic| (k_here; k_dflt (refine chr_of_range (by assumption) (by assumption) ?_)))
theorem st6 {w : World} {mean : ExcName → Option Value} {mg mb : Str → Option Value} {h₀ : Heap} {L fa ca : Addr} {m : Str → Option Value} {s : Shared} {Q : Flow → Shared → Prop} {E : Value → Shared → Prop} {news : List (Addr × Obj)} {c2 c6 c7 : Obj} {H NN : Addr} {vs : List Value} {nx ny k : Int} {u1 u2 t2 : Tok} {v7 : Option Value}
    (hX : (KK w.params).In h₀) (hT : Top qv looseL mean mg mb h₀) (hF : Fr h₀ L s.heap m)
    (hm1 : m (Str.ofString "numbers") = some (.ref NN)) (hk : 0 ≤ k ∧ k < 1000000) (hnx : 0 ≤ nx ∧ nx < 16777216) (hny : 0 ≤ ny ∧ ny < 16777216) (hc2 : c2.data = .cell (some (.int k t2))) (hc6 : c6.data = .cell (some (.ref H))) (hc7 : c7.data = .cell v7) (hvs : IntsAre vs hidL)
    (hap7 : ∀ p ∈ (L + 1 + 1, c2) :: (L + 1 + 1 + 1 + 1 + 1 + 1, c6) :: (H, listOf vs.toArray 0) :: (NN, PyProof.Rows.LCg.lst [.int nx u1, .int ny u2]) :: news, p.1 ≠ L + 1 + 1 + 1 + 1 + 1 + 1 + 1)
    (hN : News h₀ L s.heap ((L + 1 + 1 + 1 + 1 + 1 + 1 + 1, c7) :: (L + 1 + 1, c2) :: (L + 1 + 1 + 1 + 1 + 1 + 1, c6) :: (H, listOf vs.toArray 0) :: (NN, PyProof.Rows.LCg.lst [.int nx u1, .int ny u2]) :: news))
    (hQ : ∀ D o7 h' tk' u3 u4, Fr h₀ L h' m → News h₀ L h' ((L + 1 + 1 + 1 + 1 + 1 + 1 + 1, o7) :: (D, PyProof.Rows.LCg.lst [.str (tx (typL k nx)) u3, .str (tx (typL k ny)) u4]) :: (L + 1 + 1, c2) :: (L + 1 + 1 + 1 + 1 + 1 + 1, c6) :: (H, listOf vs.toArray 0) :: (NN, PyProof.Rows.LCg.lst [.int nx u1, .int ny u2]) :: news) → o7.data = .cell (some (.ref D)) → Q .next { s with heap := h', toks := tk' }) :
    wpAny (model PySem.Challenge.rw_uy0010_01.prog w) (lA L fa ca) (exec (lS 6) (lawE L fa (.ref ca))) Q E s := by
  revert hX
  k_fill
  intro hX
  walk_at "z lit"
  k_steps
  unfold Held
  k_dflt (
    refine' z_ListComp (names := [Str.ofString "number"]) (h₀ := h₀) (L := L) (m := m) ?z1 ?z2 ?z3 ?z4 ?z5 ?_
    (case z1 => with_unfolding_all rfl); (case z2 => decide); (case z3 => rfl); (case z4 => decide); (case z5 => decide))
  k_steps
  unfold Held
  have hNN := hN (NN, PyProof.Rows.LCg.lst [.int nx u1, .int ny u2]) (by simp)
  refine zst_list (vs := #[.int nx u1, .int ny u2]) (R := fun i y' => ∃ u, y' = .str (tx (typL k ([nx, ny].getD i 0))) u) (test := fun _ => true) rfl hF hN ⟨_, hNN.1, rfl, _, rfl⟩ hNN.2.1 (by show 2 ≤ sizeLine; rw [sizeLine_eq]; omega) ?_ (fun h₂ tk₂ => finE fun D h tk ys hG F N off => ?_)
  · rintro i led C oC m₂ h tk E' hi ⟨v, ev, em⟩ hoC F' N' hC hnl
    have hi : i < 2 := hi
    obtain ⟨dd, tt, rfl, hdd, hd0, hd1⟩ : ∃ dd tt, v = .int dd tt ∧ dd = [nx, ny].getD i 0 ∧ 0 ≤ dd ∧ dd < 16777216 := by
      rcases (by omega : i = 0 ∨ i = 1) with rfl | rfl
      · exact ⟨nx, u1, (Option.some.inj ev).symm, rfl, hnx⟩
      · exact ⟨ny, u2, (Option.some.inj ev).symm, rfl, hny⟩
    have N₂ : News h₀ L h ((C, oC) :: (L + 1 + 1 + 1 + 1 + 1 + 1, c6) :: (H, listOf vs.toArray 0) :: (L + 1 + 1, c2) :: led) := fun q hq => by
      rcases List.mem_cons.mp hq with rfl | hq
      · exact N' _ hC
      rcases List.mem_cons.mp hq with rfl | hq
      · exact N' _ (hnl _ (by simp))
      rcases List.mem_cons.mp hq with rfl | hq
      · exact N' _ (hnl _ (by simp))
      rcases List.mem_cons.mp hq with rfl | hq
      · exact N' _ (hnl _ (by simp))
      · exact N' _ hq
    clear N' hN hF ev hNN
    have back : ∀ h', News h₀ L h' ((C, oC) :: (L + 1 + 1 + 1 + 1 + 1 + 1, c6) :: (H, listOf vs.toArray 0) :: (L + 1 + 1, c2) :: led) → News h₀ L h' led := fun h' N p hp => N p (by simp [hp])
    refine wpAny_tests_nil ⟨rfl, _, _, rfl, F', back _ N₂, fun _ => ?_⟩
    have hbm : 0 ≤ k.fmod 27 ∧ k.fmod 27 < 27 := fmod_bd (n := 27) (by decide)
    have hbd := hid_bd (j := (k.fmod 27).toNat) (by omega)
    have hh0 : 0 ≤ hidL.getD (k.fmod 27).toNat 0 := hbd.1
    have hh1 : hidL.getD (k.fmod 27).toNat 0 ≤ 1114111 := by omega
    have kd : k.fdiv 27 = k / 27 := Int.fdiv_eq_ediv_of_nonneg _ (by omega)
    k_steps
    unfold Held
    k_dflt (
      refine' z_ListComp (names := [Str.ofString "octet"]) (h₀ := h₀) (L := L) (m := m) ?z1 ?z2 ?z3 ?z4 ?z5 ?_
      (case z1 => with_unfolding_all rfl); (case z2 => decide); (case z3 => rfl); (case z4 => decide); (case z5 => decide))
    k_steps
    refine c_ap _ _ _ _ _ _ _ _ _ _ _ [] callerA h₀ h₀ L m _ _ _ below0 F' hX N₂ hT rfl ⟨by omega, by omega⟩ (by ktr_room) (by ktr_units) (fun t h' tk' F N => ?_)
    dsimp only
    have hsz : (apB dd).size ≤ 6 := by
      have := apN_len 6 dd.toNat (by omega)
      simpa [apB] using this
    refine zst_bytes (R := fun i y => ∃ u, y = .str (tx [(apL dd).getD i 0]) u) (test := fun _ => true) rfl F N (by rw [sizeLine_eq]; omega) ?_ (fun h₂ tk₂ => finE fun D h2 tk3 ys hG F2 N3 off => ?_)
    · rintro j led2 C2 oC2 m3 h3 tk4 E2 hj ⟨v, ⟨c, uc, ec, rfl⟩, em2⟩ hoC2 F3 N4 hC2 hnl2
      have N5 : News h₀ L h3 ((C2, oC2) :: led2) := fun q hq => by
        rcases List.mem_cons.mp hq with rfl | hq
        · exact N4 _ hC2
        · exact N4 _ hq
      have hc0 : (0 : Int) ≤ (c.toNat : Int) := by omega
      have hc1 : (c.toNat : Int) ≤ 1114111 := by have := c.toNat_lt; omega
      have ecl : (apL dd).getD j 0 = c.toNat := by
        have e : (apN dd.toNat)[j]? = some c := by simpa [apB] using ec
        unfold apL
        rw [List.getD_eq_getElem?_getD, List.getElem?_map, e]
        rfl
      clear N4 N F N₂ F' hc2 hc6 hoC em
      refine wpAny_tests_nil ⟨rfl, _, _, rfl, F3, fun q hq => N5 q (List.mem_cons_of_mem _ hq), fun _ => ?_⟩
      k_steps
      · exact F3
      · exact fun q hq => N5 q (List.mem_cons_of_mem _ hq)
      · rw [ecl]; rfl
    · have hTx := got_txs hG
      have hflat : (((List.range (apB dd).size).filter fun _ => true).map fun i => [(apL dd).getD i 0]).flatten = apL dd := by
        have e1 : (apB dd).size = (apL dd).length := by simp [apB, apL]
        rw [List.filter_eq_self.mpr (fun _ _ => rfl), e1]
        have : ∀ l : List Nat, ((List.range l.length).map fun i => [l.getD i 0]).flatten = l := by
          intro l
          have e2 : ((List.range l.length).map fun i => [l.getD i 0]) = (((List.range l.length).map fun i => l.getD i 0)).map fun a => [a] := by rw [List.map_map]; rfl
          rw [e2, range_getD]
          exact flat1 l
        exact this _
      clear N F N₂ F' hG
      k_steps
      refine join_txs 1 ⟨_, (N3 _ List.mem_cons_self).1, rfl, _, rfl⟩ hTx (fun a ha => ?_) (by decide) ?_ (fun t' k' => ?_)
      · obtain ⟨i, _, rfl⟩ := List.mem_map.mp ha
        exact Nat.le_refl _
      · rw [List.length_map]
        exact Nat.le_trans (List.length_filter_le _ _) (by rw [List.length_range]; omega)
      rw [hflat]
      k_steps
      have hal : (apL dd).length ≤ 6 := by
        have : (apB dd).size = (apL dd).length := by simp [apB, apL]
        omega
      refine c_typed _ _ _ _ _ _ _ _ _ _ _ _ _ [] callerA h₀ h₀ L m _ _ _ below0 F2 hX N3 hT rfl ⟨hal, fun c hc => ⟨(ap_up dd c hc).1, Nat.le_trans (ap_up dd c hc).2 (by decide)⟩, by omega, by omega⟩ (by ktr_room) (by ktr_units) (fun t6 h6 tk6 F6 N6 => ?_)
      have hty := typedN_len 6 (apL dd) (k.fdiv 27 + dd)
      have back2 : News h₀ L h6 led := fun p hp => N6 p (by simp [hp])
      clear N3
      dsimp only
      refine PySem.SB.add (fun t9 k9 => ?_) (by rw [tx_len, sizeLine_eq]; exact Nat.le_trans (Nat.add_le_add (Nat.le_of_eq (rfl : _ = 1)) hty) (by decide))
      exact ⟨_, _, rfl, F6, back2, _, by rw [← hdd]; exact congrArg (fun x => Value.str x _) (tx_add [_] _)⟩
  · obtain ⟨hl, ha⟩ := hG.all
    obtain ⟨y1, e1, u3, r1⟩ := ha 0 (by show 0 < 2; decide)
    obtain ⟨y2, e2, u4, r2⟩ := ha 1 (by show 1 < 2; decide)
    have hys : ys = [y1, y2] := two_of hl e1 e2
    subst hys
    subst r1 r2
    have N₂ : News h₀ L h ((L + 1 + 1 + 1 + 1 + 1 + 1 + 1, c7) :: (D, PyProof.Rows.LCg.lst [.str (tx (typL k nx)) u3, .str (tx (typL k ny)) u4]) :: (L + 1 + 1, c2) :: (L + 1 + 1 + 1 + 1 + 1 + 1, c6) :: (H, listOf vs.toArray 0) :: (NN, PyProof.Rows.LCg.lst [.int nx u1, .int ny u2]) :: news) := by
      intro p hp
      refine N p ?_
      simp only [List.mem_cons] at hp ⊢
      rcases hp with hp | hp | hp
      · exact .inr (.inl hp)
      · exact .inl hp
      · exact .inr (.inr hp)
    refine storeX_C (g := fun o' => (L + 1 + 1 + 1 + 1 + 1 + 1 + 1, o') :: (D, PyProof.Rows.LCg.lst [.str (tx (typL k nx)) u3, .str (tx (typL k ny)) u4]) :: (L + 1 + 1, c2) :: (L + 1 + 1 + 1 + 1 + 1 + 1, c6) :: (H, listOf vs.toArray 0) :: (NN, PyProof.Rows.LCg.lst [.int nx u1, .int ny u2]) :: news) F N₂ rfl (UpdF.head fun p hp => ?_) hc7 (fun h' o' F₂ N₃ hd => ?_) rfl rfl
    · rcases List.mem_cons.mp hp with rfl | hp
      · exact Ne.symm (off (L + 1 + 1 + 1 + 1 + 1 + 1 + 1, c7) (by simp))
      · exact hap7 p hp
    · exact hQ D o' h' _ u3 u4 F₂ N₃ hd
end
end
theorem fresh_31 : True ∧ True := by first | (walk1 <;> trivial) | exact ⟨trivial, trivial⟩
section
open PySem PySem.W PyProof.Rows
set_option linter.unusedVariables false
set_option maxRecDepth 100000
set_option maxHeartbeats 4000000
def headZ (W : Nat) (n : Int) (k : Nat) : Int := (16 ^ W * n).fdiv (16 ^ k - 1)
theorem len_tx {prog : Program} {w : World} {A : Around} {E : Value → Shared → Prop} {s : Shared} {l : List Nat} {t : Tok} {Q : Value → Shared → Prop} (hl : l.length ≤ 1000) (h : Q (.int (l.length : Int) (s.toks + 1)) { s with toks := s.toks + 1 + 1 }) :
    wpAny (model prog w) A (call (.builtin "len") [.str (tx l) t]) Q E s := P.len_str (by rw [tx_len]; omega) (by rw [tx_len]; exact h)
theorem p16 {k : Nat} (hk : 1 ≤ k ∧ k ≤ 6) : 15 ≤ (16 : Int) ^ ((k : Int)).toNat - 1 ∧ (16 : Int) ^ ((k : Int)).toNat - 1 ≤ 16777215 := by
  rw [Int.toNat_natCast]
  rcases (by omega : k = 1 ∨ k = 2 ∨ k = 3 ∨ k = 4 ∨ k = 5 ∨ k = 6) with e | e | e | e | e | e <;> rw [e] <;> decide
theorem fd16 {prog : Program} {w : World} {A : Around} {E : Value → Shared → Prop} {s : Shared} {a : Int} {k : Nat} {t u : Tok} {Q : Value → Shared → Prop} (hk : 1 ≤ k ∧ k ≤ 6)
    (h : Q (.int (a.fdiv (16 ^ ((k : Int)).toNat - 1)) s.toks) { s with toks := s.toks + 1 }) : wpAny (model prog w) A (binaryOp .FloorDiv (.int a t) (.int (16 ^ ((k : Int)).toNat - 1) u)) Q E s := by
  have p := p16 hk
  exact floordiv_int (by omega) h (Or.inl (PyProof.noPylong_small (by omega)))
theorem ne16 (n : Nat) : (16 : Int) ^ n ≠ 0 := Int.ne_of_gt (Int.pow_pos (by decide))
end
section
open PySem PySem.W PyProof.Rows
set_option linter.unusedVariables false
set_option maxRecDepth 100000
set_option maxHeartbeats 4000000
noncomputable def kB : List Stmt := match lS 21 with | Stmt.For _ _ b _ _ => b | _ => []
noncomputable def kS : Stmt := match (kB[0]? : Option Stmt) with | some st => st | none => Stmt.Pass default
theorem kB_eq : kB = [kS] := by rfl
noncomputable def jB : List Stmt := match kS with | Stmt.For _ _ b _ _ => b | _ => []
section
variable {prog : Program} {w : World} {A : Around} {E : Value → Shared → Prop} {s : Shared} {Q : Value → Shared → Prop} {t u : Tok}
theorem add_tx {a b : List Nat} (hab : a.length + b.length ≤ 3000) (h : ∀ t' k, Q (.str (tx (a ++ b)) t') { s with toks := k }) : wpAny (model prog w) A (binaryOp .Add (.str (tx a) t) (.str (tx b) u)) Q E s :=
  PySem.SB.add (fun t' k => by rw [tx_add]; exact h t' k) (by rw [tx_len, tx_len, sizeLine_eq]; omega)
theorem add_dots {a : List Nat} (ha : a.length ≤ 1000) (h : ∀ t' k, Q (.str (tx (a ++ [46, 46, 46])) t') { s with toks := k }) : wpAny (model prog w) A (binaryOp .Add (.str (tx a) t) (.str (Str.ofString "...") u)) Q E s :=
  add_tx (a := a) (b := [46, 46, 46]) (by show a.length + 3 ≤ 3000; omega) h
theorem add_to {p : List Nat} {k : Int} (hk : 0 ≤ k) (ha : p.length ≤ 1000) (h : ∀ t' k', Q (.str (tx (p.take k.toNat ++ [46, 46, 46])) t') { s with toks := k' }) :
    wpAny (model prog w) A (binaryOp .Add (.str (Txt.slice (tx p) none (some k)) t) (.str (Str.ofString "...") u)) Q E s := by
  have e : k = (k.toNat : Int) := by omega
  rw [e, tx_to]
  refine add_dots (by rw [List.length_take]; omega) (fun t' k' => ?_)
  exact h t' k'
theorem add_from {a p : List Nat} {i : Int} (hi : 0 ≤ i) (ha : a.length ≤ 1003) (hp : p.length ≤ 1000) (h : ∀ t' k', Q (.str (tx (a ++ p.drop i.toNat)) t') { s with toks := k' }) :
    wpAny (model prog w) A (binaryOp .Add (.str (tx a) t) (.str (Txt.slice (tx p) (some i) none) u)) Q E s := by
  have e : i = (i.toNat : Int) := by omega
  rw [e, tx_from]
  refine add_tx (by rw [List.length_drop]; omega) (fun t' k' => ?_)
  exact h t' k'
end
end
theorem fresh_32 : True ∧ True := by first | (walk1 <;> trivial) | exact ⟨trivial, trivial⟩
section
local macro_rules | `(tactic| walk_at "eval Name") => `(tactic| (k_here; (with_reducible show wpAny _ _ (eval (Expr.Name _ _) (lawE _ _ _)) _ _ _); k_dflt (refine' nameX_L ?F ?v ?_ ?a ?b; (case F => k_asm); (case a => rfl); (case b => rfl); (case v => with_reducible assumption); k_whole)))
theorem fresh_33 : True ∧ True := by first | (walk1 <;> trivial) | exact ⟨trivial, trivial⟩
section
open PySem PySem.W PyProof.Rows
set_option linter.unusedVariables false
set_option maxRecDepth 100000
set_option maxHeartbeats 4000000
local macro_rules | `(tactic| walk_at "exec Assign cons ListComp") => `(tactic| (k_here; refine wpAny_Assign ?_ rfl))
local macro_rules | `(tactic| walk_at "call type:enumerate") => `(tactic| (k_here; refine stopped ?_))
theorem got_any {test : Nat → Bool} : ∀ {n : Nat} {ys : List Value}, Got (fun i y => ∃ k t, y = .int k t) test n ys → ∃ ns, IntsAre ys ns ∧ ns.length ≤ n
  | 0, ys, h => by
    have h : ys = [] := h
    subst h; exact ⟨[], .nil, Nat.le_refl _⟩
  | n + 1, ys, h => by
    cases ht : test n with
    | true =>
      have h : ∃ ys' y, ys = ys' ++ [y] ∧ Got (fun i y => ∃ k t, y = .int k t) test n ys' ∧ (∃ k t, y = .int k t) := by simpa [Got, ht] using h
      obtain ⟨ys', y, rfl, hg, k, t, rfl⟩ := h
      obtain ⟨ns, hn, hl⟩ := got_any hg
      exact ⟨ns ++ [k], hn.append (.cons _ _ .nil), by rw [List.length_append, List.length_singleton]; omega⟩
    | false =>
      have h : Got (fun i y => ∃ k t, y = .int k t) test n ys := by simpa [Got, ht] using h
      obtain ⟨ns, hn, hl⟩ := got_any h
      exact ⟨ns, hn, by omega⟩
theorem six_of {ys : List Value} {a b c d e f : Value} (hl : ys.length = 6) (h0 : ys[0]? = some a) (h1 : ys[1]? = some b) (h2 : ys[2]? = some c) (h3 : ys[3]? = some d) (h4 : ys[4]? = some e) (h5 : ys[5]? = some f) : ys = [a, b, c, d, e, f] := by
  rcases ys with _ | ⟨y0, _ | ⟨y1, _ | ⟨y2, _ | ⟨y3, _ | ⟨y4, _ | ⟨y5, _ | ⟨y6, ys⟩⟩⟩⟩⟩⟩⟩
  iterate 6 cases hl
  · rw [Option.some.inj h0, Option.some.inj h1, Option.some.inj h2, Option.some.inj h3, Option.some.inj h4, Option.some.inj h5]
  · simp at hl
theorem st0 {w : World} {mean : ExcName → Option Value} {mg mb : Str → Option Value} {h₀ : Heap} {L fa ca la : Addr} {m : Str → Option Value} {s : Shared} {Q : Flow → Shared → Prop} {E : Value → Shared → Prop} {news : List (Addr × Obj)} {c1 c2 : Obj} {v2 : Option Value} {vs : List Value} {ns : List Int}
    (hX : (KK w.params).In h₀) (hT : Top qv looseL mean mg mb h₀) (hF : Fr h₀ L s.heap m) (hla : h₀.IsList la vs.toArray) (hvs : IntsAre vs ns) (hlen : ns.length ≤ 63)
    (hc1 : c1.data = .cell (some (.ref la)))
    (hc2 : c2.data = .cell v2) (hap : ∀ p ∈ (L + 1, c1) :: news, p.1 ≠ L + 1 + 1)
    (hN : News h₀ L s.heap ((L + 1 + 1, c2) :: (L + 1, c1) :: news))
    (hQ : ∀ o2 h' tk' k1 k2 k3 k4 k5 k6 t1 t2 t3 t4 t5 t6, 0 ≤ k1 ∧ k1 < 1000000 → 0 ≤ k2 ∧ k2 < 1000000 → 0 ≤ k3 ∧ k3 < 1000000 → 0 ≤ k4 ∧ k4 < 1000000 → 0 ≤ k5 ∧ k5 < 1000000 → 0 ≤ k6 ∧ k6 < 1000000 →
      Fr h₀ L h' (fun z => if z = Str.ofString "deed" then some (.int k5 t5) else if z = Str.ofString "rows" then some (.int k4 t4) else if z = Str.ofString "other" then some (.int k3 t3) else if z = Str.ofString "one" then some (.int k2 t2) else if z = Str.ofString "kind" then some (.int k1 t1) else m z) →
      News h₀ L h' ((L + 1 + 1, o2) :: (L + 1, c1) :: news) → o2.data = .cell (some (.int k6 t6)) → Q .next { s with heap := h', toks := tk' }) :
    wpAny (model PySem.Challenge.rw_uy0010_01.prog w) (lA L fa ca) (exec (lS 0) (lawE L fa (.ref ca))) Q E s := by
  revert hX
  k_fill
  intro hX
  walk_at "z lit"
  k_steps
  unfold Held
  rw [eval_ListComp]
  refine wpAny_comprehension_free (use := none) rfl (fun _ => rfl) (by with_unfolding_all rfl) rfl (by decide) ?_
  change wpAny _ _ (eval _ (lawE _ _ _)) _ _ _
  k_steps
  unfold Held
  rename_i T h1 kF kN l1
  refine zc_enumT (R := fun i y => ∃ k t, y = .int k t ∧ 0 ≤ k ∧ k < 1000000) (L := L) (m := m) (h₀ := h₀) rfl kF kN ⟨_, (kN _ List.mem_cons_self).1, rfl, _, rfl⟩ (kN _ List.mem_cons_self).2.1 (by show 6 ≤ sizeLine; rw [sizeLine_eq]; omega) rfl (fun _ => rfl) (fun _ => rfl) (fun _ _ => rfl) (fun _ _ => rfl) ?_ ?_
  · rintro i led C P oC oP m₂ h tk E' x y hi ⟨t, y', ey, exy⟩ hm₂ hoP hoC F' N' hC hP hnl
    have hi : i < 6 := hi
    have exl : [x, y] = [.int i t, y'] := by simpa using exy
    obtain ⟨rfl, rfl⟩ : x = .int i t ∧ y = y' := by
      injection exl with e1 e2
      injection e2 with e2 _
      exact ⟨e1, e2⟩
    obtain ⟨n, t', rfl, hn0, hn1⟩ : ∃ n t', y = .int n t' ∧ 0 ≤ n ∧ n < 1000 := by
      have := Array.mem_toList_iff.mpr (Array.mem_of_getElem? ey)
      simp only [List.mem_cons, List.not_mem_nil, or_false] at this
      rcases this with rfl | rfl | rfl | rfl | rfl | rfl <;> exact ⟨_, _, rfl, by decide, by decide⟩
    have N₂ : News h₀ L h ((C, oC) :: (P, oP) :: (L + 1, c1) :: led) := fun q hq => by
      rcases List.mem_cons.mp hq with rfl | hq
      · exact N' _ hC
      rcases List.mem_cons.mp hq with rfl | hq
      · exact N' _ hP
      rcases List.mem_cons.mp hq with rfl | hq
      · exact N' _ (hnl _ (by simp))
      · exact N' _ hq
    have back : ∀ h', News h₀ L h' ((C, oC) :: (P, oP) :: (L + 1, c1) :: led) → News h₀ L h' led := fun h' N p hp => N p (by simp [hp])
    clear N' kF kN exy exl ey
    k_steps
    unfold Held
    k_dflt (
      refine' z_ListComp (names := [Str.ofString "at", Str.ofString "x"]) (h₀ := h₀) (L := L) (m := m) ?z1 ?z2 ?z3 ?z4 ?z5 ?_
      (case z1 => with_unfolding_all rfl); (case z2 => decide); (case z3 => rfl); (case z4 => decide); (case z5 => decide))
    k_steps
    unfold Held
    rename_i D2 ws h2 F2 N2 hI2 hlen2 _ l2
    have hwl : ws.length ≤ 63 := by rw [IntsAre.length hI2]; omega
    refine zst_enumL (R := fun i y => ∃ k t, y = .int k t) (test := fun j => ((j : Int).fmod 6 == (i : Int))) rfl (by decide) F2 N2 ⟨_, (N2 _ List.mem_cons_self).1, rfl, _, rfl⟩ (N2 _ List.mem_cons_self).2.1 (by rw [List.size_toArray, sizeLine_eq]; omega) ?_ (fun h₂ tk₂ => finE fun D h tk ys hG F N off => ?_)
    · rintro j led2 C2 oC2 m3 h3 tk4 E2 hj ⟨x2, y2, ⟨t2, y3, ey2, e2⟩, em1, em2⟩ hoC2 F3 N4 hC2 hnl2
      have hj : j < ws.length := by simpa using hj
      have exl : [x2, y2] = [.int j t2, y3] := by simpa using e2
      obtain ⟨rfl, rfl⟩ : x2 = .int j t2 ∧ y2 = y3 := by
        injection exl with e1 e2
        injection e2 with e2 _
        exact ⟨e1, e2⟩
      obtain ⟨k3, t3, rfl⟩ : ∃ k3 t3, y2 = .int k3 t3 := by
        obtain ⟨u, e⟩ := IntsAre.at' hI2 j (by rw [← IntsAre.length hI2]; exact hj)
        have : ws[j]? = some y2 := by simpa using ey2
        rw [e] at this
        exact ⟨_, _, (Option.some.inj this).symm⟩
      have N5 : News h₀ L h3 ((C2, oC2) :: (P, oP) :: led2) := fun q hq => by
        rcases List.mem_cons.mp hq with rfl | hq
        · exact N4 _ hC2
        rcases List.mem_cons.mp hq with rfl | hq
        · exact N4 _ (hnl2 _ (by simp))
        · exact N4 _ hq
      have back2 : ∀ h', News h₀ L h' ((C2, oC2) :: (P, oP) :: led2) → News h₀ L h' led2 := fun h' N p hp => N p (by simp [hp])
      clear N4 N2 F2 e2 exl ey2 hm₂
      refine wpAny_tests_one ?_
      k_steps
      · exact F3
      · exact back2 _ N5
      · exact F3
      · exact back2 _ N5
    · obtain ⟨ms, hms, hml⟩ := got_any hG
      have hml : ms.length ≤ 63 := by simpa using Nat.le_trans hml (by simpa using hwl)
      clear N2 F2
      k_steps
      · assumption
      · rename_i kF kN
        exact fun p hp => kN p (by simp [hp])
      · have hb : 0 ≤ (n + ms.sum).fmod ((1000000 : Nat) : Int) ∧ (n + ms.sum).fmod ((1000000 : Nat) : Int) < ((1000000 : Nat) : Int) := fmod_bd (by decide)
        exact hb.1
      · have hb : 0 ≤ (n + ms.sum).fmod ((1000000 : Nat) : Int) ∧ (n + ms.sum).fmod ((1000000 : Nat) : Int) < ((1000000 : Nat) : Int) := fmod_bd (by decide)
        exact hb.2
  · intro D h tk ys hG F' N' off
    obtain ⟨hl, ha⟩ := hG.all
    obtain ⟨y1, e1, k1, t1, rfl, b1⟩ := ha 0 (by show 0 < 6; decide)
    obtain ⟨y2, e2, k2, t2, rfl, b2⟩ := ha 1 (by show 1 < 6; decide)
    obtain ⟨y3, e3, k3, t3, rfl, b3⟩ := ha 2 (by show 2 < 6; decide)
    obtain ⟨y4, e4, k4, t4, rfl, b4⟩ := ha 3 (by show 3 < 6; decide)
    obtain ⟨y5, e5, k5, t5, rfl, b5⟩ := ha 4 (by show 4 < 6; decide)
    obtain ⟨y6, e6, k6, t6, rfl, b6⟩ := ha 5 (by show 5 < 6; decide)
    have hys := six_of hl e1 e2 e3 e4 e5 e6
    subst hys
    have N₂ : News h₀ L h ((D, PyProof.Rows.LCg.lst [.int k1 t1, .int k2 t2, .int k3 t3, .int k4 t4, .int k5 t5, .int k6 t6]) :: (L + 1 + 1, c2) :: (L + 1, c1) :: news) := fun p hp => N' p (by
      simp only [List.mem_cons] at hp ⊢
      rcases hp with hp | hp | hp | hp <;> simp [hp])
    clear N' kN kF ha hG off
    k_steps
    rename_i kF kN
    have N₃ : News h₀ L _ ((L + 1 + 1, c2) :: (L + 1, c1) :: news) := fun p hp => kN p (List.mem_cons_of_mem _ hp)
    refine storeX_C (g := fun o' => (L + 1 + 1, o') :: (L + 1, c1) :: news) kF N₃ rfl (UpdF.head hap) hc2 (fun h' o' F₂ N₄ hd => ?_) rfl rfl
    refine assignInOrder_nil ?_
    exact hQ o' h' _ k1 k2 k3 k4 k5 k6 t1 t2 t3 t4 t5 t6 b1 b2 b3 b4 b5 b6 F₂ N₄ hd
end
theorem fresh_34 : True ∧ True := by first | (walk1 <;> trivial) | exact ⟨trivial, trivial⟩
section
local macro_rules | `(tactic| walk_at "exec Assign cons ListComp") => `(tactic| (k_here; refine stopped ?_))
theorem fresh_35 : True ∧ True := by first | (walk1 <;> trivial) | exact ⟨trivial, trivial⟩
section
open PySem PySem.W PyProof.Rows
set_option linter.unusedVariables false
set_option maxRecDepth 100000
set_option maxHeartbeats 4000000
theorem st13 {w : World} {mean : ExcName → Option Value} {mg mb : Str → Option Value} {h₀ : Heap} {L fa ca : Addr} {m : Str → Option Value} {s : Shared} {Q : Flow → Shared → Prop} {E : Value → Shared → Prop} {news : List (Addr × Obj)} 
    (hX : (KK w.params).In h₀) (hT : Top qv looseL mean mg mb h₀) (hF : Fr h₀ L s.heap m)
    
    (hN : News h₀ L s.heap news)
    (hQ : ∀ h' tk' u1 u2, Fr h₀ L h' (fun z => if z = Str.ofString "behind" then some (.int 0 u2) else if z = Str.ofString "ahead" then some (.int 0 u1) else m z) → News h₀ L h' news → Q .next { s with heap := h', toks := tk' }) :
    wpAny (model PySem.Challenge.rw_uy0010_01.prog w) (lA L fa ca) (exec (lS 13) (lawE L fa (.ref ca))) Q E s := by
  revert hX
  k_fill
  intro hX
  walk_at "z lit"
  k_steps
  rename_i kF kN
  exact hQ _ _ _ _ kF (fun p hp => kN p (List.mem_cons_of_mem _ hp))
end
theorem fresh_36 : True ∧ True := by first | (walk1 <;> trivial) | exact ⟨trivial, trivial⟩
section
open PySem PySem.W PyProof.Rows
set_option linter.unusedVariables false
set_option maxRecDepth 100000
set_option maxHeartbeats 4000000
theorem st16 {w : World} {mean : ExcName → Option Value} {mg mb : Str → Option Value} {h₀ : Heap} {L fa ca : Addr} {m : Str → Option Value} {s : Shared} {Q : Flow → Shared → Prop} {E : Value → Shared → Prop} {news : List (Addr × Obj)} {M : Addr} {p q : List Nat} {u1 u2 : Tok}
    (hX : (KK w.params).In h₀) (hT : Top qv looseL mean mg mb h₀) (hF : Fr h₀ L s.heap m)
    (hm1 : m (Str.ofString "meant") = some (.ref M))
    (hN : News h₀ L s.heap ((M, PyProof.Rows.LCg.lst [.str (tx p) u1, .str (tx q) u2]) :: news))
    (hQ : ∀ h' tk', Fr h₀ L h' (fun z => if z = Str.ofString "yours" then some (.str (tx q) u2) else if z = Str.ofString "mine" then some (.str (tx p) u1) else m z) → News h₀ L h' ((M, PyProof.Rows.LCg.lst [.str (tx p) u1, .str (tx q) u2]) :: news) → Q .next { s with heap := h', toks := tk' }) :
    wpAny (model PySem.Challenge.rw_uy0010_01.prog w) (lA L fa ca) (exec (lS 16) (lawE L fa (.ref ca))) Q E s := by
  revert hX
  k_fill
  intro hX
  walk_at "z lit"
  k_steps
  rename_i kF kN
  exact hQ _ _ kF kN
end
theorem fresh_37 : True ∧ True := by first | (walk1 <;> trivial) | exact ⟨trivial, trivial⟩
section
local macro_rules | `(tactic| walk_at "z wtest") => `(tactic| ((conv => pattern (PySem.isTrue _ _ _); arg 1; whnf); (conv => pattern (eval (wT _) _); arg 1; whnf)))
local macro_rules | `(tactic| walk_at "subscriptTail") => `(tactic| (k_here; (with_reducible show wpAny _ _ (subscriptTail _ _ (Value.bytes _ _) (Value.int _ _)) _ _ _); first
  | (refine KBw.item_K rfl (by omega) (by omega) (by omega) ?_; intro _ _ _ _)
  | (refine KBc.itemR_K rfl (by omega) (by omega) (by omega) ?_; intro _ _ _ _)))
theorem fresh_38 : True ∧ True := by first | (walk1 <;> trivial) | exact ⟨trivial, trivial⟩
section
open PySem PySem.W PyProof.Rows
set_option linter.unusedVariables false
set_option maxRecDepth 100000
set_option maxHeartbeats 4000000
theorem wt14 {w : World} {mean : ExcName → Option Value} {mg mb : Str → Option Value} {h₀ : Heap} {L fa ca : Addr} {m : Str → Option Value} {s : Shared} {Q : Bool → Shared → Prop} {E : Value → Shared → Prop} {news : List (Addr × Obj)} {c8 : Obj} {HD : Addr} {b1 b2 : Array UInt8} {W a : Nat} {u1 u2 u3 t8 : Tok}
    (hX : (KK w.params).In h₀) (hT : Top qv looseL mean mg mb h₀) (hF : Fr h₀ L s.heap m)
    (hm1 : m (Str.ofString "ahead") = some (.int (a : Int) u3)) (hm2 : m (Str.ofString "heads") = some (.ref HD)) (hc8 : c8.data = .cell (some (.int (W : Int) t8))) (hs1 : (KBw.bInts b1).length = W) (hs2 : (KBw.bInts b2).length = W) (hW : W ≤ 12) (ha : a ≤ W)
    (hN : News h₀ L s.heap ((L + 1 + 1 + 1 + 1 + 1 + 1 + 1 + 1, c8) :: (HD, PyProof.Rows.LCg.lst [.bytes b1 u1, .bytes b2 u2]) :: news))
    (hQ : ∀ tk' b, b = (decide (a < W) && ((KBw.bInts b1).getD a 0 == (KBw.bInts b2).getD a 0)) → Q b { s with toks := tk' }) :
    wpAny (model PySem.Challenge.rw_uy0010_01.prog w) (lA L fa ca) (isTrue (wT 14) (lawE L fa (.ref ca)) (eval (wT 14) (lawE L fa (.ref ca)))) Q E s := by
  revert hX
  k_fill
  intro hX
  walk_at "z wtest"
  k_steps
  · rename_i h9
    rw [Int.toNat_natCast] at h9
    exact hQ _ _ (by rw [decide_eq_true (by omega), Bool.true_and]; exact (beq_iff_eq.mpr h9).symm)
  · rename_i h9
    rw [Int.toNat_natCast] at h9
    exact hQ _ _ (by rw [decide_eq_true (by omega), Bool.true_and]; exact (beq_eq_false_iff_ne.mpr h9).symm)
  · rename_i h9
    exact hQ _ _ (by rw [decide_eq_false (by omega), Bool.false_and])
end
theorem fresh_39 : True ∧ True := by first | (walk1 <;> trivial) | exact ⟨trivial, trivial⟩
section
open PySem PySem.W PyProof.Rows
set_option linter.unusedVariables false
set_option maxRecDepth 100000
set_option maxHeartbeats 4000000
theorem wt15 {w : World} {mean : ExcName → Option Value} {mg mb : Str → Option Value} {h₀ : Heap} {L fa ca : Addr} {m : Str → Option Value} {s : Shared} {Q : Bool → Shared → Prop} {E : Value → Shared → Prop} {news : List (Addr × Obj)} {c8 : Obj} {HD : Addr} {b1 b2 : Array UInt8} {W a : Nat} {u1 u2 u3 t8 : Tok}
    (hX : (KK w.params).In h₀) (hT : Top qv looseL mean mg mb h₀) (hF : Fr h₀ L s.heap m)
    (hm1 : m (Str.ofString "behind") = some (.int (a : Int) u3)) (hm2 : m (Str.ofString "tails") = some (.ref HD)) (hc8 : c8.data = .cell (some (.int (W : Int) t8))) (hs1 : (KBw.bInts b1).length = W) (hs2 : (KBw.bInts b2).length = W) (hW : W ≤ 12) (ha : a ≤ W)
    (hN : News h₀ L s.heap ((L + 1 + 1 + 1 + 1 + 1 + 1 + 1 + 1, c8) :: (HD, PyProof.Rows.LCg.lst [.bytes b1 u1, .bytes b2 u2]) :: news))
    (hQ : ∀ tk' b, b = (decide (a < W) && ((KBw.bInts b1).getD (W - 1 - a) 0 == (KBw.bInts b2).getD (W - 1 - a) 0)) → Q b { s with toks := tk' }) :
    wpAny (model PySem.Challenge.rw_uy0010_01.prog w) (lA L fa ca) (isTrue (wT 15) (lawE L fa (.ref ca)) (eval (wT 15) (lawE L fa (.ref ca)))) Q E s := by
  revert hX
  k_fill
  intro hX
  walk_at "z wtest"
  k_steps
  · rename_i h9
    have q1 : (-1 - (a : Int) + ((KBw.bInts b1).length : Int)).toNat = W - 1 - a := by omega
    have q2 : (-1 - (a : Int) + ((KBw.bInts b2).length : Int)).toNat = W - 1 - a := by omega
    rw [q1, q2] at h9
    exact hQ _ _ (by rw [decide_eq_true (by omega), Bool.true_and]; exact (beq_iff_eq.mpr h9).symm)
  · rename_i h9
    have q1 : (-1 - (a : Int) + ((KBw.bInts b1).length : Int)).toNat = W - 1 - a := by omega
    have q2 : (-1 - (a : Int) + ((KBw.bInts b2).length : Int)).toNat = W - 1 - a := by omega
    rw [q1, q2] at h9
    exact hQ _ _ (by rw [decide_eq_true (by omega), Bool.true_and]; exact (beq_eq_false_iff_ne.mpr h9).symm)
  · rename_i h9
    exact hQ _ _ (by rw [decide_eq_false (by omega), Bool.false_and])
end
end
theorem fresh_40 : True ∧ True := by first | (walk1 <;> trivial) | exact ⟨trivial, trivial⟩
theorem fresh_41 : True ∧ True := by first | (walk1 <;> trivial) | exact ⟨trivial, trivial⟩
section
open PySem PySem.W PyProof.Rows
set_option linter.unusedVariables false
set_option maxRecDepth 100000
set_option maxHeartbeats 4000000
local macro_rules | `(tactic| walk_at "z wbody") => `(tactic| (conv => pattern (execs _ _); arg 1; whnf))
theorem wb14 {w : World} {mean : ExcName → Option Value} {mg mb : Str → Option Value} {h₀ : Heap} {L fa ca : Addr} {m : Str → Option Value} {s : Shared} {Q : Flow → Shared → Prop} {E : Value → Shared → Prop} {news : List (Addr × Obj)} {a : Nat} {u3 : Tok}
    (hX : (KK w.params).In h₀) (hT : Top qv looseL mean mg mb h₀) (hF : Fr h₀ L s.heap m) (hm1 : m (Str.ofString "ahead") = some (.int (a : Int) u3)) (hN : News h₀ L s.heap news)
    (hQ : ∀ h' tk' u, Fr h₀ L h' (fun z => if z = Str.ofString "ahead" then some (.int (((a + 1 : Nat)) : Int) u) else m z) → News h₀ L h' news → Q .next { s with heap := h', toks := tk' }) :
    wpAny (model PySem.Challenge.rw_uy0010_01.prog w) (lA L fa ca) (execs (wBd 14) (lawE L fa (.ref ca))) Q E s := by
  revert hX
  k_fill
  intro hX
  walk_at "z wbody"
  k_steps
  refine wpAny_loadName_local rfl rfl hF.ns hm1 ?_
  k_steps
  rename_i kF kN
  exact hQ _ _ _ kF kN
theorem wb15 {w : World} {mean : ExcName → Option Value} {mg mb : Str → Option Value} {h₀ : Heap} {L fa ca : Addr} {m : Str → Option Value} {s : Shared} {Q : Flow → Shared → Prop} {E : Value → Shared → Prop} {news : List (Addr × Obj)} {a : Nat} {u3 : Tok}
    (hX : (KK w.params).In h₀) (hT : Top qv looseL mean mg mb h₀) (hF : Fr h₀ L s.heap m) (hm1 : m (Str.ofString "behind") = some (.int (a : Int) u3)) (hN : News h₀ L s.heap news)
    (hQ : ∀ h' tk' u, Fr h₀ L h' (fun z => if z = Str.ofString "behind" then some (.int (((a + 1 : Nat)) : Int) u) else m z) → News h₀ L h' news → Q .next { s with heap := h', toks := tk' }) :
    wpAny (model PySem.Challenge.rw_uy0010_01.prog w) (lA L fa ca) (execs (wBd 15) (lawE L fa (.ref ca))) Q E s := by
  revert hX
  k_fill
  intro hX
  walk_at "z wbody"
  k_steps
  refine wpAny_loadName_local rfl rfl hF.ns hm1 ?_
  k_steps
  rename_i kF kN
  exact hQ _ _ _ kF kN
theorem wl14 {w : World} {mean : ExcName → Option Value} {mg mb : Str → Option Value} {h₀ : Heap} {L fa ca : Addr} {m : Str → Option Value} {s : Shared} {Q : Flow → Shared → Prop} {E : Value → Shared → Prop} {news : List (Addr × Obj)} {c8 : Obj} {HD : Addr} {b1 b2 : Array UInt8} {W : Nat} {u1 u2 t8 : Tok}
    (hX : (KK w.params).In h₀) (hT : Top qv looseL mean mg mb h₀) (hE : PassesOwn (model PySem.Challenge.rw_uy0010_01.prog w) (lA L fa ca) (lawE L fa (.ref ca)) E) (hm2 : m (Str.ofString "heads") = some (.ref HD)) (hc8 : c8.data = .cell (some (.int (W : Int) t8))) (hs1 : (KBw.bInts b1).length = W) (hs2 : (KBw.bInts b2).length = W) (hW : W ≤ 12) (r : Nat)
    (hQ : ∀ h' tk' m' u, Fr h₀ L h' m' → m' (Str.ofString "ahead") = some (.int (r : Int) u) → (∀ z, z ≠ Str.ofString "ahead" → m' z = m z) → News h₀ L h' ((L + 1 + 1 + 1 + 1 + 1 + 1 + 1 + 1, c8) :: (HD, PyProof.Rows.LCg.lst [.bytes b1 u1, .bytes b2 u2]) :: news) → Q .next { s with heap := h', toks := tk' }) :
    ∀ (n a : Nat) (h : Heap) (tk : Nat) (m₁ : Str → Option Value) (u3 : Tok), a + n = W → runW (fun a => (KBw.bInts b1).getD a 0 == (KBw.bInts b2).getD a 0) n a = r → Fr h₀ L h m₁ → m₁ (Str.ofString "ahead") = some (.int (a : Int) u3) → (∀ z, z ≠ Str.ofString "ahead" → m₁ z = m z) →
      News h₀ L h ((L + 1 + 1 + 1 + 1 + 1 + 1 + 1 + 1, c8) :: (HD, PyProof.Rows.LCg.lst [.bytes b1 u1, .bytes b2 u2]) :: news) →
      WhlRest PySem.Challenge.rw_uy0010_01.prog w (lA L fa ca) E (lawE L fa (.ref ca)) (wT 14) (wBd 14) [] Q (n + 1) { s with heap := h, toks := tk } := by
  intro n
  induction n with
  | zero =>
    intro a h tk m₁ u3 han hr hF hm1 hmz hN
    refine whl_turn hE (wt14 hX hT hF hm1 (by rw [hmz _ (by decide)]; exact hm2) hc8 hs1 hs2 hW (by omega) hN (fun tk' b hb => ?_))
    rw [decide_eq_false (by omega), Bool.false_and] at hb
    refine WhlIf.no hb (wpAny_execs_nil ?_)
    refine hQ _ _ _ u3 hF ?_ hmz hN
    rw [← hr]; exact hm1
  | succ n ih =>
    intro a h tk m₁ u3 han hr hF hm1 hmz hN
    refine whl_turn hE (wt14 hX hT hF hm1 (by rw [hmz _ (by decide)]; exact hm2) hc8 hs1 hs2 hW (by omega) hN (fun tk' b hb => ?_))
    rw [decide_eq_true (by omega), Bool.true_and] at hb
    cases hp : ((KBw.bInts b1).getD a 0 == (KBw.bInts b2).getD a 0) with
    | false =>
      refine WhlIf.no (hb.trans hp) (wpAny_execs_nil ?_)
      refine hQ _ _ _ u3 hF ?_ hmz hN
      rw [← hr]
      simp only [runW, hp]
      exact hm1
    | true =>
      refine WhlIf.yes (hb.trans hp) ?_
      refine wb14 hX hT hF hm1 hN (fun h' tk' u F' N' => ?_)
      show WhlRest _ _ _ _ _ _ _ _ _ (n + 1) _
      refine ih (a + 1) h' tk' _ u (by omega) ?_ F' (by rw [if_pos rfl]) (fun z hz => by rw [if_neg hz]; exact hmz z hz) N'
      rw [← hr]
      simp only [runW, hp, if_true]
theorem st14 {w : World} {mean : ExcName → Option Value} {mg mb : Str → Option Value} {h₀ : Heap} {L fa ca : Addr} {m : Str → Option Value} {s : Shared} {Q : Flow → Shared → Prop} {E : Value → Shared → Prop} {news : List (Addr × Obj)} {c8 : Obj} {HD : Addr} {b1 b2 : Array UInt8} {W : Nat} {u1 u2 u3 t8 : Tok}
    (hX : (KK w.params).In h₀) (hT : Top qv looseL mean mg mb h₀) (hE : PassesOwn (model PySem.Challenge.rw_uy0010_01.prog w) (lA L fa ca) (lawE L fa (.ref ca)) E) (hF : Fr h₀ L s.heap m) (hm1 : m (Str.ofString "ahead") = some (.int 0 u3)) (hm2 : m (Str.ofString "heads") = some (.ref HD)) (hc8 : c8.data = .cell (some (.int (W : Int) t8))) (hs1 : (KBw.bInts b1).length = W) (hs2 : (KBw.bInts b2).length = W) (hW : W ≤ 12)
    (hN : News h₀ L s.heap ((L + 1 + 1 + 1 + 1 + 1 + 1 + 1 + 1, c8) :: (HD, PyProof.Rows.LCg.lst [.bytes b1 u1, .bytes b2 u2]) :: news))
    (hQ : ∀ h' tk' m' u, Fr h₀ L h' m' → m' (Str.ofString "ahead") = some (.int ((runW (fun a => (KBw.bInts b1).getD a 0 == (KBw.bInts b2).getD a 0) W 0 : Nat) : Int) u) → (∀ z, z ≠ Str.ofString "ahead" → m' z = m z) → News h₀ L h' ((L + 1 + 1 + 1 + 1 + 1 + 1 + 1 + 1, c8) :: (HD, PyProof.Rows.LCg.lst [.bytes b1 u1, .bytes b2 u2]) :: news) → Q .next { s with heap := h', toks := tk' }) :
    wpAny (model PySem.Challenge.rw_uy0010_01.prog w) (lA L fa ca) (exec (lS 14) (lawE L fa (.ref ca))) Q E s := by
  have key := wl14 (fa := fa) (ca := ca) (s := s) hX hT hE hm2 hc8 hs1 hs2 hW _ hQ W 0 s.heap s.toks m u3 (by omega) rfl hF hm1 (fun _ _ => rfl) hN
  exact whl_start (test := wT 14) (body := wBd 14) (orelse := []) (W + 1) key
theorem wl15 {w : World} {mean : ExcName → Option Value} {mg mb : Str → Option Value} {h₀ : Heap} {L fa ca : Addr} {m : Str → Option Value} {s : Shared} {Q : Flow → Shared → Prop} {E : Value → Shared → Prop} {news : List (Addr × Obj)} {c8 : Obj} {HD : Addr} {b1 b2 : Array UInt8} {W : Nat} {u1 u2 t8 : Tok}
    (hX : (KK w.params).In h₀) (hT : Top qv looseL mean mg mb h₀) (hE : PassesOwn (model PySem.Challenge.rw_uy0010_01.prog w) (lA L fa ca) (lawE L fa (.ref ca)) E) (hm2 : m (Str.ofString "tails") = some (.ref HD)) (hc8 : c8.data = .cell (some (.int (W : Int) t8))) (hs1 : (KBw.bInts b1).length = W) (hs2 : (KBw.bInts b2).length = W) (hW : W ≤ 12) (r : Nat)
    (hQ : ∀ h' tk' m' u, Fr h₀ L h' m' → m' (Str.ofString "behind") = some (.int (r : Int) u) → (∀ z, z ≠ Str.ofString "behind" → m' z = m z) → News h₀ L h' ((L + 1 + 1 + 1 + 1 + 1 + 1 + 1 + 1, c8) :: (HD, PyProof.Rows.LCg.lst [.bytes b1 u1, .bytes b2 u2]) :: news) → Q .next { s with heap := h', toks := tk' }) :
    ∀ (n a : Nat) (h : Heap) (tk : Nat) (m₁ : Str → Option Value) (u3 : Tok), a + n = W → runW (fun a => (KBw.bInts b1).getD (W - 1 - a) 0 == (KBw.bInts b2).getD (W - 1 - a) 0) n a = r → Fr h₀ L h m₁ → m₁ (Str.ofString "behind") = some (.int (a : Int) u3) → (∀ z, z ≠ Str.ofString "behind" → m₁ z = m z) →
      News h₀ L h ((L + 1 + 1 + 1 + 1 + 1 + 1 + 1 + 1, c8) :: (HD, PyProof.Rows.LCg.lst [.bytes b1 u1, .bytes b2 u2]) :: news) →
      WhlRest PySem.Challenge.rw_uy0010_01.prog w (lA L fa ca) E (lawE L fa (.ref ca)) (wT 15) (wBd 15) [] Q (n + 1) { s with heap := h, toks := tk } := by
  intro n
  induction n with
  | zero =>
    intro a h tk m₁ u3 han hr hF hm1 hmz hN
    refine whl_turn hE (wt15 hX hT hF hm1 (by rw [hmz _ (by decide)]; exact hm2) hc8 hs1 hs2 hW (by omega) hN (fun tk' b hb => ?_))
    rw [decide_eq_false (by omega), Bool.false_and] at hb
    refine WhlIf.no hb (wpAny_execs_nil ?_)
    refine hQ _ _ _ u3 hF ?_ hmz hN
    rw [← hr]; exact hm1
  | succ n ih =>
    intro a h tk m₁ u3 han hr hF hm1 hmz hN
    refine whl_turn hE (wt15 hX hT hF hm1 (by rw [hmz _ (by decide)]; exact hm2) hc8 hs1 hs2 hW (by omega) hN (fun tk' b hb => ?_))
    rw [decide_eq_true (by omega), Bool.true_and] at hb
    cases hp : ((KBw.bInts b1).getD (W - 1 - a) 0 == (KBw.bInts b2).getD (W - 1 - a) 0) with
    | false =>
      refine WhlIf.no (hb.trans hp) (wpAny_execs_nil ?_)
      refine hQ _ _ _ u3 hF ?_ hmz hN
      rw [← hr]
      simp only [runW, hp]
      exact hm1
    | true =>
      refine WhlIf.yes (hb.trans hp) ?_
      refine wb15 hX hT hF hm1 hN (fun h' tk' u F' N' => ?_)
      show WhlRest _ _ _ _ _ _ _ _ _ (n + 1) _
      refine ih (a + 1) h' tk' _ u (by omega) ?_ F' (by rw [if_pos rfl]) (fun z hz => by rw [if_neg hz]; exact hmz z hz) N'
      rw [← hr]
      simp only [runW, hp, if_true]
theorem st15 {w : World} {mean : ExcName → Option Value} {mg mb : Str → Option Value} {h₀ : Heap} {L fa ca : Addr} {m : Str → Option Value} {s : Shared} {Q : Flow → Shared → Prop} {E : Value → Shared → Prop} {news : List (Addr × Obj)} {c8 : Obj} {HD : Addr} {b1 b2 : Array UInt8} {W : Nat} {u1 u2 u3 t8 : Tok}
    (hX : (KK w.params).In h₀) (hT : Top qv looseL mean mg mb h₀) (hE : PassesOwn (model PySem.Challenge.rw_uy0010_01.prog w) (lA L fa ca) (lawE L fa (.ref ca)) E) (hF : Fr h₀ L s.heap m) (hm1 : m (Str.ofString "behind") = some (.int 0 u3)) (hm2 : m (Str.ofString "tails") = some (.ref HD)) (hc8 : c8.data = .cell (some (.int (W : Int) t8))) (hs1 : (KBw.bInts b1).length = W) (hs2 : (KBw.bInts b2).length = W) (hW : W ≤ 12)
    (hN : News h₀ L s.heap ((L + 1 + 1 + 1 + 1 + 1 + 1 + 1 + 1, c8) :: (HD, PyProof.Rows.LCg.lst [.bytes b1 u1, .bytes b2 u2]) :: news))
    (hQ : ∀ h' tk' m' u, Fr h₀ L h' m' → m' (Str.ofString "behind") = some (.int ((runW (fun a => (KBw.bInts b1).getD (W - 1 - a) 0 == (KBw.bInts b2).getD (W - 1 - a) 0) W 0 : Nat) : Int) u) → (∀ z, z ≠ Str.ofString "behind" → m' z = m z) → News h₀ L h' ((L + 1 + 1 + 1 + 1 + 1 + 1 + 1 + 1, c8) :: (HD, PyProof.Rows.LCg.lst [.bytes b1 u1, .bytes b2 u2]) :: news) → Q .next { s with heap := h', toks := tk' }) :
    wpAny (model PySem.Challenge.rw_uy0010_01.prog w) (lA L fa ca) (exec (lS 15) (lawE L fa (.ref ca))) Q E s := by
  have key := wl15 (fa := fa) (ca := ca) (s := s) hX hT hE hm2 hc8 hs1 hs2 hW _ hQ W 0 s.heap s.toks m u3 (by omega) rfl hF hm1 (fun _ _ => rfl) hN
  exact whl_start (test := wT 15) (body := wBd 15) (orelse := []) (W + 1) key
end
theorem fresh_42 : True ∧ True := by first | (walk1 <;> trivial) | exact ⟨trivial, trivial⟩
section
local macro_rules | `(tactic| walk_at "call builtin:len") => `(tactic| (k_here; (with_reducible show wpAny _ _ (call (Value.builtin "len") [Value.str (tx _) _]) _ _ _); refine len_tx (by omega) ?_))
theorem fresh_43 : True ∧ True := by first | (walk1 <;> trivial) | exact ⟨trivial, trivial⟩
section
local macro_rules | `(tactic| walk_at "call type:zip") => `(tactic| (k_here; refine stopped ?_))
local macro_rules | `(tactic| walk_at "binaryOp FloorDiv int int") => `(tactic| (k_here; refine fd16 ⟨by assumption, by assumption⟩ ?_))
local macro_rules | `(tactic| walk_at "binaryOp Mod int int") => `(tactic| (k_here; refine mod_int' (ne16 _) ?_))
theorem fresh_44 : True ∧ True := by first | (walk1 <;> trivial) | exact ⟨trivial, trivial⟩
section
open PySem PySem.W PyProof.Rows
set_option linter.unusedVariables false
set_option maxRecDepth 100000
set_option maxHeartbeats 4000000
theorem st11 {w : World} {mean : ExcName → Option Value} {mg mb : Str → Option Value} {h₀ : Heap} {L fa ca : Addr} {m : Str → Option Value} {s : Shared} {Q : Flow → Shared → Prop} {E : Value → Shared → Prop} {news : List (Addr × Obj)} {c4 c8 : Obj} {TA NN : Addr} {nx ny : Int} {W : Nat} {x y : List Nat} {u1 u2 ta tb t8 : Tok}
    (hX : (KK w.params).In h₀) (hT : Top qv looseL mean mg mb h₀) (hF : Fr h₀ L s.heap m)
    (hm1 : m (Str.ofString "numbers") = some (.ref NN)) (hnx : 0 ≤ nx ∧ nx < 16777216) (hny : 0 ≤ ny ∧ ny < 16777216) (hx6 : 1 ≤ x.length ∧ x.length ≤ 6) (hy6 : 1 ≤ y.length ∧ y.length ≤ 6) (hW : 1 ≤ W ∧ W ≤ 12) (hne : TA ≠ NN) (hc4 : c4.data = .cell (some (.ref TA))) (hc8 : c8.data = .cell (some (.int (W : Int) t8)))
    (hfx : 0 ≤ headZ W nx x.length ∧ headZ W nx x.length < 2 ^ 60) (hfy : 0 ≤ headZ W ny y.length ∧ headZ W ny y.length < 2 ^ 60)
    (hN : News h₀ L s.heap ((L + 1 + 1 + 1 + 1 + 1 + 1 + 1 + 1, c8) :: (L + 1 + 1 + 1 + 1, c4) :: (TA, PyProof.Rows.LCg.lst [.str (tx x) ta, .str (tx y) tb]) :: (NN, PyProof.Rows.LCg.lst [.int nx u1, .int ny u2]) :: news))
    (hQ : ∀ D h' tk' u3 u4, Fr h₀ L h' (fun z => if z = Str.ofString "heads" then some (.ref D) else m z) → News h₀ L h' ((D, PyProof.Rows.LCg.lst [.bytes (apB (headZ W nx x.length)) u3, .bytes (apB (headZ W ny y.length)) u4]) :: (L + 1 + 1 + 1 + 1 + 1 + 1 + 1 + 1, c8) :: (L + 1 + 1 + 1 + 1, c4) :: (TA, PyProof.Rows.LCg.lst [.str (tx x) ta, .str (tx y) tb]) :: (NN, PyProof.Rows.LCg.lst [.int nx u1, .int ny u2]) :: news) → (∀ p ∈ (L + 1 + 1 + 1 + 1 + 1 + 1 + 1 + 1, c8) :: (L + 1 + 1 + 1 + 1, c4) :: (TA, PyProof.Rows.LCg.lst [.str (tx x) ta, .str (tx y) tb]) :: (NN, PyProof.Rows.LCg.lst [.int nx u1, .int ny u2]) :: news, p.1 ≠ D) → Q .next { s with heap := h', toks := tk' }) :
    wpAny (model PySem.Challenge.rw_uy0010_01.prog w) (lA L fa ca) (exec (lS 11) (lawE L fa (.ref ca))) Q E s := by
  revert hX
  k_fill
  intro hX
  walk_at "z lit"
  k_steps
  unfold Held
  k_dflt (
    refine' z_Assign (names := [Str.ofString "number", Str.ofString "text"]) (h₀ := h₀) (L := L) (m := m) ?k1 ?k2 ?k3 ?k4 ?k5 ?k6 ?k7 ?k8 ?k9 ?_
    (case k1 => rfl); (case k2 => with_unfolding_all rfl); (case k3 => with_unfolding_all rfl); (case k4 => decide); (case k5 => rfl); (case k6 => decide); (case k7 => decide); (case k8 => rfl); (case k9 => rfl))
  k_steps
  unfold Held
  have hNN := hN (NN, PyProof.Rows.LCg.lst [.int nx u1, .int ny u2]) (by simp)
  have hTA := hN (TA, PyProof.Rows.LCg.lst [.str (tx x) ta, .str (tx y) tb]) (by simp)
  refine zst_zip (xs := #[.int nx u1, .int ny u2]) (ys := #[.str (tx x) ta, .str (tx y) tb]) (R := fun i y' => ∃ u, y' = .bytes (apB (headZ W ([nx, ny].getD i 0) ([x, y].getD i []).length)) u) (test := fun _ => true) rfl (by decide) hF hN ⟨_, hNN.1, rfl, _, rfl⟩ ⟨_, hTA.1, rfl, _, rfl⟩ hNN.2.1 hTA.2.1 (Ne.symm hne) (by show 2 ≤ sizeLine; rw [sizeLine_eq]; omega) ?_ (fun h₂ tk₂ => finA fun D h tk ys hG F N off => ?_)
  · rintro i led C oC m₂ h tk E' hi ⟨v1, v2, ⟨w1, w2, ew1, ew2, evv⟩, em1, em2⟩ hoC F' N' hC hnl
    have hi : i < 2 := hi
    have evl : [v1, v2] = [w1, w2] := by simpa using evv
    have ev1 : v1 = w1 := by injection evl
    have ev2 : v2 = w2 := by injection evl with _ e; injection e
    subst ev1 ev2
    obtain ⟨dd, tt, z, tz, rfl, rfl, hdd, hzz, hd0, hd1, hz1, hz6, hf0, hf1⟩ : ∃ dd tt z tz, v1 = .int dd tt ∧ v2 = .str (tx z) tz ∧ dd = [nx, ny].getD i 0 ∧ z = [x, y].getD i [] ∧ 0 ≤ dd ∧ dd < 16777216 ∧ 1 ≤ z.length ∧ z.length ≤ 6 ∧ 0 ≤ headZ W dd z.length ∧ headZ W dd z.length < 2 ^ 60 := by
      rcases (by omega : i = 0 ∨ i = 1) with rfl | rfl
      · exact ⟨nx, u1, x, ta, (Option.some.inj ew1).symm, (Option.some.inj ew2).symm, rfl, rfl, hnx.1, hnx.2, hx6.1, hx6.2, hfx.1, hfx.2⟩
      · exact ⟨ny, u2, y, tb, (Option.some.inj ew1).symm, (Option.some.inj ew2).symm, rfl, rfl, hny.1, hny.2, hy6.1, hy6.2, hfy.1, hfy.2⟩
    have N₂ : News h₀ L h ((C, oC) :: (L + 1 + 1 + 1 + 1 + 1 + 1 + 1 + 1, c8) :: led) := fun q hq => by
      rcases List.mem_cons.mp hq with rfl | hq
      · exact N' _ hC
      rcases List.mem_cons.mp hq with rfl | hq
      · exact N' _ (hnl _ (by simp))
      · exact N' _ hq
    have back : ∀ h', News h₀ L h' ((C, oC) :: (L + 1 + 1 + 1 + 1 + 1 + 1 + 1 + 1, c8) :: led) → News h₀ L h' led := fun h' N p hp => N p (by simp [hp])
    clear N' hN hF hNN hTA ew1 ew2 evv evl
    dsimp only
    rw [← hdd, ← hzz]
    clear hdd hzz
    refine wpAny_tests_nil ⟨rfl, _, _, rfl, F', back _ N₂, fun _ => ?_⟩
    k_steps
    have hh : (16 ^ ((W : Int)).toNat * dd).fdiv (16 ^ ((z.length : Int)).toNat - 1) = headZ W dd z.length := by rw [Int.toNat_natCast, Int.toNat_natCast]; rfl
    rw [hh]
    refine c_ap _ _ _ _ _ _ _ _ _ _ _ [] callerA h₀ h₀ L m _ _ _ below0 F' hX N₂ hT rfl ⟨hf0, hf1⟩ (by ktr_room) (by ktr_units) (fun t h' tk' F N => ?_)
    exact ⟨h', tk', rfl, F, back _ N, t, rfl⟩
  · obtain ⟨hl, ha⟩ := hG.all
    obtain ⟨y1, e1, u3, r1⟩ := ha 0 (by show 0 < 2; decide)
    obtain ⟨y2, e2, u4, r2⟩ := ha 1 (by show 1 < 2; decide)
    have hys : ys = [y1, y2] := two_of hl e1 e2
    subst hys
    subst r1 r2
    exact hQ D h tk u3 u4 F N off
end
theorem fresh_45 : True ∧ True := by first | (walk1 <;> trivial) | exact ⟨trivial, trivial⟩
section
open PySem PySem.W PyProof.Rows
set_option linter.unusedVariables false
set_option maxRecDepth 100000
set_option maxHeartbeats 4000000
def tailZ (W : Nat) (n : Int) (k : Nat) : Int := ((n * (16 ^ (k * W) - 1)).fdiv (16 ^ k - 1)).fmod (16 ^ W)
local macro_rules | `(tactic| walk_at "binaryOp Pow int int") => `(tactic| (k_here; refine pow_int_small (by assumption) (by assumption) (by decide) ?_))
theorem st12 {w : World} {mean : ExcName → Option Value} {mg mb : Str → Option Value} {h₀ : Heap} {L fa ca : Addr} {m : Str → Option Value} {s : Shared} {Q : Flow → Shared → Prop} {E : Value → Shared → Prop} {news : List (Addr × Obj)} {c4 c8 : Obj} {TA NN : Addr} {nx ny : Int} {W : Nat} {x y : List Nat} {u1 u2 ta tb t8 : Tok}
    (hX : (KK w.params).In h₀) (hT : Top qv looseL mean mg mb h₀) (hF : Fr h₀ L s.heap m)
    (hm1 : m (Str.ofString "numbers") = some (.ref NN)) (hnx : 0 ≤ nx ∧ nx < 16777216) (hny : 0 ≤ ny ∧ ny < 16777216) (hx6 : 1 ≤ x.length ∧ x.length ≤ 6) (hy6 : 1 ≤ y.length ∧ y.length ≤ 6) (hW : 1 ≤ W ∧ W ≤ 12) (hne : TA ≠ NN) (hc4 : c4.data = .cell (some (.ref TA))) (hc8 : c8.data = .cell (some (.int (W : Int) t8)))
    (hfx : 0 ≤ tailZ W nx x.length ∧ tailZ W nx x.length < 2 ^ 60) (hfy : 0 ≤ tailZ W ny y.length ∧ tailZ W ny y.length < 2 ^ 60)
    (hN : News h₀ L s.heap ((L + 1 + 1 + 1 + 1 + 1 + 1 + 1 + 1, c8) :: (L + 1 + 1 + 1 + 1, c4) :: (TA, PyProof.Rows.LCg.lst [.str (tx x) ta, .str (tx y) tb]) :: (NN, PyProof.Rows.LCg.lst [.int nx u1, .int ny u2]) :: news))
    (hQ : ∀ D h' tk' u3 u4, Fr h₀ L h' (fun z => if z = Str.ofString "tails" then some (.ref D) else m z) → News h₀ L h' ((D, PyProof.Rows.LCg.lst [.bytes (apB (tailZ W nx x.length)) u3, .bytes (apB (tailZ W ny y.length)) u4]) :: (L + 1 + 1 + 1 + 1 + 1 + 1 + 1 + 1, c8) :: (L + 1 + 1 + 1 + 1, c4) :: (TA, PyProof.Rows.LCg.lst [.str (tx x) ta, .str (tx y) tb]) :: (NN, PyProof.Rows.LCg.lst [.int nx u1, .int ny u2]) :: news) → (∀ p ∈ (L + 1 + 1 + 1 + 1 + 1 + 1 + 1 + 1, c8) :: (L + 1 + 1 + 1 + 1, c4) :: (TA, PyProof.Rows.LCg.lst [.str (tx x) ta, .str (tx y) tb]) :: (NN, PyProof.Rows.LCg.lst [.int nx u1, .int ny u2]) :: news, p.1 ≠ D) → Q .next { s with heap := h', toks := tk' }) :
    wpAny (model PySem.Challenge.rw_uy0010_01.prog w) (lA L fa ca) (exec (lS 12) (lawE L fa (.ref ca))) Q E s := by
  revert hX
  k_fill
  intro hX
  walk_at "z lit"
  k_steps
  unfold Held
  k_dflt (
    refine' z_Assign (names := [Str.ofString "number", Str.ofString "text"]) (h₀ := h₀) (L := L) (m := m) ?k1 ?k2 ?k3 ?k4 ?k5 ?k6 ?k7 ?k8 ?k9 ?_
    (case k1 => rfl); (case k2 => with_unfolding_all rfl); (case k3 => with_unfolding_all rfl); (case k4 => decide); (case k5 => rfl); (case k6 => decide); (case k7 => decide); (case k8 => rfl); (case k9 => rfl))
  k_steps
  unfold Held
  have hNN := hN (NN, PyProof.Rows.LCg.lst [.int nx u1, .int ny u2]) (by simp)
  have hTA := hN (TA, PyProof.Rows.LCg.lst [.str (tx x) ta, .str (tx y) tb]) (by simp)
  refine zst_zip (xs := #[.int nx u1, .int ny u2]) (ys := #[.str (tx x) ta, .str (tx y) tb]) (R := fun i y' => ∃ u, y' = .bytes (apB (tailZ W ([nx, ny].getD i 0) ([x, y].getD i []).length)) u) (test := fun _ => true) rfl (by decide) hF hN ⟨_, hNN.1, rfl, _, rfl⟩ ⟨_, hTA.1, rfl, _, rfl⟩ hNN.2.1 hTA.2.1 (Ne.symm hne) (by show 2 ≤ sizeLine; rw [sizeLine_eq]; omega) ?_ (fun h₂ tk₂ => finA fun D h tk ys hG F N off => ?_)
  · rintro i led C oC m₂ h tk E' hi ⟨v1, v2, ⟨w1, w2, ew1, ew2, evv⟩, em1, em2⟩ hoC F' N' hC hnl
    have hi : i < 2 := hi
    have evl : [v1, v2] = [w1, w2] := by simpa using evv
    have ev1 : v1 = w1 := by injection evl
    have ev2 : v2 = w2 := by injection evl with _ e; injection e
    subst ev1 ev2
    obtain ⟨dd, tt, z, tz, rfl, rfl, hdd, hzz, hd0, hd1, hz1, hz6, hf0, hf1⟩ : ∃ dd tt z tz, v1 = .int dd tt ∧ v2 = .str (tx z) tz ∧ dd = [nx, ny].getD i 0 ∧ z = [x, y].getD i [] ∧ 0 ≤ dd ∧ dd < 16777216 ∧ 1 ≤ z.length ∧ z.length ≤ 6 ∧ 0 ≤ tailZ W dd z.length ∧ tailZ W dd z.length < 2 ^ 60 := by
      rcases (by omega : i = 0 ∨ i = 1) with rfl | rfl
      · exact ⟨nx, u1, x, ta, (Option.some.inj ew1).symm, (Option.some.inj ew2).symm, rfl, rfl, hnx.1, hnx.2, hx6.1, hx6.2, hfx.1, hfx.2⟩
      · exact ⟨ny, u2, y, tb, (Option.some.inj ew1).symm, (Option.some.inj ew2).symm, rfl, rfl, hny.1, hny.2, hy6.1, hy6.2, hfy.1, hfy.2⟩
    have N₂ : News h₀ L h ((C, oC) :: (L + 1 + 1 + 1 + 1 + 1 + 1 + 1 + 1, c8) :: led) := fun q hq => by
      rcases List.mem_cons.mp hq with rfl | hq
      · exact N' _ hC
      rcases List.mem_cons.mp hq with rfl | hq
      · exact N' _ (hnl _ (by simp))
      · exact N' _ hq
    have back : ∀ h', News h₀ L h' ((C, oC) :: (L + 1 + 1 + 1 + 1 + 1 + 1 + 1 + 1, c8) :: led) → News h₀ L h' led := fun h' N p hp => N p (by simp [hp])
    clear N' hN hF hNN hTA ew1 ew2 evv evl
    dsimp only
    rw [← hdd, ← hzz]
    clear hdd hzz
    refine wpAny_tests_nil ⟨rfl, _, _, rfl, F', back _ N₂, fun _ => ?_⟩
    have hp0 : 0 ≤ (z.length : Int) * (W : Int) := Int.mul_nonneg (by omega) (by omega)
    have hp1 : (z.length : Int) * (W : Int) ≤ 1000000 := by
      have : (z.length : Int) * (W : Int) ≤ 6 * 12 := Int.mul_le_mul (by omega) (by omega) (by omega) (by omega)
      omega
    k_steps
    have hh : ((dd * (16 ^ ((z.length : Int) * (W : Int)).toNat - 1)).fdiv (16 ^ ((z.length : Int)).toNat - 1)).fmod (16 ^ ((W : Int)).toNat) = tailZ W dd z.length := by
      rw [Int.toNat_natCast, Int.toNat_natCast, ← Int.natCast_mul, Int.toNat_natCast]; rfl
    rw [hh]
    refine c_ap _ _ _ _ _ _ _ _ _ _ _ [] callerA h₀ h₀ L m _ _ _ below0 F' hX N₂ hT rfl ⟨hf0, hf1⟩ (by ktr_room) (by ktr_units) (fun t h' tk' F N => ?_)
    exact ⟨h', tk', rfl, F, back _ N, t, rfl⟩
  · obtain ⟨hl, ha⟩ := hG.all
    obtain ⟨y1, e1, u3, r1⟩ := ha 0 (by show 0 < 2; decide)
    obtain ⟨y2, e2, u4, r2⟩ := ha 1 (by show 1 < 2; decide)
    have hys : ys = [y1, y2] := two_of hl e1 e2
    subst hys
    subst r1 r2
    exact hQ D h tk u3 u4 F N off
end
end
theorem fresh_46 : True ∧ True := by first | (walk1 <;> trivial) | exact ⟨trivial, trivial⟩
theorem fresh_47 : True ∧ True := by first | (walk1 <;> trivial) | exact ⟨trivial, trivial⟩
section
open PySem PySem.W PyProof.Rows
set_option linter.unusedVariables false
set_option maxRecDepth 100000
set_option maxHeartbeats 4000000
theorem st17 {w : World} {mean : ExcName → Option Value} {mg mb : Str → Option Value} {h₀ : Heap} {L fa ca : Addr} {m : Str → Option Value} {s : Shared} {Q : Flow → Shared → Prop} {E : Value → Shared → Prop} {news : List (Addr × Obj)} {p : List Nat} {u1 : Tok}
    (hX : (KK w.params).In h₀) (hT : Top qv looseL mean mg mb h₀) (hF : Fr h₀ L s.heap m)
    (hm1 : m (Str.ofString "mine") = some (.str (tx p) u1)) (hp : p.length ≤ 100)
    (hN : News h₀ L s.heap news)
    (hQ : ∀ h' tk' u, Fr h₀ L h' (fun z => if z = Str.ofString "size" then some (.int (p.length : Int) u) else m z) → News h₀ L h' news → Q .next { s with heap := h', toks := tk' }) :
    wpAny (model PySem.Challenge.rw_uy0010_01.prog w) (lA L fa ca) (exec (lS 17) (lawE L fa (.ref ca))) Q E s := by
  revert hX
  k_fill
  intro hX
  walk_at "z lit"
  k_steps
  rename_i kF kN
  exact hQ _ _ _ kF kN
end
theorem fresh_48 : True ∧ True := by first | (walk1 <;> trivial) | exact ⟨trivial, trivial⟩
section
open PySem PySem.W PyProof.Rows
set_option linter.unusedVariables false
set_option maxRecDepth 100000
set_option maxHeartbeats 4000000
theorem st20 {w : World} {mean : ExcName → Option Value} {mg mb : Str → Option Value} {h₀ : Heap} {L fa ca : Addr} {m : Str → Option Value} {s : Shared} {Q : Flow → Shared → Prop} {E : Value → Shared → Prop} {news : List (Addr × Obj)} {c8 : Obj} {a W : Nat} {q : List Nat} {u1 u2 t8 : Tok}
    (hX : (KK w.params).In h₀) (hT : Top qv looseL mean mg mb h₀) (hF : Fr h₀ L s.heap m)
    (hm1 : m (Str.ofString "ahead") = some (.int (a : Int) u1)) (hm2 : m (Str.ofString "yours") = some (.str (tx q) u2)) (hq : q.length ≤ 100) (hc8 : c8.data = .cell (some (.int (W : Int) t8)))
    (hQ2 : a ≠ W → ∀ h' tk', Fr h₀ L h' m → News h₀ L h' ((L + 1 + 1 + 1 + 1 + 1 + 1 + 1 + 1, c8) :: news) → Q .next { s with heap := h', toks := tk' })
    (hN : News h₀ L s.heap ((L + 1 + 1 + 1 + 1 + 1 + 1 + 1 + 1, c8) :: news))
    (hQ : a = W → ∀ h' tk' u3 u4, Fr h₀ L h' (fun z => if z = Str.ofString "fore" then some (.int (q.length : Int) u3) else if z = Str.ofString "aft" then some (.int (q.length : Int) u4) else m z) → News h₀ L h' ((L + 1 + 1 + 1 + 1 + 1 + 1 + 1 + 1, c8) :: news) → Q .next { s with heap := h', toks := tk' }) :
    wpAny (model PySem.Challenge.rw_uy0010_01.prog w) (lA L fa ca) (exec (lS 20) (lawE L fa (.ref ca))) Q E s := by
  revert hX
  k_fill
  intro hX
  walk_at "z lit"
  k_steps
  · rename_i kF kN
    exact hQ (by omega) _ _ _ _ kF (fun p hp => kN p (List.mem_cons_of_mem _ hp))
  · exact hQ2 (by omega) _ _ hF hN
end
theorem fresh_49 : True ∧ True := by first | (walk1 <;> trivial) | exact ⟨trivial, trivial⟩
section
open PySem PySem.W PyProof.Rows
set_option linter.unusedVariables false
set_option maxRecDepth 100000
set_option maxHeartbeats 4000000
theorem st22 {w : World} {mean : ExcName → Option Value} {mg mb : Str → Option Value} {h₀ : Heap} {L fa ca : Addr} {m : Str → Option Value} {s : Shared} {Q : Flow → Shared → Prop} {E : Value → Shared → Prop} {news : List (Addr × Obj)} {c8 : Obj} {a W : Nat} {p q : List Nat} {u1 u2 u3 u4 t8 : Tok}
    (hX : (KK w.params).In h₀) (hT : Top qv looseL mean mg mb h₀) (hF : Fr h₀ L s.heap m)
    (hm1 : m (Str.ofString "ahead") = some (.int (a : Int) u1)) (hm2 : m (Str.ofString "mine") = some (.str (tx p) u2)) (hm3 : m (Str.ofString "yours") = some (.str (tx q) u3)) (hm4 : m (Str.ofString "size") = some (.int (p.length : Int) u4)) (hq : q.length ≤ 100) (hc8 : c8.data = .cell (some (.int (W : Int) t8)))
    (hnd : (Builtin.Str.occurrences (tx p) (Str.ofString "...") 0 (tx p).length 1).isEmpty = true) (hpq : (p == q) = (decide (a = W) && decide (p.length = q.length)))
    (hN : News h₀ L s.heap ((L + 1 + 1 + 1 + 1 + 1 + 1 + 1 + 1, c8) :: news))
    (hQ : ∀ h' tk', Fr h₀ L h' m → News h₀ L h' ((L + 1 + 1 + 1 + 1 + 1 + 1 + 1 + 1, c8) :: news) → Q .next { s with heap := h', toks := tk' }) :
    wpAny (model PySem.Challenge.rw_uy0010_01.prog w) (lA L fa ca) (exec (lS 22) (lawE L fa (.ref ca))) Q E s := by
  revert hX
  k_fill
  intro hX
  walk_at "z lit"
  k_steps
  refine c_em0 _ _ _ _ _ _ _ _ _ _ _ _ _ [] callerA h₀ h₀ L m _ _ _ below0 hF hX hN hT rfl hnd (by ktr_room) (by ktr_units) (fun t9 h9 tk9 F9 N9 => ?_)
  clear hF hN
  rw [tx_beq]
  dsimp only
  have hbl : ((p.length : Int) == (q.length : Int)) = decide (p.length = q.length) := by rw [Bool.eq_iff_iff, beq_iff_eq, decide_eq_true_eq]; omega
  k_steps
  · rename_i h1 h2
    exfalso
    rw [hpq, hbl, decide_eq_true (show a = W by omega), Bool.true_and] at h2
    simp at h2
  · exact hQ _ _ F9 N9
  · rename_i h1 h2
    exfalso
    rw [hpq, decide_eq_false (show ¬ a = W by omega), Bool.false_and, show ((a : Int) == (W : Int)) = false from beq_eq_false_iff_ne.mpr h1] at h2
    simp at h2
  · exact hQ _ _ F9 N9
end
theorem fresh_50 : True ∧ True := by first | (walk1 <;> trivial) | exact ⟨trivial, trivial⟩
section
open PySem PySem.W PyProof.Rows
set_option linter.unusedVariables false
set_option maxRecDepth 100000
set_option maxHeartbeats 4000000
local macro_rules | `(tactic| walk_at "binaryOp Add") => `(tactic| (k_here; (with_reducible show wpAny _ _ (binaryOp Operator.Add (Value.str _ _) (Value.str _ _)) _ _ _); first
  | (refine add_dots (by omega) ?_; intro _ _)
  | (refine add_tx (by first | omega | (simp only [List.length_append, List.length_cons, List.length_nil]; omega)) ?_; intro _ _)))
local macro_rules | `(tactic| walk_at "binaryOp Add str str") => `(tactic| (k_here; (with_reducible show wpAny _ _ (binaryOp Operator.Add (Value.str _ _) (Value.str _ _)) _ _ _); first
  | (refine add_dots (by omega) ?_; intro _ _)
  | (refine add_tx (by first | omega | (simp only [List.length_append, List.length_cons, List.length_nil]; omega)) ?_; intro _ _)))
theorem st23 {w : World} {mean : ExcName → Option Value} {mg mb : Str → Option Value} {h₀ : Heap} {L fa ca : Addr} {m : Str → Option Value} {s : Shared} {Q : Flow → Shared → Prop} {E : Value → Shared → Prop} {news : List (Addr × Obj)} {c4 c8 : Obj} {TA : Addr} {a W : Nat} {x y : List Nat} {u1 ta tb t8 : Tok}
    (hX : (KK w.params).In h₀) (hT : Top qv looseL mean mg mb h₀) (hF : Fr h₀ L s.heap m)
    (hm1 : m (Str.ofString "ahead") = some (.int (a : Int) u1)) (hx6 : x.length ≤ 6) (hy6 : y.length ≤ 6) (hc4 : c4.data = .cell (some (.ref TA))) (hc8 : c8.data = .cell (some (.int (W : Int) t8)))
    (hd1 : (Builtin.Str.occurrences (tx (y ++ [46, 46, 46] ++ x)) (Str.ofString "...") 0 (tx (y ++ [46, 46, 46] ++ x)).length 1).isEmpty = false) (hd2 : Txt.split (tx (y ++ [46, 46, 46] ++ x)) (Str.ofString "...") = [tx y, tx x]) (hem : emB (tx y) (tx x) (tx (x ++ y)) = decide (a = W))
    (hN : News h₀ L s.heap ((L + 1 + 1 + 1 + 1, c4) :: (TA, PyProof.Rows.LCg.lst [.str (tx x) ta, .str (tx y) tb]) :: (L + 1 + 1 + 1 + 1 + 1 + 1 + 1 + 1, c8) :: news))
    (hQ : ∀ h' tk', Fr h₀ L h' m → Q (.ret (.bool true)) { s with heap := h', toks := tk' }) :
    wpAny (model PySem.Challenge.rw_uy0010_01.prog w) (lA L fa ca) (exec (lS 23) (lawE L fa (.ref ca))) Q E s := by
  revert hX
  k_fill
  intro hX
  walk_at "z lit"
  k_steps
  refine c_em _ (tx y) (tx x) _ _ _ _ _ _ _ _ _ _ _ _ [] callerA h₀ h₀ L m _ _ _ below0 hF hX hN hT rfl ⟨by rw [tx_len]; omega, by rw [tx_len]; omega, by rw [tx_len, List.length_append]; omega, hd1, hd2, by rw [tx_len]; simp only [List.length_append, List.length_cons, List.length_nil]; omega⟩ (by ktr_room) (by ktr_units) (fun t9 h9 tk9 F9 N9 => ?_)
  clear hF hN
  rw [hem]
  dsimp only
  k_steps
  have hbl : ((a : Int) == (W : Int)) = decide (a = W) := by rw [Bool.eq_iff_iff, beq_iff_eq, decide_eq_true_eq]; omega
  rw [hbl, beq_self_eq_true]
  exact hQ _ _ F9
end
end
theorem fresh_51 : True ∧ True := by first | (walk1 <;> trivial) | exact ⟨trivial, trivial⟩
end
theorem fresh_52 : True ∧ True := by first | (walk1 <;> trivial) | exact ⟨trivial, trivial⟩
theorem fresh_53 : True ∧ True := by first | (walk1 <;> trivial) | exact ⟨trivial, trivial⟩
section
local macro_rules | `(tactic| walk_at "subscriptTail") => `(tactic| (k_here; k_dflt (refine' pick2 ?k1 ?k2 ?k3 ?_; (case k1 => k_asm); (case k2 => walk_at "my mem"); (case k3 => assumption)); intro t))
theorem fresh_54 : True ∧ True := by first | (walk1 <;> trivial) | exact ⟨trivial, trivial⟩
section
open PySem PySem.W PyProof.Rows
set_option linter.unusedVariables false
set_option maxRecDepth 100000
set_option maxHeartbeats 4000000
theorem rs0 {w : World} {mean : ExcName → Option Value} {mg mb : Str → Option Value} {h₀ : Heap} {L fa ca : Addr} {m : Str → Option Value} {s : Shared} {Q : Flow → Shared → Prop} {E : Value → Shared → Prop} {news : List (Addr × Obj)} {c7 : Obj} {Rw YA : Addr} {rvs : List Value} {nr : Nat} {ns : List Int} {X Y : List Nat} {ta tb : Tok}
    (hX : (KK w.params).In h₀) (hT : Top qv looseL mean mg mb h₀) (hF : Fr h₀ L s.heap m)
    (hm1 : m (Str.ofString "row") = some (.ref Rw)) (hI : IntsAre rvs ns) (h01 : ∀ n ∈ ns, n = 0 ∨ n = 1) (hns : ns.length ≤ 16) (hX7 : X.length ≤ 7) (hY7 : Y.length ≤ 7) (hc7 : c7.data = .cell (some (.ref YA)))
    (hN : News h₀ L s.heap ((Rw, ({ cls := .type "list", data := .seq rvs.toArray nr } : Obj)) :: (L + 1 + 1 + 1 + 1 + 1 + 1 + 1, c7) :: (YA, PyProof.Rows.LCg.lst [.str (tx X) ta, .str (tx Y) tb]) :: news))
    (hQ : ∀ h' tk' u, Fr h₀ L h' (fun z => if z = Str.ofString "signs" then some (.str (tx (pickT X Y ns)) u) else m z) → News h₀ L h' ((Rw, ({ cls := .type "list", data := .seq rvs.toArray nr } : Obj)) :: (L + 1 + 1 + 1 + 1 + 1 + 1 + 1, c7) :: (YA, PyProof.Rows.LCg.lst [.str (tx X) ta, .str (tx Y) tb]) :: news) → Q .next { s with heap := h', toks := tk' }) :
    wpAny (model PySem.Challenge.rw_uy0010_01.prog w) (lA L fa ca) (exec (rS 0) (lawE L fa (.ref ca))) Q E s := by
  revert hX
  k_fill
  intro hX
  walk_at "z lit"
  k_steps
  have hlen : rvs.length = ns.length := IntsAre.length hI
  unfold Held
  k_dflt (
    refine' z_ListComp (names := [Str.ofString "place"]) (h₀ := h₀) (L := L) (m := m) ?z1 ?z2 ?z3 ?z4 ?z5 ?_
    (case z1 => with_unfolding_all rfl); (case z2 => decide); (case z3 => rfl); (case z4 => decide); (case z5 => decide))
  k_steps
  unfold Held
  have hrow := hN (Rw, ({ cls := .type "list", data := .seq rvs.toArray nr } : Obj)) (by simp)
  refine zst_list (vs := rvs.toArray) (R := fun i y' => ∃ u, y' = .str (tx (if ns.getD i 0 = 0 then X else Y)) u) (test := fun _ => true) rfl hF hN ⟨_, hrow.1, rfl, _, rfl⟩ hrow.2.1 (by rw [List.size_toArray, hlen, sizeLine_eq]; omega) ?_ (fun h₂ tk₂ => finE fun D h tk ys hG F N off => ?_)
  · rintro i led C oC m₂ h tk E' hi ⟨v, ev, em⟩ hoC F' N' hC hnl
    have hi : i < ns.length := by rw [List.size_toArray, hlen] at hi; exact hi
    obtain ⟨tt, et⟩ := IntsAre.at' hI i hi
    have ev2 : v = .int (ns.getD i 0) tt := by
      have : rvs[i]? = some v := by simpa using ev
      rw [et] at this; exact (Option.some.inj this).symm
    subst ev2
    have h01 : ns.getD i 0 = 0 ∨ ns.getD i 0 = 1 := h01 _ (by rw [List.getD_eq_getElem?_getD, List.getElem?_eq_getElem hi]; exact List.getElem_mem _)
    have N₂ : News h₀ L h ((C, oC) :: (L + 1 + 1 + 1 + 1 + 1 + 1 + 1, c7) :: (YA, PyProof.Rows.LCg.lst [.str (tx X) ta, .str (tx Y) tb]) :: led) := fun q hq => by
      rcases List.mem_cons.mp hq with rfl | hq
      · exact N' _ hC
      rcases List.mem_cons.mp hq with rfl | hq
      · exact N' _ (hnl _ (by simp))
      rcases List.mem_cons.mp hq with rfl | hq
      · exact N' _ (hnl _ (by simp))
      · exact N' _ hq
    clear N' hN hF ev hrow
    have back : ∀ h', News h₀ L h' ((C, oC) :: (L + 1 + 1 + 1 + 1 + 1 + 1 + 1, c7) :: (YA, PyProof.Rows.LCg.lst [.str (tx X) ta, .str (tx Y) tb]) :: led) → News h₀ L h' led := fun h' N p hp => N p (by simp [hp])
    refine wpAny_tests_nil ⟨rfl, _, _, rfl, F', back _ N₂, fun _ => ?_⟩
    k_steps
    · exact F'
    · exact back _ N₂
  · have hTx := got_txs hG
    have hfl := picked (a := X) (b := Y) ns
    rw [← hlen, ← List.size_toArray] at hfl
    clear hN hF hrow
    k_steps
    refine join_txs 7 ⟨_, (N _ List.mem_cons_self).1, rfl, _, rfl⟩ hTx (fun aa ha => ?_) (by decide) ?_ (fun t' k' => ?_)
    · obtain ⟨i, _, rfl⟩ := List.mem_map.mp ha
      split <;> assumption
    · rw [List.length_map]
      exact Nat.le_trans (List.length_filter_le _ _) (by rw [List.length_range, List.size_toArray, hlen]; omega)
    rw [hfl]
    k_steps
    rename_i kF kN
    exact hQ _ _ _ kF (fun p hp => kN p (List.mem_cons_of_mem _ hp))
end
theorem fresh_55 : True ∧ True := by first | (walk1 <;> trivial) | exact ⟨trivial, trivial⟩
section
open PySem PySem.W PyProof.Rows
set_option linter.unusedVariables false
set_option maxRecDepth 100000
set_option maxHeartbeats 4000000
noncomputable def prepL (S : List Nat) : List Nat := ((S.filter fun (c : Nat) => !inB1 (c : Int)).map fun c => (b3of c).cps.toList).flatten
theorem ranged {β : Type} (p : Nat → Bool) (f : Nat → β) (l : List Nat) : (((List.range l.length).filter fun i => p (l.getD i 0)).map fun i => f (l.getD i 0)) = (l.filter p).map f := by
  have e : ((List.range l.length).map fun i => l.getD i 0) = l := range_getD l 0
  have : (l.filter p).map f = (((List.range l.length).map fun i => l.getD i 0).filter p).map f := by rw [e]
  rw [this, List.filter_map, List.map_map]
  rfl
theorem rs1 {w : World} {mean : ExcName → Option Value} {mg mb : Str → Option Value} {h₀ : Heap} {L fa ca : Addr} {m : Str → Option Value} {s : Shared} {Q : Flow → Shared → Prop} {E : Value → Shared → Prop} {news : List (Addr × Obj)} {M : Addr} {mts : List Value} {S : List Nat} {u1 : Tok}
    (hX : (KK w.params).In h₀) (hT : Top qv looseL mean mg mb h₀) (hF : Fr h₀ L s.heap m)
    (hm1 : m (Str.ofString "signs") = some (.str (tx S) u1)) (hm2 : m (Str.ofString "meant") = some (.ref M)) (hS : S.length ≤ 200) (hb : ∀ c ∈ S, c < 1114112 ∧ (b3of c).length ≤ 7) (hml : mts.length ≤ 10) (hap : ∀ p ∈ news, p.1 ≠ M)
    (hN : News h₀ L s.heap ((M, PyProof.Rows.LCg.lst mts) :: news))
    (hQ : ∀ h' tk' u, Fr h₀ L h' m → News h₀ L h' ((M, PyProof.Rows.LCg.lst (mts ++ [.str (tx (prepL S)) u])) :: news) → Q .next { s with heap := h', toks := tk' }) :
    wpAny (model PySem.Challenge.rw_uy0010_01.prog w) (lA L fa ca) (exec (rS 1) (lawE L fa (.ref ca))) Q E s := by
  revert hX
  k_fill
  intro hX
  walk_at "z lit"
  k_steps
  unfold Held
  k_dflt (
    refine' z_ListComp (names := [Str.ofString "sign"]) (h₀ := h₀) (L := L) (m := m) ?z1 ?z2 ?z3 ?z4 ?z5 ?_
    (case z1 => with_unfolding_all rfl); (case z2 => decide); (case z3 => rfl); (case z4 => decide); (case z5 => decide))
  k_steps
  unfold Held
  refine zst_str (y := tx S) (R := fun i y' => ∃ u, y' = .str (tx (b3of (S.getD i 0)).cps.toList) u) (test := fun i => !inB1 ((S.getD i 0 : Nat) : Int)) rfl hF hN (by show S.toArray.size ≤ _; rw [List.size_toArray, sizeLine_eq]; omega) ?_ (fun h₂ tk₂ => finE fun D h tk ys hG F N off => ?_)
  · rintro i led C oC m₂ h tk E' hi ⟨v, ⟨c, u, ec, rfl⟩, em⟩ hoC F' N' hC hnl
    have hi : i < S.length := by simpa using hi
    have e9 : c = S.getD i 0 := by
      rw [List.getD_eq_getElem?_getD]
      have : S[i]? = some c := by simpa using ec
      rw [this]; rfl
    have hcm : c ∈ S := by
      have : S[i]? = some c := by simpa using ec
      exact List.mem_of_getElem? this
    obtain ⟨hc1, hc2⟩ := hb c hcm
    dsimp only
    rw [← e9]
    have N₂ : News h₀ L h ((C, oC) :: led) := fun q hq => by
      rcases List.mem_cons.mp hq with rfl | hq
      · exact N' _ hC
      · exact N' _ hq
    have back : ∀ h', News h₀ L h' ((C, oC) :: led) → News h₀ L h' led := fun h' N p hp => N p (by simp [hp])
    clear N' hN hF
    refine wpAny_tests_one ?_
    k_steps
    refine c_b1 _ _ _ _ _ _ _ _ _ _ _ [] callerA h₀ h₀ L m _ _ _ below0 F' hX N₂ hT rfl hc1 (by ktr_room) (by ktr_units) (fun t9 h9 tk9 F9 N9 => ?_)
    clear N₂ F'
    dsimp only
    refine wpAny_truthy_bool ?_
    refine ⟨rfl, h9, tk9, rfl, F9, back _ N9, fun _ => ?_⟩
    k_steps
    refine c_b3 _ _ _ _ _ _ _ _ _ _ _ [] callerA h₀ h₀ L m _ _ _ below0 F9 hX N9 hT rfl hc1 (by ktr_room) (by ktr_units) (fun t8 h8 tk8 F8 N8 => ?_)
    exact ⟨h8, tk8, rfl, F8, back _ N8, t8, rfl⟩
  · have hTx := got_txs hG
    have hfl := ranged (fun c => !inB1 (c : Int)) (fun c => (b3of c).cps.toList) S
    have hfl2 : ((((List.range (tx S).cps.size).filter fun i => !inB1 ((S.getD i 0 : Nat) : Int)).map fun i => (b3of (S.getD i 0)).cps.toList)).flatten = prepL S := by
      rw [show (tx S).cps.size = S.length from by simp, hfl]
      rfl
    clear hN hF
    k_steps
    refine join_txs 7 ⟨_, (N _ List.mem_cons_self).1, rfl, _, rfl⟩ hTx (fun aa ha => ?_) (by decide) ?_ (fun t' k' => ?_)
    · obtain ⟨i, hi, rfl⟩ := List.mem_map.mp ha
      have hi : i < S.length := by simpa using (List.mem_filter.mp hi).1
      have hm : S.getD i 0 ∈ S := by rw [List.getD_eq_getElem?_getD, List.getElem?_eq_getElem hi]; exact List.getElem_mem _
      show (b3of (S.getD i 0)).cps.toList.length ≤ 7
      rw [Array.length_toList]
      exact (hb _ hm).2
    · rw [List.length_map]
      exact Nat.le_trans (List.length_filter_le _ _) (by rw [List.length_range]; simp; omega)
    rw [hfl2]
    k_steps
    have N9 : News h₀ L h ((M, PyProof.Rows.LCg.lst mts) :: news) := fun p hp => N p (List.mem_cons_of_mem _ hp)
    refine append_head (its := mts.toArray) (n := mts.length) (rest := news) F N9 hap (fun h' F' N' => ?_) (by show mts.toArray.size ≤ sizeLine; rw [List.size_toArray, sizeLine_eq]; omega)
    refine hQ h' _ t' F' (fun p hp => ?_)
    rw [← PyProof.Rows.LCg.lst_snoc] at hp
    exact N' p hp
end
theorem fresh_56 : True ∧ True := by first | (walk1 <;> trivial) | exact ⟨trivial, trivial⟩
section
open PySem PySem.W PyProof.Rows
set_option linter.unusedVariables false
set_option maxRecDepth 100000
set_option maxHeartbeats 4000000
theorem rs2 {w : World} {mean : ExcName → Option Value} {mg mb : Str → Option Value} {h₀ : Heap} {L fa ca : Addr} {m : Str → Option Value} {s : Shared} {Q : Flow → Shared → Prop} {E : Value → Shared → Prop} {news : List (Addr × Obj)} {c4 : Obj} {Rw TA M : Addr} {rvs mts : List Value} {nr : Nat} {ns : List Int} {x y P : List Nat} {ta tb u1 : Tok}
    (hX : (KK w.params).In h₀) (hT : Top qv looseL mean mg mb h₀) (hF : Fr h₀ L s.heap m)
    (hm1 : m (Str.ofString "row") = some (.ref Rw)) (hI : IntsAre rvs ns) (h01 : ∀ n ∈ ns, n = 0 ∨ n = 1) (hns : ns.length ≤ 16) (hX7 : x.length ≤ 7) (hY7 : y.length ≤ 7) (hc4 : c4.data = .cell (some (.ref TA))) (hm2 : m (Str.ofString "meant") = some (.ref M)) (hml : mts.length ≤ 10) (hP : P = pickT x y ns)
    (hN : News h₀ L s.heap ((M, PyProof.Rows.LCg.lst (mts ++ [.str (tx P) u1])) :: (Rw, ({ cls := .type "list", data := .seq rvs.toArray nr } : Obj)) :: (L + 1 + 1 + 1 + 1, c4) :: (TA, PyProof.Rows.LCg.lst [.str (tx x) ta, .str (tx y) tb]) :: news))
    (hQ : ∀ h' tk', Fr h₀ L h' m → News h₀ L h' ((M, PyProof.Rows.LCg.lst (mts ++ [.str (tx P) u1])) :: (Rw, ({ cls := .type "list", data := .seq rvs.toArray nr } : Obj)) :: (L + 1 + 1 + 1 + 1, c4) :: (TA, PyProof.Rows.LCg.lst [.str (tx x) ta, .str (tx y) tb]) :: news) → Q .next { s with heap := h', toks := tk' }) :
    wpAny (model PySem.Challenge.rw_uy0010_01.prog w) (lA L fa ca) (exec (rS 2) (lawE L fa (.ref ca))) Q E s := by
  revert hX
  k_fill
  intro hX
  walk_at "z lit"
  k_steps
  refine item_last (vi := mts) (v := .str (tx P) u1) ⟨_, (hN _ List.mem_cons_self).1, rfl, _, rfl⟩ ?_
  k_steps
  have hlen : rvs.length = ns.length := IntsAre.length hI
  unfold Held
  k_dflt (
    refine' z_ListComp (names := [Str.ofString "place"]) (h₀ := h₀) (L := L) (m := m) ?z1 ?z2 ?z3 ?z4 ?z5 ?_
    (case z1 => with_unfolding_all rfl); (case z2 => decide); (case z3 => rfl); (case z4 => decide); (case z5 => decide))
  k_steps
  unfold Held
  have hrow := hN (Rw, ({ cls := .type "list", data := .seq rvs.toArray nr } : Obj)) (by simp)
  refine zst_list (vs := rvs.toArray) (R := fun i y' => ∃ u, y' = .str (tx (if ns.getD i 0 = 0 then x else y)) u) (test := fun _ => true) rfl hF hN ⟨_, hrow.1, rfl, _, rfl⟩ hrow.2.1 (by rw [List.size_toArray, hlen, sizeLine_eq]; omega) ?_ (fun h₂ tk₂ => finE fun D h tk ys hG F N off => ?_)
  · rintro i led C oC m₂ h tk E' hi ⟨v, ev, em⟩ hoC F' N' hC hnl
    have hi : i < ns.length := by rw [List.size_toArray, hlen] at hi; exact hi
    obtain ⟨tt, et⟩ := IntsAre.at' hI i hi
    have ev2 : v = .int (ns.getD i 0) tt := by
      have : rvs[i]? = some v := by simpa using ev
      rw [et] at this; exact (Option.some.inj this).symm
    subst ev2
    have h01 : ns.getD i 0 = 0 ∨ ns.getD i 0 = 1 := h01 _ (by rw [List.getD_eq_getElem?_getD, List.getElem?_eq_getElem hi]; exact List.getElem_mem _)
    have N₂ : News h₀ L h ((C, oC) :: (L + 1 + 1 + 1 + 1, c4) :: (TA, PyProof.Rows.LCg.lst [.str (tx x) ta, .str (tx y) tb]) :: led) := fun q hq => by
      rcases List.mem_cons.mp hq with rfl | hq
      · exact N' _ hC
      rcases List.mem_cons.mp hq with rfl | hq
      · exact N' _ (hnl _ (by simp))
      rcases List.mem_cons.mp hq with rfl | hq
      · exact N' _ (hnl _ (by simp))
      · exact N' _ hq
    clear N' hN hF ev hrow
    have back : ∀ h', News h₀ L h' ((C, oC) :: (L + 1 + 1 + 1 + 1, c4) :: (TA, PyProof.Rows.LCg.lst [.str (tx x) ta, .str (tx y) tb]) :: led) → News h₀ L h' led := fun h' N p hp => N p (by simp [hp])
    refine wpAny_tests_nil ⟨rfl, _, _, rfl, F', back _ N₂, fun _ => ?_⟩
    k_steps
    · exact F'
    · exact back _ N₂
  · have hTx := got_txs hG
    have hfl := picked (a := x) (b := y) ns
    rw [← hlen, ← List.size_toArray] at hfl
    clear hN hF hrow
    k_steps
    refine join_txs 7 ⟨_, (N _ List.mem_cons_self).1, rfl, _, rfl⟩ hTx (fun aa ha => ?_) (by decide) ?_ (fun t' k' => ?_)
    · obtain ⟨i, _, rfl⟩ := List.mem_map.mp ha
      split <;> assumption
    · rw [List.length_map]
      exact Nat.le_trans (List.length_filter_le _ _) (by rw [List.length_range, List.size_toArray, hlen]; omega)
    rw [hfl]
    rw [← hP]
    k_steps
    · rename_i h9
      simp at h9
    · exact hQ _ _ F (fun p hp => N p (List.mem_cons_of_mem _ hp))
end
section
open PySem PySem.W PyProof.Rows
set_option linter.unusedVariables false
set_option maxRecDepth 100000
set_option maxHeartbeats 4000000
theorem prepL_append (a b : List Nat) : prepL (a ++ b) = prepL a ++ prepL b := by simp [prepL]
theorem prep_pick {X Y x y : List Nat} (hX : prepL X = x) (hY : prepL Y = y) : ∀ ns : List Int, prepL (pickT X Y ns) = pickT x y ns
  | [] => rfl
  | n :: ns => by
    have ih := prep_pick hX hY ns
    unfold pickT at ih ⊢
    rw [List.map_cons, List.map_cons, List.flatten_cons, List.flatten_cons, prepL_append, ih]
    congr 1
    split <;> assumption
theorem pick_mem' {X Y : List Nat} {ns : List Int} {c : Nat} (h : c ∈ pickT X Y ns) : c ∈ X ∨ c ∈ Y := by
  unfold pickT at h
  obtain ⟨l, hl, hc⟩ := List.mem_flatten.mp h
  obtain ⟨n, _, rfl⟩ := List.mem_map.mp hl
  split at hc
  · exact .inl hc
  · exact .inr hc
theorem pick_len {X Y : List Nat} (hX : X.length ≤ 7) (hY : Y.length ≤ 7) : ∀ ns : List Int, (pickT X Y ns).length ≤ 7 * ns.length
  | [] => by simp [pickT]
  | n :: ns => by
    have ih := pick_len hX hY ns
    unfold pickT at ih ⊢
    rw [List.map_cons, List.flatten_cons, List.length_append, List.length_cons]
    have : (if n = 0 then X else Y).length ≤ 7 := by split <;> assumption
    omega
theorem row_turn {w : World} {mean : ExcName → Option Value} {mg mb : Str → Option Value} {h₀ : Heap} {L fa ca : Addr} {m : Str → Option Value} {s : Shared} {Q : Flow → Shared → Prop} {E : Value → Shared → Prop} {rest : List (Addr × Obj)} {c4 c7 : Obj} {Rw YA TA M : Addr} {rvs mts : List Value} {nr : Nat} {ns : List Int}
    {X Y x y : List Nat} {ta tb ta' tb' : Tok}
    (hX : (KK w.params).In h₀) (hT : Top qv looseL mean mg mb h₀) (hF : Fr h₀ L s.heap m)
    (hm1 : m (Str.ofString "row") = some (.ref Rw)) (hm2 : m (Str.ofString "meant") = some (.ref M)) (hN : News h₀ L s.heap ((M, PyProof.Rows.LCg.lst mts) :: rest)) (hap : ∀ p ∈ rest, p.1 ≠ M)
    (k1 : (Rw, ({ cls := .type "list", data := .seq rvs.toArray nr } : Obj)) ∈ rest) (k2 : (L + 1 + 1 + 1 + 1 + 1 + 1 + 1, c7) ∈ rest) (k3 : (YA, PyProof.Rows.LCg.lst [.str (tx X) ta, .str (tx Y) tb]) ∈ rest)
    (k4 : (L + 1 + 1 + 1 + 1, c4) ∈ rest) (k5 : (TA, PyProof.Rows.LCg.lst [.str (tx x) ta', .str (tx y) tb']) ∈ rest) (hc7 : c7.data = .cell (some (.ref YA))) (hc4 : c4.data = .cell (some (.ref TA)))
    (hI : IntsAre rvs ns) (h01 : ∀ n ∈ ns, n = 0 ∨ n = 1) (hns : ns.length ≤ 16) (hml : mts.length ≤ 9) (hX7 : X.length ≤ 7) (hY7 : Y.length ≤ 7) (hx7 : x.length ≤ 7) (hy7 : y.length ≤ 7)
    (hpX : prepL X = x) (hpY : prepL Y = y) (hbX : ∀ c ∈ X, c < 1114112 ∧ (b3of c).length ≤ 7) (hbY : ∀ c ∈ Y, c < 1114112 ∧ (b3of c).length ≤ 7)
    (hQ : ∀ h' tk' m' u, Fr h₀ L h' m' → (∀ z, z ≠ Str.ofString "signs" → m' z = m z) → News h₀ L h' ((M, PyProof.Rows.LCg.lst (mts ++ [.str (tx (pickT x y ns)) u])) :: rest) → Q .next { s with heap := h', toks := tk' }) :
    wpAny (model PySem.Challenge.rw_uy0010_01.prog w) (lA L fa ca) (execs rB (lawE L fa (.ref ca))) Q E s := by
  rw [rB_eq]
  have sub : ∀ {h' : Heap} {a : List (Addr × Obj)} {b : List (Addr × Obj)}, News h₀ L h' b → (∀ p ∈ a, p ∈ b) → News h₀ L h' a := fun N hs p hp => N p (hs p hp)
  refine wpAny_execs_cons (rs0 (nr := nr) (ta := ta) (tb := tb) (news := (M, PyProof.Rows.LCg.lst mts) :: rest) (X := X) (Y := Y) (ns := ns) (rvs := rvs) hX hT hF hm1 hI h01 hns hX7 hY7 hc7 (sub hN ?_) ?_)
  · intro p hp
    simp only [List.mem_cons] at hp ⊢
    rcases hp with rfl | rfl | rfl | hp
    · exact .inr k1
    · exact .inr k2
    · exact .inr k3
    · exact hp
  intro h₁ tk₁ u₁ F₁ N₁
  have N₁' : News h₀ L h₁ ((M, PyProof.Rows.LCg.lst mts) :: rest) := fun p hp => N₁ p (by simp only [List.mem_cons] at hp ⊢; rcases hp with hp | hp <;> simp [hp])
  have hSl := pick_len hX7 hY7 ns
  refine wpAny_execs_cons (rs1 (news := rest) (mts := mts) (S := pickT X Y ns) hX hT F₁ (by rw [if_pos rfl]) (by rw [if_neg (by decide)]; exact hm2) (by omega) (fun c hc => ?_) (by omega) hap N₁' ?_)
  · rcases pick_mem' hc with hc | hc
    · exact hbX c hc
    · exact hbY c hc
  intro h₂ tk₂ u₂ F₂ N₂
  rw [prep_pick hpX hpY] at N₂
  refine wpAny_execs_cons (rs2 (u1 := u₂) (nr := nr) (ta := ta') (tb := tb') (news := rest) (mts := mts) (x := x) (y := y) (ns := ns) (rvs := rvs) (P := pickT x y ns) hX hT F₂ (by rw [if_neg (by decide)]; exact hm1) hI h01 hns hx7 hy7 hc4 (by rw [if_neg (by decide)]; exact hm2) (by omega) rfl (sub N₂ ?_) ?_)
  · intro p hp
    simp only [List.mem_cons] at hp ⊢
    rcases hp with rfl | rfl | rfl | rfl | hp
    · exact .inl rfl
    · exact .inr k1
    · exact .inr k4
    · exact .inr k5
    · exact .inr hp
  intro h₃ tk₃ F₃ N₃
  refine wpAny_execs_nil (hQ h₃ tk₃ _ u₂ F₃ (fun z hz => if_neg hz) (fun p hp => N₃ p ?_))
  simp only [List.mem_cons] at hp ⊢
  rcases hp with hp | hp <;> simp [hp]
end
theorem fresh_57 : True ∧ True := by first | (walk1 <;> trivial) | exact ⟨trivial, trivial⟩
section
open PySem PySem.W PyProof.Rows
set_option linter.unusedVariables false
set_option maxRecDepth 100000
set_option maxHeartbeats 4000000
local macro_rules | `(tactic| walk_at "call builtin:len") => `(tactic| (k_here; (with_reducible show wpAny _ _ (call (Value.builtin "len") [Value.str (tx _) _]) _ _ _); refine len_tx (by assumption) ?_))
theorem st18 {w : World} {mean : ExcName → Option Value} {mg mb : Str → Option Value} {h₀ : Heap} {L fa ca : Addr} {m : Str → Option Value} {s : Shared} {Q : Flow → Shared → Prop} {E : Value → Shared → Prop} {news : List (Addr × Obj)} {c4 : Obj} {D1 TA : Addr} {fs : List Value} {fn : List Int} {a : Nat} {x y : List Nat} {ta tb u1 : Tok}
    (hX : (KK w.params).In h₀) (hT : Top qv looseL mean mg mb h₀) (hF : Fr h₀ L s.heap m)
    (hm1 : m (Str.ofString "front") = some (.ref D1)) (hm2 : m (Str.ofString "ahead") = some (.int (a : Int) u1)) (hI : IntsAre fs fn) (h01 : ∀ n ∈ fn, n = 0 ∨ n = 1) (hns : fn.length ≤ 16) (hX7 : x.length ≤ 7) (hY7 : y.length ≤ 7) (hc4 : c4.data = .cell (some (.ref TA)))
    (hN : News h₀ L s.heap ((D1, PyProof.Rows.LCg.lst fs) :: (L + 1 + 1 + 1 + 1, c4) :: (TA, PyProof.Rows.LCg.lst [.str (tx x) ta, .str (tx y) tb]) :: news))
    (hQ : ∀ h' tk' u, Fr h₀ L h' (fun z => if z = Str.ofString "fore" then some (.int (((pickT x y fn).length : Int) + (a : Int)) u) else m z) → News h₀ L h' ((D1, PyProof.Rows.LCg.lst fs) :: (L + 1 + 1 + 1 + 1, c4) :: (TA, PyProof.Rows.LCg.lst [.str (tx x) ta, .str (tx y) tb]) :: news) → Q .next { s with heap := h', toks := tk' }) :
    wpAny (model PySem.Challenge.rw_uy0010_01.prog w) (lA L fa ca) (exec (lS 18) (lawE L fa (.ref ca))) Q E s := by
  revert hX
  k_fill
  intro hX
  walk_at "z lit"
  k_steps
  have hlen : fs.length = fn.length := IntsAre.length hI
  have hpl := pick_len hX7 hY7 fn
  have hpl2 : (pickT x y fn).length ≤ 1000 := by omega
  unfold Held
  k_dflt (
    refine' z_ListComp (names := [Str.ofString "place"]) (h₀ := h₀) (L := L) (m := m) ?z1 ?z2 ?z3 ?z4 ?z5 ?_
    (case z1 => with_unfolding_all rfl); (case z2 => decide); (case z3 => rfl); (case z4 => decide); (case z5 => decide))
  k_steps
  unfold Held
  have hrow := hN (D1, PyProof.Rows.LCg.lst fs) (by simp)
  refine zst_list (vs := fs.toArray) (R := fun i y' => ∃ u, y' = .str (tx (if fn.getD i 0 = 0 then x else y)) u) (test := fun _ => true) rfl hF hN ⟨_, hrow.1, rfl, _, rfl⟩ hrow.2.1 (by rw [List.size_toArray, hlen, sizeLine_eq]; omega) ?_ (fun h₂ tk₂ => finE fun D h tk ys hG F N off => ?_)
  · rintro i led C oC m₂ h tk E' hi ⟨v, ev, em⟩ hoC F' N' hC hnl
    have hi : i < fn.length := by rw [List.size_toArray, hlen] at hi; exact hi
    obtain ⟨tt, et⟩ := IntsAre.at' hI i hi
    have ev2 : v = .int (fn.getD i 0) tt := by
      have : fs[i]? = some v := by simpa using ev
      rw [et] at this; exact (Option.some.inj this).symm
    subst ev2
    have h01 : fn.getD i 0 = 0 ∨ fn.getD i 0 = 1 := h01 _ (by rw [List.getD_eq_getElem?_getD, List.getElem?_eq_getElem hi]; exact List.getElem_mem _)
    have N₂ : News h₀ L h ((C, oC) :: (L + 1 + 1 + 1 + 1, c4) :: (TA, PyProof.Rows.LCg.lst [.str (tx x) ta, .str (tx y) tb]) :: led) := fun q hq => by
      rcases List.mem_cons.mp hq with rfl | hq
      · exact N' _ hC
      rcases List.mem_cons.mp hq with rfl | hq
      · exact N' _ (hnl _ (by simp))
      rcases List.mem_cons.mp hq with rfl | hq
      · exact N' _ (hnl _ (by simp))
      · exact N' _ hq
    clear N' hN hF ev hrow
    have back : ∀ h', News h₀ L h' ((C, oC) :: (L + 1 + 1 + 1 + 1, c4) :: (TA, PyProof.Rows.LCg.lst [.str (tx x) ta, .str (tx y) tb]) :: led) → News h₀ L h' led := fun h' N p hp => N p (by simp [hp])
    refine wpAny_tests_nil ⟨rfl, _, _, rfl, F', back _ N₂, fun _ => ?_⟩
    k_steps
    · exact F'
    · exact back _ N₂
  · have hTx := got_txs hG
    have hfl := picked (a := x) (b := y) fn
    rw [← hlen, ← List.size_toArray] at hfl
    clear hN hF hrow
    k_steps
    refine join_txs 7 ⟨_, (N _ List.mem_cons_self).1, rfl, _, rfl⟩ hTx (fun aa ha => ?_) (by decide) ?_ (fun t' k' => ?_)
    · obtain ⟨i, _, rfl⟩ := List.mem_map.mp ha
      split <;> assumption
    · rw [List.length_map]
      exact Nat.le_trans (List.length_filter_le _ _) (by rw [List.length_range, List.size_toArray, hlen]; omega)
    rw [hfl]
    k_steps
    rename_i kF kN
    exact hQ _ _ _ kF (fun p hp => kN p (List.mem_cons_of_mem _ hp))

theorem st19 {w : World} {mean : ExcName → Option Value} {mg mb : Str → Option Value} {h₀ : Heap} {L fa ca : Addr} {m : Str → Option Value} {s : Shared} {Q : Flow → Shared → Prop} {E : Value → Shared → Prop} {news : List (Addr × Obj)} {c4 : Obj} {D1 TA : Addr} {fs : List Value} {fn : List Int} {a : Nat} {x y : List Nat} {ta tb u1 : Tok}
    (hX : (KK w.params).In h₀) (hT : Top qv looseL mean mg mb h₀) (hF : Fr h₀ L s.heap m)
    (hm1 : m (Str.ofString "end") = some (.ref D1)) (hm2 : m (Str.ofString "behind") = some (.int (a : Int) u1)) (hI : IntsAre fs fn) (h01 : ∀ n ∈ fn, n = 0 ∨ n = 1) (hns : fn.length ≤ 16) (hX7 : x.length ≤ 7) (hY7 : y.length ≤ 7) (hc4 : c4.data = .cell (some (.ref TA)))
    (hN : News h₀ L s.heap ((D1, PyProof.Rows.LCg.lst fs) :: (L + 1 + 1 + 1 + 1, c4) :: (TA, PyProof.Rows.LCg.lst [.str (tx x) ta, .str (tx y) tb]) :: news))
    (hQ : ∀ h' tk' u, Fr h₀ L h' (fun z => if z = Str.ofString "aft" then some (.int (((pickT x y fn).length : Int) + (a : Int)) u) else m z) → News h₀ L h' ((D1, PyProof.Rows.LCg.lst fs) :: (L + 1 + 1 + 1 + 1, c4) :: (TA, PyProof.Rows.LCg.lst [.str (tx x) ta, .str (tx y) tb]) :: news) → Q .next { s with heap := h', toks := tk' }) :
    wpAny (model PySem.Challenge.rw_uy0010_01.prog w) (lA L fa ca) (exec (lS 19) (lawE L fa (.ref ca))) Q E s := by
  revert hX
  k_fill
  intro hX
  walk_at "z lit"
  k_steps
  have hlen : fs.length = fn.length := IntsAre.length hI
  have hpl := pick_len hX7 hY7 fn
  have hpl2 : (pickT x y fn).length ≤ 1000 := by omega
  unfold Held
  k_dflt (
    refine' z_ListComp (names := [Str.ofString "place"]) (h₀ := h₀) (L := L) (m := m) ?z1 ?z2 ?z3 ?z4 ?z5 ?_
    (case z1 => with_unfolding_all rfl); (case z2 => decide); (case z3 => rfl); (case z4 => decide); (case z5 => decide))
  k_steps
  unfold Held
  have hrow := hN (D1, PyProof.Rows.LCg.lst fs) (by simp)
  refine zst_list (vs := fs.toArray) (R := fun i y' => ∃ u, y' = .str (tx (if fn.getD i 0 = 0 then x else y)) u) (test := fun _ => true) rfl hF hN ⟨_, hrow.1, rfl, _, rfl⟩ hrow.2.1 (by rw [List.size_toArray, hlen, sizeLine_eq]; omega) ?_ (fun h₂ tk₂ => finE fun D h tk ys hG F N off => ?_)
  · rintro i led C oC m₂ h tk E' hi ⟨v, ev, em⟩ hoC F' N' hC hnl
    have hi : i < fn.length := by rw [List.size_toArray, hlen] at hi; exact hi
    obtain ⟨tt, et⟩ := IntsAre.at' hI i hi
    have ev2 : v = .int (fn.getD i 0) tt := by
      have : fs[i]? = some v := by simpa using ev
      rw [et] at this; exact (Option.some.inj this).symm
    subst ev2
    have h01 : fn.getD i 0 = 0 ∨ fn.getD i 0 = 1 := h01 _ (by rw [List.getD_eq_getElem?_getD, List.getElem?_eq_getElem hi]; exact List.getElem_mem _)
    have N₂ : News h₀ L h ((C, oC) :: (L + 1 + 1 + 1 + 1, c4) :: (TA, PyProof.Rows.LCg.lst [.str (tx x) ta, .str (tx y) tb]) :: led) := fun q hq => by
      rcases List.mem_cons.mp hq with rfl | hq
      · exact N' _ hC
      rcases List.mem_cons.mp hq with rfl | hq
      · exact N' _ (hnl _ (by simp))
      rcases List.mem_cons.mp hq with rfl | hq
      · exact N' _ (hnl _ (by simp))
      · exact N' _ hq
    clear N' hN hF ev hrow
    have back : ∀ h', News h₀ L h' ((C, oC) :: (L + 1 + 1 + 1 + 1, c4) :: (TA, PyProof.Rows.LCg.lst [.str (tx x) ta, .str (tx y) tb]) :: led) → News h₀ L h' led := fun h' N p hp => N p (by simp [hp])
    refine wpAny_tests_nil ⟨rfl, _, _, rfl, F', back _ N₂, fun _ => ?_⟩
    k_steps
    · exact F'
    · exact back _ N₂
  · have hTx := got_txs hG
    have hfl := picked (a := x) (b := y) fn
    rw [← hlen, ← List.size_toArray] at hfl
    clear hN hF hrow
    k_steps
    refine join_txs 7 ⟨_, (N _ List.mem_cons_self).1, rfl, _, rfl⟩ hTx (fun aa ha => ?_) (by decide) ?_ (fun t' k' => ?_)
    · obtain ⟨i, _, rfl⟩ := List.mem_map.mp ha
      split <;> assumption
    · rw [List.length_map]
      exact Nat.le_trans (List.length_filter_le _ _) (by rw [List.length_range, List.size_toArray, hlen]; omega)
    rw [hfl]
    k_steps
    rename_i kF kN
    exact hQ _ _ _ kF (fun p hp => kN p (List.mem_cons_of_mem _ hp))
end
end
theorem fresh_58 : True ∧ True := by first | (walk1 <;> trivial) | exact ⟨trivial, trivial⟩
section
open PySem PySem.W PyProof.Rows
set_option linter.unusedVariables false
set_option maxRecDepth 100000
set_option maxHeartbeats 4000000
theorem rows_loop {w : World} {mean : ExcName → Option Value} {mg mb : Str → Option Value} {h₀ : Heap} {L fa ca : Addr} {m : Str → Option Value} {s : Shared} {R : Result → Shared → Prop} {E : Value → Shared → Prop} {rest : List (Addr × Obj)} {c4 c7 : Obj} {T9 R1 R2 YA TA M : Addr} {v1 v2 : List Value} {n1 n2 n3 : Nat} {ns1 ns2 : List Int}
    {X Y x y : List Nat} {ta tb ta' tb' : Tok} {px : Pos}
    (hX : (KK w.params).In h₀) (hT : Top qv looseL mean mg mb h₀) (hF : Fr h₀ L s.heap m)
    (hm2 : m (Str.ofString "meant") = some (.ref M)) (hN : News h₀ L s.heap ((M, PyProof.Rows.LCg.lst []) :: rest)) (hap : ∀ p ∈ rest, p.1 ≠ M) (hnf : ∀ p ∈ rest, isFl p = false)
    (kT : (T9, ({ cls := .type "tuple", data := .seq #[.ref R1, .ref R2] n3 } : Obj)) ∈ rest)
    (k1 : (R1, ({ cls := .type "list", data := .seq v1.toArray n1 } : Obj)) ∈ rest) (k1' : (R2, ({ cls := .type "list", data := .seq v2.toArray n2 } : Obj)) ∈ rest) (k2 : (L + 1 + 1 + 1 + 1 + 1 + 1 + 1, c7) ∈ rest) (k3 : (YA, PyProof.Rows.LCg.lst [.str (tx X) ta, .str (tx Y) tb]) ∈ rest)
    (k4 : (L + 1 + 1 + 1 + 1, c4) ∈ rest) (k5 : (TA, PyProof.Rows.LCg.lst [.str (tx x) ta', .str (tx y) tb']) ∈ rest) (hc7 : c7.data = .cell (some (.ref YA))) (hc4 : c4.data = .cell (some (.ref TA)))
    (hI1 : IntsAre v1 ns1) (hI2 : IntsAre v2 ns2) (h01 : ∀ n ∈ ns1, n = 0 ∨ n = 1) (h02 : ∀ n ∈ ns2, n = 0 ∨ n = 1) (hns1 : ns1.length ≤ 16) (hns2 : ns2.length ≤ 16) (hX7 : X.length ≤ 7) (hY7 : Y.length ≤ 7) (hx7 : x.length ≤ 7) (hy7 : y.length ≤ 7)
    (hpX : prepL X = x) (hpY : prepL Y = y) (hbX : ∀ c ∈ X, c < 1114112 ∧ (b3of c).length ≤ 7) (hbY : ∀ c ∈ Y, c < 1114112 ∧ (b3of c).length ≤ 7)
    (fin : ∀ h' tk' m' u1 u2, Fr h₀ L h' m' → (∀ z, z ≠ Str.ofString "signs" → z ≠ Str.ofString "row" → m' z = m z) → News h₀ L h' ((M, PyProof.Rows.LCg.lst [.str (tx (pickT x y ns1)) u1, .str (tx (pickT x y ns2)) u2]) :: rest) → R (.ok .next) { s with heap := h', toks := tk' }) :
    wpAny (model PySem.Challenge.rw_uy0010_01.prog w) (lA L fa ca) (pyIter (.ref T9)) (fun it s₂ => codeAny (model PySem.Challenge.rw_uy0010_01.prog w) (lA L fa ca) (.forLoop (.Name (Str.ofString "row") px) it rB [] (lawE L fa (.ref ca))) R s₂) E s := by
  have hTn := hN _ (List.mem_cons_of_mem _ kT)
  refine for_tup (h₀ := h₀) (L := L) (m := m) (led := (M, PyProof.Rows.LCg.lst []) :: rest) (items := #[.ref R1, .ref R2]) rfl rfl rfl rfl ⟨_, hTn.1, rfl, _, rfl⟩ hTn.2.1 hF hN
    (fun i m₁ led₁ => ∃ mts, led₁ = (M, PyProof.Rows.LCg.lst mts) :: rest ∧ TxsAre mts ([pickT x y ns1, pickT x y ns2].take i) ∧ ∀ z, z ≠ Str.ofString "signs" → z ≠ Str.ofString "row" → m₁ z = m z)
    ⟨[], rfl, .nil, fun _ _ _ => rfl⟩ (fun p hp => ?_) ?_ ?_
  · rcases List.mem_cons.mp hp with rfl | hp
    · rfl
    · exact hnf p hp
  · rintro i v m₁ led₁ own s₂ E' hi hv ⟨mts, rfl, hmt, hmz⟩ F₂ N₂ hfl hown
    have N₃ : News h₀ L s₂.heap ((M, PyProof.Rows.LCg.lst mts) :: (own ++ rest)) := fun p hp => N₂ p (by simp only [List.mem_cons, List.mem_append] at hp ⊢; rcases hp with hp | hp | hp <;> simp [hp])
    have hap3 : ∀ p ∈ own ++ rest, p.1 ≠ M := fun p hp e => by
      rcases List.mem_append.mp hp with hp | hp
      · rcases hown p hp with e2 | e2
        · exact hap _ kT (e2.symm.trans e)
        · have a1 := (N₃ p (List.mem_cons_of_mem _ (List.mem_append_left _ hp))).1
          rw [e, (N₃ _ List.mem_cons_self).1] at a1
          unfold isFl at e2
          rw [← Option.some.inj a1] at e2
          cases e2
      · exact hap p hp e
    have r : ∀ {p : Addr × Obj}, p ∈ rest → p ∈ own ++ rest := fun h => List.mem_append_right _ h
    have hmeant : (fun z => if z = Str.ofString "row" then some v else m₁ z) (Str.ofString "meant") = some (.ref M) := by
      show (if Str.ofString "meant" = Str.ofString "row" then some v else m₁ (Str.ofString "meant")) = _
      rw [if_neg (by decide), hmz _ (by decide) (by decide)]; exact hm2
    have fin2 : ∀ (h' : Heap) (tk' : Nat) (m' : Str → Option Value) (u : Tok) (ns : List Int), TxsAre (mts ++ [.str (tx (pickT x y ns)) u]) ([pickT x y ns1, pickT x y ns2].take (i + 1)) → Fr h₀ L h' m' → (∀ z, z ≠ Str.ofString "signs" → m' z = (fun z => if z = Str.ofString "row" then some v else m₁ z) z) →
        News h₀ L h' ((M, PyProof.Rows.LCg.lst (mts ++ [.str (tx (pickT x y ns)) u])) :: (own ++ rest)) →
        (Flow.next = .next ∧ ∃ h'' tk'' m'' led', ({ s₂ with heap := h', toks := tk' } : Shared) = { s₂ with heap := h'', toks := tk'' } ∧ Fr h₀ L h'' m'' ∧ News h₀ L h'' (own ++ led') ∧ (∀ p ∈ led', isFl p = false) ∧
          ∃ mts, led' = (M, PyProof.Rows.LCg.lst mts) :: rest ∧ TxsAre mts ([pickT x y ns1, pickT x y ns2].take (i + 1)) ∧ ∀ z, z ≠ Str.ofString "signs" → z ≠ Str.ofString "row" → m'' z = m z) := by
      intro h' tk' m' u ns hTx F' hm' N'
      refine ⟨rfl, h', tk', m', (M, PyProof.Rows.LCg.lst (mts ++ [.str (tx (pickT x y ns)) u])) :: rest, rfl, F', fun p hp => N' p ?_, fun p hp => ?_, _, rfl, hTx, fun z hz hz2 => ?_⟩
      · simp only [List.mem_cons, List.mem_append] at hp ⊢; rcases hp with hp | hp | hp <;> simp [hp]
      · rcases List.mem_cons.mp hp with rfl | hp
        · rfl
        · exact hnf p hp
      · rw [hm' z hz]
        show (if z = Str.ofString "row" then some v else m₁ z) = m z
        rw [if_neg hz2, hmz z hz hz2]
    rcases (show i = 0 ∨ i = 1 from by have : i < 2 := hi; omega) with rfl | rfl
    · have hv : v = .ref R1 := (Option.some.inj hv).symm
      subst hv
      have hm0 : mts = [] := by cases hmt; rfl
      subst hm0
      exact row_turn (ta := ta) (tb := tb) (ta' := ta') (tb' := tb') (nr := n1) hX hT F₂ rfl hmeant N₃ hap3 (r k1) (r k2) (r k3) (r k4) (r k5) hc7 hc4 hI1 h01 hns1 (by simp) hX7 hY7 hx7 hy7 hpX hpY hbX hbY (fun h' tk' m' u F' hm' N' => fin2 h' tk' m' u ns1 (.cons _ _ .nil) F' hm' N')
    · have hv : v = .ref R2 := (Option.some.inj hv).symm
      subst hv
      have hml : mts.length ≤ 9 := by rw [hmt.len]; simp
      exact row_turn (ta := ta) (tb := tb) (ta' := ta') (tb' := tb') (nr := n2) hX hT F₂ rfl hmeant N₃ hap3 (r k1') (r k2) (r k3) (r k4) (r k5) hc7 hc4 hI2 h02 hns2 hml hX7 hY7 hx7 hy7 hpX hpY hbX hbY (fun h' tk' m' u F' hm' N' => fin2 h' tk' m' u ns2 (hmt.append (.cons _ _ .nil)) F' hm' N')
  · rintro h' tk m' led' F' N' ⟨mts, rfl, hmt, hmz⟩ _
    have hmt : TxsAre mts [pickT x y ns1, pickT x y ns2] := hmt
    cases hmt with
    | cons _ u1 r1 =>
      cases r1 with
      | cons _ u2 r2 =>
        cases r2
        exact fin h' tk m' u1 u2 F' hmz N'
end
theorem fresh_59 : True ∧ True := by first | (walk1 <;> trivial) | exact ⟨trivial, trivial⟩
section
open PySem PySem.W PyProof.Rows
set_option linter.unusedVariables false
set_option maxRecDepth 100000
set_option maxHeartbeats 4000000
theorem add_led {prog : Program} {w : World} {A : Around} {E : Value → Shared → Prop} {s : Shared} {h₀ : Heap} {L l b : Addr} {m : Str → Option Value} {vs ws : List Value} {n1 n2 : Nat} {news : List (Addr × Obj)} {Q : Value → Shared → Prop} (F : Fr h₀ L s.heap m) (N : News h₀ L s.heap news)
    (h1 : (l, ({ cls := .type "list", data := .seq vs.toArray n1 } : Obj)) ∈ news) (h2 : (b, ({ cls := .type "list", data := .seq ws.toArray n2 } : Obj)) ∈ news) (hsz : vs.length + ws.length ≤ 100)
    (h : ∀ D h', Fr h₀ L h' m → News h₀ L h' ((D, listOf (vs ++ ws).toArray 0) :: news) → (∀ p ∈ news, p.1 < D) → Q (.ref D) { s with heap := h' }) : wpAny (model prog w) A (binaryOp .Add (.ref l) (.ref b)) Q E s :=
  add_lists F N ⟨_, (N _ h1).1, rfl, _, rfl⟩ ⟨_, (N _ h2).1, rfl, _, rfl⟩ (fun h' F' N' => h _ h' F' N' (fun p hp => Heap.lt_size (N p hp).1)) (by rw [sizeLine_eq]; omega)
local macro_rules | `(tactic| walk_at "binaryOp Add") => `(tactic| (k_here; (with_reducible show wpAny _ _ (binaryOp Operator.Add (Value.ref _) (Value.ref _)) _ _ _); k_dflt (refine' add_led ?k1 ?k2 ?k3 ?k4 ?k5 ?_; (case k1 => k_asm); (case k2 => k_asm); (case k3 => walk_at "my mem"); (case k4 => walk_at "my mem"); (case k5 => (simp only [List.length_append, List.length_cons, List.length_nil]; omega))); intro D' h' F' N' l1))
local macro_rules | `(tactic| walk_at "exec For") => `(tactic| (k_here; refine stopped ?_))
local macro_rules | `(tactic| walk_at "exec For Name") => `(tactic| (k_here; refine stopped ?_))
local macro_rules | `(tactic| walk_at "exec For Name Tuple") => `(tactic| (k_here; refine stopped ?_))
theorem bits01 (d n : Int) : ∀ x ∈ bitsL d n, x = 0 ∨ x = 1 := by
  intro x hx
  obtain ⟨p, _, rfl⟩ := List.mem_map.mp hx
  have hb : 0 ≤ (d.fdiv (2 ^ p)).fmod 2 ∧ (d.fdiv (2 ^ p)).fmod 2 < 2 := fmod_bd (n := 2) (by decide)
  omega
theorem news_pull {h₀ h : Heap} {L : Addr} {l1 l2 : List (Addr × Obj)} {x : Addr × Obj} (N : News h₀ L h (l1 ++ x :: l2)) : News h₀ L h (x :: (l1 ++ l2)) := fun p hp => N p (by
  rcases List.mem_cons.mp hp with rfl | hp
  · exact List.mem_append_right _ List.mem_cons_self
  · rcases List.mem_append.mp hp with hp | hp
    · exact List.mem_append_left _ hp
    · exact List.mem_append_right _ (List.mem_cons_of_mem _ hp))
theorem fl_mem {led : List (Addr × Obj)} (h : led.all (fun p => !isFl p) = true) : ∀ p ∈ led, isFl p = false := fun p hp => by simpa using List.all_eq_true.mp h p hp
theorem st9 {w : World} {mean : ExcName → Option Value} {mg mb : Str → Option Value} {h₀ : Heap} {L fa ca : Addr} {m : Str → Option Value} {s : Shared} {Q : Flow → Shared → Prop} {E : Value → Shared → Prop} {news : List (Addr × Obj)} {c4 c7 : Obj} {D1 D2 YA TA M : Addr} {fs es : List Value} {fn en : List Int} {d : Int} {t1 ta tb ta' tb' : Tok} {X Y x y : List Nat}
    (hX : (KK w.params).In h₀) (hT : Top qv looseL mean mg mb h₀) (hF : Fr h₀ L s.heap m)
    (hm1 : m (Str.ofString "front") = some (.ref D1)) (hm2 : m (Str.ofString "end") = some (.ref D2)) (hm3 : m (Str.ofString "deed") = some (.int d t1)) (hm4 : m (Str.ofString "meant") = some (.ref M)) (hfs : IntsAre fs fn) (hes : IntsAre es en) (hfl : fn.length ≤ 2) (hel : en.length ≤ 2) (hf01 : ∀ n ∈ fn, n = 0 ∨ n = 1) (he01 : ∀ n ∈ en, n = 0 ∨ n = 1) (hd : 0 ≤ d ∧ d < 1000000)
    (hap : ∀ p ∈ (D1, PyProof.Rows.LCg.lst fs) :: (D2, PyProof.Rows.LCg.lst es) :: (L + 1 + 1 + 1 + 1 + 1 + 1 + 1, c7) :: (YA, PyProof.Rows.LCg.lst [.str (tx X) ta, .str (tx Y) tb]) :: (L + 1 + 1 + 1 + 1, c4) :: (TA, PyProof.Rows.LCg.lst [.str (tx x) ta', .str (tx y) tb']) :: news, p.1 ≠ M) (hnf : ∀ p ∈ news, isFl p = false) (hc7 : c7.data = .cell (some (.ref YA))) (hc4 : c4.data = .cell (some (.ref TA))) (hX7 : X.length ≤ 7) (hY7 : Y.length ≤ 7) (hx7 : x.length ≤ 7) (hy7 : y.length ≤ 7)
    (hpX : prepL X = x) (hpY : prepL Y = y) (hbX : ∀ c ∈ X, c < 1114112 ∧ (b3of c).length ≤ 7) (hbY : ∀ c ∈ Y, c < 1114112 ∧ (b3of c).length ≤ 7)
    (hN : News h₀ L s.heap ((M, PyProof.Rows.LCg.lst []) :: (D1, PyProof.Rows.LCg.lst fs) :: (D2, PyProof.Rows.LCg.lst es) :: (L + 1 + 1 + 1 + 1 + 1 + 1 + 1, c7) :: (YA, PyProof.Rows.LCg.lst [.str (tx X) ta, .str (tx Y) tb]) :: (L + 1 + 1 + 1 + 1, c4) :: (TA, PyProof.Rows.LCg.lst [.str (tx x) ta', .str (tx y) tb']) :: news))
    (hQ : ∀ h' tk' m' u1 u2, Fr h₀ L h' m' → (∀ z, z ≠ Str.ofString "signs" → z ≠ Str.ofString "row" → m' z = m z) → News h₀ L h' ((M, PyProof.Rows.LCg.lst [.str (tx (pickT x y (fn ++ [0] ++ bitsL (d.fdiv 3) (d.fmod 3) ++ [1, 0] ++ en))) u1, .str (tx (pickT x y (fn ++ [1] ++ bitsL (d.fdiv 36) ((d.fdiv 12).fmod 3) ++ [0, 1] ++ en))) u2]) :: (D1, PyProof.Rows.LCg.lst fs) :: (D2, PyProof.Rows.LCg.lst es) :: (L + 1 + 1 + 1 + 1 + 1 + 1 + 1, c7) :: (YA, PyProof.Rows.LCg.lst [.str (tx X) ta, .str (tx Y) tb]) :: (L + 1 + 1 + 1 + 1, c4) :: (TA, PyProof.Rows.LCg.lst [.str (tx x) ta', .str (tx y) tb']) :: news) → Q .next { s with heap := h', toks := tk' }) :
    wpAny (model PySem.Challenge.rw_uy0010_01.prog w) (lA L fa ca) (exec (lS 9) (lawE L fa (.ref ca))) Q E s := by
  revert hX
  k_fill
  intro hX
  walk_at "z lit"
  k_steps
  unfold Held
  k_dflt (refine' wpAny_For ?kfor ?khs; (case khs => (intro _; with_unfolding_all rfl)))
  have lfs : fs.length ≤ 2 := by rw [IntsAre.length hfs]; exact hfl
  have les : es.length ≤ 2 := by rw [IntsAre.length hes]; exact hel
  have a1 : d.fdiv 3 = d / 3 := Int.fdiv_eq_ediv_of_nonneg _ (by omega)
  have a2 : d.fmod 3 = d % 3 := Int.fmod_eq_emod_of_nonneg _ (by omega)
  have a3 : d.fdiv 36 = d / 36 := Int.fdiv_eq_ediv_of_nonneg _ (by omega)
  have a4 : d.fdiv 12 = d / 12 := Int.fdiv_eq_ediv_of_nonneg _ (by omega)
  have a5 : (d.fdiv 12).fmod 3 = (d / 12) % 3 := by rw [a4]; exact Int.fmod_eq_emod_of_nonneg _ (by omega)
  k_steps
  rename_i kF kN kI l1
  refine c_bits _ _ _ _ _ _ _ _ _ _ _ _ _ [] callerA h₀ h₀ L m _ _ _ below0 kF hX kN hT rfl ⟨by omega, by omega, by omega, by omega⟩ (by ktr_room) (by ktr_units) (fun B1 h1 tk1 ys1 I1 F1 N1 off1 => ?_)
  have ly1 : ys1.length ≤ 2 := by rw [IntsAre.length I1, bitsL, List.length_map, List.length_range]; omega
  have lb1 : (bitsL (d.fdiv 3) (d.fmod 3)).length ≤ 2 := by rw [← IntsAre.length I1]; exact ly1
  have lw1 := IntsAre.length kI
  rw [List.length_append, List.length_singleton] at lw1
  clear kF kN
  k_steps
  rename_i kF kN kI2 l1
  refine c_bits _ _ _ _ _ _ _ _ _ _ _ _ _ [] callerA h₀ h₀ L m _ _ _ below0 kF hX kN hT rfl ⟨by omega, by omega, by omega, by omega⟩ (by ktr_room) (by ktr_units) (fun B2 h2 tk2 ys2 I2 F2 N2 off2 => ?_)
  have ly2 : ys2.length ≤ 2 := by rw [IntsAre.length I2, bitsL, List.length_map, List.length_range]; omega
  have lb2 : (bitsL (d.fdiv 36) ((d.fdiv 12).fmod 3)).length ≤ 2 := by rw [← IntsAre.length I2]; exact ly2
  have lw2 := IntsAre.length kI2
  rw [List.length_append, List.length_singleton] at lw2
  clear kF kN
  k_steps
  rename_i kF kN l1
  unfold Held
  have b01 : ∀ d n : Int, ∀ x ∈ bitsL d n, x = 0 ∨ x = 1 := bits01
  have kN2 := news_pull (l1 := [_, _, _, _, _, _, _, _, _, _, _, _, _, _, _]) (x := (M, PyProof.Rows.LCg.lst [])) kN
  simp only [List.cons_append, List.nil_append] at kN2
  refine' rows_loop (R := fun r s' => match r with | .ok f => Q f s' | .error e => cameBackBy (model PySem.Challenge.rw_uy0010_01.prog w) (lA L fa ca) (lawE L fa (.ref ca)) E e s') (c4 := c4) (c7 := c7) hX hT kF hm4 kN2 ?q1 ?q2 ?q3 ?q4 ?q5 ?q6 ?q7 ?q8 ?q9 hc7 hc4 ?qA ?qB ?qC ?qD ?qE ?qF hX7 hY7 hx7 hy7 hpX hpY hbX hbY (fun h' tk' m' u1 u2 F' hm' N' => hQ h' tk' m' u1 u2 F' hm' (fun p hp => N' p ?qZ))
  case q3 => walk_at "my mem"
  case q4 => walk_at "my mem"
  case q5 => walk_at "my mem"
  case q6 => walk_at "my mem"
  case q7 => walk_at "my mem"
  case q8 => walk_at "my mem"
  case q9 => walk_at "my mem"
  case qA => assumption
  case qB => assumption
  case qC =>
    intro n hn
    simp only [List.mem_append, List.mem_cons, List.not_mem_nil, or_false] at hn
    rcases hn with (((hn | hn) | hn) | hn | hn) | hn
    · exact hf01 n hn
    · exact .inl hn
    · exact b01 _ _ n hn
    · exact .inr hn
    · exact .inl hn
    · exact he01 n hn
  case qD =>
    intro n hn
    simp only [List.mem_append, List.mem_cons, List.not_mem_nil, or_false] at hn
    rcases hn with (((hn | hn) | hn) | hn | hn) | hn
    · exact hf01 n hn
    · exact .inr hn
    · exact b01 _ _ n hn
    · exact .inl hn
    · exact .inr hn
    · exact he01 n hn
  case qE => simp only [List.length_append, List.length_cons, List.length_nil]; omega
  case qF => simp only [List.length_append, List.length_cons, List.length_nil]; omega
  case qZ =>
    rcases List.mem_cons.mp hp with rfl | hp
    · exact List.mem_cons_self
    · refine List.mem_cons_of_mem _ ?_
      iterate 15 refine List.mem_cons_of_mem _ ?_
      exact hp
  case q1 =>
    have hap' := hap
    intro p hp
    iterate 15
      rcases List.mem_cons.mp hp with rfl | hp
      · first | k_ne | exact Ne.symm (off1 (M, PyProof.Rows.LCg.lst []) (by walk_at "my mem")) | exact Ne.symm (off2 (M, PyProof.Rows.LCg.lst []) (by walk_at "my mem"))
    exact hap p hp
  case q2 =>
    intro p hp
    iterate 17
      rcases List.mem_cons.mp hp with rfl | hp
      · rfl
    rcases List.mem_cons.mp hp with rfl | hp
    · simp [isFl, hc7]
    rcases List.mem_cons.mp hp with rfl | hp
    · rfl
    rcases List.mem_cons.mp hp with rfl | hp
    · simp [isFl, hc4]
    rcases List.mem_cons.mp hp with rfl | hp
    · rfl
    exact hnf p hp
end
end
theorem fresh_60 : True ∧ True := by first | (walk1 <;> trivial) | exact ⟨trivial, trivial⟩
theorem fresh_61 : True ∧ True := by first | (walk1 <;> trivial) | exact ⟨trivial, trivial⟩
section
local macro_rules | `(tactic| walk_at "exec Assign cons ListComp") => `(tactic| (k_here; refine stopped ?_))
local macro_rules | `(tactic| walk_at "eval Name") => `(tactic| (k_here; (with_reducible show wpAny _ _ (eval (Expr.Name _ _) (lawE _ _ _)) _ _ _); k_dflt (refine' nameX_L ?F ?v ?_ ?a ?b; (case F => k_asm); (case a => rfl); (case b => rfl); (case v => first | with_reducible assumption | (refine (if_neg (by decide)).trans ?_; with_reducible assumption) | exact if_pos rfl); k_whole)))
local macro_rules | `(tactic| walk_at "call builtin:len") => `(tactic| (k_here; (with_reducible show wpAny _ _ (call (Value.builtin "len") [Value.str (tx _) _]) _ _ _); refine len_tx (by omega) ?_))
local macro_rules | `(tactic| walk_at "binaryOp Add str str") => `(tactic| (k_here; first
  | ((with_reducible show wpAny _ _ (binaryOp Operator.Add (Value.str (Txt.slice _ none _) _) (Value.str _ _)) _ _ _); refine add_to (by omega) (by omega) ?_; intro _ _)
  | ((with_reducible show wpAny _ _ (binaryOp Operator.Add (Value.str _ _) (Value.str (Txt.slice _ _ none) _)) _ _ _); refine add_from (by omega) (by simp only [List.length_append, List.length_take, List.length_cons, List.length_nil]; omega) (by omega) ?_; intro _ _)))
local macro_rules | `(tactic| walk_at "binaryOp Add") => `(tactic| (k_here; walk_at "binaryOp Add str str"))
theorem fresh_62 : True ∧ True := by first | (walk1 <;> trivial) | exact ⟨trivial, trivial⟩
section
open PySem PySem.W PyProof.Rows
set_option linter.unusedVariables false
set_option maxRecDepth 100000
set_option maxHeartbeats 4000000
local macro_rules | `(tactic| walk_at "z jb") => `(tactic| (conv => pattern (execs _ _); arg 1; whnf))
theorem r5 {w : World} {mean : ExcName → Option Value} {mg mb : Str → Option Value} {h₀ : Heap} {L fa ca : Addr} {m : Str → Option Value} {s : Shared} {Q : Flow → Shared → Prop} {E : Value → Shared → Prop} {news : List (Addr × Obj)} {p q : List Nat} {f g : Int} {u1 u2 u3 u4 u5 : Tok} {kz jz : Int} {u6 u7 : Tok}
    (hX : (KK w.params).In h₀) (hT : Top qv looseL mean mg mb h₀) (hF : Fr h₀ L s.heap m)
    (hmi : m (Str.ofString "mine") = some (.str (tx p) u1)) (hyo : m (Str.ofString "yours") = some (.str (tx q) u2)) (hsi : m (Str.ofString "size") = some (.int (p.length : Int) u3)) (hfo : m (Str.ofString "fore") = some (.int f u4)) (haf : m (Str.ofString "aft") = some (.int g u5)) (hp : p.length ≤ 200) (hq : q.length ≤ 200) (hk : m (Str.ofString "k") = some (.int kz u6)) (hj : m (Str.ofString "j") = some (.int jz u7))
    (hem : ∀ k j : Nat, k ≤ p.length → j ≤ p.length → emB (tx (p.take k)) (tx (p.drop (p.length - j))) (tx q) = (decide ((k : Int) ≤ f) && decide ((j : Int) ≤ g) && decide (k + j ≤ q.length)))
    (hdt : ∀ k j : Nat, (Builtin.Str.occurrences (tx (p.take k ++ [46, 46, 46] ++ p.drop j)) (Str.ofString "...") 0 (tx (p.take k ++ [46, 46, 46] ++ p.drop j)).length 1).isEmpty = false ∧ Txt.split (tx (p.take k ++ [46, 46, 46] ++ p.drop j)) (Str.ofString "...") = [tx (p.take k), tx (p.drop j)])
    (hN : News h₀ L s.heap news)
    (hQ : ∀ h' tk' m', Fr h₀ L h' m' → (∀ z, z ≠ Str.ofString "due" → m' z = m z) → News h₀ L h' news → Q .next { s with heap := h', toks := tk' }) :
    wpAny (model PySem.Challenge.rw_uy0010_01.prog w) (lA L fa ca) (execs jB (lawE L fa (.ref ca))) Q E s := by
  revert hX
  k_fill
  intro hX
  walk_at "z jb"
  k_steps
  · rename_i kF kN hsl t8 k8
    have e1 : ((p.length : Int) - jz).toNat = p.length - jz.toNat := by omega
    rw [e1]
    obtain ⟨d1, d2⟩ := hdt kz.toNat (p.length - jz.toNat)
    refine c_em _ (tx (p.take kz.toNat)) (tx (p.drop (p.length - jz.toNat))) _ _ _ _ _ _ _ _ _ _ _ _ [] callerA h₀ h₀ L _ _ _ _ below0 kF hX kN hT rfl ⟨by rw [tx_len, List.length_take]; omega, by rw [tx_len, List.length_drop]; omega, by rw [tx_len]; omega, d1, d2, by rw [tx_len]; simp only [List.length_append, List.length_cons, List.length_nil, List.length_take, List.length_drop]; omega⟩ (by ktr_room) (by ktr_units) (fun t9 h9 tk9 F9 N9 => ?_)
    clear kF kN
    rw [hem kz.toNat jz.toNat (by omega) (by omega)]
    dsimp only
    have hd : (decide (((kz.toNat : Nat) : Int) ≤ f) && decide (((jz.toNat : Nat) : Int) ≤ g) && decide (kz.toNat + jz.toNat ≤ q.length)) = decide (kz + jz ≤ (q.length : Int)) := by
      rw [decide_eq_true (by omega), decide_eq_true (by omega), Bool.true_and, Bool.true_and]; exact decide_eq_decide.mpr (by omega)
    rw [hd]
    k_steps
    · rename_i h9
      simp at h9
    · exact hQ _ _ _ F9 (fun z hz => if_neg hz) N9
  · rename_i kF kN hsl t8 k8
    have e1 : ((p.length : Int) - jz).toNat = p.length - jz.toNat := by omega
    rw [e1]
    obtain ⟨d1, d2⟩ := hdt kz.toNat (p.length - jz.toNat)
    refine c_em _ (tx (p.take kz.toNat)) (tx (p.drop (p.length - jz.toNat))) _ _ _ _ _ _ _ _ _ _ _ _ [] callerA h₀ h₀ L _ _ _ _ below0 kF hX kN hT rfl ⟨by rw [tx_len, List.length_take]; omega, by rw [tx_len, List.length_drop]; omega, by rw [tx_len]; omega, d1, d2, by rw [tx_len]; simp only [List.length_append, List.length_cons, List.length_nil, List.length_take, List.length_drop]; omega⟩ (by ktr_room) (by ktr_units) (fun t9 h9 tk9 F9 N9 => ?_)
    clear kF kN
    rw [hem kz.toNat jz.toNat (by omega) (by omega)]
    dsimp only
    have hd : (decide (((kz.toNat : Nat) : Int) ≤ f) && decide (((jz.toNat : Nat) : Int) ≤ g) && decide (kz.toNat + jz.toNat ≤ q.length)) = decide (jz ≤ g) := by
      rw [decide_eq_false (show ¬ ((jz.toNat : Nat) : Int) ≤ g by omega), Bool.and_false, Bool.false_and]; exact (decide_eq_false (by omega)).symm
    rw [hd]
    k_steps
    · rename_i h9
      simp at h9
    · exact hQ _ _ _ F9 (fun z hz => if_neg hz) N9
  · rename_i kF kN hsl t8 k8
    have e1 : ((p.length : Int) - jz).toNat = p.length - jz.toNat := by omega
    rw [e1]
    obtain ⟨d1, d2⟩ := hdt kz.toNat (p.length - jz.toNat)
    refine c_em _ (tx (p.take kz.toNat)) (tx (p.drop (p.length - jz.toNat))) _ _ _ _ _ _ _ _ _ _ _ _ [] callerA h₀ h₀ L _ _ _ _ below0 kF hX kN hT rfl ⟨by rw [tx_len, List.length_take]; omega, by rw [tx_len, List.length_drop]; omega, by rw [tx_len]; omega, d1, d2, by rw [tx_len]; simp only [List.length_append, List.length_cons, List.length_nil, List.length_take, List.length_drop]; omega⟩ (by ktr_room) (by ktr_units) (fun t9 h9 tk9 F9 N9 => ?_)
    clear kF kN
    rw [hem kz.toNat jz.toNat (by omega) (by omega)]
    dsimp only
    have hd : (decide (((kz.toNat : Nat) : Int) ≤ f) && decide (((jz.toNat : Nat) : Int) ≤ g) && decide (kz.toNat + jz.toNat ≤ q.length)) = decide (kz ≤ f) := by
      rw [decide_eq_false (show ¬ ((kz.toNat : Nat) : Int) ≤ f by omega), Bool.false_and, Bool.false_and]; exact (decide_eq_false (by omega)).symm
    rw [hd]
    k_steps
    · rename_i h9
      simp at h9
    · exact hQ _ _ _ F9 (fun z hz => if_neg hz) N9
  all_goals exact hQ _ _ _ hF (fun _ _ => rfl) hN
end
theorem fresh_63 : True ∧ True := by first | (walk1 <;> trivial) | exact ⟨trivial, trivial⟩
section
open PySem PySem.W PyProof.Rows
set_option linter.unusedVariables false
set_option maxRecDepth 100000
set_option maxHeartbeats 4000000
local macro_rules | `(tactic| walk_at "exec For") => `(tactic| (k_here; refine stopped ?_))
local macro_rules | `(tactic| walk_at "exec For Name") => `(tactic| (k_here; refine stopped ?_))
local macro_rules | `(tactic| walk_at "exec For Name Tuple") => `(tactic| (k_here; refine stopped ?_))
theorem r6 {w : World} {mean : ExcName → Option Value} {mg mb : Str → Option Value} {h₀ : Heap} {L fa ca : Addr} {m : Str → Option Value} {s : Shared} {Q : Flow → Shared → Prop} {E : Value → Shared → Prop} {news : List (Addr × Obj)} {p q : List Nat} {f g : Int} {u1 u2 u3 u4 u5 : Tok} {kz : Int} {u6 : Tok}
    (hX : (KK w.params).In h₀) (hT : Top qv looseL mean mg mb h₀) (hF : Fr h₀ L s.heap m)
    (hmi : m (Str.ofString "mine") = some (.str (tx p) u1)) (hyo : m (Str.ofString "yours") = some (.str (tx q) u2)) (hsi : m (Str.ofString "size") = some (.int (p.length : Int) u3)) (hfo : m (Str.ofString "fore") = some (.int f u4)) (haf : m (Str.ofString "aft") = some (.int g u5)) (hp : p.length ≤ 200) (hq : q.length ≤ 200) (hk : m (Str.ofString "k") = some (.int kz u6))
    (hem : ∀ k j : Nat, k ≤ p.length → j ≤ p.length → emB (tx (p.take k)) (tx (p.drop (p.length - j))) (tx q) = (decide ((k : Int) ≤ f) && decide ((j : Int) ≤ g) && decide (k + j ≤ q.length)))
    (hdt : ∀ k j : Nat, (Builtin.Str.occurrences (tx (p.take k ++ [46, 46, 46] ++ p.drop j)) (Str.ofString "...") 0 (tx (p.take k ++ [46, 46, 46] ++ p.drop j)).length 1).isEmpty = false ∧ Txt.split (tx (p.take k ++ [46, 46, 46] ++ p.drop j)) (Str.ofString "...") = [tx (p.take k), tx (p.drop j)])
    (hN : News h₀ L s.heap news)
    (hQ : ∀ h' tk' m', Fr h₀ L h' m' → (∀ z, z ≠ Str.ofString "due" → z ≠ Str.ofString "j" → m' z = m z) → News h₀ L h' news → Q .next { s with heap := h', toks := tk' }) :
    wpAny (model PySem.Challenge.rw_uy0010_01.prog w) (lA L fa ca) (exec kS (lawE L fa (.ref ca))) Q E s := by
  revert hX
  k_fill
  intro hX
  walk_at "z lit"
  k_steps
  unfold Held
  k_dflt (refine' wpAny_For ?kfor ?khs; (case khs => (intro _; with_unfolding_all rfl)))
  k_steps
  rename_i kF kN l1
  unfold Held
  have hTn := kN _ List.mem_cons_self
  have hlenN := Heap.lt_size hTn.1
  refine for_tup2 (h₀ := h₀) (L := L) (m := m) rfl rfl rfl rfl ⟨_, hTn.1, rfl, _, rfl⟩ hTn.2.1 kF kN (fun i m₁ led₁ => led₁ = _ ∧ ∀ z, z ≠ Str.ofString "due" → z ≠ Str.ofString "j" → m₁ z = m z) ⟨rfl, fun _ _ _ => rfl⟩ ?_ ?_
  · rintro i v m₁ led₁ own s₂ E' hi hv ⟨rfl, hmz⟩ F₂ N₂ hfl hown
    have hv2 : ∃ n t, v = .int n t := by
      have := Array.mem_toList_iff.mpr (Array.mem_of_getElem? hv)
      simp only [List.mem_cons, List.not_mem_nil, or_false] at this
      rcases this with rfl | rfl | rfl | rfl | rfl | rfl | rfl | rfl <;> exact ⟨_, _, rfl⟩
    obtain ⟨n, t, rfl⟩ := hv2
    refine r5 (kz := kz) (jz := n) hX hT F₂ (by show (if _ then _ else _) = _; rw [if_neg (by decide), hmz _ (by decide) (by decide)]; exact hmi) (by show (if _ then _ else _) = _; rw [if_neg (by decide), hmz _ (by decide) (by decide)]; exact hyo) (by show (if _ then _ else _) = _; rw [if_neg (by decide), hmz _ (by decide) (by decide)]; exact hsi) (by show (if _ then _ else _) = _; rw [if_neg (by decide), hmz _ (by decide) (by decide)]; exact hfo) (by show (if _ then _ else _) = _; rw [if_neg (by decide), hmz _ (by decide) (by decide)]; exact haf) hp hq (by show (if _ then _ else _) = _; rw [if_neg (by decide), hmz _ (by decide) (by decide)]; exact hk) rfl hem hdt N₂ (fun h' tk' m' F' hm' N' => ?_)
    refine ⟨rfl, h', tk', m', _, rfl, F', N', hfl, rfl, fun z hz1 hz2 => ?_⟩
    rw [hm' z hz1]
    show (if _ then _ else _) = _
    rw [if_neg hz2, hmz z hz1 hz2]
  · rintro h' tk m' led' F' N' ⟨rfl, hmz⟩ _
    exact hQ h' tk m' F' hmz (fun p hp => N' p (List.mem_cons_of_mem _ hp))

theorem st21 {w : World} {mean : ExcName → Option Value} {mg mb : Str → Option Value} {h₀ : Heap} {L fa ca : Addr} {m : Str → Option Value} {s : Shared} {Q : Flow → Shared → Prop} {E : Value → Shared → Prop} {news : List (Addr × Obj)} {p q : List Nat} {f g : Int} {u1 u2 u3 u4 u5 : Tok}
    (hX : (KK w.params).In h₀) (hT : Top qv looseL mean mg mb h₀) (hF : Fr h₀ L s.heap m)
    (hmi : m (Str.ofString "mine") = some (.str (tx p) u1)) (hyo : m (Str.ofString "yours") = some (.str (tx q) u2)) (hsi : m (Str.ofString "size") = some (.int (p.length : Int) u3)) (hfo : m (Str.ofString "fore") = some (.int f u4)) (haf : m (Str.ofString "aft") = some (.int g u5)) (hp : p.length ≤ 200) (hq : q.length ≤ 200)
    (hem : ∀ k j : Nat, k ≤ p.length → j ≤ p.length → emB (tx (p.take k)) (tx (p.drop (p.length - j))) (tx q) = (decide ((k : Int) ≤ f) && decide ((j : Int) ≤ g) && decide (k + j ≤ q.length)))
    (hdt : ∀ k j : Nat, (Builtin.Str.occurrences (tx (p.take k ++ [46, 46, 46] ++ p.drop j)) (Str.ofString "...") 0 (tx (p.take k ++ [46, 46, 46] ++ p.drop j)).length 1).isEmpty = false ∧ Txt.split (tx (p.take k ++ [46, 46, 46] ++ p.drop j)) (Str.ofString "...") = [tx (p.take k), tx (p.drop j)])
    (hN : News h₀ L s.heap news)
    (hQ : ∀ h' tk' m', Fr h₀ L h' m' → (∀ z, z ≠ Str.ofString "due" → z ≠ Str.ofString "j" → z ≠ Str.ofString "k" → m' z = m z) → News h₀ L h' news → Q .next { s with heap := h', toks := tk' }) :
    wpAny (model PySem.Challenge.rw_uy0010_01.prog w) (lA L fa ca) (exec (lS 21) (lawE L fa (.ref ca))) Q E s := by
  revert hX
  k_fill
  intro hX
  walk_at "z lit"
  k_steps
  unfold Held
  k_dflt (refine' wpAny_For ?kfor ?khs; (case khs => (intro _; with_unfolding_all rfl)))
  k_steps
  rename_i kF kN l1
  unfold Held
  have hTn := kN _ List.mem_cons_self
  have hlenN := Heap.lt_size hTn.1
  refine for_tup2 (h₀ := h₀) (L := L) (m := m) rfl rfl rfl rfl ⟨_, hTn.1, rfl, _, rfl⟩ hTn.2.1 kF kN (fun i m₁ led₁ => led₁ = _ ∧ ∀ z, z ≠ Str.ofString "due" → z ≠ Str.ofString "j" → z ≠ Str.ofString "k" → m₁ z = m z) ⟨rfl, fun _ _ _ _ => rfl⟩ ?_ ?_
  · rintro i v m₁ led₁ own s₂ E' hi hv ⟨rfl, hmz⟩ F₂ N₂ hfl hown
    have hv2 : ∃ n t, v = .int n t := by
      have := Array.mem_toList_iff.mpr (Array.mem_of_getElem? hv)
      simp only [List.mem_cons, List.not_mem_nil, or_false] at this
      rcases this with rfl | rfl | rfl | rfl | rfl | rfl | rfl <;> exact ⟨_, _, rfl⟩
    obtain ⟨n, t, rfl⟩ := hv2
    refine wpAny_execs_cons (r6 (kz := n) hX hT F₂ (by show (if _ then _ else _) = _; rw [if_neg (by decide), hmz _ (by decide) (by decide) (by decide)]; exact hmi) (by show (if _ then _ else _) = _; rw [if_neg (by decide), hmz _ (by decide) (by decide) (by decide)]; exact hyo) (by show (if _ then _ else _) = _; rw [if_neg (by decide), hmz _ (by decide) (by decide) (by decide)]; exact hsi) (by show (if _ then _ else _) = _; rw [if_neg (by decide), hmz _ (by decide) (by decide) (by decide)]; exact hfo) (by show (if _ then _ else _) = _; rw [if_neg (by decide), hmz _ (by decide) (by decide) (by decide)]; exact haf) hp hq rfl hem hdt N₂ (fun h' tk' m' F' hm' N' => ?_))
    refine wpAny_execs_nil ⟨rfl, h', tk', m', _, rfl, F', N', hfl, rfl, fun z hz1 hz2 hz3 => ?_⟩
    rw [hm' z hz1 hz2]
    show (if _ then _ else _) = _
    rw [if_neg hz3, hmz z hz1 hz2 hz3]
  · rintro h' tk m' led' F' N' ⟨rfl, hmz⟩ _
    exact hQ h' tk m' F' hmz (fun p hp => N' p (List.mem_cons_of_mem _ hp))
end
end
theorem fresh_64 : True ∧ True := by first | (walk1 <;> trivial) | exact ⟨trivial, trivial⟩
end
theorem fresh_65 : True ∧ True := by first | (walk1 <;> trivial) | exact ⟨trivial, trivial⟩
section
open PySem PySem.W PyProof.Rows
set_option linter.unusedVariables false
set_option maxRecDepth 100000
abbrev dots : Str := Str.ofString "..."
theorem dots_tx : dots = tx [46, 46, 46] := by rfl
theorem dots_len : dots.length = 3 := by rfl
theorem at_iff (l : List Nat) (i : Nat) : StrLaws.At (tx l) dots (tx l).length i ↔ i + 3 ≤ l.length ∧ (l.drop i).take 3 = [46, 46, 46] := by
  unfold StrLaws.At
  rw [StrLaws.subAt_eq, dots_len, tx_len, dots_tx, beq_iff_eq]
theorem no_at {l : List Nat} (h : ∀ c ∈ l, c ≠ 46) (i : Nat) : ¬ StrLaws.At (tx l) dots (tx l).length i := by
  rw [at_iff]
  rintro ⟨h1, h2⟩
  have : 46 ∈ (l.drop i).take 3 := by rw [h2]; simp
  exact h 46 (List.mem_of_mem_drop (List.mem_of_mem_take this)) rfl
theorem at_only {a b : List Nat} (ha : ∀ c ∈ a, c ≠ 46) (hb : ∀ c ∈ b, c ≠ 46) (i : Nat) : StrLaws.At (tx (a ++ [46, 46, 46] ++ b)) dots (tx (a ++ [46, 46, 46] ++ b)).length i ↔ i = a.length := by
  rw [at_iff]
  constructor
  · rintro ⟨h1, h2⟩
    have g : ∀ k, k < 3 → (a ++ [46, 46, 46] ++ b)[i + k]? = some 46 := by
      intro k hk
      have : ((List.drop i (a ++ [46, 46, 46] ++ b)).take 3)[k]? = some 46 := by
        rw [h2]
        rcases (by omega : k = 0 ∨ k = 1 ∨ k = 2) with rfl | rfl | rfl <;> rfl
      rw [List.getElem?_take_of_lt hk, List.getElem?_drop] at this
      exact this
    by_cases h3 : i < a.length
    · have := g 0 (by decide)
      rw [List.append_assoc, List.getElem?_append_left (by omega)] at this
      exact absurd rfl (ha _ (List.mem_of_getElem? this))
    · by_cases h4 : a.length < i
      · have := g 2 (by decide)
        rw [List.getElem?_append_right (by simp; omega)] at this
        exact absurd rfl (hb _ (List.mem_of_getElem? this))
      · omega
  · rintro rfl
    simp
theorem occ_no {l : List Nat} (h : ∀ c ∈ l, c ≠ 46) : (Builtin.Str.occurrences (tx l) dots 0 (tx l).length 1).isEmpty = true := by
  rcases StrLaws.occ_head (tx l) dots 1 (Nat.le_refl _) with ⟨e, _⟩ | ⟨i, r, _, ha, _⟩
  · rw [e]; rfl
  · exact absurd ha (no_at h i)
theorem occ_yes {a b : List Nat} (ha : ∀ c ∈ a, c ≠ 46) (hb : ∀ c ∈ b, c ≠ 46) (n : Nat) (hn : 1 ≤ n) :
    Builtin.Str.occurrences (tx (a ++ [46, 46, 46] ++ b)) dots 0 (tx (a ++ [46, 46, 46] ++ b)).length n = [a.length] := by
  obtain ⟨f, hc⟩ := StrLaws.occ_chain (tx (a ++ [46, 46, 46] ++ b)) dots n
  rcases StrLaws.occ_head (tx (a ++ [46, 46, 46] ++ b)) dots n hn with ⟨e, h⟩ | ⟨i, r, e, h, _⟩
  · exact absurd ((at_only ha hb _).mpr rfl) (h a.length)
  · have hi := (at_only ha hb i).mp h
    subst hi
    rw [e] at hc ⊢
    cases r with
    | nil => rfl
    | cons j r =>
      obtain ⟨_, _, h2, h3, _⟩ := hc
      have := (at_only ha hb j).mp h3
      rw [dots_len] at h2
      omega
theorem sub_tx (l : List Nat) (i j : Nat) : Builtin.Str.strSub (tx l) i j = tx ((l.take j).drop i) := by
  unfold Builtin.Str.strSub
  show (⟨_⟩ : Str) = ⟨_⟩
  congr 1
  apply Array.toList_inj.mp
  simp [List.drop_take]
theorem split_dots {a b : List Nat} (ha : ∀ c ∈ a, c ≠ 46) (hb : ∀ c ∈ b, c ≠ 46) : Txt.split (tx (a ++ [46, 46, 46] ++ b)) dots = [tx a, tx b] := by
  have hk : ∀ x : Str, decide (Builtin.Str.strKind x < Builtin.Str.strKind dots) = false := by
    intro x
    have e : Builtin.Str.strKind dots = 1 := by decide +kernel
    rw [e]
    unfold Builtin.Str.strKind
    refine decide_eq_false ?_
    split
    · decide
    · split <;> decide
  have hl : decide ((tx (a ++ [46, 46, 46] ++ b)).length < dots.length) = false := by
    rw [tx_len, dots_len]
    exact decide_eq_false (by simp; omega)
  unfold Txt.split
  rw [hk, hl, if_neg (by decide), occ_yes ha hb _ (by omega), if_neg (by simp)]
  show [Builtin.Str.strSub _ 0 a.length, Builtin.Str.strSub _ (a.length + dots.length) (tx (a ++ [46, 46, 46] ++ b)).length] = _
  rw [sub_tx, sub_tx, dots_len, tx_len]
  congr 1
  · simp
  · congr 1
    rw [List.take_length, show a.length + 3 = (a ++ [46, 46, 46]).length by simp, List.drop_left]
theorem dots_in {a b : List Nat} (ha : ∀ c ∈ a, c ≠ 46) (hb : ∀ c ∈ b, c ≠ 46) :
    (Builtin.Str.occurrences (tx (a ++ [46, 46, 46] ++ b)) (Str.ofString "...") 0 (tx (a ++ [46, 46, 46] ++ b)).length 1).isEmpty = false ∧ Txt.split (tx (a ++ [46, 46, 46] ++ b)) (Str.ofString "...") = [tx a, tx b] := by
  refine ⟨?_, split_dots ha hb⟩
  have := occ_yes ha hb 1 (Nat.le_refl _)
  rw [show (Str.ofString "...") = dots from rfl, this]
  rfl
theorem sw_tx (y a : List Nat) : Txt.startswith (tx y) (tx a) = decide (a <+: y) := by
  unfold Txt.startswith
  rw [StrLaws.subAt_eq, tx_len, tx_len, Nat.zero_add]
  show (decide (a.length ≤ y.length) && ((y.toArray.toList.drop 0).take a.length == a.toArray.toList)) = _
  rw [Bool.eq_iff_iff, Bool.and_eq_true, decide_eq_true_eq, decide_eq_true_eq, beq_iff_eq]
  show a.length ≤ y.length ∧ y.take a.length = a ↔ _
  constructor
  · rintro ⟨_, h⟩; exact h ▸ List.take_prefix _ _
  · intro h; exact ⟨h.length_le, (List.prefix_iff_eq_take.mp h).symm⟩
theorem ew_tx (y a : List Nat) : Txt.endswith (tx y) (tx a) = decide (a <:+ y) := by
  unfold Txt.endswith
  rw [StrLaws.subAt_eq, tx_len, tx_len, Nat.zero_add]
  show (decide (a.length ≤ y.length) && ((y.toArray.toList.drop (y.length - a.length)).take a.length == a.toArray.toList)) = _
  rw [Bool.eq_iff_iff, Bool.and_eq_true, decide_eq_true_eq, decide_eq_true_eq, beq_iff_eq]
  show a.length ≤ y.length ∧ (y.drop (y.length - a.length)).take a.length = a ↔ _
  constructor
  · rintro ⟨h1, h⟩
    rw [List.take_of_length_le (by simp; omega)] at h
    rw [← h]
    exact List.drop_suffix _ _
  · intro h
    refine ⟨h.length_le, ?_⟩
    rw [List.take_of_length_le (by simp; omega)]
    exact (List.suffix_iff_eq_drop.mp h).symm
theorem emB_tx (a b y : List Nat) : emB (tx a) (tx b) (tx y) = (decide (a <+: y) && decide (b <:+ y) && decide (a.length + b.length ≤ y.length)) := by
  unfold emB
  rw [sw_tx, ew_tx, tx_len, tx_len, tx_len]
end
section
open PySem PySem.W PyProof.Rows
set_option linter.unusedVariables false
set_option maxRecDepth 100000
def lets : List Nat := [66, 70, 73, 75, 76, 77, 78, 79]
noncomputable def okSign (p : List Nat × List Nat) : Bool := p.2.all fun c => (b3of c).cps.toList == p.1.map (· + 32) && !inB1 (c : Int) && decide (c < 1114112)
theorem ok_tab : tabN.all okSign = true := by kernel_rfl
theorem ok_alph : (lets.all fun c => (List.range 12).all fun i => okSign ([c], [(alphL.getD i 0 + (c : Int) - 65).toNat])) = true := by kernel_rfl
theorem ok_hid : ((List.range 27).all fun i => inB1 (hidL.getD i 0) && decide ((hidL.getD i 0).toNat < 1114112) && decide (0 ≤ hidL.getD i 0) && decide ((b3of (hidL.getD i 0).toNat).length ≤ 7)) = true := by kernel_rfl
theorem ways_ok {c : Nat} (hc : c ∈ lets) (word : List Nat) (d : Int) : ∀ p ∈ waysN c (c :: word) d, okSign p = true ∧ p.1 <+: c :: word := by
  intro p hp
  unfold waysN at hp
  rcases List.mem_append.mp hp with hp | hp
  · obtain ⟨h1, h2⟩ := List.mem_filter.mp hp
    exact ⟨List.all_eq_true.mp ok_tab p h1, by rw [← beq_iff_eq.mp h2]; exact List.take_prefix _ _⟩
  · rw [List.mem_singleton.mp hp]
    have hb : 0 ≤ d.fmod 12 ∧ d.fmod 12 < 12 := fmod_bd (n := 12) (by decide)
    refine ⟨List.all_eq_true.mp (List.all_eq_true.mp ok_alph c hc) (d.fmod 12).toNat (List.mem_range.mpr (by omega)), ⟨word, rfl⟩⟩
theorem prep_one {p : List Nat × List Nat} (h : okSign p = true) (h1 : p.2.length = 1) : prepL p.2 = p.1.map (· + 32) := by
  obtain ⟨a, b⟩ := p
  match b, h1 with
  | [c], _ =>
    unfold okSign at h
    simp only [List.all_cons, List.all_nil, Bool.and_true, Bool.and_eq_true, beq_iff_eq] at h
    obtain ⟨⟨h1, h2⟩, h3⟩ := h
    unfold prepL
    rw [List.filter_cons_of_pos (by simpa using h2)]
    simpa using h1
theorem sign_bd {p : List Nat × List Nat} (h : okSign p = true) (h3 : p.1.length ≤ 3) : ∀ c ∈ p.2, c < 1114112 ∧ (b3of c).length ≤ 7 := by
  intro c hc
  have := List.all_eq_true.mp h c hc
  simp only [Bool.and_eq_true, beq_iff_eq, decide_eq_true_eq] at this
  refine ⟨this.2, ?_⟩
  show (b3of c).cps.size ≤ 7
  rw [← Array.length_toList, this.1.1, List.length_map]
  omega
theorem typed_ok : ∀ (n : Nat) (word : List Nat) (d : Int), (∀ c ∈ word, c ∈ lets) → word.length ≤ n → prepL (typedN n word d) = word.map (· + 32) ∧ ∀ c ∈ typedN n word d, c < 1114112 ∧ (b3of c).length ≤ 7
  | 0, word, d, _, hl => by
    rw [List.eq_nil_of_length_eq_zero (Nat.le_zero.mp hl)]
    exact ⟨rfl, fun c hc => nomatch hc⟩
  | n + 1, [], d, _, _ => ⟨rfl, fun c hc => nomatch hc⟩
  | n + 1, c :: word, d, hw, hl => by
    have hm := pick_mem c (c :: word) d
    have hlen := ways_len c (c :: word) d _ hm
    obtain ⟨ok, ⟨t, et⟩⟩ := ways_ok (hw c List.mem_cons_self) word d _ hm
    have hdrop : (c :: word).drop (pickN c (c :: word) d).1.length = t := by
      generalize (pickN c (c :: word) d).1 = u at et ⊢
      rw [← et, List.drop_left]
    obtain ⟨i1, i2⟩ := typed_ok n t (d.fdiv 12) (fun a ha => hw a (by rw [← et]; exact List.mem_append_right _ ha)) (by have := congrArg List.length et; simp only [List.length_append, List.length_cons] at this hl; omega)
    rw [typedN, hdrop]
    constructor
    · rw [prepL_append, prep_one ok hlen.2.2, i1, ← List.map_append, et]
    · intro a ha
      rcases List.mem_append.mp ha with ha | ha
      · exact sign_bd ok hlen.2.1 a ha
      · exact i2 a ha
def lows : List Nat := [98, 102, 105, 107, 108, 109, 110, 111]
/-- a text of the law: one to six letters -/
def Good (x : List Nat) : Prop := (1 ≤ x.length ∧ x.length ≤ 6) ∧ ∀ c ∈ x, c ∈ lows
theorem lows_bd {c : Nat} (h : c ∈ lows) : 98 ≤ c ∧ c ≤ 111 := by
  have key : ∀ c ∈ lows, 98 ≤ c ∧ c ≤ 111 := by decide
  exact key c h
theorem lows_up {c : Nat} (h : c ∈ lows) : c - 32 ∈ lets := by
  have key : ∀ c ∈ lows, c - 32 ∈ lets := by decide
  exact key c h
def dg (x : List Nat) : List Nat := x.map (· - 97)
theorem dg_bd {x : List Nat} (h : ∀ c ∈ x, c ∈ lows) : ∀ d ∈ dg x, 1 ≤ d ∧ d ≤ 14 := by
  intro d hd
  obtain ⟨c, hc, rfl⟩ := List.mem_map.mp hd
  have := lows_bd (h c hc)
  omega
theorem num_val {x : List Nat} (h : ∀ c ∈ x, c ∈ lows) : numS (tx x) = (val (dg x) : Int) := by
  have key : ∀ (n : Nat) (x : List Nat), x.length = n → (∀ c ∈ x, c ∈ lows) → numZ (x.map fun (c : Nat) => (c : Int)) = (val (dg x) : Int) := by
    intro n
    induction n with
    | zero => intro x hx _; rw [List.eq_nil_of_length_eq_zero hx]; rfl
    | succ n ih =>
      intro x hx h
      rcases List.eq_nil_or_concat x with rfl | ⟨a, c, rfl⟩
      · simp at hx
      · rw [List.concat_eq_append] at hx h ⊢
        have hc := lows_bd (h c (by simp))
        have := ih a (by simpa using hx) (fun e he => h e (by simp [he]))
        have e : dg (a ++ [c]) = dg a ++ [c - 97] := by simp [dg]
        rw [List.map_append, List.map_singleton, numZ_snoc, this, e, val_snoc]
        show (val (dg a) : Int) * 16 + c - 97 = ((val (dg a) * 16 + (c - 97) : Nat) : Int)
        omega
  exact key _ x rfl h
theorem num_bd {x : List Nat} (h : Good x) : 0 ≤ numS (tx x) ∧ numS (tx x) < 16777216 := by
  rw [num_val h.2]
  have := val_lt15 (dg x) (fun d hd => (dg_bd h.2 d hd).2)
  have hl : (dg x).length ≤ 6 := by simpa [dg] using h.1.2
  have := Nat.pow_le_pow_right (n := 16) (by decide) hl
  have e : 16 ^ 6 = 16777216 := by decide
  omega
theorem ap_dg {l : List Nat} (h : ∀ c ∈ l, c ∈ lows) : (apN (val (dg l))).map (·.toNat) = l.map (· - 32) := by
  rw [ap_val _ (dg l) rfl (fun d hd => by have := dg_bd h d hd; omega), List.map_map, dg, List.map_map]
  refine List.map_congr_left fun c hc => ?_
  have := lows_bd (h c hc)
  show (UInt8.ofNat (65 + (c - 97))).toNat = c - 32
  rw [UInt8.toNat_ofNat']
  omega
theorem ap_up' {x : List Nat} (h : ∀ c ∈ x, c ∈ lows) : apL (numS (tx x)) = x.map (· - 32) := by
  unfold apL
  rw [num_val h, Int.toNat_natCast, ap_dg h]
theorem hid_ok (k : Int) : inB1 (((hidL.getD (k.fmod 27).toNat 0).toNat : Nat) : Int) = true ∧ (hidL.getD (k.fmod 27).toNat 0).toNat < 1114112 ∧ (b3of (hidL.getD (k.fmod 27).toNat 0).toNat).length ≤ 7 := by
  have hb : 0 ≤ k.fmod 27 ∧ k.fmod 27 < 27 := fmod_bd (n := 27) (by decide)
  have := List.all_eq_true.mp ok_hid (k.fmod 27).toNat (List.mem_range.mpr (by omega))
  simp only [Bool.and_eq_true, decide_eq_true_eq] at this
  obtain ⟨⟨⟨h1, h2⟩, h3⟩, h4⟩ := this
  refine ⟨?_, h2, h4⟩
  rw [Int.toNat_of_nonneg h3]
  exact h1
theorem typ_ok {x : List Nat} (h : Good x) (k : Int) : prepL (typL k (numS (tx x))) = x ∧ (∀ c ∈ typL k (numS (tx x)), c < 1114112 ∧ (b3of c).length ≤ 7) ∧ (typL k (numS (tx x))).length ≤ 7 := by
  obtain ⟨h1, h2, h3⟩ := hid_ok k
  have hu := ap_up' h.2
  obtain ⟨t1, t2⟩ := typed_ok 6 (apL (numS (tx x))) (k.fdiv 27 + numS (tx x)) (fun c hc => by
    rw [hu] at hc
    obtain ⟨a, ha, rfl⟩ := List.mem_map.mp hc
    exact lows_up (h.2 a ha)) (by rw [hu, List.length_map]; exact h.1.2)
  refine ⟨?_, ?_, ?_⟩
  · unfold typL
    rw [show ∀ (a : Nat) (l : List Nat), a :: l = [a] ++ l from fun _ _ => rfl, prepL_append, t1, hu, List.map_map]
    have e : prepL [(hidL.getD (k.fmod 27).toNat 0).toNat] = [] := by
      unfold prepL
      rw [List.filter_cons_of_neg (by rw [h1]; decide)]
      rfl
    rw [e, List.nil_append]
    refine (List.map_congr_left fun c hc => ?_).trans (List.map_id x)
    have := lows_bd (h.2 c hc)
    show c - 32 + 32 = c
    omega
  · intro c hc
    unfold typL at hc
    rcases List.mem_cons.mp hc with rfl | hc
    · exact ⟨h2, h3⟩
    · exact t2 c hc
  · unfold typL
    have := typedN_len 6 (apL (numS (tx x))) (k.fdiv 27 + numS (tx x))
    simp only [List.length_cons]
    omega
theorem cast_pow (k : Nat) : (16 : Int) ^ k = ((16 ^ k : Nat) : Int) := by rw [Int.natCast_pow]; rfl
theorem cast_pow1 (k : Nat) : (16 : Int) ^ k - 1 = ((16 ^ k - 1 : Nat) : Int) := by
  have : 1 ≤ 16 ^ k := Nat.pow_pos (by decide)
  rw [cast_pow]; omega
theorem good_ne {x : List Nat} (h : Good x) : x ≠ [] := List.length_pos_iff.mp h.1.1
theorem dg_ne {x : List Nat} (h : Good x) : dg x ≠ [] := by
  intro e
  have := h.1.1
  have e2 := congrArg List.length e
  simp [dg] at e2
  rw [e2] at this
  simp at this
theorem dg_len (x : List Nat) : (dg x).length = x.length := by simp [dg]
theorem head_val {x : List Nat} (h : Good x) (W : Nat) : headZ W (numS (tx x)) x.length = (val (dg (cyc W x)) : Int) := by
  unfold headZ
  rw [num_val h.2, cast_pow, cast_pow1, ← Int.natCast_mul, Int.fdiv_eq_ediv_of_nonneg _ (by omega), ← Int.natCast_ediv]
  have := head_nat (W := W) (dg_ne h) (fun d hd => (dg_bd h.2 d hd).2)
  rw [dg_len] at this
  rw [this, dg, cyc_map]
  rfl
theorem tail_val {x : List Nat} (h : Good x) (W : Nat) : tailZ W (numS (tx x)) x.length = (val (dg (cyc W x.reverse).reverse) : Int) := by
  unfold tailZ
  rw [num_val h.2, cast_pow1, cast_pow1, cast_pow, ← Int.natCast_mul, Int.fdiv_eq_ediv_of_nonneg _ (by omega), ← Int.natCast_ediv, Int.fmod_eq_emod_of_nonneg _ (Int.natCast_nonneg _), ← Int.natCast_emod]
  have := tail_nat' (W := W) (dg_ne h) (fun d hd => (dg_bd h.2 d hd).2)
  rw [dg_len] at this
  rw [this]
  unfold dg
  rw [← List.map_reverse, cyc_map, ← List.map_reverse]
theorem cyc_low {x : List Nat} (h : ∀ c ∈ x, c ∈ lows) (W : Nat) : ∀ c ∈ cyc W x, c ∈ lows := fun c hc => h c (cyc_mem _ _ _ hc)
theorem val_60 {l : List Nat} (h : ∀ c ∈ l, c ∈ lows) (hl : l.length ≤ 12) : 0 ≤ (val (dg l) : Int) ∧ (val (dg l) : Int) < 2 ^ 60 := by
  have := val_lt15 (dg l) (fun d hd => (dg_bd h d hd).2)
  rw [dg_len] at this
  have := Nat.pow_le_pow_right (n := 16) (by decide) hl
  have e : 16 ^ 12 = 281474976710656 := by decide
  omega
theorem head_60 {x : List Nat} (h : Good x) {W : Nat} (hW : W ≤ 12) : 0 ≤ headZ W (numS (tx x)) x.length ∧ headZ W (numS (tx x)) x.length < 2 ^ 60 := by
  rw [head_val h]
  exact val_60 (cyc_low h.2 W) (by rw [cyc_len _ _ (good_ne h)]; exact hW)
theorem rev_low {x : List Nat} (h : ∀ c ∈ x, c ∈ lows) : ∀ c ∈ x.reverse, c ∈ lows := fun c hc => h c (List.mem_reverse.mp hc)
theorem tail_low {x : List Nat} (h : Good x) (W : Nat) : ∀ c ∈ (cyc W x.reverse).reverse, c ∈ lows := rev_low (cyc_low (rev_low h.2) W)
theorem tail_60 {x : List Nat} (h : Good x) {W : Nat} (hW : W ≤ 12) : 0 ≤ tailZ W (numS (tx x)) x.length ∧ tailZ W (numS (tx x)) x.length < 2 ^ 60 := by
  rw [tail_val h]
  exact val_60 (tail_low h W) (by rw [List.length_reverse, cyc_len _ _ (rev_ne (good_ne h))]; exact hW)
theorem bytes_of {l : List Nat} (h : ∀ c ∈ l, c ∈ lows) : KBw.bInts (apB ((val (dg l) : Nat) : Int)) = l.map fun c => (((c - 32 : Nat)) : Int) := by
  unfold apB KBw.bInts
  rw [Int.toNat_natCast]
  have := congrArg (List.map fun (a : Nat) => (a : Int)) (ap_dg h)
  rw [List.map_map, List.map_map] at this
  exact this
theorem head_bytes {x : List Nat} (h : Good x) (W : Nat) : KBw.bInts (apB (headZ W (numS (tx x)) x.length)) = (cyc W x).map fun c => (((c - 32 : Nat)) : Int) := by
  rw [head_val h]
  exact bytes_of (cyc_low h.2 W)
theorem tail_bytes {x : List Nat} (h : Good x) (W : Nat) : KBw.bInts (apB (tailZ W (numS (tx x)) x.length)) = (cyc W x.reverse).reverse.map fun c => (((c - 32 : Nat)) : Int) := by
  rw [tail_val h]
  exact bytes_of (tail_low h W)
theorem runW_eq {p p' : Nat → Bool} {W : Nat} : ∀ n a, a + n ≤ W → (∀ i, i < W → p i = p' i) → runW p n a = runP p' n a
  | 0, _, _, _ => rfl
  | n + 1, a, ha, h => by
    rw [runW, runP, h a (by omega), runW_eq n (a + 1) (by omega) h]
theorem up_eq {a b : Nat} (ha : a ∈ lows) (hb : b ∈ lows) : ((((a - 32 : Nat) : Int)) == (((b - 32 : Nat) : Int))) = (a == b) := by
  have h1 := lows_bd ha
  have h2 := lows_bd hb
  rw [Bool.eq_iff_iff, beq_iff_eq, beq_iff_eq]
  omega
theorem getD_up {l : List Nat} {i : Nat} (hi : i < l.length) : (l.map fun c => (((c - 32 : Nat)) : Int)).getD i 0 = (((l.getD i 0 - 32 : Nat)) : Int) := by
  rw [List.getD_eq_getElem?_getD, List.getD_eq_getElem?_getD, List.getElem?_map, List.getElem?_eq_getElem hi]
  rfl
theorem getD_low {l : List Nat} (h : ∀ c ∈ l, c ∈ lows) {i : Nat} (hi : i < l.length) : l.getD i 0 ∈ lows := by
  rw [List.getD_eq_getElem?_getD, List.getElem?_eq_getElem hi]
  exact h _ (List.getElem_mem _)
theorem run_ahead {x y : List Nat} (hx : Good x) (hy : Good y) {W : Nat} (hW : W = x.length + y.length) :
    runW (fun a => (KBw.bInts (apB (headZ W (numS (tx x)) x.length))).getD a 0 == (KBw.bInts (apB (headZ W (numS (tx y)) y.length))).getD a 0) W 0 = ahd x y := by
  unfold ahd
  rw [← hW]
  refine runW_eq (W := W) W 0 (by omega) (fun i hi => ?_)
  have l1 := cyc_len W x (good_ne hx)
  have l2 := cyc_len W y (good_ne hy)
  rw [head_bytes hx, head_bytes hy, getD_up (by omega), getD_up (by omega)]
  exact up_eq (getD_low (cyc_low hx.2 W) (by omega)) (getD_low (cyc_low hy.2 W) (by omega))
theorem rev_getD {l : List Nat} {i : Nat} (hi : i < l.length) : l.reverse.getD (l.length - 1 - i) 0 = l.getD i 0 := by
  rw [List.getD_eq_getElem?_getD, List.getD_eq_getElem?_getD, List.getElem?_reverse (by omega)]
  congr 2
  omega
theorem run_behind {x y : List Nat} (hx : Good x) (hy : Good y) {W : Nat} (hW : W = x.length + y.length) :
    runW (fun a => (KBw.bInts (apB (tailZ W (numS (tx x)) x.length))).getD (W - 1 - a) 0 == (KBw.bInts (apB (tailZ W (numS (tx y)) y.length))).getD (W - 1 - a) 0) W 0 = ahd x.reverse y.reverse := by
  unfold ahd
  rw [List.length_reverse, List.length_reverse, ← hW]
  refine runW_eq (W := W) W 0 (by omega) (fun i hi => ?_)
  have l1 := cyc_len W x.reverse (rev_ne (good_ne hx))
  have l2 := cyc_len W y.reverse (rev_ne (good_ne hy))
  have r1 := rev_getD (l := cyc W x.reverse) (i := i) (by omega)
  have r2 := rev_getD (l := cyc W y.reverse) (i := i) (by omega)
  rw [l1] at r1
  rw [l2] at r2
  rw [tail_bytes hx, tail_bytes hy, getD_up (by rw [List.length_reverse]; omega), getD_up (by rw [List.length_reverse]; omega), r1, r2]
  exact up_eq (getD_low (cyc_low (rev_low hx.2) W) (by omega)) (getD_low (cyc_low (rev_low hy.2) W) (by omega))
theorem head_size {x : List Nat} (h : Good x) (W : Nat) : (KBw.bInts (apB (headZ W (numS (tx x)) x.length))).length = W := by
  rw [head_bytes h, List.length_map, cyc_len _ _ (good_ne h)]
theorem tail_size {x : List Nat} (h : Good x) (W : Nat) : (KBw.bInts (apB (tailZ W (numS (tx x)) x.length))).length = W := by
  rw [tail_bytes h, List.length_map, List.length_reverse, cyc_len _ _ (rev_ne (good_ne h))]
end
section
open PySem PySem.W PyProof.Rows
set_option linter.unusedVariables false
set_option maxRecDepth 100000
def letN (k : Int) : List Nat := ([[102, 105, 108], [107, 109, 98], [110, 102, 111]]).getD ((k.fdiv 54).fmod 3).toNat []
theorem let_cases (k : Int) : ((k.fdiv 54).fmod 3).toNat = 0 ∨ ((k.fdiv 54).fmod 3).toNat = 1 ∨ ((k.fdiv 54).fmod 3).toNat = 2 := by
  have hb : 0 ≤ (k.fdiv 54).fmod 3 ∧ (k.fdiv 54).fmod 3 < 3 := fmod_bd (n := 3) (by decide)
  omega
theorem lett_tx (k : Int) : lettS k = tx (letN k) := by
  unfold lettS letN
  rcases let_cases k with e | e | e <;> rw [e] <;> rfl
theorem letN_ok (k : Int) : (letN k).length = 3 ∧ ∀ c ∈ letN k, c ∈ lows := by
  unfold letN
  rcases let_cases k with e | e | e <;> rw [e] <;> decide
theorem lett_len (k : Int) : (lettS k).length = 3 := by rw [lett_tx, tx_len]; exact (letN_ok k).1
theorem good_letters {l : List Nat} (h3 : l.length = 3) (hl : ∀ c ∈ l, c ∈ lows) (d : Int) {n : Int} (hn : 1 ≤ n ∧ n ≤ 6) : Good (lettersL l d n) :=
  ⟨by rw [lettersL_len]; omega, fun c hc => hl c (lettersL_mem h3 c hc)⟩
theorem good_root {a : List Nat} (ha : 1 ≤ a.length ∧ a.length ≤ 2) (hl : ∀ c ∈ a, c ∈ lows) {n : Int} (hn : 1 ≤ n ∧ n ≤ 3) : Good (List.replicate n.toNat a).flatten := by
  refine ⟨?_, fun c hc => ?_⟩
  · rw [List.length_flatten, List.map_replicate, List.sum_replicate_nat]
    rcases (by omega : n = 1 ∨ n = 2 ∨ n = 3) with rfl | rfl | rfl
    · show 1 ≤ 1 * _ ∧ 1 * _ ≤ 6; omega
    · show 1 ≤ 2 * _ ∧ 2 * _ ≤ 6; omega
    · show 1 ≤ 3 * _ ∧ 3 * _ ≤ 6; omega
  · obtain ⟨l, h1, h2⟩ := List.mem_flatten.mp hc
    rw [(List.mem_replicate.mp h1).2] at h2
    exact hl c h2
theorem root_tx {a : List Nat} {d : Int} : rootR (tx a) d = tx (List.replicate (1 + d.fmod 3).toNat a).flatten := by
  have hb : 0 ≤ d.fmod 3 ∧ d.fmod 3 < 3 := fmod_bd (n := 3) (by decide)
  exact mul_tx (by omega)
theorem pick_cat (x y : List Nat) : ∀ ns : List Int, pickT x y ns = cat x y (ns.map fun n => decide (n = 0))
  | [] => rfl
  | n :: ns => by
    have ih := pick_cat x y ns
    unfold pickT at ih ⊢
    rw [List.map_cons, List.flatten_cons, ih, List.map_cons]
    by_cases h : n = 0
    · rw [if_pos h, decide_eq_true h]; rfl
    · rw [if_neg h, decide_eq_false h]; rfl
abbrev zs (ns : List Int) : List Bool := ns.map fun n => decide (n = 0)
theorem row_p (x y : List Nat) (f b e : List Int) : pickT x y (f ++ [0] ++ b ++ [1, 0] ++ e) = cat x y (rowP (zs f) (zs b) (zs e)) := by
  rw [pick_cat]; simp
theorem row_q (x y : List Nat) (f b e : List Int) : pickT x y (f ++ [1] ++ b ++ [0, 1] ++ e) = cat x y (rowQ (zs f) (zs b) (zs e)) := by
  rw [pick_cat]; simp
theorem pick_low {x y : List Nat} (hx : Good x) (hy : Good y) (ns : List Int) : ∀ c ∈ pickT x y ns, c ≠ 46 := by
  intro c hc e
  have := lows_bd ((pick_mem' hc).elim (hx.2 c) (hy.2 c))
  omega
theorem law_em {x y : List Nat} (hx : Good x) (hy : Good y) (f b1 b2 e : List Int) (p q : List Nat) (hp : p = pickT x y (f ++ [0] ++ b1 ++ [1, 0] ++ e)) (hq : q = pickT x y (f ++ [1] ++ b2 ++ [0, 1] ++ e)) (k j : Nat) (hk : k ≤ p.length) (hj : j ≤ p.length) :
    emB (tx (p.take k)) (tx (p.drop (p.length - j))) (tx q) = (decide ((k : Int) ≤ (foreN x y (zs f) q.length : Nat)) && decide ((j : Int) ≤ (aftN x y (zs e) q.length : Nat)) && decide (k + j ≤ q.length)) := by
  rw [emB_tx, List.length_take, List.length_drop, show min k p.length + (p.length - (p.length - j)) = k + j by omega]
  rw [row_p] at hp
  rw [row_q] at hq
  subst hp hq
  obtain ⟨h1, h2⟩ := law_kj (good_ne hx) (good_ne hy) (zs f) (zs b1) (zs b2) (zs e) k j hk hj
  congr 1
  congr 1
  · exact decide_eq_decide.mpr (h1.trans (by omega))
  · exact decide_eq_decide.mpr (h2.trans (by omega))
theorem law_same {x y : List Nat} (hx : Good x) (hy : Good y) (f b1 b2 e : List Int) : (pickT x y (f ++ [0] ++ b1 ++ [1, 0] ++ e) == pickT x y (f ++ [1] ++ b2 ++ [0, 1] ++ e)) =
    (decide (ahd x y = x.length + y.length) && decide ((pickT x y (f ++ [0] ++ b1 ++ [1, 0] ++ e)).length = (pickT x y (f ++ [1] ++ b2 ++ [0, 1] ++ e)).length)) := by
  rw [row_p, row_q]
  exact law_eq (good_ne hx) (good_ne hy) _ _ _ _
theorem law_dots {x y : List Nat} (hx : Good x) (hy : Good y) (ns : List Int) (k j : Nat) :
    (Builtin.Str.occurrences (tx ((pickT x y ns).take k ++ [46, 46, 46] ++ (pickT x y ns).drop j)) (Str.ofString "...") 0 (tx ((pickT x y ns).take k ++ [46, 46, 46] ++ (pickT x y ns).drop j)).length 1).isEmpty = false ∧
      Txt.split (tx ((pickT x y ns).take k ++ [46, 46, 46] ++ (pickT x y ns).drop j)) (Str.ofString "...") = [tx ((pickT x y ns).take k), tx ((pickT x y ns).drop j)] :=
  dots_in (fun c hc => pick_low hx hy ns c (List.mem_of_mem_take hc)) (fun c hc => pick_low hx hy ns c (List.mem_of_mem_drop hc))
theorem law_none {x y : List Nat} (hx : Good x) (hy : Good y) (ns : List Int) : (Builtin.Str.occurrences (tx (pickT x y ns)) (Str.ofString "...") 0 (tx (pickT x y ns)).length 1).isEmpty = true := occ_no (pick_low hx hy ns)
theorem good_46 {x : List Nat} (h : Good x) : ∀ c ∈ x, c ≠ 46 := fun c hc e => by
  have := lows_bd (h.2 c hc); omega
theorem law_last {x y : List Nat} (hx : Good x) (hy : Good y) : emB (tx y) (tx x) (tx (x ++ y)) = decide (ahd x y = x.length + y.length) := by
  rw [emB_tx, decide_eq_true (show y.length + x.length ≤ (x ++ y).length by rw [List.length_append]; omega), Bool.and_true, Bool.eq_iff_iff, Bool.and_eq_true, decide_eq_true_eq, decide_eq_true_eq, decide_eq_true_eq]
  exact law_xy (good_ne hx) (good_ne hy)
theorem pick_50 {x y : List Nat} (hx : Good x) (hy : Good y) {ns : List Int} (h : ns.length ≤ 9) : (pickT x y ns).length ≤ 63 := by
  have := pick_len (X := x) (Y := y) (by have := hx.1.2; omega) (by have := hy.1.2; omega) ns
  omega
theorem bits_len (d n : Int) : (bitsL d n).length = n.toNat := by rw [bitsL, List.length_map, List.length_range]
theorem bits_2 (d n : Int) : (bitsL d (n.fmod 3)).length ≤ 2 := by
  have hb : 0 ≤ n.fmod 3 ∧ n.fmod 3 < 3 := fmod_bd (n := 3) (by decide)
  rw [bits_len]; omega
end
section
open PySem PySem.W PyProof.Rows
set_option linter.unusedVariables false
set_option maxRecDepth 100000
set_option maxHeartbeats 4000000
theorem sub_cons {α : Type} {a : α} {l l' : List α} (h1 : a ∈ l') (h2 : ∀ p ∈ l, p ∈ l') : ∀ p ∈ a :: l, p ∈ l' := fun p hp => by
  rcases List.mem_cons.mp hp with rfl | hp
  · exact h1
  · exact h2 p hp
theorem sub_nil {α : Type} {l' : List α} : ∀ p ∈ ([] : List α), p ∈ l' := fun _ hp => nomatch hp
theorem ne_cons {a : Addr × Obj} {l : List (Addr × Obj)} {x : Addr} (h1 : a.1 ≠ x) (h2 : ∀ p ∈ l, p.1 ≠ x) : ∀ p ∈ a :: l, p.1 ≠ x := fun p hp => by
  rcases List.mem_cons.mp hp with rfl | hp
  · exact h1
  · exact h2 p hp
theorem ne_nil {x : Addr} : ∀ p ∈ ([] : List (Addr × Obj)), p.1 ≠ x := fun _ hp => nomatch hp
theorem fl_cons {a : Addr × Obj} {l : List (Addr × Obj)} (h1 : isFl a = false) (h2 : ∀ p ∈ l, isFl p = false) : ∀ p ∈ a :: l, isFl p = false := fun p hp => by
  rcases List.mem_cons.mp hp with rfl | hp
  · exact h1
  · exact h2 p hp
theorem fl_nil : ∀ p ∈ ([] : List (Addr × Obj)), isFl p = false := fun _ hp => nomatch hp
theorem fl_cell {a : Addr} {o : Obj} {v : Option Value} (h : o.data = .cell v) : isFl (a, o) = false := by simp [isFl, h]
theorem nsub {h₀ h : Heap} {L : Addr} {l l' : List (Addr × Obj)} (N : News h₀ L h l') (hs : ∀ p ∈ l, p ∈ l') : News h₀ L h l := fun p hp => N p (hs p hp)
/-- a list's place is no cell's -/
theorem ne_seq {h₀ h : Heap} {L : Addr} {l : List (Addr × Obj)} (N : News h₀ L h l) {a b : Addr} {o o' : Obj} {v : Option Value} (ha : (a, o) ∈ l) (hb : (b, o') ∈ l) (h1 : isSeqO (a, o) = true) (h2 : o'.data = .cell v) : a ≠ b := fun e => by
  have e1 := (N _ ha).1
  have e2 := (N _ hb).1
  dsimp only at e1 e2
  rw [e, e2] at e1
  rw [← Option.some.inj e1] at h1
  simp [isSeqO, h2] at h1
end
theorem fresh_66 : True ∧ True := by first | (walk1 <;> trivial) | exact ⟨trivial, trivial⟩
section
local macro_rules | `(tactic| walk_at "my sub") => `(tactic| repeat (first | exact sub_nil | refine sub_cons (by walk_at "my mem") ?_))
local macro_rules | `(tactic| walk_at "my ne") => `(tactic| repeat (first | exact ne_nil | refine ne_cons (by k_ne) ?_))
local macro_rules | `(tactic| walk_at "my m") => `(tactic| repeat (first | with_reducible assumption | exact if_pos rfl | refine (if_neg (by decide)).trans ?_))
theorem fresh_67 : True ∧ True := by first | (walk1 <;> trivial) | exact ⟨trivial, trivial⟩
section
open PySem PySem.W PyProof.Rows
set_option linter.unusedVariables false
set_option maxRecDepth 100000
set_option maxHeartbeats 4000000
theorem segA {w : World} {mean : ExcName → Option Value} {mg mb : Str → Option Value} {h₀ : Heap} {L fa ca la : Addr} {s : Shared} {Q : Flow → Shared → Prop} {E : Value → Shared → Prop} {R : List Stmt} {c8 c7 c6 c5 c4 c3 c2 c1 : Obj} {vs : List Value} {ns : List Int} {m : Str → Option Value}
    (hX : (KK w.params).In h₀) (hT : Top qv looseL mean mg mb h₀) (hF : Fr h₀ L s.heap m) (hla : h₀.IsList la vs.toArray) (hvs : IntsAre vs ns) (hlen : ns.length ≤ 63)
    (N : News h₀ L s.heap [(L + 1 + 1 + 1 + 1 + 1 + 1 + 1 + 1, c8), (L + 1 + 1 + 1 + 1 + 1 + 1 + 1, c7), (L + 1 + 1 + 1 + 1 + 1 + 1, c6), (L + 1 + 1 + 1 + 1 + 1, c5), (L + 1 + 1 + 1 + 1, c4), (L + 1 + 1 + 1, c3), (L + 1 + 1, c2), (L + 1, c1)])
    (hc8 : c8.data = .cell none) (hc7 : c7.data = .cell none) (hc6 : c6.data = .cell none) (hc5 : c5.data = .cell none) (hc4 : c4.data = .cell none) (hc3 : c3.data = .cell none) (hc2 : c2.data = .cell none) (hc1 : c1.data = .cell (some (.ref la)))
    (H : ∀ (h' : Heap) (tk' : Nat) (m' : Str → Option Value) (x y : List Nat) (T : Addr) (o2 o4 : Obj) (lk rw d : Int) (u1 u2 t1 t2 t3 : Tok), Good x → Good y → 0 ≤ lk ∧ lk < 1000000 → 0 ≤ rw ∧ rw < 1000000 → 0 ≤ d ∧ d < 1000000 →
      Fr h₀ L h' m' → m' (Str.ofString "rows") = some (.int rw t1) → m' (Str.ofString "deed") = some (.int d t2) → o2.data = .cell (some (.int lk t3)) → o4.data = .cell (some (.ref T)) →
      News h₀ L h' [(L + 1 + 1 + 1 + 1, o4), (T, PyProof.Rows.LCg.lst [.str (tx x) u1, .str (tx y) u2]), (L + 1 + 1, o2), (L + 1 + 1 + 1 + 1 + 1 + 1 + 1 + 1, c8), (L + 1 + 1 + 1 + 1 + 1 + 1 + 1, c7), (L + 1 + 1 + 1 + 1 + 1 + 1, c6)] →
      wpAny (model PySem.Challenge.rw_uy0010_01.prog w) (lA L fa ca) (execs R (lawE L fa (.ref ca))) Q E { s with heap := h', toks := tk' }) :
    wpAny (model PySem.Challenge.rw_uy0010_01.prog w) (lA L fa ca) (execs (lS 0 :: lS 1 :: lS 2 :: lS 3 :: R) (lawE L fa (.ref ca))) Q E s := by
  refine wpAny_execs_cons (st0 (c1 := c1) (c2 := c2) (news := [(L + 1 + 1 + 1 + 1 + 1 + 1 + 1 + 1, c8), (L + 1 + 1 + 1 + 1 + 1 + 1 + 1, c7), (L + 1 + 1 + 1 + 1 + 1 + 1, c6), (L + 1 + 1 + 1 + 1 + 1, c5), (L + 1 + 1 + 1 + 1, c4), (L + 1 + 1 + 1, c3)]) hX hT hF hla hvs hlen hc1 hc2 (by walk_at "my ne") (nsub N (by walk_at "my sub")) ?_)
  intro o2 h1 tk1 k o r rw d lk t1 t2 t3 t4 t5 t6 b1 b2 b3 b4 b5 b6 F1 N1 e2
  dsimp only
  refine wpAny_execs_cons (st1 (c3 := c3) (k := k) (t1 := t1) (news := [(L + 1 + 1 + 1 + 1 + 1 + 1 + 1 + 1, c8), (L + 1 + 1 + 1 + 1 + 1 + 1 + 1, c7), (L + 1 + 1 + 1 + 1 + 1 + 1, c6), (L + 1 + 1 + 1 + 1 + 1, c5), (L + 1 + 1 + 1 + 1, c4), (L + 1 + 1, o2)]) hX hT F1 (by walk_at "my m") (by walk_at "my ne") hc3 b1 (nsub N1 (by walk_at "my sub")) ?_)
  intro o3 h2 tk2 v1 F2 N2 e3
  dsimp only
  refine wpAny_execs_cons (st2 (c3 := o3) (c4 := c4) (lt := lettS k) (o := o) (r := r) (t1 := t2) (t2 := t3) (news := [(L + 1 + 1 + 1 + 1 + 1 + 1 + 1 + 1, c8), (L + 1 + 1 + 1 + 1 + 1 + 1 + 1, c7), (L + 1 + 1 + 1 + 1 + 1 + 1, c6), (L + 1 + 1 + 1 + 1 + 1, c5), (L + 1 + 1, o2)]) hX hT F2 (by walk_at "my m") (by walk_at "my m") (nsub N2 (by walk_at "my sub")) (by walk_at "my ne") e3 hc4 (lett_len k) b2 b3 ?_)
  intro D o4 h3 tk3 u1 u2 F3 N3 e4
  dsimp only
  have l3 := (letN_ok k).1
  have ll := (letN_ok k).2
  have f4 : ∀ a : Int, 0 ≤ a.fmod 4 ∧ a.fmod 4 < 4 := fun a => fmod_bd (n := 4) (by decide)
  have q1 := f4 o
  have q2 := f4 r
  have q3 : ∀ a : Int, 0 ≤ a.fmod 3 ∧ a.fmod 3 < 3 := fun a => fmod_bd (n := 3) (by decide)
  have q4 : 0 ≤ (k.fdiv 3).fmod 2 ∧ (k.fdiv 3).fmod 2 < 2 := fmod_bd (n := 2) (by decide)
  refine wpAny_execs_cons (st3 (c3 := o3) (c4 := o4) (c5 := c5) (k := k) (o := o) (r := r) (lt := lettS k) (t1 := t1) (t2 := t2) (t3 := t3) (news := [(D, PyProof.Rows.LCg.lst [.str (lettersS (lettS k) (o.fdiv 4) (1 + o.fmod 4)) u1, .str (lettersS (lettS k) (r.fdiv 4) (1 + r.fmod 4)) u2]), (L + 1 + 1 + 1 + 1 + 1 + 1 + 1 + 1, c8), (L + 1 + 1 + 1 + 1 + 1 + 1 + 1, c7), (L + 1 + 1 + 1 + 1 + 1 + 1, c6), (L + 1 + 1, o2)])
    hX hT F3 (by walk_at "my m") (by walk_at "my m") (by walk_at "my m") b1 b2 b3 (lett_len k) e3 e4 hc5 ?ap5 ?ap4 ?no (nsub N3 (by walk_at "my sub")) ?yes)
  case ap5 => exact ne_cons (by k_ne) (ne_cons (by k_ne) (ne_cons (ne_seq N3 (b := L + 1 + 1 + 1 + 1 + 1) (o' := c5) (by walk_at "my mem") (by walk_at "my mem") rfl hc5) (by walk_at "my ne")))
  case ap4 => exact ne_cons (by k_ne) (ne_cons (ne_seq N3 (b := L + 1 + 1 + 1 + 1) (o' := o4) (by walk_at "my mem") (by walk_at "my mem") rfl e4) (by walk_at "my ne"))
  case no =>
    intro hk h4 tk4 F4 N4
    dsimp only
    rw [lett_tx, letters_eq l3, letters_eq l3] at N4
    have g1 : Good (lettersL (letN k) (o.fdiv 4) (1 + o.fmod 4)) := good_letters l3 ll _ ⟨by omega, by omega⟩
    have g2 : Good (lettersL (letN k) (r.fdiv 4) (1 + r.fmod 4)) := good_letters l3 ll _ ⟨by omega, by omega⟩
    exact H h4 _ _ _ _ D o2 o4 lk rw d u1 u2 t4 t5 t6 g1 g2 b6 b4 b5 F4 (by walk_at "my m") (by walk_at "my m") e2 e4 (nsub N4 (by walk_at "my sub"))
  case yes =>
    intro hk D' o4' o5 h4 tk4 u3 u4 F4 N4 e4'
    dsimp only
    have g1 : Good (List.replicate (1 + o.fmod 3).toNat (lettersL (letN k) (k.fdiv 6) (1 + (k.fdiv 3).fmod 2))).flatten := good_root (by rw [lettersL_len]; omega) (fun c hc => ll c (lettersL_mem l3 c hc)) (by have := q3 o; omega)
    have g2 : Good (List.replicate (1 + r.fmod 3).toNat (lettersL (letN k) (k.fdiv 6) (1 + (k.fdiv 3).fmod 2))).flatten := good_root (by rw [lettersL_len]; omega) (fun c hc => ll c (lettersL_mem l3 c hc)) (by have := q3 r; omega)
    rw [lett_tx, letters_eq l3, root_tx, root_tx] at N4
    exact H h4 _ _ _ _ D' o2 o4' lk rw d u3 u4 t4 t5 t6 g1 g2 b6 b4 b5 F4 (by walk_at "my m") (by walk_at "my m") e2 e4' (nsub N4 (by walk_at "my sub"))
end
theorem fresh_68 : True ∧ True := by first | (walk1 <;> trivial) | exact ⟨trivial, trivial⟩
section
open PySem PySem.W PyProof.Rows
set_option linter.unusedVariables false
set_option maxRecDepth 100000
set_option maxHeartbeats 800000
theorem ne_consS {h₀ h : Heap} {L : Addr} {l l' : List (Addr × Obj)} (N : News h₀ L h l) {b : Addr} {o' : Obj} {v : Option Value} (hb : (b, o') ∈ l) (h2 : o'.data = .cell v) {a : Addr × Obj} (ha : a ∈ l) (h1 : isSeqO a = true) (hr : ∀ p ∈ l', p.1 ≠ b) : ∀ p ∈ a :: l', p.1 ≠ b :=
  ne_cons (ne_seq N ha hb h1 h2) hr
theorem segB {w : World} {mean : ExcName → Option Value} {mg mb : Str → Option Value} {h₀ : Heap} {L fa ca : Addr} {s : Shared} {Q : Flow → Shared → Prop} {E : Value → Shared → Prop} {R : List Stmt} {c8 c7 c6 c4 c2 : Obj} {m : Str → Option Value} {x y : List Nat} {T : Addr} {lk rw d : Int} {u1 u2 t1 t2 t3 : Tok}
    (hX : (KK w.params).In h₀) (hT : Top qv looseL mean mg mb h₀) (hF : Fr h₀ L s.heap m) (gx : Good x) (gy : Good y) (hlk : 0 ≤ lk ∧ lk < 1000000) (hrw : 0 ≤ rw ∧ rw < 1000000) (hm1 : m (Str.ofString "rows") = some (.int rw t1)) (hm2 : m (Str.ofString "deed") = some (.int d t2))
    (hc2 : c2.data = .cell (some (.int lk t3))) (hc4 : c4.data = .cell (some (.ref T))) (hc8 : c8.data = .cell none) (hc7 : c7.data = .cell none) (hc6 : c6.data = .cell none)
    (N : News h₀ L s.heap [(L + 1 + 1 + 1 + 1, c4), (T, PyProof.Rows.LCg.lst [.str (tx x) u1, .str (tx y) u2]), (L + 1 + 1, c2), (L + 1 + 1 + 1 + 1 + 1 + 1 + 1 + 1, c8), (L + 1 + 1 + 1 + 1 + 1 + 1 + 1, c7), (L + 1 + 1 + 1 + 1 + 1 + 1, c6)])
    (H : ∀ (h' : Heap) (tk' : Nat) (m' : Str → Option Value) (NN YA D1 D2 M : Addr) (o7 : Obj) (fs es : List Value) (u3 u4 u5 u6 : Tok), Fr h₀ L h' m' → m' (Str.ofString "front") = some (.ref D1) → m' (Str.ofString "end") = some (.ref D2) → m' (Str.ofString "meant") = some (.ref M) → m' (Str.ofString "numbers") = some (.ref NN) → m' (Str.ofString "deed") = some (.int d t2) →
      IntsAre fs (bitsL (rw.fdiv 3) (rw.fmod 3)) → IntsAre es (bitsL (rw.fdiv 36) ((rw.fdiv 12).fmod 3)) → o7.data = .cell (some (.ref YA)) →
      News h₀ L h' [(M, PyProof.Rows.LCg.lst []), (D1, PyProof.Rows.LCg.lst fs), (D2, PyProof.Rows.LCg.lst es), (L + 1 + 1 + 1 + 1 + 1 + 1 + 1, o7), (YA, PyProof.Rows.LCg.lst [.str (tx (typL lk (numS (tx x)))) u5, .str (tx (typL lk (numS (tx y)))) u6]), (L + 1 + 1 + 1 + 1, c4), (T, PyProof.Rows.LCg.lst [.str (tx x) u1, .str (tx y) u2]),
        (NN, PyProof.Rows.LCg.lst [.int (numS (tx x)) u3, .int (numS (tx y)) u4]), (L + 1 + 1 + 1 + 1 + 1 + 1 + 1 + 1, c8)] →
      (∀ p ∈ [(D1, PyProof.Rows.LCg.lst fs), (D2, PyProof.Rows.LCg.lst es), (L + 1 + 1 + 1 + 1 + 1 + 1 + 1, o7), (YA, PyProof.Rows.LCg.lst [.str (tx (typL lk (numS (tx x)))) u5, .str (tx (typL lk (numS (tx y)))) u6]), (L + 1 + 1 + 1 + 1, c4), (T, PyProof.Rows.LCg.lst [.str (tx x) u1, .str (tx y) u2]),
        (NN, PyProof.Rows.LCg.lst [.int (numS (tx x)) u3, .int (numS (tx y)) u4]), (L + 1 + 1 + 1 + 1 + 1 + 1 + 1 + 1, c8)], p.1 ≠ M) → T ≠ NN →
      wpAny (model PySem.Challenge.rw_uy0010_01.prog w) (lA L fa ca) (execs R (lawE L fa (.ref ca))) Q E { s with heap := h', toks := tk' }) :
    wpAny (model PySem.Challenge.rw_uy0010_01.prog w) (lA L fa ca) (execs (lS 4 :: lS 5 :: lS 6 :: lS 7 :: lS 8 :: R) (lawE L fa (.ref ca))) Q E s := by
  refine wpAny_execs_cons ?_
  refine (st4 (c4 := c4) (T := T) (x := tx x) (y := tx y) (t1 := u1) (t2 := u2) (news := [(L + 1 + 1, c2), (L + 1 + 1 + 1 + 1 + 1 + 1 + 1 + 1, c8), (L + 1 + 1 + 1 + 1 + 1 + 1 + 1, c7), (L + 1 + 1 + 1 + 1 + 1 + 1, c6)]) hX hT hF hc4 (by rw [tx_len]; exact gx.1.2) (by rw [tx_len]; exact gy.1.2) (nsub N (by walk_at "my sub")) ?_)
  intro NN h4 tk4 u3 u4 F4 N4 off4
  dsimp only
  have z6 : ∀ p ∈ [(NN, PyProof.Rows.LCg.lst [.int (numS (tx x)) u3, .int (numS (tx y)) u4]), (T, PyProof.Rows.LCg.lst [.str (tx x) u1, .str (tx y) u2]), (L + 1 + 1 + 1 + 1, c4), (L + 1 + 1, c2), (L + 1 + 1 + 1 + 1 + 1 + 1 + 1 + 1, c8), (L + 1 + 1 + 1 + 1 + 1 + 1 + 1, c7)], p.1 ≠ L + 1 + 1 + 1 + 1 + 1 + 1 := by
    refine ne_consS N4 (o' := c6) (by walk_at "my mem") hc6 (by walk_at "my mem") (by rfl) ?_
    refine ne_consS N4 (o' := c6) (by walk_at "my mem") hc6 (by walk_at "my mem") (by rfl) ?_
    walk_at "my ne"
  refine wpAny_execs_cons ?_
  refine (@st5 w mean mg mb h₀ L fa ca _ _ _ E ([(NN, PyProof.Rows.LCg.lst [.int (numS (tx x)) u3, .int (numS (tx y)) u4]), (T, PyProof.Rows.LCg.lst [.str (tx x) u1, .str (tx y) u2]), (L + 1 + 1 + 1 + 1, c4), (L + 1 + 1, c2), (L + 1 + 1 + 1 + 1 + 1 + 1 + 1 + 1, c8), (L + 1 + 1 + 1 + 1 + 1 + 1 + 1, c7)]) c6 _ hX hT F4
    z6 hc6 (nsub N4 (by walk_at "my sub")) ?_)
  intro HH o6 h5 tk5 hv I5 F5 N5 e6
  dsimp only
  have z7 : ∀ p ∈ [(L + 1 + 1, c2), (L + 1 + 1 + 1 + 1 + 1 + 1, o6), (HH, listOf hv.toArray 0), (NN, PyProof.Rows.LCg.lst [.int (numS (tx x)) u3, .int (numS (tx y)) u4]), (T, PyProof.Rows.LCg.lst [.str (tx x) u1, .str (tx y) u2]), (L + 1 + 1 + 1 + 1, c4), (L + 1 + 1 + 1 + 1 + 1 + 1 + 1 + 1, c8)], p.1 ≠ L + 1 + 1 + 1 + 1 + 1 + 1 + 1 := by
    refine ne_cons (by k_ne) (ne_cons (by k_ne) ?_)
    refine ne_consS N5 (o' := c7) (by walk_at "my mem") hc7 (by walk_at "my mem") (by rfl) ?_
    refine ne_consS N5 (o' := c7) (by walk_at "my mem") hc7 (by walk_at "my mem") (by rfl) ?_
    refine ne_consS N5 (o' := c7) (by walk_at "my mem") hc7 (by walk_at "my mem") (by rfl) ?_
    walk_at "my ne"
  refine wpAny_execs_cons ?_
  refine (@st6 w mean mg mb h₀ L fa ca _ _ _ E ([(T, PyProof.Rows.LCg.lst [.str (tx x) u1, .str (tx y) u2]), (L + 1 + 1 + 1 + 1, c4), (L + 1 + 1 + 1 + 1 + 1 + 1 + 1 + 1, c8)]) c2 o6 c7 HH NN hv (numS (tx x)) (numS (tx y)) lk u3 u4 t3 _ hX hT F5 (by walk_at "my m") hlk (num_bd gx) (num_bd gy) hc2 e6 hc7 I5
    z7 (nsub N5 (by walk_at "my sub")) ?_)
  intro YA o7 h6 tk6 u5 u6 F6 N6 e7
  dsimp only
  refine wpAny_execs_cons ?_
  refine (@st7 w mean mg mb h₀ L fa ca _ _ _ E ([(L + 1 + 1 + 1 + 1 + 1 + 1 + 1, o7), (YA, PyProof.Rows.LCg.lst [.str (tx (typL lk (numS (tx x)))) u5, .str (tx (typL lk (numS (tx y)))) u6]), (L + 1 + 1 + 1 + 1, c4), (T, PyProof.Rows.LCg.lst [.str (tx x) u1, .str (tx y) u2]),
        (NN, PyProof.Rows.LCg.lst [.int (numS (tx x)) u3, .int (numS (tx y)) u4]), (L + 1 + 1 + 1 + 1 + 1 + 1 + 1 + 1, c8)]) rw t1 hX hT F6 (by walk_at "my m") hrw (nsub N6 (by walk_at "my sub")) ?_)
  intro D1 D2 h7 tk7 fs es I1 I2 F7 N7 off2 off1
  dsimp only
  refine wpAny_execs_cons ?_
  refine (@st8 w mean mg mb h₀ L fa ca _ _ _ E ([(D1, PyProof.Rows.LCg.lst fs), (D2, PyProof.Rows.LCg.lst es), (L + 1 + 1 + 1 + 1 + 1 + 1 + 1, o7), (YA, PyProof.Rows.LCg.lst [.str (tx (typL lk (numS (tx x)))) u5, .str (tx (typL lk (numS (tx y)))) u6]), (L + 1 + 1 + 1 + 1, c4), (T, PyProof.Rows.LCg.lst [.str (tx x) u1, .str (tx y) u2]),
        (NN, PyProof.Rows.LCg.lst [.int (numS (tx x)) u3, .int (numS (tx y)) u4]), (L + 1 + 1 + 1 + 1 + 1 + 1 + 1 + 1, c8)]) hX hT F7 (nsub N7 (by walk_at "my sub")) ?_)
  intro M h8 tk8 F8 N8 offM
  dsimp only
  exact H h8 _ _ NN YA D1 D2 M o7 fs es u3 u4 u5 u6 F8 (by walk_at "my m") (by walk_at "my m") (by walk_at "my m") (by walk_at "my m") (by walk_at "my m") I1 I2 e7 N8 offM (off4 _ List.mem_cons_self)
end
theorem fresh_69 : True ∧ True := by first | (walk1 <;> trivial) | exact ⟨trivial, trivial⟩
section
open PySem PySem.W PyProof.Rows
set_option linter.unusedVariables false
set_option maxRecDepth 100000
set_option maxHeartbeats 1000000
theorem segC {w : World} {mean : ExcName → Option Value} {mg mb : Str → Option Value} {h₀ : Heap} {L fa ca : Addr} {s : Shared} {Q : Flow → Shared → Prop} {E : Value → Shared → Prop} {R : List Stmt} {c8 c7 c4 : Obj} {m : Str → Option Value} {x y : List Nat} {T NN YA D1 D2 M : Addr} {lk d : Int} {fs es : List Value} {fn en : List Int} {u1 u2 u3 u4 u5 u6 t2 : Tok}
    (hX : (KK w.params).In h₀) (hT : Top qv looseL mean mg mb h₀) (hE : PassesOwn (model PySem.Challenge.rw_uy0010_01.prog w) (lA L fa ca) (lawE L fa (.ref ca)) E) (hF : Fr h₀ L s.heap m) (gx : Good x) (gy : Good y) (hd : 0 ≤ d ∧ d < 1000000)
    (hm1 : m (Str.ofString "front") = some (.ref D1)) (hm2 : m (Str.ofString "end") = some (.ref D2)) (hm3 : m (Str.ofString "meant") = some (.ref M)) (hm4 : m (Str.ofString "numbers") = some (.ref NN)) (hm5 : m (Str.ofString "deed") = some (.int d t2))
    (hfs : IntsAre fs fn) (hes : IntsAre es en) (hfl : fn.length ≤ 2) (hel : en.length ≤ 2) (hf01 : ∀ n ∈ fn, n = 0 ∨ n = 1) (he01 : ∀ n ∈ en, n = 0 ∨ n = 1) (hc7 : c7.data = .cell (some (.ref YA))) (hc4 : c4.data = .cell (some (.ref T))) (hc8 : c8.data = .cell none)
    (N : News h₀ L s.heap [(M, PyProof.Rows.LCg.lst []), (D1, PyProof.Rows.LCg.lst fs), (D2, PyProof.Rows.LCg.lst es), (L + 1 + 1 + 1 + 1 + 1 + 1 + 1, c7), (YA, PyProof.Rows.LCg.lst [.str (tx (typL lk (numS (tx x)))) u5, .str (tx (typL lk (numS (tx y)))) u6]), (L + 1 + 1 + 1 + 1, c4), (T, PyProof.Rows.LCg.lst [.str (tx x) u1, .str (tx y) u2]),
        (NN, PyProof.Rows.LCg.lst [.int (numS (tx x)) u3, .int (numS (tx y)) u4]), (L + 1 + 1 + 1 + 1 + 1 + 1 + 1 + 1, c8)])
    (offM : ∀ p ∈ [(D1, PyProof.Rows.LCg.lst fs), (D2, PyProof.Rows.LCg.lst es), (L + 1 + 1 + 1 + 1 + 1 + 1 + 1, c7), (YA, PyProof.Rows.LCg.lst [.str (tx (typL lk (numS (tx x)))) u5, .str (tx (typL lk (numS (tx y)))) u6]), (L + 1 + 1 + 1 + 1, c4), (T, PyProof.Rows.LCg.lst [.str (tx x) u1, .str (tx y) u2]),
        (NN, PyProof.Rows.LCg.lst [.int (numS (tx x)) u3, .int (numS (tx y)) u4]), (L + 1 + 1 + 1 + 1 + 1 + 1 + 1 + 1, c8)], p.1 ≠ M) (hTN : T ≠ NN)
    (H : ∀ (h' : Heap) (tk' : Nat) (m' : Str → Option Value) (o8 : Obj) (v1 v2 v3 v4 v5 : Tok), Fr h₀ L h' m' → m' (Str.ofString "front") = some (.ref D1) → m' (Str.ofString "end") = some (.ref D2) → m' (Str.ofString "meant") = some (.ref M) →
      m' (Str.ofString "ahead") = some (.int ((ahd x y : Nat) : Int) v3) → m' (Str.ofString "behind") = some (.int ((ahd x.reverse y.reverse : Nat) : Int) v4) → o8.data = .cell (some (.int ((x.length + y.length : Nat) : Int) v5)) →
      News h₀ L h' [(M, PyProof.Rows.LCg.lst [.str (tx (pickT x y (fn ++ [0] ++ bitsL (d.fdiv 3) (d.fmod 3) ++ [1, 0] ++ en))) v1, .str (tx (pickT x y (fn ++ [1] ++ bitsL (d.fdiv 36) ((d.fdiv 12).fmod 3) ++ [0, 1] ++ en))) v2]), (D1, PyProof.Rows.LCg.lst fs), (D2, PyProof.Rows.LCg.lst es), (L + 1 + 1 + 1 + 1, c4), (T, PyProof.Rows.LCg.lst [.str (tx x) u1, .str (tx y) u2]), (L + 1 + 1 + 1 + 1 + 1 + 1 + 1 + 1, o8)] →
      wpAny (model PySem.Challenge.rw_uy0010_01.prog w) (lA L fa ca) (execs R (lawE L fa (.ref ca))) Q E { s with heap := h', toks := tk' }) :
    wpAny (model PySem.Challenge.rw_uy0010_01.prog w) (lA L fa ca) (execs (lS 9 :: lS 10 :: lS 11 :: lS 12 :: lS 13 :: lS 14 :: lS 15 :: R) (lawE L fa (.ref ca))) Q E s := by
  have tox := typ_ok gx lk
  have toy := typ_ok gy lk
  have lx := gx.1
  have ly := gy.1
  refine wpAny_execs_cons ?_
  refine @st9 w mean mg mb h₀ L fa ca _ s _ E [(NN, PyProof.Rows.LCg.lst [.int (numS (tx x)) u3, .int (numS (tx y)) u4]), (L + 1 + 1 + 1 + 1 + 1 + 1 + 1 + 1, c8)] c4 c7 D1 D2 YA T M fs es fn en d t2 u5 u6 u1 u2 (typL lk (numS (tx x))) (typL lk (numS (tx y))) x y
    hX hT hF hm1 hm2 hm5 hm3 hfs hes hfl hel hf01 he01 hd offM (fl_cons rfl (fl_cons (fl_cell hc8) fl_nil)) hc7 hc4 tox.2.2 toy.2.2 (by omega) (by omega) tox.1 toy.1 tox.2.1 toy.2.1 N ?_
  intro h9 tk9 m9 v1 v2 F9 hm9 N9
  dsimp only
  generalize hP : pickT x y (fn ++ [0] ++ bitsL (d.fdiv 3) (d.fmod 3) ++ [1, 0] ++ en) = P at *
  generalize hG : pickT x y (fn ++ [1] ++ bitsL (d.fdiv 36) ((d.fdiv 12).fmod 3) ++ [0, 1] ++ en) = G at *
  have n1 : m9 (Str.ofString "front") = some (.ref D1) := (hm9 _ (by decide) (by decide)).trans hm1
  have n2 : m9 (Str.ofString "end") = some (.ref D2) := (hm9 _ (by decide) (by decide)).trans hm2
  have n3 : m9 (Str.ofString "meant") = some (.ref M) := (hm9 _ (by decide) (by decide)).trans hm3
  have n4 : m9 (Str.ofString "numbers") = some (.ref NN) := (hm9 _ (by decide) (by decide)).trans hm4
  have z8 : ∀ p ∈ [(L + 1 + 1 + 1 + 1, c4), (T, PyProof.Rows.LCg.lst [.str (tx x) u1, .str (tx y) u2]), (M, PyProof.Rows.LCg.lst [.str (tx P) v1, .str (tx G) v2]), (D1, PyProof.Rows.LCg.lst fs), (D2, PyProof.Rows.LCg.lst es), (NN, PyProof.Rows.LCg.lst [.int (numS (tx x)) u3, .int (numS (tx y)) u4])], p.1 ≠ L + 1 + 1 + 1 + 1 + 1 + 1 + 1 + 1 := by
    refine ne_cons (by k_ne) ?_
    refine ne_consS N9 (o' := c8) (by walk_at "my mem") hc8 (by walk_at "my mem") (by rfl) ?_
    refine ne_consS N9 (o' := c8) (by walk_at "my mem") hc8 (by walk_at "my mem") (by rfl) ?_
    refine ne_consS N9 (o' := c8) (by walk_at "my mem") hc8 (by walk_at "my mem") (by rfl) ?_
    refine ne_consS N9 (o' := c8) (by walk_at "my mem") hc8 (by walk_at "my mem") (by rfl) ?_
    refine ne_consS N9 (o' := c8) (by walk_at "my mem") hc8 (by walk_at "my mem") (by rfl) ?_
    exact ne_nil
  refine wpAny_execs_cons ?_
  refine @st10 w mean mg mb h₀ L fa ca _ _ _ E [(M, PyProof.Rows.LCg.lst [.str (tx P) v1, .str (tx G) v2]), (D1, PyProof.Rows.LCg.lst fs), (D2, PyProof.Rows.LCg.lst es), (NN, PyProof.Rows.LCg.lst [.int (numS (tx x)) u3, .int (numS (tx y)) u4])] c4 c8 T x y u1 u2 _ hX hT F9 hc4 hc8 lx.2 ly.2 z8 (nsub N9 (by walk_at "my sub")) ?_
  intro o8 h10 tk10 v5 F10 N10 e8
  dsimp only
  have e8 : o8.data = .cell (some (.int ((x.length + y.length : Nat) : Int) v5)) := by rw [e8, Int.natCast_add]
  refine wpAny_execs_cons ?_
  refine @st11 w mean mg mb h₀ L fa ca _ _ _ E [(M, PyProof.Rows.LCg.lst [.str (tx P) v1, .str (tx G) v2]), (D1, PyProof.Rows.LCg.lst fs), (D2, PyProof.Rows.LCg.lst es)] c4 o8 T NN (numS (tx x)) (numS (tx y)) (x.length + y.length) x y u3 u4 u1 u2 v5 hX hT F10 n4 (num_bd gx) (num_bd gy) lx ly ⟨by omega, by omega⟩ hTN hc4 e8 (head_60 gx (by omega)) (head_60 gy (by omega)) (nsub N10 (by walk_at "my sub")) ?_
  intro HD h11 tk11 w3 w4 F11 N11 off11
  dsimp only
  refine wpAny_execs_cons ?_
  refine @st12 w mean mg mb h₀ L fa ca _ _ _ E [(HD, PyProof.Rows.LCg.lst [.bytes (apB (headZ (x.length + y.length) (numS (tx x)) x.length)) w3, .bytes (apB (headZ (x.length + y.length) (numS (tx y)) y.length)) w4]), (M, PyProof.Rows.LCg.lst [.str (tx P) v1, .str (tx G) v2]), (D1, PyProof.Rows.LCg.lst fs), (D2, PyProof.Rows.LCg.lst es)] c4 o8 T NN (numS (tx x)) (numS (tx y)) (x.length + y.length) x y u3 u4 u1 u2 v5 hX hT F11 (by walk_at "my m") (num_bd gx) (num_bd gy) lx ly ⟨by omega, by omega⟩ hTN hc4 e8 (tail_60 gx (by omega)) (tail_60 gy (by omega)) (nsub N11 (by walk_at "my sub")) ?_
  intro TD h12 tk12 w5 w6 F12 N12 off12
  dsimp only
  refine wpAny_execs_cons ?_
  refine @st13 w mean mg mb h₀ L fa ca _ _ _ E [(L + 1 + 1 + 1 + 1 + 1 + 1 + 1 + 1, o8), (HD, PyProof.Rows.LCg.lst [.bytes (apB (headZ (x.length + y.length) (numS (tx x)) x.length)) w3, .bytes (apB (headZ (x.length + y.length) (numS (tx y)) y.length)) w4]), (TD, PyProof.Rows.LCg.lst [.bytes (apB (tailZ (x.length + y.length) (numS (tx x)) x.length)) w5, .bytes (apB (tailZ (x.length + y.length) (numS (tx y)) y.length)) w6]), (M, PyProof.Rows.LCg.lst [.str (tx P) v1, .str (tx G) v2]), (D1, PyProof.Rows.LCg.lst fs), (D2, PyProof.Rows.LCg.lst es), (L + 1 + 1 + 1 + 1, c4), (T, PyProof.Rows.LCg.lst [.str (tx x) u1, .str (tx y) u2])] hX hT F12 (nsub N12 (by walk_at "my sub")) ?_
  intro h13 tk13 w7 w8 F13 N13
  dsimp only
  refine wpAny_execs_cons ?_
  refine @st14 w mean mg mb h₀ L fa ca _ _ _ E [(TD, PyProof.Rows.LCg.lst [.bytes (apB (tailZ (x.length + y.length) (numS (tx x)) x.length)) w5, .bytes (apB (tailZ (x.length + y.length) (numS (tx y)) y.length)) w6]), (M, PyProof.Rows.LCg.lst [.str (tx P) v1, .str (tx G) v2]), (D1, PyProof.Rows.LCg.lst fs), (D2, PyProof.Rows.LCg.lst es), (L + 1 + 1 + 1 + 1, c4), (T, PyProof.Rows.LCg.lst [.str (tx x) u1, .str (tx y) u2])] o8 HD _ _ (x.length + y.length) w3 w4 w7 v5 hX hT hE F13 (by walk_at "my m") (by walk_at "my m") e8 (head_size gx _) (head_size gy _) (by omega) N13 ?_
  intro h14 tk14 m14 w9 F14 ha14 hm14 N14
  dsimp only
  rw [run_ahead gx gy rfl] at ha14
  refine wpAny_execs_cons ?_
  refine @st15 w mean mg mb h₀ L fa ca m14 _ _ E [(M, PyProof.Rows.LCg.lst [.str (tx P) v1, .str (tx G) v2]), (D1, PyProof.Rows.LCg.lst fs), (D2, PyProof.Rows.LCg.lst es), (L + 1 + 1 + 1 + 1, c4), (T, PyProof.Rows.LCg.lst [.str (tx x) u1, .str (tx y) u2])] o8 TD _ _ (x.length + y.length) w5 w6 w8 v5 hX hT hE F14 ((hm14 _ (by decide)).trans (by walk_at "my m")) ((hm14 _ (by decide)).trans (by walk_at "my m")) e8 (tail_size gx _) (tail_size gy _) (by omega) (nsub N14 (by walk_at "my sub")) ?_
  intro h15 tk15 m15 w10 F15 ha15 hm15 N15
  dsimp only
  rw [run_behind gx gy rfl] at ha15
  exact H h15 _ m15 o8 v1 v2 w9 w10 v5 F15 ((hm15 _ (by decide)).trans ((hm14 _ (by decide)).trans (by walk_at "my m"))) ((hm15 _ (by decide)).trans ((hm14 _ (by decide)).trans (by walk_at "my m"))) ((hm15 _ (by decide)).trans ((hm14 _ (by decide)).trans (by walk_at "my m"))) ((hm15 _ (by decide)).trans ha14) ha15 e8 (nsub N15 (by walk_at "my sub"))
end
theorem fresh_70 : True ∧ True := by first | (walk1 <;> trivial) | exact ⟨trivial, trivial⟩
section
open PySem PySem.W PyProof.Rows
set_option linter.unusedVariables false
set_option maxRecDepth 100000
set_option maxHeartbeats 1000000
theorem segF {w : World} {mean : ExcName → Option Value} {mg mb : Str → Option Value} {h₀ : Heap} {L fa ca : Addr} {s : Shared} {Q : Flow → Shared → Prop} {E : Value → Shared → Prop} {c8 c4 : Obj} {m : Str → Option Value} {x y : List Nat} {T : Addr} {fn en b1 b2 : List Int} {P G : List Nat} {u1 u2 v1 v2 v3 v5 v6 v7 v8 : Tok}
    (hX : (KK w.params).In h₀) (hT : Top qv looseL mean mg mb h₀) (hF : Fr h₀ L s.heap m) (gx : Good x) (gy : Good y) (hP : P = pickT x y (fn ++ [0] ++ b1 ++ [1, 0] ++ en)) (hG : G = pickT x y (fn ++ [1] ++ b2 ++ [0, 1] ++ en)) (lP : P.length ≤ 63) (lG : G.length ≤ 63)
    (hmi : m (Str.ofString "mine") = some (.str (tx P) v1)) (hyo : m (Str.ofString "yours") = some (.str (tx G) v2)) (hah : m (Str.ofString "ahead") = some (.int ((ahd x y : Nat) : Int) v3)) (hsi : m (Str.ofString "size") = some (.int (P.length : Int) v6))
    (hfo : m (Str.ofString "fore") = some (.int ((foreN x y (zs fn) G.length : Nat) : Int) v7)) (haf : m (Str.ofString "aft") = some (.int ((aftN x y (zs en) G.length : Nat) : Int) v8))
    (hc4 : c4.data = .cell (some (.ref T))) (hc8 : c8.data = .cell (some (.int ((x.length + y.length : Nat) : Int) v5)))
    (N : News h₀ L s.heap [(L + 1 + 1 + 1 + 1, c4), (T, PyProof.Rows.LCg.lst [.str (tx x) u1, .str (tx y) u2]), (L + 1 + 1 + 1 + 1 + 1 + 1 + 1 + 1, c8)])
    (H : ∀ (h' : Heap) (tk' : Nat) (m' : Str → Option Value), Fr h₀ L h' m' → Q (.ret (.bool true)) { s with heap := h', toks := tk' }) :
    wpAny (model PySem.Challenge.rw_uy0010_01.prog w) (lA L fa ca) (execs [lS 21, lS 22, lS 23] (lawE L fa (.ref ca))) Q E s := by
  refine wpAny_execs_cons ?_
  refine @st21 w mean mg mb h₀ L fa ca m s _ E _ P G _ _ v1 v2 v6 v7 v8 hX hT hF hmi hyo hsi hfo haf (by omega) (by omega) (fun k j hk hj => law_em gx gy fn b1 b2 en P G hP hG k j hk hj) (fun k j => by rw [hP]; exact law_dots gx gy _ k j) N ?_
  intro h21 tk21 m21 F21 hm21 N21
  dsimp only
  refine wpAny_execs_cons ?_
  refine @st22 w mean mg mb h₀ L fa ca m21 _ _ E [(L + 1 + 1 + 1 + 1, c4), (T, PyProof.Rows.LCg.lst [.str (tx x) u1, .str (tx y) u2])] c8 (ahd x y) (x.length + y.length) P G v3 v1 v2 v6 v5 hX hT F21 ((hm21 _ (by decide) (by decide) (by decide)).trans hah) ((hm21 _ (by decide) (by decide) (by decide)).trans hmi) ((hm21 _ (by decide) (by decide) (by decide)).trans hyo) ((hm21 _ (by decide) (by decide) (by decide)).trans hsi) (by omega) hc8
    (by rw [hP]; exact law_none gx gy _) (by rw [hP, hG]; exact law_same gx gy fn b1 b2 en) (nsub N21 (by walk_at "my sub")) ?_
  intro h22 tk22 F22 N22
  dsimp only
  have d := dots_in (good_46 gy) (good_46 gx)
  refine wpAny_execs_cons ?_
  refine @st23 w mean mg mb h₀ L fa ca m21 _ _ E [] c4 c8 T (ahd x y) (x.length + y.length) x y v3 u1 u2 v5 hX hT F22 ((hm21 _ (by decide) (by decide) (by decide)).trans hah) gx.1.2 gy.1.2 hc4 hc8 d.1 d.2 (law_last gx gy) (nsub N22 (by walk_at "my sub")) ?_
  intro h23 tk23 F23
  exact H h23 tk23 m21 F23
theorem segE {w : World} {mean : ExcName → Option Value} {mg mb : Str → Option Value} {h₀ : Heap} {L fa ca : Addr} {s : Shared} {Q : Flow → Shared → Prop} {E : Value → Shared → Prop} {c8 c4 : Obj} {m : Str → Option Value} {x y : List Nat} {T D1 D2 M : Addr} {fs es : List Value} {fn en b1 b2 : List Int} {P G : List Nat} {u1 u2 v1 v2 v3 v4 v5 : Tok}
    (hX : (KK w.params).In h₀) (hT : Top qv looseL mean mg mb h₀) (hF : Fr h₀ L s.heap m) (gx : Good x) (gy : Good y) (hP : P = pickT x y (fn ++ [0] ++ b1 ++ [1, 0] ++ en)) (hG : G = pickT x y (fn ++ [1] ++ b2 ++ [0, 1] ++ en)) (lP : P.length ≤ 63) (lG : G.length ≤ 63)
    (hm1 : m (Str.ofString "front") = some (.ref D1)) (hm2 : m (Str.ofString "end") = some (.ref D2)) (hm3 : m (Str.ofString "meant") = some (.ref M)) (hm4 : m (Str.ofString "ahead") = some (.int ((ahd x y : Nat) : Int) v3)) (hm5 : m (Str.ofString "behind") = some (.int ((ahd x.reverse y.reverse : Nat) : Int) v4))
    (hfs : IntsAre fs fn) (hes : IntsAre es en) (hfl : fn.length ≤ 2) (hel : en.length ≤ 2) (hf01 : ∀ n ∈ fn, n = 0 ∨ n = 1) (he01 : ∀ n ∈ en, n = 0 ∨ n = 1)
    (hc4 : c4.data = .cell (some (.ref T))) (hc8 : c8.data = .cell (some (.int ((x.length + y.length : Nat) : Int) v5)))
    (N : News h₀ L s.heap [(M, PyProof.Rows.LCg.lst [.str (tx P) v1, .str (tx G) v2]), (D1, PyProof.Rows.LCg.lst fs), (D2, PyProof.Rows.LCg.lst es), (L + 1 + 1 + 1 + 1, c4), (T, PyProof.Rows.LCg.lst [.str (tx x) u1, .str (tx y) u2]), (L + 1 + 1 + 1 + 1 + 1 + 1 + 1 + 1, c8)])
    (H : ∀ (h' : Heap) (tk' : Nat) (m' : Str → Option Value), Fr h₀ L h' m' → Q (.ret (.bool true)) { s with heap := h', toks := tk' }) :
    wpAny (model PySem.Challenge.rw_uy0010_01.prog w) (lA L fa ca) (execs [lS 16, lS 17, lS 18, lS 19, lS 20, lS 21, lS 22, lS 23] (lawE L fa (.ref ca))) Q E s := by
  have lx := gx.1
  have ly := gy.1
  refine wpAny_execs_cons ?_
  refine @st16 w mean mg mb h₀ L fa ca m s _ E [(D1, PyProof.Rows.LCg.lst fs), (D2, PyProof.Rows.LCg.lst es), (L + 1 + 1 + 1 + 1, c4), (T, PyProof.Rows.LCg.lst [.str (tx x) u1, .str (tx y) u2]), (L + 1 + 1 + 1 + 1 + 1 + 1 + 1 + 1, c8)] M P G v1 v2 hX hT hF hm3 N ?_
  intro h16 tk16 F16 N16
  dsimp only
  refine wpAny_execs_cons ?_
  refine @st17 w mean mg mb h₀ L fa ca _ _ _ E [(D1, PyProof.Rows.LCg.lst fs), (D2, PyProof.Rows.LCg.lst es), (L + 1 + 1 + 1 + 1, c4), (T, PyProof.Rows.LCg.lst [.str (tx x) u1, .str (tx y) u2]), (L + 1 + 1 + 1 + 1 + 1 + 1 + 1 + 1, c8)] P v1 hX hT F16 (by walk_at "my m") (by omega) (nsub N16 (by walk_at "my sub")) ?_
  intro h17 tk17 v6 F17 N17
  dsimp only
  refine wpAny_execs_cons ?_
  refine @st18 w mean mg mb h₀ L fa ca _ _ _ E [(D2, PyProof.Rows.LCg.lst es), (L + 1 + 1 + 1 + 1 + 1 + 1 + 1 + 1, c8)] c4 D1 T fs fn (ahd x y) x y u1 u2 v3 hX hT F17 (by walk_at "my m") (by walk_at "my m") hfs hf01 (by omega) (by omega) (by omega) hc4 (nsub N17 (by walk_at "my sub")) ?_
  intro h18 tk18 v7 F18 N18
  dsimp only
  refine wpAny_execs_cons ?_
  refine @st19 w mean mg mb h₀ L fa ca _ _ _ E [(L + 1 + 1 + 1 + 1 + 1 + 1 + 1 + 1, c8)] c4 D2 T es en (ahd x.reverse y.reverse) x y u1 u2 v4 hX hT F18 (by walk_at "my m") (by walk_at "my m") hes he01 (by omega) (by omega) (by omega) hc4 (nsub N18 (by walk_at "my sub")) ?_
  intro h19 tk19 v8 F19 N19
  dsimp only
  refine wpAny_execs_cons ?_
  refine @st20 w mean mg mb h₀ L fa ca _ _ _ E [(L + 1 + 1 + 1 + 1, c4), (T, PyProof.Rows.LCg.lst [.str (tx x) u1, .str (tx y) u2])] c8 (ahd x y) (x.length + y.length) G v3 v2 v5 hX hT F19 (by walk_at "my m") (by walk_at "my m") (by omega) hc8 ?no (nsub N19 (by walk_at "my sub")) ?yes
  case no =>
    intro hne h20 tk20 F20 N20
    have e1 : (((pickT x y fn).length : Int) + ((ahd x y : Nat) : Int)) = ((foreN x y (zs fn) G.length : Nat) : Int) := by
      unfold foreN
      rw [if_neg hne, pick_cat, Int.natCast_add]
    have e2 : (((pickT x y en).length : Int) + ((ahd x.reverse y.reverse : Nat) : Int)) = ((aftN x y (zs en) G.length : Nat) : Int) := by
      unfold aftN
      rw [if_neg hne, pick_cat, Int.natCast_add]
    rw [e1, e2] at F20
    exact segF hX hT F20 gx gy hP hG lP lG (by walk_at "my m") (by walk_at "my m") (by walk_at "my m") (by walk_at "my m") (by walk_at "my m") (by walk_at "my m") hc4 hc8 (nsub N20 (by walk_at "my sub")) (fun h' tk' m' F => H h' tk' m' F)
  case yes =>
    intro heq h20 tk20 v9 v10 F20 N20
    have e1 : ((G.length : Nat) : Int) = ((foreN x y (zs fn) G.length : Nat) : Int) := by
      unfold foreN
      rw [if_pos heq]
    have e2 : ((G.length : Nat) : Int) = ((aftN x y (zs en) G.length : Nat) : Int) := by
      unfold aftN
      rw [if_pos heq]
    exact segF (v7 := v9) (v8 := v10) hX hT F20 gx gy hP hG lP lG (by walk_at "my m") (by walk_at "my m") (by walk_at "my m") (by walk_at "my m") (by rw [← e1]; walk_at "my m") (by rw [← e2]; walk_at "my m") hc4 hc8 (nsub N20 (by walk_at "my sub")) (fun h' tk' m' F => H h' tk' m' F)
theorem lawBody : LawBody := by
  intro w mean mg mb h₀ fa ca la vs ns c8 c7 c6 c5 c4 c3 c2 c1 s Q E hX hT hla hvs hlen hF N hc8 hc7 hc6 hc5 hc4 hc3 hc2 hc1 hE H
  rw [body_law]
  refine segA hX hT hF hla hvs hlen N hc8 hc7 hc6 hc5 hc4 hc3 hc2 hc1 ?_
  intro hA tkA mA x y T o2 o4 lk rw d u1 u2 t1 t2 t3 gx gy hlk hrw hd FA a1 a2 e2 e4 NA
  refine segB hX hT FA gx gy hlk hrw a1 a2 e2 e4 hc8 hc7 hc6 NA ?_
  intro hB tkB mB NN YA D1 D2 M o7 fs es u3 u4 u5 u6 FB p1 p2 p3 p4 p5 I1 I2 e7 NB offM hTN
  refine segC hX hT hE FB gx gy hd p1 p2 p3 p4 p5 I1 I2 (bits_2 _ _) (bits_2 _ _) (bits01 _ _) (bits01 _ _) e7 e4 hc8 NB offM hTN ?_
  intro hC tkC mC o8 v1 v2 v3 v4 v5 FC q1 q2 q3 q4 q5 e8 NC
  have lf := bits_2 (rw.fdiv 3) rw
  have le := bits_2 (rw.fdiv 36) (rw.fdiv 12)
  have l1 := bits_2 (d.fdiv 3) d
  have l2 := bits_2 (d.fdiv 36) (d.fdiv 12)
  exact segE hX hT FC gx gy rfl rfl (pick_50 gx gy (by simp only [List.length_append, List.length_cons, List.length_nil]; omega)) (pick_50 gx gy (by simp only [List.length_append, List.length_cons, List.length_nil]; omega)) q1 q2 q3 q4 q5 I1 I2 (bits_2 _ _) (bits_2 _ _) (bits01 _ _) (bits01 _ _) e4 e8 NC (fun h' tk' m' F => H _ m' h' tk' F)
end
end
theorem fresh_71 : True ∧ True := by first | (walk1 <;> trivial) | exact ⟨trivial, trivial⟩
end Mine
end
theorem Mine.fresh_72 : True ∧ True := by first | (walk1 <;> trivial) | exact ⟨trivial, trivial⟩
section
open PySem PySem.W PyProof.Rows
set_option linter.unusedVariables false
set_option maxRecDepth 100000
set_option maxHeartbeats 4000000
namespace Mine
theorem walk_of (H : LawBody) : WalkO qv looseL (XL qv []) HK.says rw0.row.toRowW dLaw [] (fun f vs => PySem.call f vs) := by
  unfold HK
  k_fill
  intro w s₀ s₁ mg mb G Y fa o pm cd doc dV kV ho hd hcd hD hmg hg args vals as hpre hlay hrd hwl hlo
  have KX := kIn_of Y
  have X := (Ground.X G).1
  have V := (Ground.X G).2
  refine Ground.open G ?_
  intro T B D TE TW
  try (refine guard_noD D (by decide +kernel) ?_; clear D)
  obtain ⟨_, _, M⟩ := bmod_of_top T
  have TA := at_of_top T
  try (obtain ⟨_, _, he, B0⟩ := based_of_top T rfl hmg ho hd; have he' : cd = _ := he; subst he'; clear he)
  clear hmg
  wrow_args hpre hlay hrd hwl hlo
  all_goals (
    first | refine callC_kw (enter_call ?_) | refine enter_call ?_ | refine callC_kw (enter_callW ?_) | refine enter_callW ?_
    w_top on
    try refine codeAny_mono ?_ (fun _ _ g => GoodW.toG g)
    have K0 := below_caller (Top.heap T)
    w_call any ho hd hcd hD T F
    clear hd TA
    k_drop)
  rename_i l8 l7 l6 l5 l4 l3 l2 l1 N0 X0
  refine H w (ExcName.means s₀.heap) mg mb s₁.heap fa _ _ _ _ _ _ _ _ _ _ _ _ _ _ _ KX (by assumption) (by assumption) (by assumption) ?len ?fr N0 l8 l7 l6 l5 l4 l3 l2 l1 ?pass ?fin
  case len => omega
  case fr => exact (by assumption : Fr s₁.heap _ _ (bindL _ _ _))
  case pass => with_unfolding_all passes_own
  case fin =>
    intro L' m' h' tk' F
    refine goodW_bool F hg (raisesW_false ?_) ?_
    · wrow_none_raised
    · wrow_post
end Mine
end
set_option maxRecDepth 100000 in
set_option maxHeartbeats 8000000 in
theorem PySem.Challenge.cw_uy0010_01_holds : PySem.Challenge.rw_uy0010_01.Holds :=
  Mine.of_walk (Mine.walk_of Mine.lawBody)
