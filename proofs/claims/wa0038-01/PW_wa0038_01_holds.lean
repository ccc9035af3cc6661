import PyProof.Rows.All
import Wide.All
import OpenK.AllK
import Wide.FinOn
import PyProof.GenComp
import PyProof.GenQ
import PyProof.EnumMake
import PyProof.Draws
import PyProof.WalksU
import Lean
import PySem.Challenge.RW_wa0038_01
open PySem PySem.W PyProof.Rows
set_option Elab.async false
set_option maxRecDepth 100000
namespace Mine
set_option maxRecDepth 100000 in
set_option maxHeartbeats 8000000 in
open_top hd for PySem.Challenge.rw_wa0038_01
theorem topOff : True := by
  w_top off
  trivial
section
theorem plainAttrs_pat : PlainAttrs "re.Pattern" := 
  ⟨⟨"object.__getattribute__", by rw [typeLookup_type, builtinLookup_eq_fast]; kernel_rfl, by decide +kernel⟩, by rw [typeLookup_type, builtinLookup_eq_fast]; kernel_rfl⟩
theorem slot_search : Slot "re.Pattern" "search" "re.Pattern.search" :=
  .of (owner := "re.Pattern") (n := "search") (by rw [typeLookup_type, builtinLookup_eq_fast]; kernel_rfl) (by decide +kernel) (by decide +kernel) (by decide +kernel)
    (by first | exact .inl (by decide +kernel) | exact .inr (by decide +kernel)) (by rw [isSubtype_type]; kernel_rfl)
theorem type_search : typeOf (.builtin "re.Pattern.search") = pure (.type "method_descriptor") := by show builtinType _ = _; rw [builtinType_eq_fast]; kernel_rfl
theorem entry_search : entryFor table "re.Pattern.search" = some Builtin.«re.Pattern.search» := entryFor_of_tree (by kernel_rfl)
theorem args_search (a b : Value) : argsOk "re.Pattern.search" ⟨[a, b], []⟩ := by
  unfold argsOk; kernel_rfl

/-- a text without the signs that either pattern asks for -/
noncomputable def Clean (x : PySem.Str) : Prop := ∀ c ∈ x.cps.toList, 32 ≤ c ∧ c < 127

noncomputable def cName : Array Nat := #[14, 10, 4, 1, 1, 22, 0, 31, 16, 127, 0, 13, 7, 22, 0, 31, 16, 127, 0, 1]
noncomputable def cVal : Array Nat := #[14, 14, 4, 1, 1, 9, 4294966783, 0, 0, 2147483648, 0, 0, 0, 0, 0, 13, 11, 9, 4294966783, 0, 0, 2147483648, 0, 0, 0, 0, 0, 1]

theorem inSet_name {c : Nat} (h1 : 32 ≤ c) (h2 : c < 127) (seen : Sre.Seen) : ∃ seen', Sre.inSet cName c cName.size 5 true seen = .ok (false, seen') := by
  have e1 : (decide (0 ≤ c) && decide (c ≤ 31)) = false := by simp; omega
  have e2 : (c == 127) = false := by simp; omega
  refine ⟨((seen.add 22).add 16).add 0, ?_⟩
  show (if (decide (0 ≤ c) && decide (c ≤ 31)) = true then _ else (if (c == 127) = true then _ else _)) = _
  rw [e1, e2]
  rfl
theorem inSet_val {c : Nat} (h1 : 32 ≤ c) (h2 : c < 127) (seen : Sre.Seen) : ∃ seen', Sre.inSet cVal c cVal.size 5 true seen = .ok (false, seen') := by
  have e : ∀ d : Fin 127, 32 ≤ d.val → (decide (d.val < 256) && (cVal.getD (5 + (1 + d.val / 32)) 0).testBit (d.val % 32)) = false := by decide +kernel
  have e1 := e ⟨c, h2⟩ h1
  refine ⟨(seen.add 9).add 0, ?_⟩
  show (if (decide (c < 256) && (cVal.getD (5 + (1 + c / 32)) 0).testBit (c % 32)) = true then _ else _) = _
  rw [e1]
  rfl

theorem admitted_none (m : Sre.M) (hset : ∀ c seen, 32 ≤ c → c < 127 → ∃ seen', Sre.inSet m.code c m.code.size 5 true seen = .ok (false, seen'))
    (ht : ∀ c ∈ m.text.toList, 32 ≤ c ∧ c < 127) (hl : m.lim ≤ m.text.size) : ∀ fuel k seen, ∃ seen', Sre.M.admitted m fuel k seen = .ok (none, seen')
  | 0, _, seen => ⟨seen, rfl⟩
  | fuel + 1, k, seen => by
    unfold Sre.M.admitted
    by_cases h : k ≥ m.lim
    · exact ⟨seen, by rw [if_pos h]⟩
    · rw [if_neg h]
      have hk : k < m.text.size := by omega
      have hc := ht (m.text.getD k 0) (by simp [Array.getD, hk])
      obtain ⟨s1, e1⟩ := hset _ seen hc.1 hc.2
      obtain ⟨s2, e2⟩ := admitted_none m hset ht hl fuel (k + 1) s1
      exact ⟨s2, by rw [e1]; exact e2⟩

theorem wp_rules {prog : Program} {w : World} {A : Around} {E : Value → Shared → Prop} {s : Shared} {Q : PUnit → Shared → Prop} (p : Nat → Bool) (f : Nat → String) :
    ∀ (l : List Nat), Q ⟨⟩ s → wpAny (model prog w) A (forIn l PUnit.unit fun i _ => do
      if p i then rule (f i)
      pure (ForInStep.yield PUnit.unit)) Q E s
  | [], h => by simpa using wpAny_pure h
  | i :: l, h => by
    rw [List.forIn_cons]
    refine wpAny_bind ?_
    cases hp : p i with
    | true => exact wpAny_bind (wpAny_rule (wpAny_pure (wp_rules p f l h)))
    | false => exact wpAny_pure (wp_rules p f l h)

theorem run_failed {prog : Program} {w : World} {A : Around} {E : Value → Shared → Prop} {s : Shared} {Q : Option Sre.M → Shared → Prop} (m : Sre.M) (ha : m.answer = some false) (hf : m.frames = []) (ho : m.outcome = none) (h : Q none s) :
    wpAny (model prog w) A (Builtin.Re.reRunToEnd m) Q E s := by
  have e1 : m.runFor Builtin.Re.reTurnSteps = { m with outcome := some .failed } := by
    have hs : m.step = { m with outcome := some .failed } := by
      unfold Sre.M.step
      rw [ho, ha, hf]
      rfl
    show Sre.M.runFor 4 m = _
    unfold Sre.M.runFor
    rw [ho, hs]
    rfl
  have e2 : ∀ n, Builtin.Re.reDrive (n + 1) m = pure { m with outcome := some .failed } := by
    intro n
    unfold Builtin.Re.reDrive
    rw [e1]
    rfl
  unfold Builtin.Re.reRunToEnd
  have e3 : (2 : Nat) ^ 64 = (2 ^ 64 - 1) + 1 := by decide
  rw [e3, e2]
  refine wpAny_bind (wpAny_pure ?_)
  refine wpAny_bind (wp_rules _ _ _ ?_)
  exact wpAny_pure h
theorem attemptFrom_none (m : Sre.M) (k : Nat) (b : Bool) (hfs : m.hasFirstSet = true) (hset : ∀ c seen, 32 ≤ c → c < 127 → ∃ seen', Sre.inSet m.code c m.code.size 5 true seen = .ok (false, seen'))
    (ht : ∀ c ∈ m.text.toList, 32 ≤ c ∧ c < 127) (hl : m.lim ≤ m.text.size) : ∃ seen', m.attemptFrom k b = { m with seen := seen' }.say false := by
  obtain ⟨s', e⟩ := admitted_none m hset ht hl (m.lim + 1 - k) k m.seen
  refine ⟨s', ?_⟩
  unfold Sre.M.attemptFrom
  rw [hfs, e]
  rfl
theorem ends_none (m : Sre.M) (hfs : m.hasFirstSet = true) (hset : ∀ c seen, 32 ≤ c → c < 127 → ∃ seen', Sre.inSet m.code c m.code.size 5 true seen = .ok (false, seen'))
    (ht : ∀ c ∈ m.text.toList, 32 ≤ c ∧ c < 127) (hl : m.lim ≤ m.text.size) {k : Nat} {b : Bool} (ho : m.outcome = none := by rfl) (hfr : m.frames = [] := by rfl) : (m.attemptFrom k b).answer = some false ∧ (m.attemptFrom k b).frames = [] ∧ (m.attemptFrom k b).outcome = none := by
  obtain ⟨s', e⟩ := attemptFrom_none m k b hfs hset ht hl
  rw [e]
  exact ⟨rfl, hfr, ho⟩
theorem search_failed {code : Array Nat} {x : PySem.Str} (hx : Clean x) (hset : ∀ c seen, 32 ≤ c → c < 127 → ∃ seen', Sre.inSet code c code.size 5 true seen = .ok (false, seen'))
    (hf : ∀ m : Sre.M, m.code = code → m.hasFirstSet = true) : 
    (Sre.forSearch code x.cps 0 0 (min (2 ^ 63 - 1) x.cps.size) false).answer = some false ∧ (Sre.forSearch code x.cps 0 0 (min (2 ^ 63 - 1) x.cps.size) false).frames = [] ∧ (Sre.forSearch code x.cps 0 0 (min (2 ^ 63 - 1) x.cps.size) false).outcome = none := by
  unfold Sre.forSearch
  dsimp only
  split
  · exact ⟨rfl, rfl, rfl⟩
  · refine ends_none _ ?_ ?_ ?_ ?_
    · exact hf _ rfl
    · exact hset
    · exact hx
    · exact Nat.min_le_right _ _

noncomputable def patObj (src : PySem.Str) (t1 t2 : Tok) (ta : Addr) : Obj := { cls := .type "re.Pattern", data := .fields #[.str src t1, .int 32 t2, .int 0 0, .none, .none, .ref ta, .int 0 0] }
theorem meets_search {code : Array Nat} {x : PySem.Str} {pa ta : Addr} {tk : Tok} {src : PySem.Str} {t1 t2 : Tok} {items : Array Value} (hx : Clean x) (hset : ∀ c seen, 32 ≤ c → c < 127 → ∃ seen', Sre.inSet code c code.size 5 true seen = .ok (false, seen'))
    (hf : ∀ m : Sre.M, m.code = code → m.hasFirstSet = true) (hi : (items.map Builtin.Re.reRawOf).map (·.toNat) = code) :
    Meets (Builtin.«re.Pattern.search» ⟨[.ref pa, .str x tk], []⟩) (fun _ R s => s.heap.get? pa = some (patObj src t1 t2 ta) ∧ s.heap.get? ta = some { cls := .type "tuple", data := .seq items } ∧ R (.ok (.ret .none)) s) := by
  refine .of_wp fun prog w A R s hS => ?_
  obtain ⟨h1, h2, h⟩ := hS
  have hnm : Builtin.Re.reNamed "re.Pattern.search" "search" ["string", "pos", "endpos"] 1 [.str x tk] [] = pure [some (.str x tk), none, none] := by rfl
  unfold Builtin.«re.Pattern.search»
  refine wpAny_bind ?_
  unfold Builtin.Re.reTarget
  dsimp only
  rw [hnm]
  refine wpAny_bind (wpAny_pure ?_)
  dsimp only
  refine wpAny_bind (wpAny_pure (wpAny_bind (wpAny_pure ?_)))
  refine wpAny_bind (wpAny_fieldsOf h1 rfl ?_)
  have htx : Builtin.Re.reTextOf (.str x tk) = pure (x.cps, 0) := by rfl
  rw [htx]
  refine wpAny_bind (wpAny_pure ?_)
  show wpAny _ _ (Builtin.Re.reNoCollectionInside (.str x tk) 0 >>= fun _ => Builtin.Re.reRawItems (.ref ta) >>= fun r => pure ({ pattern := .ref pa, string := .str x tk, code := r.map (·.toNat), text := x.cps, kind := 0, groups := 0, pos := 0, lim := min (2 ^ 63 - 1) x.cps.size } : Builtin.Re.ReTarget)) _ _ s
  have e0 : Builtin.Re.reNoCollectionInside (.str x tk) 0 = pure () := by rfl
  rw [e0]
  refine wpAny_bind (wpAny_pure ?_)
  unfold Builtin.Re.reRawItems
  refine wpAny_bind (wpAny_bind (wpAny_seqItems h2 rfl (wpAny_pure (wpAny_pure ?_))))
  show wpAny _ _ (Builtin.Re.reRunToEnd (Sre.forSearch ((items.map Builtin.Re.reRawOf).map (·.toNat)) x.cps 0 0 (min (2 ^ 63 - 1) x.cps.size) false) >>= _) _ _ s
  rw [hi]
  obtain ⟨k1, k2, k3⟩ := search_failed hx hset hf
  refine wpAny_bind (run_failed _ k1 k2 k3 ?_)
  exact wpAny_pure ⟨_, rfl, h⟩

section
variable {prog : Program} {w : World} {A : Around} {E : Value → Shared → Prop} {s : Shared} {pa ta : Addr} {tk : Tok} {src x : PySem.Str} {t1 t2 : Tok}
theorem method_search {pl : Sem Bool} {Q : Value × List Value → Shared → Prop} (h1 : s.heap.get? pa = some (patObj src t1 t2 ta)) (h : Q (.builtin "re.Pattern.search", [.ref pa]) s) :
    wpAny (model prog w) A (getMethod (.ref pa) "search" pl) Q E s :=
  getMethod_builtin ⟨_, h1, rfl⟩ plainAttrs_pat slot_search type_search (fun a e => by cases e; exact ⟨_, h1, rfl⟩) h

noncomputable def nameItems : Array Value := #[.int 14 0, .int 10 0, .int 4 0, .int 1 0, .int 1 0, .int 22 0, .int 0 0, .int 31 0, .int 16 0, .int 127 0, .int 0 0, .int 13 0, .int 7 0, .int 22 0, .int 0 0, .int 31 0, .int 16 0, .int 127 0, .int 0 0, .int 1 0]
noncomputable def valItems : Array Value := #[.int 14 0, .int 14 0, .int 4 0, .int 1 0, .int 1 0, .int 9 0, .int 4294966783 0, .int 0 0, .int 0 0, .int 2147483648 0, .int 0 0, .int 0 0, .int 0 0, .int 0 0, .int 0 0, .int 13 0, .int 11 0, .int 9 0, .int 4294966783 0, .int 0 0, .int 0 0, .int 2147483648 0, .int 0 0, .int 0 0, .int 0 0, .int 0 0, .int 0 0, .int 1 0]
theorem search_name {Q : Value → Shared → Prop} (hx : Clean x) (h1 : s.heap.get? pa = some (patObj src t1 t2 ta)) (h2 : s.heap.get? ta = some { cls := .type "tuple", data := .seq nameItems }) (h : Q .none s) :
    wpAny (model prog w) A (call (.builtin "re.Pattern.search") [.ref pa, .str x tk]) Q E s :=
  call_meets slot_search ⟨_, h1, rfl⟩ entry_search (args_search _ _) (meets_search (code := cName) hx (fun c seen a b => inSet_name a b seen) (fun m e => by unfold Sre.M.hasFirstSet; rw [e]; rfl) (by decide +kernel)) ⟨h1, h2, h⟩
theorem search_val {Q : Value → Shared → Prop} (hx : Clean x) (h1 : s.heap.get? pa = some (patObj src t1 t2 ta)) (h2 : s.heap.get? ta = some { cls := .type "tuple", data := .seq valItems }) (h : Q .none s) :
    wpAny (model prog w) A (call (.builtin "re.Pattern.search") [.ref pa, .str x tk]) Q E s :=
  call_meets slot_search ⟨_, h1, rfl⟩ entry_search (args_search _ _) (meets_search (code := cVal) hx (fun c seen a b => inSet_val a b seen) (fun m e => by unfold Sre.M.hasFirstSet; rw [e]; rfl) (by decide +kernel)) ⟨h1, h2, h⟩
end
end
noncomputable abbrev LO : List PySem.Str := looseW hd.view_39 [PySem.Str.ofString "_name_disallowed_re", PySem.Str.ofString "_value_disallowed_re"]
theorem in_get {K : Frag} {h : Heap} {a : Addr} {o : Obj} (X : K.In h) (e : K.lookup a = some o) : h.get? a = some o := X _ _ e
noncomputable abbrev hdrE (w : World) (tk : Tok) (l : Addr) : DictEntry := { hash := PyData.keyHash w.params (PySem.Str.ofString "_headers"), key := Value.str (PySem.Str.ofString "_headers") tk, val := Value.ref l }
noncomputable abbrev tup2 (k v : PySem.Str) (t1 t2 : Tok) : Obj := { cls := .type "tuple", data := .seq #[.str k t1, .str v t2] }
noncomputable def PairsAre (news : List (Addr × Obj)) (its : List Value) (ps : List (PySem.Str × PySem.Str)) : Prop :=
  its.length = ps.length ∧ ∀ (i : Nat) (k v : PySem.Str), ps[i]? = some (k, v) → ∃ (a : Addr) (t1 t2 : Tok), its[i]? = some (Value.ref a) ∧ (a, tup2 k v t1 t2) ∈ news
noncomputable def IsTab (w : World) (news : List (Addr × Obj)) (t : Addr) (ps : List (PySem.Str × PySem.Str)) : Prop :=
  ∃ d l its tkk n, (t, instObj 199 d) ∈ news ∧ (d, dictOf [hdrE w tkk l] 1) ∈ news ∧ (l, listOf (List.toArray its) n) ∈ news ∧ PairsAre news its ps
theorem find_at {α : Type} {f : α → Bool} : ∀ {ps : List α} {i : Nat} {p : α}, ps[i]? = some p → f p = true → (∀ (j : Nat) q, j < i → ps[j]? = some q → f q = false) → ps.find? f = some p
  | [], i, p, h, _, _ => by simp at h
  | a :: r, 0, p, h, hp, _ => by
    simp at h; subst h
    rw [List.find?_cons, hp]
  | a :: r, i + 1, p, h, hp, hj => by
    have h0 := hj 0 a (Nat.zero_lt_succ _) rfl
    rw [List.find?_cons, h0]
    exact find_at (i := i) (by simpa using h) hp fun j q hlt e => hj (j + 1) q (Nat.succ_lt_succ hlt) (by simpa using e)
theorem find_none {α : Type} {f : α → Bool} {ps : List α} (h : ∀ (j : Nat) q, ps[j]? = some q → f q = false) : ps.find? f = none := by
  rw [List.find?_eq_none]
  intro q hq
  obtain ⟨j, hj⟩ := List.mem_iff_getElem?.mp hq
  rw [h j q hj]; exact Bool.false_ne_true
theorem PairsAre.mono {news news' : List (Addr × Obj)} {its : List Value} {ps : List (PySem.Str × PySem.Str)} (x : PairsAre news its ps) (h : ∀ p ∈ news, p ∈ news') : PairsAre news' its ps :=
  ⟨x.1, fun i k v e => let ⟨a, t1, t2, e1, e2⟩ := x.2 i k v e; ⟨a, t1, t2, e1, h _ e2⟩⟩
theorem PairsAre.at {news : List (Addr × Obj)} {its : List Value} {ps : List (PySem.Str × PySem.Str)} (x : PairsAre news its ps) {i : Nat} {v : Value} (hv : its.toArray[i]? = some v) :
    ∃ (kk vv : PySem.Str) (ta : Addr) (t1 t2 : Tok), ps[i]? = some (kk, vv) ∧ v = Value.ref ta ∧ (ta, tup2 kk vv t1 t2) ∈ news := by
  have hv' : its[i]? = some v := by simpa using hv
  have hlt : i < ps.length := by rw [← x.1]; exact (List.getElem?_eq_some_iff.mp hv').1
  cases hp : ps[i] with
  | mk kk vv =>
    have hps : ps[i]? = some (kk, vv) := by rw [List.getElem?_eq_getElem hlt, hp]
    obtain ⟨ta, t1, t2, e1, e2⟩ := x.2 i kk vv hps
    rw [e1] at hv'
    exact ⟨kk, vv, ta, t1, t2, hps, (Option.some.inj hv').symm, e2⟩
theorem IsTab.mono {w : World} {news news' : List (Addr × Obj)} {t : Addr} {ps : List (PySem.Str × PySem.Str)} (x : IsTab w news t ps) (h : ∀ p ∈ news, p ∈ news') : IsTab w news' t ps :=
  let ⟨d, l, its, tkk, n, h1, h2, h3, h4⟩ := x; ⟨d, l, its, tkk, n, h _ h1, h _ h2, h _ h3, h4.mono h⟩
theorem me_lt_ne {d c : Addr} {l : List (Addr × Obj)} (h : AllLt d l) (hc : @LE.le Nat _ d c) : ∀ p ∈ l, p.1 ≠ c := fun p hp e => by
  have := ktn_ltOf h p hp
  rw [e] at this
  exact absurd this (Nat.not_lt.mpr hc)
local macro_rules | `(tactic| k_all) => `(tactic| exact me_lt_ne (by assumption) (by omega))
local macro_rules | `(tactic| k_all) => `(tactic| assumption)
local macro_rules | `(tactic| k_mem) => `(tactic| assumption)
local macro_rules | `(tactic| k_room) => `(tactic| ktr_room)
local macro_rules | `(tactic| k_units) => `(tactic| ktr_units)
section

noncomputable abbrev NoE : Value → Shared → Prop := fun _ _ => False
noncomputable def Bare (gs : Array GenState) : Prop := ∀ y ∈ gs, y.bare = true

/-- what is wanted where the iterator stands: an invariant with a measure -/
noncomputable def ForAt (prog : Program) (w : World) (A : Around) (env : Env) (tgt : Expr) (body : List Stmt) (Q : Flow → Shared → Prop) (it : Value) (s₂ : Shared) : Prop :=
  ∃ (I : Nat → Shared → Prop) (n : Nat), I n s₂ ∧ ∀ n s, I n s → wpAny (model prog w) A (pyNext it) (fun r s₁ => match r with
        | none => Q .next s₁
        | some v => wpAny (model prog w) A (letOwnedTupleGo tgt it v) (fun _ s₁' => wpAny (model prog w) A (assign tgt env v) (fun _ s₂ => wpAny (model prog w) A (execs body env) (fun f s₃ => match f with
            | .next | .cont => ∃ m, m < n ∧ I m s₃
            | .brk => Q .next s₃
            | .ret v => Q (.ret v) s₃) NoE s₂) NoE s₁') NoE s₁) NoE s

/-- a letter in the place of what follows a turn: keeps the walk's terms small -/
theorem cutT {M : Model} {A : Around} {E E2 : Value → Shared → Prop} {a : Sem Unit} {c : Sem Flow} {Q : Flow → Shared → Prop} {s : Shared} (h : ∀ R : Flow → Shared → Prop, (∀ f s', Q f s' → R f s') → wpAny M A a (fun _ s₂ => wpAny M A c R E s₂) E2 s) : wpAny M A a (fun _ s₂ => wpAny M A c Q E s₂) E2 s := h Q fun _ _ q => q
theorem cutW {M : Model} {A : Around} {E E2 : Value → Shared → Prop} {a : Sem Bool} {c : Sem Flow} {Q : Flow → Shared → Prop} {P : Shared → Prop} {s : Shared} (h : ∀ (R : Flow → Shared → Prop) (S : Shared → Prop), (∀ f s', Q f s' → R f s') → (∀ s', P s' → S s') → wpAny M A a (fun b s₂ => if b = true then wpAny M A c R E s₂ else S s₂) E2 s) : wpAny M A a (fun b s₂ => if b = true then wpAny M A c Q E s₂ else P s₂) E2 s := h Q P (fun _ _ q => q) fun _ q => q
section
variable {prog : Program} {w : World} {A : Around} {E : Value → Shared → Prop} {s : Shared} {env : Env}

/-- a for loop, by an invariant with a measure; nothing within it raises -/
theorem for_any {tgt iter : Expr} {body : List Stmt} {pos : Pos} {Q : Flow → Shared → Prop}
    (h : wpAny (model prog w) A (eval iter env) (fun xv s₁ => wpAny (model prog w) A (pyIter xv) (fun it s₂ => ForAt prog w A env tgt body Q it s₂) NoE s₁) NoE s)
    (hs : ∀ x, foldedSetIterable iter env x = pure x := by intro _; rfl) :
    wpAny (model prog w) A (exec (.For tgt iter body [] pos) env) Q E s := by
  refine wpAny_For (wpAny_mono h (fun xv s₁ h₁ => wpAny_mono h₁ (fun it s₂ h₂ => ?_) fun _ _ e => e.elim) fun _ _ e => e.elim) hs
  obtain ⟨I, n, h0, turn⟩ := h₂
  refine codeAny_forLoop_any I (fun n s hI => wpAny_mono (turn n s hI) (fun r s₁ h₁ => ?_) fun _ _ e => e.elim) n h0
  cases r with
  | none => exact wpAny_execs_nil h₁
  | some v => 
    refine wpAny_mono h₁ (fun _ s₁' h₂ => wpAny_mono h₂ (fun _ s₂ h₃ => wpAny_mono h₃ (fun f s₃ h₄ => ?_) fun _ _ e => e.elim) fun _ _ e => e.elim) fun _ _ e => e.elim
    cases f <;> exact h₄

noncomputable def LIter (l : Addr) (i : Nat) (o : Obj) : Prop := o.cls = .type "list_iterator" ∧ o.data = .fields #[.ref l, .int i 0]

theorem letGo_list {tgt : Expr} {I l : Addr} {i : Nat} {o : Obj} {v : Value} {Q : Unit → Shared → Prop} (ho : s.heap.get? I = some o) (hi : LIter l i o) (h : Q () s) :
    wpAny (model prog w) A (letOwnedTupleGo tgt (.ref I) v) Q E s := by
  obtain ⟨hc, hd⟩ := hi
  have key : ∀ e : Expr, (∃ a b c, e = .Tuple a b c) ∨ (∃ a b, e = .List a b) → wpAny (model prog w) A (letOwnedTupleGo e (.ref I) v) Q E s := by
    rintro e (⟨x, y, z, rfl⟩ | ⟨x, y, rfl⟩)
    all_goals (
      cases v with
      | ref r =>
        show wpAny _ _ (load I >>= _) _ _ _
        refine wpAny_bind (wpAny_load ho ?_)
        rw [hc, hd]
        show wpAny _ _ (if (_ && _) = true then _ else _) _ _ _
        rw [if_neg (by simp)]
        exact wpAny_pure h
      | _ => exact wpAny_pure h)
  cases tgt with
  | Tuple a b c => exact key _ (.inl ⟨_, _, _, rfl⟩)
  | List a b => exact key _ (.inr ⟨_, _, rfl⟩)
  | _ => exact wpAny_pure h

/-- the state behind a turn: the frame, the iterator and the ledger -/
noncomputable def TurnL (h₀ : Heap) (L : Addr) (s : Shared) (I : Addr) (oI : Obj) (K : (PySem.Str → Option Value) → List (Addr × Obj) → Array GenState → Prop) (s₃ : Shared) : Prop :=
  ∃ h tk gs m nw, s₃ = { s with heap := h, toks := tk, gens := gs } ∧ Fr h₀ L h m ∧ News h₀ L h ((I, oI) :: nw) ∧ (∀ p ∈ nw, p.1 ≠ I) ∧ K m nw gs

theorem iter_list {tgt : Expr} {body : List Stmt} {Q : Flow → Shared → Prop} {h₀ : Heap} {m : PySem.Str → Option Value} {news : List (Addr × Obj)} {l : Addr} {items : Array Value} {n : Nat}
    (K : Nat → (PySem.Str → Option Value) → List (Addr × Obj) → Array GenState → Prop)
    (hh : A.handled = none) (F : Fr h₀ env.locals s.heap m) (N : News h₀ env.locals s.heap news) (hK : K 0 m news s.gens)
    (hl : ∀ i m nw gs, K i m nw gs → (l, listOf items n) ∈ nw)
    (turn : ∀ i v m nw h tk gs I oI, items[i]? = some v → K i m nw gs → (∀ p ∈ nw, p.1 ≠ I) → Fr h₀ env.locals h m → News h₀ env.locals h ((I, oI) :: nw) → 
      wpAny (model prog w) A (assign tgt env v) (fun _ s₂ => wpAny (model prog w) A (execs body env) (fun f s₃ => match f with
        | .next | .cont => TurnL h₀ env.locals s I oI (K (i + 1)) s₃
        | .brk => Q .next s₃
        | .ret v => Q (.ret v) s₃) NoE s₂) NoE { s with heap := h, toks := tk, gens := gs })
    (done : ∀ m nw h tk gs, K items.size m nw gs → Fr h₀ env.locals h m → News h₀ env.locals h nw → Q .next { s with heap := h, toks := tk, gens := gs }) :
    wpAny (model prog w) A (pyIter (.ref l)) (fun it s₂ => ForAt prog w A env tgt body Q it s₂) E s := by
  have hls : s.heap.IsList l items := ⟨_, (N _ (hl _ _ _ _ hK)).1, rfl, n, rfl⟩
  refine wpAny_pyIter_list hls ?_
  generalize hI : s.heap.objs.size = I
  have hLI : env.locals ≠ I := by rw [← hI]; exact Nat.ne_of_lt F.ns.lt
  have h0I : h₀.get? I = none := by
    cases e : h₀.get? I with
    | none => rfl
    | some o => exact absurd (Heap.lt_size (F.keep _ _ e)) (by rw [hI]; exact Nat.lt_irrefl _)
  have offI : ∀ p ∈ news, p.1 ≠ I := fun p hp e => absurd (Heap.lt_size (N p hp).1) (by rw [e, hI]; exact Nat.lt_irrefl _)
  refine ⟨fun k s' => ∃ i h tk gs m nw oI, k = items.size - i ∧ i ≤ items.size ∧ s' = { s with heap := h, toks := tk, gens := gs } ∧ LIter l i oI ∧ Fr h₀ env.locals h m ∧ News h₀ env.locals h ((I, oI) :: nw) ∧ (∀ p ∈ nw, p.1 ≠ I) ∧ K i m nw gs, items.size,
    ⟨0, _, s.toks, s.gens, m, news, { cls := .type "list_iterator", data := .fields #[.ref l, .int 0 0] }, by rw [Nat.sub_zero], Nat.zero_le _, rfl, ⟨rfl, rfl⟩, F.push _, ?_, offI, hK⟩, ?_⟩
  · have := N.push F { cls := .type "list_iterator", data := .fields #[.ref l, .int 0 0] }
    rw [hI] at this
    exact this
  · rintro k s' ⟨i, h, tk, gs, m, nw, oI, rfl, hle, rfl, hIt, F', N', off, hk⟩
    have hi := (N' _ (.head _)).1
    have hit : h.IsListIter I l i := ⟨oI, hi, hIt.1, hIt.2⟩
    have hli : h.IsList l items := ⟨_, (N' _ (.tail _ (hl _ _ _ _ hk))).1, rfl, n, rfl⟩
    cases hv : items[i]? with
    | none =>
      have hin : i = items.size := Nat.le_antisymm hle (by simpa using hv)
      subst hin
      refine wpAny_pyNext_list_end hh hit hli hv fun h' hx => ?_
      refine done m nw h' tk gs hk ⟨F'.ns.extBut hx hLI, fun b o e => hx b o (fun q => by rw [q, h0I] at e; cases e) (F'.keep b o e), F'.above⟩ ?_
      exact fun p hp => ⟨hx _ _ (off p hp) (N' p (.tail _ hp)).1, (N' p (.tail _ hp)).2⟩
    | some v =>
      have hlt : i < items.size := (Array.getElem?_eq_some_iff.mp hv).1
      refine wpAny_pyNext_list_item hit hli hv fun h' hit' hs => ?_
      obtain ⟨oI', e1, e2, e3⟩ := hit'
      have hx := hs.extBut
      have F₁ : Fr h₀ env.locals h' m := ⟨F'.ns.extBut hx hLI, fun b o e => hx b o (fun q => by rw [q, h0I] at e; cases e) (F'.keep b o e), F'.above⟩
      have N₁ : News h₀ env.locals h' ((I, oI') :: nw) := fun p hp => by
        rcases List.mem_cons.mp hp with rfl | hp
        · exact ⟨e1, Ne.symm hLI, h0I⟩
        · exact ⟨hx _ _ (off p hp) (N' p (.tail _ hp)).1, (N' p (.tail _ hp)).2⟩
      refine letGo_list (s := { s with heap := h', toks := tk, gens := gs }) e1 ⟨e2, e3⟩ ?_
      refine wpAny_mono (turn i v m nw h' tk gs I oI' hv hk off F₁ N₁) (fun _ s₂ h₂ => wpAny_mono h₂ (fun f s₃ h₃ => ?_) fun _ _ e => e) fun _ _ e => e
      have fin : TurnL h₀ env.locals s I oI' (K (i + 1)) s₃ → ∃ m_1, m_1 < items.size - i ∧ ∃ i h tk gs m nw oI, m_1 = items.size - i ∧ i ≤ items.size ∧ s₃ = { s with heap := h, toks := tk, gens := gs } ∧ LIter l i oI ∧ Fr h₀ env.locals h m ∧ News h₀ env.locals h ((I, oI) :: nw) ∧ (∀ p ∈ nw, p.1 ≠ I) ∧ K i m nw gs := by
        rintro ⟨h3, tk3, gs3, m3, nw3, rfl, F3, N3, off3, k3⟩
        exact ⟨items.size - (i + 1), by omega, i + 1, h3, tk3, gs3, m3, nw3, oI', rfl, hlt, rfl, ⟨e2, e3⟩, F3, N3, off3, k3⟩
      cases f with
      | next => exact fin h₃
      | cont => exact fin h₃
      | brk => exact h₃
      | ret v => exact h₃

theorem fr_off {h₀ h : Heap} {L : Addr} {m m₀ : PySem.Str → Option Value} (F : Fr h₀ L h m) (names : List PySem.Str) (hm : ∀ y, names.contains y = false → m y = m₀ y) :
    ∃ u : PySem.Str → Option Value, Fr h₀ L h (fun y => if names.contains y = true then u y else m₀ y) := by
  refine ⟨m, ?_⟩
  have e : (fun y => if names.contains y = true then m y else m₀ y) = m := by
    funext y
    cases h : names.contains y with
    | true => rfl
    | false => simp only [Bool.false_eq_true, if_false]; exact (hm y h).symm
  rw [e]; exact F
theorem off_ne {names : List PySem.Str} {x y : PySem.Str} (h : names.contains y = false) (hx : names.contains x = true) : y ≠ x := by rintro rfl; rw [hx] at h; cases h

theorem fr_track {h₀ h : Heap} {L : Addr} {f : PySem.Str → Option Value} {x : PySem.Str} {v : Value} (F : Fr h₀ L h f) (hx : f x = some v) : Fr h₀ L h (fun y => if y = x then some v else f y) := by
  have e : (fun y => if y = x then some v else f y) = f := by
    funext y
    by_cases h : y = x
    · rw [if_pos h, h, hx]
    · rw [if_neg h]
  rw [e]; exact F

/-- as iter_list: the turn's own names are listed; the rest of the frame stays -/
theorem iter_listO {tgt : Expr} {body : List Stmt} {Q : Flow → Shared → Prop} {h₀ : Heap} {m : PySem.Str → Option Value} {news : List (Addr × Obj)} {l : Addr} {items : Array Value} {n : Nat}
    (names : List PySem.Str) (K : Nat → (PySem.Str → Option Value) → List (Addr × Obj) → Array GenState → Prop)
    (hh : A.handled = none) (F : Fr h₀ env.locals s.heap m) (N : News h₀ env.locals s.heap news) (hK : K 0 m news s.gens)
    (hl : ∀ i m nw gs, K i m nw gs → (l, listOf items n) ∈ nw)
    (turn : ∀ (i : Nat) (v : Value) (u : PySem.Str → Option Value) nw h tk gs I oI, items[i]? = some v → K i (fun y => if names.contains y = true then u y else m y) nw gs → (∀ p ∈ nw, p.1 ≠ I) → Fr h₀ env.locals h (fun y => if names.contains y = true then u y else m y) → News h₀ env.locals h ((I, oI) :: nw) → 
      wpAny (model prog w) A (assign tgt env v) (fun _ s₂ => wpAny (model prog w) A (execs body env) (fun f s₃ => match f with
        | .next | .cont => TurnL h₀ env.locals s I oI (fun m' nw gs => (∀ y, names.contains y = false → m' y = m y) ∧ K (i + 1) m' nw gs) s₃
        | .brk => Q .next s₃
        | .ret v => Q (.ret v) s₃) NoE s₂) NoE { s with heap := h, toks := tk, gens := gs })
    (done : ∀ (u : PySem.Str → Option Value) nw h tk gs, K items.size (fun y => if names.contains y = true then u y else m y) nw gs → Fr h₀ env.locals h (fun y => if names.contains y = true then u y else m y) → News h₀ env.locals h nw → Q .next { s with heap := h, toks := tk, gens := gs }) :
    wpAny (model prog w) A (pyIter (.ref l)) (fun it s₂ => ForAt prog w A env tgt body Q it s₂) E s := by
  have key : ∀ m' : PySem.Str → Option Value, (∀ y, names.contains y = false → m' y = m y) → (fun y => if names.contains y = true then m' y else m y) = m' := fun m' hm => by
    funext y
    cases h : names.contains y with
    | true => rfl
    | false => simp only [Bool.false_eq_true, if_false]; exact (hm y h).symm
  refine iter_list (fun i m' nw gs => (∀ y, names.contains y = false → m' y = m y) ∧ K i m' nw gs) hh F N ⟨fun _ _ => rfl, hK⟩ (fun i m nw gs k => hl i m nw gs k.2) ?_ ?_
  · rintro i v m' nw h tk gs I oI hv ⟨hm, k⟩ off F₁ N₁
    rw [← key m' hm] at k F₁
    exact turn i v m' nw h tk gs I oI hv k off F₁ N₁
  · rintro m' nw h tk gs ⟨hm, k⟩ F₁ N₁
    rw [← key m' hm] at k F₁
    exact done m' nw h tk gs k F₁ N₁

theorem iter_nil {tgt : Expr} {body : List Stmt} {Q : Flow → Shared → Prop} {h₀ : Heap} {m : PySem.Str → Option Value} {news : List (Addr × Obj)} {l : Addr} {n : Nat}
    (hh : A.handled = none) (F : Fr h₀ env.locals s.heap m) (N : News h₀ env.locals s.heap news) (hl : (l, listOf #[] n) ∈ news)
    (done : ∀ h tk, Fr h₀ env.locals h m → News h₀ env.locals h news → Q .next { s with heap := h, toks := tk }) :
    wpAny (model prog w) A (pyIter (.ref l)) (fun it s₂ => ForAt prog w A env tgt body Q it s₂) E s :=
  iter_list (items := #[]) (fun _ m' nw gs => m' = m ∧ nw = news ∧ gs = s.gens) hh F N ⟨rfl, rfl, rfl⟩ (fun _ _ _ _ ⟨_, e, _⟩ => e ▸ hl)
    (fun i v _ _ _ _ _ _ _ hv => by simp at hv) (fun m' nw h tk gs ⟨e1, e2, e3⟩ F' N' => by subst e1 e2 e3; exact done h tk F' N')
end
end
section
noncomputable def Less (I : Nat → Shared → Prop) (n : Nat) (s : Shared) : Prop := ∃ m, m < n ∧ I m s
section
variable {prog : Program} {w : World} {A : Around} {E : Value → Shared → Prop} {s : Shared} {env : Env}
theorem while_any {test : Expr} {body : List Stmt} {pos : Pos} {Q : Flow → Shared → Prop} (I : Nat → Shared → Prop) (n : Nat) (h0 : I n s)
    (turn : ∀ n s, I n s → wpAny (model prog w) A (isTrue test env (eval test env)) (fun b s₂ =>
        if b = true then wpAny (model prog w) A (execs body env) (fun f s₃ => match f with
            | .next | .cont => Less I n s₃
            | .brk => Q .next s₃
            | .ret v => Q (.ret v) s₃) NoE s₂
        else Q .next s₂) NoE s) :
    wpAny (model prog w) A (exec (.While test body [] pos) env) Q E s := by
  refine wpAny_While (codeAny_whileLoop I (fun n s hI => wpAny_mono (turn n s hI) (fun b s₂ h₂ => ?_) fun _ _ e => e.elim) n h0)
  cases b with
  | false =>
    simp only [Bool.false_eq_true, if_false] at h₂ ⊢
    exact wpAny_execs_nil h₂
  | true =>
    simp only [if_true] at h₂ ⊢
    refine wpAny_mono h₂ (fun f s₃ h₃ => ?_) fun _ _ e => e.elim
    cases f <;> exact h₃
end
noncomputable def TurnW (h₀ : Heap) (L : Addr) (s : Shared) (P : (PySem.Str → Option Value) → List (Addr × Obj) → Array GenState → Prop) (s₃ : Shared) : Prop :=
  ∃ h tk gs m nw, s₃ = { s with heap := h, toks := tk, gens := gs } ∧ Fr h₀ L h m ∧ News h₀ L h nw ∧ P m nw gs
section
variable {prog : Program} {w : World} {A : Around} {E : Value → Shared → Prop} {s : Shared} {env : Env}
theorem while_O {test : Expr} {body : List Stmt} {pos : Pos} {Q : Flow → Shared → Prop} {h₀ : Heap} {m : PySem.Str → Option Value} {news : List (Addr × Obj)}
    (names : List PySem.Str) (K : Nat → (PySem.Str → Option Value) → List (Addr × Obj) → Array GenState → Prop) (n : Nat)
    (F : Fr h₀ env.locals s.heap m) (N : News h₀ env.locals s.heap news) (hK : K n m news s.gens)
    (turn : ∀ (n : Nat) (u : PySem.Str → Option Value) nw h tk gs, K n (fun y => if names.contains y = true then u y else m y) nw gs → Fr h₀ env.locals h (fun y => if names.contains y = true then u y else m y) → News h₀ env.locals h nw →
      wpAny (model prog w) A (isTrue test env (eval test env)) (fun b s₂ =>
        if b = true then wpAny (model prog w) A (execs body env) (fun f s₃ => match f with
            | .next | .cont => TurnW h₀ env.locals s (fun m' nw gs => (∀ y, names.contains y = false → m' y = m y) ∧ ∃ k, k < n ∧ K k m' nw gs) s₃
            | .brk => Q .next s₃
            | .ret v => Q (.ret v) s₃) NoE s₂
        else Q .next s₂) NoE { s with heap := h, toks := tk, gens := gs }) :
    wpAny (model prog w) A (exec (.While test body [] pos) env) Q E s := by
  refine while_any (fun n s' => ∃ h tk gs m' nw, s' = { s with heap := h, toks := tk, gens := gs } ∧ Fr h₀ env.locals h m' ∧ News h₀ env.locals h nw ∧ (∀ y, names.contains y = false → m' y = m y) ∧ K n m' nw gs) n ⟨_, _, _, m, news, rfl, F, N, fun _ _ => rfl, hK⟩ ?_
  rintro n s' ⟨h, tk, gs, m', nw, rfl, F', N', off, hk⟩
  have em : (fun y => if names.contains y = true then m' y else m y) = m' := by
    funext y
    cases hc : names.contains y with
    | true => rfl
    | false => simp only [Bool.false_eq_true, if_false]; exact (off y hc).symm
  refine wpAny_mono (turn n m' nw h tk gs (by rw [em]; exact hk) (by rw [em]; exact F') N') (fun b s₂ h₂ => ?_) fun _ _ e => e
  cases b with
  | false => exact h₂
  | true =>
    simp only [if_true] at h₂ ⊢
    refine wpAny_mono h₂ (fun f s₃ h₃ => ?_) fun _ _ e => e
    have fin : TurnW h₀ env.locals s (fun m' nw gs => (∀ y, names.contains y = false → m' y = m y) ∧ ∃ k, k < n ∧ K k m' nw gs) s₃ → Less (fun n s' => ∃ h tk gs m' nw, s' = { s with heap := h, toks := tk, gens := gs } ∧ Fr h₀ env.locals h m' ∧ News h₀ env.locals h nw ∧ (∀ y, names.contains y = false → m' y = m y) ∧ K n m' nw gs) n s₃ := by
      rintro ⟨h3, tk3, gs3, m3, nw3, rfl, F3, N3, off3, k, hlt, k3⟩
      exact ⟨k, hlt, h3, tk3, gs3, m3, nw3, rfl, F3, N3, off3, k3⟩
    cases f with
    | next => exact fin h₃
    | cont => exact fin h₃
    | brk => exact h₃
    | ret v => exact h₃
end
section
variable {prog : Program} {w : World} {A : Around} {E : Value → Shared → Prop} {s : Shared} {env : Env}
theorem while_P {test : Expr} {body : List Stmt} {pos : Pos} {Q : Flow → Shared → Prop} {h₀ : Heap} {m : PySem.Str → Option Value} {news : List (Addr × Obj)}
    (names : List PySem.Str) (K : Nat → (PySem.Str → Option Value) → List (Addr × Obj) → Array GenState → Prop) (P : (PySem.Str → Option Value) → List (Addr × Obj) → Array GenState → Prop) (n : Nat)
    (F : Fr h₀ env.locals s.heap m) (N : News h₀ env.locals s.heap news) (hK : K n m news s.gens)
    (turn : ∀ (n : Nat) (u : PySem.Str → Option Value) nw h tk gs, K n (fun y => if names.contains y = true then u y else m y) nw gs → Fr h₀ env.locals h (fun y => if names.contains y = true then u y else m y) → News h₀ env.locals h nw →
      wpAny (model prog w) A (isTrue test env (eval test env)) (fun b s₂ =>
        if b = true then wpAny (model prog w) A (execs body env) (fun f s₃ => match f with
            | .next | .cont => TurnW h₀ env.locals s (fun m' nw gs => (∀ y, names.contains y = false → m' y = m y) ∧ ∃ k, k < n ∧ K k m' nw gs) s₃
            | .brk => Q .next s₃
            | .ret v => Q (.ret v) s₃) NoE s₂
        else TurnW h₀ env.locals s (fun m' nw gs => (∀ y, names.contains y = false → m' y = m y) ∧ P m' nw gs) s₂) NoE { s with heap := h, toks := tk, gens := gs })
    (done : ∀ (u : PySem.Str → Option Value) nw h tk gs, P (fun y => if names.contains y = true then u y else m y) nw gs → Fr h₀ env.locals h (fun y => if names.contains y = true then u y else m y) → News h₀ env.locals h nw → Q .next { s with heap := h, toks := tk, gens := gs }) :
    wpAny (model prog w) A (exec (.While test body [] pos) env) Q E s := by
  refine while_O names K n F N hK fun n u nw h tk gs hk F' N' => wpAny_mono (turn n u nw h tk gs hk F' N') (fun b s₂ h₂ => ?_) fun _ _ e => e
  cases b with
  | true => exact h₂
  | false =>
    simp only [Bool.false_eq_true, if_false] at h₂ ⊢
    obtain ⟨h3, tk3, gs3, m3, nw3, rfl, F3, N3, off3, p3⟩ := h₂
    have em : (fun y => if names.contains y = true then m3 y else m y) = m3 := by
      funext y
      cases hc : names.contains y with
      | true => rfl
      | false => simp only [Bool.false_eq_true, if_false]; exact (off3 y hc).symm
    exact done m3 nw3 h3 tk3 gs3 (by rw [em]; exact p3) (by rw [em]; exact F3) N3
end
noncomputable abbrev APb : Array UInt8 := #[65, 66, 67, 68, 69, 70, 71, 72, 73, 74, 75, 76, 77, 78, 79, 80]
theorem ap_pick : ∀ md : Nat, md < 16 → KBy.whole APb (some (md : Int)) (some ((md : Int) + 1)) = false ∧ KBy.picked APb (some (md : Int)) (some ((md : Int) + 1)) = #[(65 + md).toUInt8] := by decide +kernel
theorem fmod_nat (k : Nat) : (k : Int).fmod 16 = ((k % 16 : Nat) : Int) := by
  rw [Int.fmod_eq_emod_of_nonneg _ (by decide)]; rfl
theorem fdiv_nat (k : Nat) : (k : Int).fdiv 16 = ((k / 16 : Nat) : Int) := by
  rw [Int.fdiv_eq_ediv_of_nonneg _ (by decide)]; rfl
noncomputable def apGo : Nat → Nat → List UInt8 → List UInt8
  | 0, _, v => v
  | f + 1, k, v => if k = 0 then v else apGo f (k / 16) ((65 + (k % 16)).toUInt8 :: v)
theorem apGo_zero (f : Nat) (v : List UInt8) : apGo f 0 v = v := by cases f <;> rfl
noncomputable def apB (n : Nat) : List UInt8 := apGo 3 n []
section
variable {w : World} {mean : ExcName → Option Value} {mg mb : PySem.Str → Option Value} {dp un : Nat} {gd : Option (List Code)} {cn : PySem.Str} {cs : Scope} {a : Addr} {ccd : Value} {cl : List (PySem.Str × Addr)} {outer : List Env} {A₀ : Around} {base h₀ : Heap} {L : Addr} {m : PySem.Str → Option Value} {news : List (Addr × Obj)} {s : Shared} {Q E : Value → Shared → Prop}
  (B : Below A₀ base outer h₀) (F : Fr h₀ L s.heap m) (X : (hd.heap_39 w.params).In h₀) (N : News h₀ L s.heap news) (T : Top hd.view_39 LO mean mg mb h₀) (hk : cs.kind = .function)
include B F X N T hk
set_option maxRecDepth 100000 in
set_option maxHeartbeats 8000000 in
set_option pp.deepTerms false in
set_option pp.deepTerms.threshold 10 in
theorem int2ap {n : Nat} {tk : Tok} (hn : n < 256) (hdp : dp + 20 < recursionLimit) (hun : un + 40 < cLine)
    (hret : ∀ h' tk' t', Fr h₀ L h' m → News h₀ L h' news → Q (.bytes (apB n).toArray t') { s with heap := h', toks := tk' }) :
    wpAny (model PySem.Challenge.rw_wa0038_01.row.prog w) (ktrTop dp un gd cn cs L a ccd cl outer) (call (.ref 66) [.int (n : Int) tk] []) Q E s := by
  revert X; k_fill; intro X
  refine wpAny_call ?_
  k_dflt (((refine' code_def ?k1 ?k2 ?k3 ?k4 ?k5 ?kA ?kF ?kK ?k6 ?k7 ?k8 ?k9 ?kB ?_ ?c2 ?c3 ?c4 ?c5; (case kA => exact rfl); (case kF => exact rfl); (case kK => first | exact rfl | assumption); (case k1 => k_asm); (case k2 => k_asm); (case k3 => k_asm); (case k4 => k_asm); (case k5 => k_asm); (case k6 => k_is); (case k7 => k_is); (case k8 => ktr_room); (case k9 => first | exact BindsTo.of_eq rfl | exact binds_K (by k_in) rfl (by k_is) rfl rfl rfl | fail "no rule for these arguments"); (case c5 => decide); (case kB => exact locs rfl); (case c2 => exact rfl); (case c3 => exact rfl); (case c4 => exact rfl); k_whole; intro g' L' h' FG' F' N' B' X' T'; (try dsimp only); (try k_lift B'); (try k_fold))))
  (repeat' (first | (k_unfold; (try dsimp only)) | (k_end; wrow_close) | ((((fail_if_success (with_reducible show wpAny _ _ (call (Value.builtin "dict.items") _ _) _ _ _)); (fail_if_success (with_reducible show wpAny _ _ (call (Value.type "range") _ _) _ _ _)); (fail_if_success (with_reducible show wpAny _ _ (call (Value.ref 112) _ _) _ _ _)); (fail_if_success (with_reducible show wpAny _ _ (eval (Expr.ListComp _ _ _ _) _) _ _ _)); (fail_if_success (with_reducible show wpAny _ _ (exec (Stmt.For _ _ _ _ _) _) _ _ _)); (fail_if_success (with_reducible show wpAny _ _ (exec (Stmt.While _ _ _ _) _) _ _ _)); (fail_if_success (with_reducible show wpAny _ _ (exec (Stmt.Assign [Expr.Name _ _] (Expr.ListComp _ _ _ _) _) _) _ _ _)))); first | (first | with_reducible (k_here; (with_reducible show wpAny _ _ (binaryOp Operator.Add (Value.bytes _ _) (Value.bytes _ _)) _ _ _); (refine KBy.add_bytes (by simp; omega) ?_); intro _ _) | walk1) | (dsimp only; ((((fail_if_success (with_reducible show wpAny _ _ (call (Value.builtin "dict.items") _ _) _ _ _)); (fail_if_success (with_reducible show wpAny _ _ (call (Value.type "range") _ _) _ _ _)); (fail_if_success (with_reducible show wpAny _ _ (call (Value.ref 112) _ _) _ _ _)); (fail_if_success (with_reducible show wpAny _ _ (eval (Expr.ListComp _ _ _ _) _) _ _ _)); (fail_if_success (with_reducible show wpAny _ _ (exec (Stmt.For _ _ _ _ _) _) _ _ _)); (fail_if_success (with_reducible show wpAny _ _ (exec (Stmt.While _ _ _ _) _) _ _ _)); (fail_if_success (with_reducible show wpAny _ _ (exec (Stmt.Assign [Expr.Name _ _] (Expr.ListComp _ _ _ _) _) _) _ _ _))))); (first | with_reducible (k_here; (with_reducible show wpAny _ _ (binaryOp Operator.Add (Value.bytes _ _) (Value.bytes _ _)) _ _ _); (refine KBy.add_bytes (by simp; omega) ?_); intro _ _) | walk1))) | (leave1; walk_say "STEP leave1"; try dsimp only) | fail "no step"))
  have habs : (if (n : Int) < 0 then -(n : Int) else (n : Int)) = n := if_neg (by omega)
  refine while_O (names := [PySem.Str.ofString "num", PySem.Str.ofString "mod", PySem.Str.ofString "val"])
    (fun k m' nw gs => gs = s.gens ∧ nw = news ∧ ∃ (v : List UInt8) (t1 t2 : Tok), m' (PySem.Str.ofString "num") = some (.int (k : Int) t1) ∧ m' (PySem.Str.ofString "val") = some (.bytes v.toArray t2) ∧ v.length ≤ 3 ∧ ∃ f, apGo f k v = apB n ∧ k < 16 ^ f ∧ f + v.length = 3) n
    (by k_asm) (by k_asm) ⟨rfl, rfl, [], _, _, congrArg (fun z => some (Value.int z _)) habs, rfl, by decide, 3, rfl, by omega, rfl⟩ ?_
  rintro k u nw h tk gs ⟨rfl, rfl, v, t1, t2, hnum, hval, hvl, f, hf, hkf, hfv⟩ F5 N5
  have F6 := fr_track (x := PySem.Str.ofString "val") (fr_track F5 hnum) (by show (if _ then _ else _) = _; rw [if_neg (by decide)]; exact hval)
  clear F5
  (repeat' (first | (k_unfold; (try dsimp only)) | (k_end; wrow_close) | ((((fail_if_success (with_reducible show wpAny _ _ (call (Value.builtin "dict.items") _ _) _ _ _)); (fail_if_success (with_reducible show wpAny _ _ (call (Value.type "range") _ _) _ _ _)); (fail_if_success (with_reducible show wpAny _ _ (call (Value.ref 112) _ _) _ _ _)); (fail_if_success (with_reducible show wpAny _ _ (eval (Expr.ListComp _ _ _ _) _) _ _ _)); (fail_if_success (with_reducible show wpAny _ _ (exec (Stmt.For _ _ _ _ _) _) _ _ _)); (fail_if_success (with_reducible show wpAny _ _ (exec (Stmt.While _ _ _ _) _) _ _ _)); (fail_if_success (with_reducible show wpAny _ _ (exec (Stmt.Assign [Expr.Name _ _] (Expr.ListComp _ _ _ _) _) _) _ _ _)))); first | (first | with_reducible (k_here; (with_reducible show wpAny _ _ (binaryOp Operator.Add (Value.bytes _ _) (Value.bytes _ _)) _ _ _); (refine KBy.add_bytes (by simp; omega) ?_); intro _ _) | walk1) | (dsimp only; ((((fail_if_success (with_reducible show wpAny _ _ (call (Value.builtin "dict.items") _ _) _ _ _)); (fail_if_success (with_reducible show wpAny _ _ (call (Value.type "range") _ _) _ _ _)); (fail_if_success (with_reducible show wpAny _ _ (call (Value.ref 112) _ _) _ _ _)); (fail_if_success (with_reducible show wpAny _ _ (eval (Expr.ListComp _ _ _ _) _) _ _ _)); (fail_if_success (with_reducible show wpAny _ _ (exec (Stmt.For _ _ _ _ _) _) _ _ _)); (fail_if_success (with_reducible show wpAny _ _ (exec (Stmt.While _ _ _ _) _) _ _ _)); (fail_if_success (with_reducible show wpAny _ _ (exec (Stmt.Assign [Expr.Name _ _] (Expr.ListComp _ _ _ _) _) _) _ _ _))))); (first | with_reducible (k_here; (with_reducible show wpAny _ _ (binaryOp Operator.Add (Value.bytes _ _) (Value.bytes _ _)) _ _ _); (refine KBy.add_bytes (by simp; omega) ?_); intro _ _) | walk1))) | (leave1; walk_say "STEP leave1"; try dsimp only) | fail "no step"))
  · rename ((k : Int) ≠ 0) => hk0
    have hk1 : k ≠ 0 := fun e => hk0 (by rw [e]; rfl)
    have hpk := ap_pick (k % 16) (Nat.mod_lt _ (by decide))
    rw [← fmod_nat] at hpk
    rename Fr _ _ _ _ => F'
    rename News _ _ _ _ => N'
    refine KBy.slice_N (s := ⟨_, _, _, _, _⟩) F' N' (.int _ _) (.int _ _) hpk.1 (by rw [hpk.2]; exact Nat.le_of_ble_eq_true rfl) ?_
    intro h7 t7 k7 F7 N7
    rw [hpk.2]
    (repeat' (first | (k_unfold; (try dsimp only)) | (k_end; wrow_close) | ((((fail_if_success (with_reducible show wpAny _ _ (call (Value.builtin "dict.items") _ _) _ _ _)); (fail_if_success (with_reducible show wpAny _ _ (call (Value.type "range") _ _) _ _ _)); (fail_if_success (with_reducible show wpAny _ _ (call (Value.ref 112) _ _) _ _ _)); (fail_if_success (with_reducible show wpAny _ _ (eval (Expr.ListComp _ _ _ _) _) _ _ _)); (fail_if_success (with_reducible show wpAny _ _ (exec (Stmt.For _ _ _ _ _) _) _ _ _)); (fail_if_success (with_reducible show wpAny _ _ (exec (Stmt.While _ _ _ _) _) _ _ _)); (fail_if_success (with_reducible show wpAny _ _ (exec (Stmt.Assign [Expr.Name _ _] (Expr.ListComp _ _ _ _) _) _) _ _ _)))); first | (first | with_reducible (k_here; (with_reducible show wpAny _ _ (binaryOp Operator.Add (Value.bytes _ _) (Value.bytes _ _)) _ _ _); (refine KBy.add_bytes (by simp; omega) ?_); intro _ _) | walk1) | (dsimp only; ((((fail_if_success (with_reducible show wpAny _ _ (call (Value.builtin "dict.items") _ _) _ _ _)); (fail_if_success (with_reducible show wpAny _ _ (call (Value.type "range") _ _) _ _ _)); (fail_if_success (with_reducible show wpAny _ _ (call (Value.ref 112) _ _) _ _ _)); (fail_if_success (with_reducible show wpAny _ _ (eval (Expr.ListComp _ _ _ _) _) _ _ _)); (fail_if_success (with_reducible show wpAny _ _ (exec (Stmt.For _ _ _ _ _) _) _ _ _)); (fail_if_success (with_reducible show wpAny _ _ (exec (Stmt.While _ _ _ _) _) _ _ _)); (fail_if_success (with_reducible show wpAny _ _ (exec (Stmt.Assign [Expr.Name _ _] (Expr.ListComp _ _ _ _) _) _) _ _ _))))); (first | with_reducible (k_here; (with_reducible show wpAny _ _ (binaryOp Operator.Add (Value.bytes _ _) (Value.bytes _ _)) _ _ _); (refine KBy.add_bytes (by simp; omega) ?_); intro _ _) | walk1))) | (leave1; walk_say "STEP leave1"; try dsimp only) | fail "no step"))
    obtain ⟨f', rfl⟩ : ∃ f', f = f' + 1 := by
      cases f with
      | zero => exact absurd hkf (by omega)
      | succ f' => exact ⟨f', rfl⟩
    rw [apGo, if_neg hk1] at hf
    rename News _ _ _ _ => Nz
    exact ⟨_, _, _, _, _, rfl, by k_asm, fun p hp => Nz p (.tail _ hp), by
        intro y hy
        simp only [off_ne hy (x := PySem.Str.ofString "num") (by rfl), off_ne hy (x := PySem.Str.ofString "mod") (by rfl), off_ne hy (x := PySem.Str.ofString "val") (by rfl), hy, Bool.false_eq_true, if_false],
      k / 16, by omega, rfl, rfl, (65 + k % 16).toUInt8 :: v, _, _, congrArg (fun z => some (Value.int z _)) (fdiv_nat k), congrArg (fun z => some (Value.bytes z _)) (by simp : #[(65 + k % 16).toUInt8] ++ v.toArray = ((65 + k % 16).toUInt8 :: v).toArray), by simp only [List.length_cons]; omega, f', hf,
      Nat.div_lt_of_lt_mul (by rw [Nat.pow_succ] at hkf; omega), by simp only [List.length_cons]; omega⟩
  · rename ((k : Int) = 0) => hk0
    have hk1 : k = 0 := by omega
    have e : v = apB n := by rw [← hf, hk1, apGo_zero]
    rw [e]
    exact hret _ _ _ (by k_asm) (by k_asm)
end
end
section
open Builtin
theorem apB_one {n : Nat} (h1 : 1 ≤ n) (h : n < 16) : apB n = [(65 + n).toUInt8] := by
  have : ∀ n, 1 ≤ n → n < 16 → apB n = [(65 + n).toUInt8] := by
    intro n h1 h
    unfold apB
    rw [apGo, if_neg (by omega), apGo, if_pos (by omega), Nat.mod_eq_of_lt h]
  exact this n h1 h
theorem apB_two {n : Nat} (h1 : 16 ≤ n) (h : n < 256) : apB n = [(65 + n / 16).toUInt8, (65 + n % 16).toUInt8] := by
  unfold apB
  rw [apGo, if_neg (by omega), apGo, if_neg (by omega), apGo, if_pos (by omega), Nat.mod_eq_of_lt (show n / 16 < 16 by omega)]
theorem all16 {P : Nat → Prop} (h0 : P 0) (h1 : P 1) (h2 : P 2) (h3 : P 3) (h4 : P 4) (h5 : P 5) (h6 : P 6) (h7 : P 7) (h8 : P 8) (h9 : P 9) (h10 : P 10) (h11 : P 11) (h12 : P 12) (h13 : P 13) (h14 : P 14) (h15 : P 15) : ∀ k, k < 16 → P k
  | 0, _ => h0 | 1, _ => h1 | 2, _ => h2 | 3, _ => h3 | 4, _ => h4 | 5, _ => h5 | 6, _ => h6 | 7, _ => h7 | 8, _ => h8 | 9, _ => h9 | 10, _ => h10 | 11, _ => h11 | 12, _ => h12 | 13, _ => h13 | 14, _ => h14 | 15, _ => h15
  | n + 16, h => absurd h (by omega)
noncomputable def D1 (id : String) (k : Nat) : Prop := _codecs.runDecoder id _codecs.asciiDecoder none true #[(65 + k).toUInt8] 0 [] = pure (#[65 + k], 1)
noncomputable def D2 (id : String) (j k : Nat) : Prop := _codecs.runDecoder id _codecs.asciiDecoder none true #[(65 + j).toUInt8, (65 + k).toUInt8] 0 [] = pure (#[65 + j, 65 + k], 2)
theorem dec_one (k : Nat) (hk : k < 16) (id : String) : D1 id k := by
  refine all16 (P := D1 id) ?_ ?_ ?_ ?_ ?_ ?_ ?_ ?_ ?_ ?_ ?_ ?_ ?_ ?_ ?_ ?_ k hk <;> (unfold D1; kernel_rfl)
theorem dec_two (j k : Nat) (hj : j < 16) (hk : k < 16) (id : String) : D2 id j k := by
  refine all16 (P := fun j => ∀ k, k < 16 → D2 id j k) ?_ ?_ ?_ ?_ ?_ ?_ ?_ ?_ ?_ ?_ ?_ ?_ ?_ ?_ ?_ ?_ j hj k hk <;> (refine all16 (P := D2 id _) ?_ ?_ ?_ ?_ ?_ ?_ ?_ ?_ ?_ ?_ ?_ ?_ ?_ ?_ ?_ ?_ <;> (unfold D2; kernel_rfl))
noncomputable def nmL (n : Nat) : List Nat := if n < 16 then [65 + n] else [65 + n / 16, 65 + n % 16]
noncomputable def nmS (n : Nat) : PySem.Str := ⟨(nmL n).toArray⟩
theorem dec_all {n : Nat} (h1 : 1 ≤ n) (h : n < 256) (id : String) : _codecs.runDecoder id _codecs.asciiDecoder none true (apB n).toArray 0 [] = pure ((nmS n).cps, (nmL n).length) := by
  by_cases hn : n < 16
  · rw [apB_one h1 hn]
    unfold nmS nmL
    rw [if_pos hn]
    exact dec_one n hn id
  · rw [apB_two (by omega) h]
    unfold nmS nmL
    rw [if_neg hn]
    exact dec_two (n / 16) (n % 16) (by omega) (by omega) id
section
variable {b : Array UInt8} {c : UInt8} {cs : List UInt8} {t u : Tok} {x : PySem.Str} {n : Nat}
theorem road_ascii {id : String} : _codecs.decodeRoad id b (PySem.Str.ofString "ascii") none [] = (_codecs.runDecoder id _codecs.asciiDecoder none true b 0 [] >>= fun r => mkStr ⟨r.1⟩) := by kernel_rfl
theorem meets_asc {t1 t2 : Tok} {d : PySem.Str} (hd : ∀ id, _codecs.runDecoder id _codecs.asciiDecoder none true b 0 [] = pure (x.cps, n)) :
    Meets («_codecs.decode.text» ⟨[.bytes b t, .str (PySem.Str.ofString "ascii") t1, .none, .str d t2], []⟩) (fun _ R s => x.length ≤ sizeLine ∧ R (.ok (.ret (.str x s.toks))) { s with toks := s.toks + 1 }) := by
  refine .of_wp fun prog w A R s hS => ?_
  obtain ⟨hsz, h⟩ := hS
  show wpAny _ _ (Bytes.bytesLike _ (.bytes b t) >>= fun r => _) _ _ s
  refine wpAny_bind (wpAny_of_eq KBd.like_eq ?_)
  refine wpAny_bind (wpAny_of_eq KBd.held_eq ?_)
  show wpAny _ _ (_codecs.decodeRoad _ b (PySem.Str.ofString "ascii") none [] >>= fun v => _) _ _ s
  rw [road_ascii, hd]
  refine wpAny_bind (wpAny_bind (wpAny_pure ?_))
  exact wpAny_mkStr (wpAny_pure ⟨_, rfl, h⟩) hsz
theorem entry_asc : «bytes.decode» ⟨[.bytes (c :: cs).toArray t, .str (PySem.Str.ofString "ascii") u], []⟩ = (mkStr (PySem.Str.ofString "utf-8") >>= fun _ => mkStr (PySem.Str.ofString "ascii") >>= fun e => mkStr (PySem.Str.ofString "bytes.decode") >>= fun d =>
    call (.builtin "_codecs.decode.text") [.bytes (c :: cs).toArray t, e, .none, d] >>= fun v => ret v) := by kernel_rfl
theorem meets_ascii (hd : ∀ id, _codecs.runDecoder id _codecs.asciiDecoder none true (c :: cs).toArray 0 [] = pure (x.cps, n)) :
    Meets («bytes.decode» ⟨[.bytes (c :: cs).toArray t, .str (PySem.Str.ofString "ascii") u], []⟩) (fun _ R s => x.length ≤ sizeLine ∧ ∀ t' k, R (.ok (.ret (.str x t'))) { s with toks := k }) := by
  refine .of_wp fun prog w A R s hS => ?_
  obtain ⟨hsz, h⟩ := hS
  rw [entry_asc]
  refine wpAny_bind (wpAny_mkStr ?_ (by decide))
  refine wpAny_bind (wpAny_mkStr ?_ (by decide))
  refine wpAny_bind (wpAny_mkStr ?_ (by decide))
  exact wpAny_bind (call_function_meets KBd.kind_text KBd.plain_text KBd.entry_text (KBd.args_text _ _ _ _) (meets_asc hd) ⟨hsz, wpAny_pure ⟨_, rfl, h _ _⟩⟩)
end
theorem args_decode_2 (a b : Value) : argsOk "bytes.decode" ⟨[a, b], []⟩ := by
  unfold argsOk; rw [signature?_of (id := "bytes.decode") (n := ['e', 'd', 'o', 'c', 'e', 'd']) (o := ['s', 'e', 't', 'y', 'b']) (by kernel_rfl) FB.owner_bytes]; kernel_rfl
section
variable {prog : Program} {w : World} {A : Around} {E : Value → Shared → Prop} {s : Shared}
theorem decode_ap {n : Nat} {t u : Tok} {Q : Value → Shared → Prop} (h1 : 1 ≤ n) (h : n < 256) (hq : ∀ t' k, Q (.str (nmS n) t') { s with toks := k }) :
    wpAny (model prog w) A (call (.builtin "bytes.decode") [.bytes (apB n).toArray t, .str (PySem.Str.ofString "ascii") u]) Q E s := by
  have hd := fun id => dec_all h1 h id
  have hl : (nmS n).length ≤ 2 := by
    unfold nmS nmL Str.length
    split <;> simp
  cases e : apB n with
  | nil => 
    by_cases hn : n < 16
    · rw [apB_one h1 hn] at e; cases e
    · rw [apB_two (by omega) h] at e; cases e
  | cons c cs =>
    rw [e] at hd
    exact call_meets FB.slot_bytes_decode (typeIs_bytes _ _ _) FB.entry_bytes_decode (args_decode_2 _ _) (meets_ascii hd) ⟨by rw [sizeLine_eq]; omega, hq⟩
end
end
section
noncomputable def TurnC (h₀ : Heap) (L : Addr) (m : PySem.Str → Option Value) (s₁ : Shared) (I : Addr) (oI : Obj) (C : Addr) (oC : Obj) (D : Addr) (oD : Obj) (S : List (Addr × Obj) → Prop) (rest : Value → List (Addr × Obj) → Prop) (y : Value) (s₂ : Shared) : Prop :=
  LCg.CompEnd h₀ L m s₁ I oI C oC D oD S rest y s₂
section
variable {prog : Program} {w : World} {A : Around} {E : Value → Shared → Prop} {s : Shared} {h₀ : Heap} {L : Addr} {m : PySem.Str → Option Value} {env : Env}
theorem rest_inv {elt : Expr} {x : PySem.Str} {scope : Scope} {cl : List (PySem.Str × Addr)} {S : List (Addr × Obj) → Prop} {P : Nat → Value → Prop} {Fin : List Value → List (Addr × Obj) → Prop} {n : Nat} {news : List (Addr × Obj)}
    (K : Nat → List Value → List (Addr × Obj) → Prop) (h0 : K 0 [] news)
    (turn : ∀ i v ys news I oI C oC D m₂ h tk, i < n → P i v → K i ys news → LCg.NsObj oC m₂ → m₂ x = some v → Fr h₀ L h m → News h₀ L h ((I, oI) :: (C, oC) :: (D, LCg.lst ys) :: news) → LCg.Off3 I C D news → ((@Ne Nat I C) ∧ (@Ne Nat I D) ∧ (@Ne Nat C D)) →
      wpAny (model prog w) A (eval elt (compEnvC scope cl C env)) (TurnC h₀ L m { s with heap := h, toks := tk } I oI C oC D (LCg.lst ys) S (fun y news' => K (i + 1) (ys ++ [y]) news')) NoE { s with heap := h, toks := tk })
    (done : ∀ ys news, K n ys news → Fin ys news) : LCg.CompRest prog w A h₀ L m env elt x scope cl s S P Fin n 0 [] news := by
  have key : ∀ (k i : Nat) (ys : List Value) (news : List (Addr × Obj)), k + i = n → K i ys news → LCg.CompRest prog w A h₀ L m env elt x scope cl s S P Fin k i ys news := by
    intro k
    induction k with
    | zero =>
      intro i ys news e hK
      have : i = n := by omega
      subst this
      exact LCg.CompRest.zero (done ys news hK)
    | succ k ih =>
      intro i ys news e hK
      refine LCg.CompRest.succ fun v I oI C oC D m₂ h tk E' hP hC hx F N off hne => ?_
      refine wpAny_mono (turn i v ys news I oI C oC D m₂ h tk (by omega) hP hK hC hx F N off hne) (fun y s₂ h₂ => ?_) fun _ _ e => e.elim
      obtain ⟨h', tk', news', e1, F', N', off', hS, hK'⟩ := h₂
      exact ⟨h', tk', news', e1, F', N', off', hS, ih (i + 1) (ys ++ [y]) news' (by omega) hK'⟩
  exact key n 0 [] news (by omega) h0
end
end
section
noncomputable def lawRec : Option DefRec := (recsOf hd.view_39).find? fun d => d.name == PySem.Str.ofString "law"
noncomputable def lawBody : List Stmt := match lawRec with | some d => d.body | none => []
noncomputable def lawScope : Scope := match lawRec with | some d => d.scope | none => default
noncomputable abbrev lawEnv (L fa : Addr) (cd : Value) : Env := envOfC (PySem.Str.ofString "law") lawScope L fa cd
noncomputable abbrev lawA (L fa : Addr) (cd : Value) : Around := callerA.deeper (lawEnv L fa cd)
theorem off1_mem {D : Addr} : ∀ {l : List (Addr × Obj)}, LCg.Off1 D l → ∀ p ∈ l, p.1 ≠ D
  | [], _, _, h => nomatch h
  | _ :: _, x, p, h => by
    rcases List.mem_cons.mp h with rfl | h
    · exact x.1
    · exact off1_mem x.2 p h
theorem fr_track_eq {f : PySem.Str → Option Value} {x : PySem.Str} {v : Value} (hx : f x = some v) : f = (fun y => if y = x then some v else f y) := by
  funext y
  by_cases h : y = x
  · rw [if_pos h, h, hx]
  · rw [if_neg h]
theorem strs_app2 : ∀ {vs ws : List Value} {xs ys : List PySem.Str}, StrsAre vs xs → StrsAre ws ys → StrsAre (vs ++ ws) (xs ++ ys)
  | _, _, _, _, .nil, h => h
  | _, _, _, _, .cons y t h', h => .cons y t (strs_app2 h' h)
section
variable {w : World} {mean : ExcName → Option Value} {mg mb : PySem.Str → Option Value} {base h₀ : Heap} {L fa : Addr} {cd : Value} {m : PySem.Str → Option Value} {s : Shared} {Q : Flow → Shared → Prop} {E : Value → Shared → Prop}
  (B : Below callerA base [] h₀) (F : Fr h₀ L s.heap m) (X : (hd.heap_39 w.params).In h₀) (T : Top hd.view_39 LO mean mg mb h₀)
include B F X T
set_option maxRecDepth 100000 in
set_option maxHeartbeats 8000000 in
set_option pp.deepTerms false in
set_option pp.deepTerms.threshold 10 in
theorem stN {dn : Addr} {numv : List Value} {nums : List Int} {oN : Obj} {rest : List (Addr × Obj)} (N : News h₀ L s.heap ((dn, LCg.lst numv) :: (L + 1 + 1 + 1 + 1, oN) :: rest)) (hnums : IntsAre numv nums) (hnl : nums.length = 6) (hnb : ∀ k ∈ nums, 1 ≤ k ∧ k < 256)
    {vN : Option Value} (hoN : oN.data = .cell vN) (hm : m (PySem.Str.ofString "numbers") = some (.ref dn)) (hne : @Ne Nat dn (L + 1 + 1 + 1 + 1)) (hr : ∀ p ∈ rest, p.1 ≠ L + 1 + 1 + 1 + 1)
    (hnext : ∀ h' tk' dS oN' nmv, Fr h₀ L h' m → News h₀ L h' ((dS, LCg.lst nmv) :: (dn, LCg.lst numv) :: (L + 1 + 1 + 1 + 1, oN') :: rest) → oN'.data = .cell (some (.ref dS)) → StrsAre nmv (nums.map fun k => nmS k.toNat) → (∀ p ∈ (dn, LCg.lst numv) :: (L + 1 + 1 + 1 + 1, oN) :: rest, p.1 ≠ dS) →
      wpAny (model PySem.Challenge.rw_wa0038_01.row.prog w) (lawA L fa cd) (execs (lawBody.drop 4) (lawEnv L fa cd)) Q E { s with heap := h', toks := tk' }) :
    wpAny (model PySem.Challenge.rw_wa0038_01.row.prog w) (lawA L fa cd) (execs (lawBody.drop 3) (lawEnv L fa cd)) Q E s := by
  revert X; k_fill; intro X
  have F1 := fr_track F hm
  clear F
  show wpAny _ (callerA.deeper (envOfC _ ⟨_, _, _, _, _⟩ _ _ _)) (execs (_ :: _) (envOfC _ ⟨_, _, _, _, _⟩ _ _ _)) _ _ _
  (repeat' (first | (k_unfold; (try dsimp only)) | (k_end; wrow_close) | ((((fail_if_success (with_reducible show wpAny _ _ (call (Value.builtin "dict.items") _ _) _ _ _)); (fail_if_success (with_reducible show wpAny _ _ (call (Value.type "range") _ _) _ _ _)); (fail_if_success (with_reducible show wpAny _ _ (call (Value.ref 112) _ _) _ _ _)); (fail_if_success (with_reducible show wpAny _ _ (eval (Expr.ListComp _ _ _ _) _) _ _ _)); (fail_if_success (with_reducible show wpAny _ _ (exec (Stmt.For _ _ _ _ _) _) _ _ _)); (fail_if_success (with_reducible show wpAny _ _ (exec (Stmt.While _ _ _ _) _) _ _ _)); (fail_if_success (with_reducible show wpAny _ _ (exec (Stmt.Assign [Expr.Name _ _] (Expr.ListComp _ _ _ _) _) _) _ _ _)))); first | (first | with_reducible (k_here; (with_reducible show wpAny _ _ (call (Value.builtin "bytes.decode") [Value.bytes (List.toArray (apB _)) _, _]) _ _ _); refine decode_ap (by assumption) (by assumption) ?_; intro _ _) | with_reducible (k_here; (with_reducible show wpAny _ _ (call (Value.ref 66) _ _) _ _ _); k_dflt (refine' int2ap ?Bqz ?Fqz ?Xqz ?Nqz ?Tqz ?hkqz ?hnqz ?hdqz ?huqz ?_; (case Bqz => k_asm); (case Fqz => k_asm); (case Xqz => k_asm); (case Nqz => k_asm); (case Tqz => k_asm); (case hkqz => first | exact rfl | assumption); (case hnqz => assumption); (case hdqz => ktr_room); (case huqz => ktr_units); intro h9 tk9 t9 F9 N9; (try dsimp only))) | walk1) | (dsimp only; ((((fail_if_success (with_reducible show wpAny _ _ (call (Value.builtin "dict.items") _ _) _ _ _)); (fail_if_success (with_reducible show wpAny _ _ (call (Value.type "range") _ _) _ _ _)); (fail_if_success (with_reducible show wpAny _ _ (call (Value.ref 112) _ _) _ _ _)); (fail_if_success (with_reducible show wpAny _ _ (eval (Expr.ListComp _ _ _ _) _) _ _ _)); (fail_if_success (with_reducible show wpAny _ _ (exec (Stmt.For _ _ _ _ _) _) _ _ _)); (fail_if_success (with_reducible show wpAny _ _ (exec (Stmt.While _ _ _ _) _) _ _ _)); (fail_if_success (with_reducible show wpAny _ _ (exec (Stmt.Assign [Expr.Name _ _] (Expr.ListComp _ _ _ _) _) _) _ _ _))))); (first | with_reducible (k_here; (with_reducible show wpAny _ _ (call (Value.builtin "bytes.decode") [Value.bytes (List.toArray (apB _)) _, _]) _ _ _); refine decode_ap (by assumption) (by assumption) ?_; intro _ _) | with_reducible (k_here; (with_reducible show wpAny _ _ (call (Value.ref 66) _ _) _ _ _); k_dflt (refine' int2ap ?Bqz ?Fqz ?Xqz ?Nqz ?Tqz ?hkqz ?hnqz ?hdqz ?huqz ?_; (case Bqz => k_asm); (case Fqz => k_asm); (case Xqz => k_asm); (case Nqz => k_asm); (case Tqz => k_asm); (case hkqz => first | exact rfl | assumption); (case hnqz => assumption); (case hdqz => ktr_room); (case huqz => ktr_units); intro h9 tk9 t9 F9 N9; (try dsimp only))) | walk1))) | (leave1; walk_say "STEP leave1"; try dsimp only) | fail "no step"))
  refine wpAny_Assign_Name ?_
  refine LCg.ListComp_U (by k_asm) (by rfl) (by decide) (by rfl) (by decide) (by rfl) ?_
  (first | with_reducible (k_here; (with_reducible show wpAny _ _ (call (Value.builtin "bytes.decode") [Value.bytes (List.toArray (apB _)) _, _]) _ _ _); refine decode_ap (by assumption) (by assumption) ?_; intro _ _) | with_reducible (k_here; (with_reducible show wpAny _ _ (call (Value.ref 66) _ _) _ _ _); k_dflt (refine' int2ap ?Bqz ?Fqz ?Xqz ?Nqz ?Tqz ?hkqz ?hnqz ?hdqz ?huqz ?_; (case Bqz => k_asm); (case Fqz => k_asm); (case Xqz => k_asm); (case Nqz => k_asm); (case Tqz => k_asm); (case hkqz => first | exact rfl | assumption); (case hnqz => assumption); (case hdqz => ktr_room); (case huqz => ktr_units); intro h9 tk9 t9 F9 N9; (try dsimp only))) | walk1)
  refine LCg.CompSrc.ledger (by rfl) (by k_asm) (by k_asm) (.head _) (by rw [sizeLine_eq, List.size_toArray, hnums.length, hnl]; decide) ?_
  intro g
  refine rest_inv (fun i ys nw => nw = (dn, LCg.lst numv) :: (L + 1 + 1 + 1 + 1, oN) :: rest ∧ StrsAre ys ((nums.take i).map fun k => nmS k.toNat)) ⟨rfl, .nil⟩ ?_ ?_
  · rintro i v ys nw I oI C oC D m₂ h tk hi hv ⟨rfl, hys⟩ hC hx F2 N2 off hne3
    have hv' : numv[i]? = some v := by simpa using hv
    obtain ⟨k, t, rfl, hk⟩ := hnums.at i v hv'
    have hkm : k ∈ nums := List.mem_of_getElem? hk
    obtain ⟨hk1, hk2⟩ := hnb k hkm
    obtain ⟨n, rfl⟩ : ∃ n : Nat, k = (n : Int) := ⟨k.toNat, by omega⟩
    have hn1 : 1 ≤ n := by omega
    have hn2 : n < 256 := by omega
    (repeat' (first | (k_unfold; (try dsimp only)) | (k_end; wrow_close) | ((((fail_if_success (with_reducible show wpAny _ _ (call (Value.builtin "dict.items") _ _) _ _ _)); (fail_if_success (with_reducible show wpAny _ _ (call (Value.type "range") _ _) _ _ _)); (fail_if_success (with_reducible show wpAny _ _ (call (Value.ref 112) _ _) _ _ _)); (fail_if_success (with_reducible show wpAny _ _ (eval (Expr.ListComp _ _ _ _) _) _ _ _)); (fail_if_success (with_reducible show wpAny _ _ (exec (Stmt.For _ _ _ _ _) _) _ _ _)); (fail_if_success (with_reducible show wpAny _ _ (exec (Stmt.While _ _ _ _) _) _ _ _)); (fail_if_success (with_reducible show wpAny _ _ (exec (Stmt.Assign [Expr.Name _ _] (Expr.ListComp _ _ _ _) _) _) _ _ _)))); first | (first | with_reducible (k_here; (with_reducible show wpAny _ _ (call (Value.builtin "bytes.decode") [Value.bytes (List.toArray (apB _)) _, _]) _ _ _); refine decode_ap (by assumption) (by assumption) ?_; intro _ _) | with_reducible (k_here; (with_reducible show wpAny _ _ (call (Value.ref 66) _ _) _ _ _); k_dflt (refine' int2ap ?Bqz ?Fqz ?Xqz ?Nqz ?Tqz ?hkqz ?hnqz ?hdqz ?huqz ?_; (case Bqz => k_asm); (case Fqz => k_asm); (case Xqz => k_asm); (case Nqz => k_asm); (case Tqz => k_asm); (case hkqz => first | exact rfl | assumption); (case hnqz => assumption); (case hdqz => ktr_room); (case huqz => ktr_units); intro h9 tk9 t9 F9 N9; (try dsimp only))) | walk1) | (dsimp only; ((((fail_if_success (with_reducible show wpAny _ _ (call (Value.builtin "dict.items") _ _) _ _ _)); (fail_if_success (with_reducible show wpAny _ _ (call (Value.type "range") _ _) _ _ _)); (fail_if_success (with_reducible show wpAny _ _ (call (Value.ref 112) _ _) _ _ _)); (fail_if_success (with_reducible show wpAny _ _ (eval (Expr.ListComp _ _ _ _) _) _ _ _)); (fail_if_success (with_reducible show wpAny _ _ (exec (Stmt.For _ _ _ _ _) _) _ _ _)); (fail_if_success (with_reducible show wpAny _ _ (exec (Stmt.While _ _ _ _) _) _ _ _)); (fail_if_success (with_reducible show wpAny _ _ (exec (Stmt.Assign [Expr.Name _ _] (Expr.ListComp _ _ _ _) _) _) _ _ _))))); (first | with_reducible (k_here; (with_reducible show wpAny _ _ (call (Value.builtin "bytes.decode") [Value.bytes (List.toArray (apB _)) _, _]) _ _ _); refine decode_ap (by assumption) (by assumption) ?_; intro _ _) | with_reducible (k_here; (with_reducible show wpAny _ _ (call (Value.ref 66) _ _) _ _ _); k_dflt (refine' int2ap ?Bqz ?Fqz ?Xqz ?Nqz ?Tqz ?hkqz ?hnqz ?hdqz ?huqz ?_; (case Bqz => k_asm); (case Fqz => k_asm); (case Xqz => k_asm); (case Nqz => k_asm); (case Tqz => k_asm); (case hkqz => first | exact rfl | assumption); (case hnqz => assumption); (case hdqz => ktr_room); (case huqz => ktr_units); intro h9 tk9 t9 F9 N9; (try dsimp only))) | walk1))) | (leave1; walk_say "STEP leave1"; try dsimp only) | fail "no step"))
    exact LCg.CompEnd.intro (by k_asm) (by k_asm) _ (fun p hp => hp) off (.inr ⟨_, .head _, rfl, _, rfl⟩) ⟨rfl, by
      rw [List.take_succ, hk, Option.toList, List.map_append]
      exact strs_app2 hys (.cons _ _ .nil)⟩
  · rintro ys nw ⟨rfl, hys⟩
    intro D h tk F2 N2 off
    obtain ⟨o1, o2, o3⟩ := id off
    dsimp only at o1 o2
    (first | with_reducible (k_here; (with_reducible show wpAny _ _ (call (Value.builtin "bytes.decode") [Value.bytes (List.toArray (apB _)) _, _]) _ _ _); refine decode_ap (by assumption) (by assumption) ?_; intro _ _) | with_reducible (k_here; (with_reducible show wpAny _ _ (call (Value.ref 66) _ _) _ _ _); k_dflt (refine' int2ap ?Bqz ?Fqz ?Xqz ?Nqz ?Tqz ?hkqz ?hnqz ?hdqz ?huqz ?_; (case Bqz => k_asm); (case Fqz => k_asm); (case Xqz => k_asm); (case Nqz => k_asm); (case Tqz => k_asm); (case hkqz => first | exact rfl | assumption); (case hnqz => assumption); (case hdqz => ktr_room); (case huqz => ktr_units); intro h9 tk9 t9 F9 N9; (try dsimp only))) | walk1)
    have e6 : nums.take numv.toArray.size = nums := by rw [List.size_toArray, hnums.length]; exact List.take_length
    rw [e6] at hys
    rename News _ _ _ _ => N9
    rename _ = Data.cell (some (Value.ref D)) => d9
    exact hnext _ _ D _ ys (by rw [fr_track_eq hm]; k_asm) N9 d9 hys (by
      intro p hp
      rcases List.mem_cons.mp hp with rfl | hp
      · exact o1
      · rcases List.mem_cons.mp hp with rfl | hp
        · exact o2
        · exact off1_mem o3 p hp)
end
end
section
section
variable {prog : Program} {w : World} {A : Around} {E : Value → Shared → Prop} {s : Shared} {env : Env}
theorem iter_rangeO {tgt : Expr} {body : List Stmt} {Q : Flow → Shared → Prop} {h₀ : Heap} {m : PySem.Str → Option Value} {news : List (Addr × Obj)} {r : Addr} {a b c : Int} {t1 t2 t3 : Tok}
    (cnt : Nat) (names : List PySem.Str) (K : Nat → (PySem.Str → Option Value) → List (Addr × Obj) → Array GenState → Prop)
    (hh : A.handled = none) (F : Fr h₀ env.locals s.heap m) (N : News h₀ env.locals s.heap news) (hr : IsRange s.heap r a b c t1 t2 t3) (hsmall : Builtin.Range.small a b c = true) (hcnt : Builtin.Range.rangeSize a b c = (cnt : Int)) (hK : K 0 m news s.gens)
    (turn : ∀ (i : Nat) (tv : Tok) (u : PySem.Str → Option Value) nw h tk gs I oI, i < cnt → K i (fun y => if names.contains y = true then u y else m y) nw gs → (∀ p ∈ nw, p.1 ≠ I) → Fr h₀ env.locals h (fun y => if names.contains y = true then u y else m y) → News h₀ env.locals h ((I, oI) :: nw) → 
      wpAny (model prog w) A (assign tgt env (.int (a + (i : Int) * c) tv)) (fun _ s₂ => wpAny (model prog w) A (execs body env) (fun f s₃ => match f with
        | .next | .cont => TurnL h₀ env.locals s I oI (fun m' nw gs => (∀ y, names.contains y = false → m' y = m y) ∧ K (i + 1) m' nw gs) s₃
        | .brk => Q .next s₃
        | .ret v => Q (.ret v) s₃) NoE s₂) NoE { s with heap := h, toks := tk, gens := gs })
    (done : ∀ (u : PySem.Str → Option Value) nw h tk gs, K cnt (fun y => if names.contains y = true then u y else m y) nw gs → Fr h₀ env.locals h (fun y => if names.contains y = true then u y else m y) → News h₀ env.locals h nw → Q .next { s with heap := h, toks := tk, gens := gs })
    (htgt : ∀ it v, letOwnedTupleGo tgt it v = pure () := by intro _ _; rfl) :
    wpAny (model prog w) A (pyIter (.ref r)) (fun it s₂ => ForAt prog w A env tgt body Q it s₂) E s := by
  refine wpAny_pyIter_range hr hsmall ?_
  generalize hI : s.heap.objs.size = I
  have hLI : env.locals ≠ I := by rw [← hI]; exact Nat.ne_of_lt F.ns.lt
  have h0I : h₀.get? I = none := by
    cases e : h₀.get? I with
    | none => rfl
    | some o => exact absurd (Heap.lt_size (F.keep _ _ e)) (by rw [hI]; exact Nat.lt_irrefl _)
  have offI : ∀ p ∈ news, p.1 ≠ I := fun p hp e => absurd (Heap.lt_size (N p hp).1) (by rw [e, hI]; exact Nat.lt_irrefl _)
  have key : ∀ m' : PySem.Str → Option Value, (∀ y, names.contains y = false → m' y = m y) → (fun y => if names.contains y = true then m' y else m y) = m' := fun m' hm => by
    funext y
    cases hc : names.contains y with
    | true => rfl
    | false => simp only [Bool.false_eq_true, if_false]; exact (hm y hc).symm
  refine ⟨fun k s' => ∃ (i : Nat) (h : Heap) (tk : Nat) (gs : Array GenState) (m' : PySem.Str → Option Value) (nw : List (Addr × Obj)) (oI : Obj), k = cnt - i ∧ i ≤ cnt ∧ s' = { s with heap := h, toks := tk, gens := gs } ∧ oI = { cls := .type "range_iterator", data := .fields #[rawInt (a + (i : Int) * c), rawInt ((cnt : Int) - i), rawInt c] } ∧ Fr h₀ env.locals h m' ∧ News h₀ env.locals h ((I, oI) :: nw) ∧ (∀ p ∈ nw, p.1 ≠ I) ∧ (∀ y, names.contains y = false → m' y = m y) ∧ K i m' nw gs, cnt,
    ⟨0, _, s.toks, s.gens, m, news, _, by rw [Nat.sub_zero], Nat.zero_le _, rfl, rfl, F.push _, ?_, offI, fun _ _ => rfl, hK⟩, ?_⟩
  · have := N.push F { cls := .type "range_iterator", data := .fields #[rawInt a, rawInt (Builtin.Range.rangeSize a b c), rawInt c] }
    rw [hI, hcnt] at this
    rw [hcnt]
    simpa using this
  · rintro k s' ⟨i, h, tk, gs, m', nw, oI, rfl, hle, rfl, rfl, F', N', off, hm', hk⟩
    have hi : IsRangeIter h I (a + (i : Int) * c) ((cnt : Int) - i) c := (N' _ (.head _)).1
    by_cases hlt : i < cnt
    · refine wpAny_pyNext_range_item hi (by omega) fun h' hit' hs => ?_
      have e1 : a + (i : Int) * c + c = a + ((i + 1 : Nat) : Int) * c := by rw [Int.natCast_succ, Int.add_mul]; omega
      have e2 : (cnt : Int) - i - 1 = (cnt : Int) - ((i + 1 : Nat) : Int) := by omega
      rw [e1, e2] at hit'
      have hx := hs.extBut
      have F₁ : Fr h₀ env.locals h' m' := ⟨F'.ns.extBut hx hLI, fun b o e => hx b o (fun q => by rw [q, h0I] at e; cases e) (F'.keep b o e), F'.above⟩
      have N₁ : News h₀ env.locals h' ((I, { cls := .type "range_iterator", data := .fields #[rawInt (a + ((i + 1 : Nat) : Int) * c), rawInt ((cnt : Int) - ((i + 1 : Nat) : Int)), rawInt c] }) :: nw) := fun p hp => by
        rcases List.mem_cons.mp hp with rfl | hp
        · exact ⟨hit', Ne.symm hLI, h0I⟩
        · exact ⟨hx _ _ (off p hp) (N' p (.tail _ hp)).1, (N' p (.tail _ hp)).2⟩
      refine wpAny_of_eq (htgt _ _) ?_
      refine wpAny_mono (turn i tk m' nw h' (tk + 1) gs I _ hlt (by rw [key m' hm']; exact hk) off (by rw [key m' hm']; exact F₁) N₁) (fun _ s₂ h₂ => wpAny_mono h₂ (fun f s₃ h₃ => ?_) fun _ _ e => e) fun _ _ e => e
      have fin : TurnL h₀ env.locals s I { cls := .type "range_iterator", data := .fields #[rawInt (a + ((i + 1 : Nat) : Int) * c), rawInt ((cnt : Int) - ((i + 1 : Nat) : Int)), rawInt c] } (fun m' nw gs => (∀ y, names.contains y = false → m' y = m y) ∧ K (i + 1) m' nw gs) s₃ → ∃ k, k < cnt - i ∧ ∃ (i : Nat) (h : Heap) (tk : Nat) (gs : Array GenState) (m' : PySem.Str → Option Value) (nw : List (Addr × Obj)) (oI : Obj), k = cnt - i ∧ i ≤ cnt ∧ s₃ = { s with heap := h, toks := tk, gens := gs } ∧ oI = { cls := .type "range_iterator", data := .fields #[rawInt (a + (i : Int) * c), rawInt ((cnt : Int) - i), rawInt c] } ∧ Fr h₀ env.locals h m' ∧ News h₀ env.locals h ((I, oI) :: nw) ∧ (∀ p ∈ nw, p.1 ≠ I) ∧ (∀ y, names.contains y = false → m' y = m y) ∧ K i m' nw gs := by
        rintro ⟨h3, tk3, gs3, m3, nw3, rfl, F3, N3, off3, hm3, k3⟩
        exact ⟨cnt - (i + 1), by omega, i + 1, h3, tk3, gs3, m3, nw3, _, rfl, hlt, rfl, rfl, F3, N3, off3, hm3, k3⟩
      cases f with
      | next => exact fin h₃
      | cont => exact fin h₃
      | brk => exact h₃
      | ret v => exact h₃
    · have hin : i = cnt := by omega
      subst hin
      refine wpAny_pyNext_range_end hh hi (by omega) fun h' hx => ?_
      refine done m' nw h' tk gs (by rw [key m' hm']; exact hk) (by rw [key m' hm']; exact ⟨F'.ns.extBut hx hLI, fun b o e => hx b o (fun q => by rw [q, h0I] at e; cases e) (F'.keep b o e), F'.above⟩) ?_
      exact fun p hp => ⟨hx _ _ (off p hp) (N' p (.tail _ hp)).1, (N' p (.tail _ hp)).2⟩
end
end
section
section
variable {w : World} {mean : ExcName → Option Value} {mg mb : PySem.Str → Option Value} {dp un : Nat} {gd : Option (List Code)} {cn : PySem.Str} {cs : Scope} {a : Addr} {ccd : Value} {cl : List (PySem.Str × Addr)} {outer : List Env} {A₀ : Around} {base h₀ : Heap} {L : Addr} {m : PySem.Str → Option Value} {news : List (Addr × Obj)} {s : Shared} {Q E : Value → Shared → Prop}
  (B : Below A₀ base outer h₀) (F : Fr h₀ L s.heap m) (X : (hd.heap_39 w.params).In h₀) (N : News h₀ L s.heap news) (T : Top hd.view_39 LO mean mg mb h₀) (hk : cs.kind = .function)
include B F X N T hk
set_option maxRecDepth 100000 in
set_option maxHeartbeats 8000000 in
theorem made (hdp : dp + 20 < recursionLimit) 
    (hret : ∀ x d l h' tk' tkk, Fr h₀ L h' m → News h₀ L h' ((l, listOf #[] 0) :: (x, instObj 199 d) :: (d, dictOf [hdrE w tkk l] 1) :: news) → (∀ p ∈ news, p.1 < d) → @LT.lt Nat _ d x → @LT.lt Nat _ x l → Q (.ref x) { s with heap := h', toks := tk' }) :
    wpAny (model PySem.Challenge.rw_wa0038_01.row.prog w) (ktrTop dp un gd cn cs L a ccd cl outer) (call (.ref 199) [] []) Q E s := by
  revert X; k_fill; intro X
  k_dflt (refine' call_cls ?k1 ?k2 ?k3 ?k4 ?k5 ?k6 ?_; (case k1 => k_asm); (case k2 => k_asm); (case k3 => k_asm); (case k4 => k_is); (case k5 => k_is); (case k6 => k_is); k_whole; intro x' d' h' F' N' l1 l2; (try k_lt l1); (try k_lt2 l2); (try k_sweep); ((refine' code_def ?k1 ?k2 ?k3 ?k4 ?k5 ?kA ?kF ?kK ?k6 ?k7 ?k8 ?k9 ?kB ?_ ?c2 ?c3 ?c4 ?c5; (case kA => exact rfl); (case kF => exact rfl); (case kK => first | exact rfl | assumption); (case k1 => k_asm); (case k2 => k_asm); (case k3 => k_asm); (case k4 => k_asm); (case k5 => k_asm); (case k6 => k_is); (case k7 => k_is); (case k8 => ktr_room); (case k9 => first | exact BindsTo.of_eq rfl | exact binds_K (by k_in) rfl (by k_is) rfl rfl rfl | fail "no rule for these arguments"); (case c5 => decide); (case kB => exact locs rfl); (case c2 => exact rfl); (case c3 => exact rfl); (case c4 => exact rfl); k_whole; intro g' L' h' FG' F' N' B' X' T'; (try dsimp only); (try k_lift B'); (try k_fold))))
  k_steps
  refine for_any ?_
  k_steps
  refine iter_nil (by rfl) (by assumption) (by assumption) (by k_mem) ?_
  intro h tk F' N'
  k_steps
  exact hret _ _ _ _ _ _ (by k_asm) (by k_asm) (by assumption) (by omega) (by omega)
end
end
section
section
variable {w : World} {mean : ExcName → Option Value} {mg mb : PySem.Str → Option Value} {dp un : Nat} {gd : Option (List Code)} {cn : PySem.Str} {cs : Scope} {a : Addr} {ccd : Value} {cl : List (PySem.Str × Addr)} {outer : List Env} {A₀ : Around} {base h₀ : Heap} {L : Addr} {m : PySem.Str → Option Value} {news : List (Addr × Obj)} {s : Shared} {Q E : Value → Shared → Prop}
  (B : Below A₀ base outer h₀) (F : Fr h₀ L s.heap m) (X : (hd.heap_39 w.params).In h₀) (N : News h₀ L s.heap news) (T : Top hd.view_39 LO mean mg mb h₀) (hk : cs.kind = .function)
include B F X N T hk
set_option maxRecDepth 100000 in
set_option maxHeartbeats 8000000 in
theorem conv {self : Value} {x : PySem.Str} {tk : Tok} {b : Bool} (hx : Clean x)
    (hdp : dp + 10 < recursionLimit) 
    (hret : ∀ t h' tk', Fr h₀ L h' m → News h₀ L h' news → Q (.str x t) { s with heap := h', toks := tk' }) :
    wpAny (model PySem.Challenge.rw_wa0038_01.row.prog w) (ktrTop dp un gd cn cs L a ccd cl outer) (call (.ref 98) [self, .str x tk] [(PySem.Str.ofString "name", .bool b)]) Q E s := by
  revert X; k_fill; intro X
  refine wpAny_call ?_
  k_dflt (((refine' code_def ?k1 ?k2 ?k3 ?k4 ?k5 ?kA ?kF ?kK ?k6 ?k7 ?k8 ?k9 ?kB ?_ ?c2 ?c3 ?c4 ?c5; (case kA => exact rfl); (case kF => exact rfl); (case kK => first | exact rfl | assumption); (case k1 => k_asm); (case k2 => k_asm); (case k3 => k_asm); (case k4 => k_asm); (case k5 => k_asm); (case k6 => k_is); (case k7 => k_is); (case k8 => ktr_room); (case k9 => first | exact BindsTo.of_eq rfl | exact binds_K (by k_in) rfl (by k_is) rfl rfl rfl | fail "no rule for these arguments"); (case c5 => decide); (case kB => exact locs rfl); (case c2 => exact rfl); (case c3 => exact rfl); (case c4 => exact rfl); k_whole; intro g' L' h' FG' F' N' B' X' T'; (try dsimp only); (try k_lift B'); (try k_fold))))
  (repeat' (first | (k_unfold; (try dsimp only)) | (k_end; wrow_close) | ((((fail_if_success (with_reducible show wpAny _ _ (call (Value.builtin "dict.items") _ _) _ _ _)); (fail_if_success (with_reducible show wpAny _ _ (call (Value.type "range") _ _) _ _ _)); (fail_if_success (with_reducible show wpAny _ _ (call (Value.ref 112) _ _) _ _ _)); (fail_if_success (with_reducible show wpAny _ _ (eval (Expr.ListComp _ _ _ _) _) _ _ _)); (fail_if_success (with_reducible show wpAny _ _ (exec (Stmt.For _ _ _ _ _) _) _ _ _)); (fail_if_success (with_reducible show wpAny _ _ (exec (Stmt.While _ _ _ _) _) _ _ _)); (fail_if_success (with_reducible show wpAny _ _ (exec (Stmt.Assign [Expr.Name _ _] (Expr.ListComp _ _ _ _) _) _) _ _ _)))); first | (first | with_reducible (k_here; (with_reducible show wpAny _ _ (call (Value.builtin "re.Pattern.search") _ _) _ _ _); k_dflt (first  | (refine' search_name ?hxqz ?h1qz ?h2qz ?_; (case h1qz => refine' in_get ?Xqz ?eqz; (case Xqz => k_in); (case eqz => k_is)); (case h2qz => refine' in_get ?Xqz ?eqz; (case Xqz => k_in); (case eqz => k_is)); (case hxqz => assumption)) | (refine' search_val ?hxqz ?h1qz ?h2qz ?_; (case h1qz => refine' in_get ?Xqz ?eqz; (case Xqz => k_in); (case eqz => k_is)); (case h2qz => refine' in_get ?Xqz ?eqz; (case Xqz => k_in); (case eqz => k_is)); (case hxqz => assumption)))) | with_reducible (k_here; (with_reducible show wpAny _ _ (getMethod (Value.ref _) (PySem.Str.ofString "search") _) _ _ _); k_dflt (refine' method_search ?h1qz ?_; (case h1qz => refine' in_get ?Xqz ?eqz; (case Xqz => k_in); (case eqz => k_is)))) | walk1) | (dsimp only; ((((fail_if_success (with_reducible show wpAny _ _ (call (Value.builtin "dict.items") _ _) _ _ _)); (fail_if_success (with_reducible show wpAny _ _ (call (Value.type "range") _ _) _ _ _)); (fail_if_success (with_reducible show wpAny _ _ (call (Value.ref 112) _ _) _ _ _)); (fail_if_success (with_reducible show wpAny _ _ (eval (Expr.ListComp _ _ _ _) _) _ _ _)); (fail_if_success (with_reducible show wpAny _ _ (exec (Stmt.For _ _ _ _ _) _) _ _ _)); (fail_if_success (with_reducible show wpAny _ _ (exec (Stmt.While _ _ _ _) _) _ _ _)); (fail_if_success (with_reducible show wpAny _ _ (exec (Stmt.Assign [Expr.Name _ _] (Expr.ListComp _ _ _ _) _) _) _ _ _))))); (first | with_reducible (k_here; (with_reducible show wpAny _ _ (call (Value.builtin "re.Pattern.search") _ _) _ _ _); k_dflt (first  | (refine' search_name ?hxqz ?h1qz ?h2qz ?_; (case h1qz => refine' in_get ?Xqz ?eqz; (case Xqz => k_in); (case eqz => k_is)); (case h2qz => refine' in_get ?Xqz ?eqz; (case Xqz => k_in); (case eqz => k_is)); (case hxqz => assumption)) | (refine' search_val ?hxqz ?h1qz ?h2qz ?_; (case h1qz => refine' in_get ?Xqz ?eqz; (case Xqz => k_in); (case eqz => k_is)); (case h2qz => refine' in_get ?Xqz ?eqz; (case Xqz => k_in); (case eqz => k_is)); (case hxqz => assumption)))) | with_reducible (k_here; (with_reducible show wpAny _ _ (getMethod (Value.ref _) (PySem.Str.ofString "search") _) _ _ _); k_dflt (refine' method_search ?h1qz ?_; (case h1qz => refine' in_get ?Xqz ?eqz; (case Xqz => k_in); (case eqz => k_is)))) | walk1))) | (leave1; walk_say "STEP leave1"; try dsimp only) | fail "no step"))
  all_goals exact hret _ _ _ (by k_asm) (by k_asm)
end
end
section
theorem paired_id {p : Value → Bool} : ∀ {vs : List Value} {ys : List Value}, Paired (fun a b => b = a) vs ys → ys = vs
  | _, _, .nil => rfl
  | _, _, .cons e t => by rw [e, paired_id t (p := p)]

section
variable {prog : Program} {w : World} {A : Around} {E : Value → Shared → Prop} {s : Shared} {env : Env} {h₀ : Heap} {L : Addr} {m : PySem.Str → Option Value}

theorem loadOwn {M : Model} {A : Around} {E : Value → Shared → Prop} {s : Shared} {scope : Scope} {cl : List (PySem.Str × Addr)} {C : Addr} {env : Env} {x : PySem.Str} {pos : Pos} {v : Value} {m₃ : PySem.Str → Option Value} {Q : Value → Shared → Prop}
    (hn : s.heap.Ns C m₃) (hm : m₃ x = some v) (h : Q v s) (hkind : scope.kind = .function) (hx : scope.names.lookup x = some .local) (hdb : (x == (PySem.Str.ofString "__debug__")) = false) :
    wpAny M A (eval (.Name x pos) (compEnvC scope cl C env)) Q E s :=
  wpAny_Name (wpAny_loadName_local (env := compEnvC scope cl C env) (by show (relabel scope env).kind = _; exact hkind) (lookup_relabel_local hx) hn hm h) hdb

/-- what is wanted of the source of a comprehension that keeps those items that pass a test -/
noncomputable def FiltSrc (prog : Program) (w : World) (A : Around) (env : Env) (h₀ : Heap) (L : Addr) (m : PySem.Str → Option Value) (x : PySem.Str) (test : Expr) (scope : Scope) (cl : List (PySem.Str × Addr)) (p : Value → Bool) (Q : Value → Shared → Prop) (xv : Value) (s₁ : Shared) : Prop :=
  ∃ (l : Addr) (items : Array Value) (n : Nat) (news : List (Addr × Obj)), xv = .ref l ∧ Fr h₀ L s₁.heap m ∧ News h₀ L s₁.heap news ∧ (l, listOf items n) ∈ news ∧ items.size ≤ sizeLine ∧
    (∀ (v : Value) (C : Addr) (oC : Obj) (m₃ : PySem.Str → Option Value) (s₃ : Shared), v ∈ items.toList → Fr h₀ L s₃.heap m → News h₀ L s₃.heap ((C, oC) :: news) → LCg.NsObj oC m₃ → m₃ x = some v →
      wpAny (model prog w) A (isTrue test (compEnvC scope cl C env) (eval test (compEnvC scope cl C env))) (fun ok s₄ => ok = p v ∧ Keeps s₃ s₄) NoE s₃) ∧
    (∀ (D : Addr) (h : Heap) (tk nD : Nat), Fr h₀ L h m → News h₀ L h ((D, listOf (items.toList.filter p).toArray nD) :: news) → (∀ q ∈ news, q.1 ≠ D) → Q (.ref D) { s₁ with heap := h, toks := tk })

theorem comp_filter {x : PySem.Str} {px ep : Pos} {iter test : Expr} {scope : Scope} {cl : List (PySem.Str × Addr)} {pos : Pos} {Q : Value → Shared → Prop} (_F₀ : Fr h₀ L s.heap m) (p : Value → Bool)
    (hh : A.handled = none) (hclos : closureFor scope env = pure cl) (hcell : ∀ y ∈ scope.names, y.2 ≠ .cell) (hkind : scope.kind = .function)
    (hnames : ∀ y ∈ scope.names, y.2 = .local → scope.names.lookup y.1 = some .local) (hx : scope.names.lookup x = some .local)
    (h : wpAny (model prog w) A (eval iter env) (FiltSrc prog w A env h₀ L m x test scope cl p Q) E s)
    (hs : ∀ x, foldedSetIterable iter env x = pure x := by intro _; rfl) (hdb : (x == (PySem.Str.ofString "__debug__")) = false := by decide) :
    wpAny (model prog w) A (eval (.ListComp (.Name x ep) [⟨.Name x px, iter, [test], 0⟩] scope pos) env) Q E s := by
  refine wpAny_ListComp_free p (fun a b => b = a) hclos hcell hkind hnames hx (wpAny_mono h (fun xv s₁ h₁ => ?_) fun _ _ e => e) hs
  obtain ⟨l, items, n, news, rfl, F, N, hl, hsz, htest, hfin⟩ := h₁
  have hls : s₁.heap.IsList l items := ⟨_, (N _ hl).1, rfl, n, rfl⟩
  have hlt : l < s₁.heap.objs.size := Heap.lt_size (N _ hl).1
  have up : ∀ (h' : Heap), (∀ b o, b ∉ [s₁.heap.objs.size] → (s₁.heap.push { cls := .type "list_iterator", data := .fields #[.ref l, .int 0 0] }).get? b = some o → h'.get? b = some o) → ∀ b o, s₁.heap.get? b = some o → h'.get? b = some o :=
    fun h' hk b o e => hk b o (fun hm => by rw [List.mem_singleton.mp hm] at e; exact Nat.lt_irrefl _ (Heap.lt_size e)) (Heap.get?_push_of_some _ e)
  refine wpAny_pyIter_list hls ⟨s₁.heap.objs.size, [s₁.heap.objs.size, l], [s₁.heap.objs.size], items.size, _, _, rfl, Walks.list hh _ _ (Nat.ne_of_lt hlt) items, hsz, ⟨⟨_, Heap.get?_push_size _ rfl, rfl, rfl⟩, hls.push _⟩, ?_, ⟨?_, ?_⟩, ?_⟩
  · intro b hb
    show b < (s₁.heap.push _).objs.size
    rw [Heap.size_push]
    rcases List.mem_cons.mp hb with rfl | hb
    · exact Nat.lt_succ_self _
    · rcases List.mem_cons.mp hb with rfl | hb
      · exact Nat.lt_succ_of_lt hlt
      · cases hb
  · intro C i v s₃ m₃ E' hC hP hn hm hk htk
    have keep := up s₃.heap hk
    obtain ⟨oC, eC, hoC⟩ := LCg.ns_obj hn
    have hC' : s₁.heap.objs.size < C := Nat.lt_of_lt_of_le (by rw [Heap.size_push]; exact Nat.lt_succ_self _) hC
    have hCL : C ≠ L := Nat.ne_of_gt (Nat.lt_trans F.ns.lt hC')
    have hC0 : h₀.get? C = none := by
      cases e : h₀.get? C with
      | none => rfl
      | some o => exact absurd (Nat.lt_trans (Heap.lt_size (F.keep _ _ e)) hC') (Nat.lt_irrefl _)
    refine wpAny_tests_one (wpAny_mono (htest v C oC m₃ s₃ ?_ (F.keeps keep) ?_ hoC hm) (fun _ _ x => x) fun _ _ x => x.elim)
    · exact Array.mem_toList_iff.mpr (Array.mem_of_getElem? hP)
    · intro q hq
      rcases List.mem_cons.mp hq with rfl | hq
      · exact ⟨eC, hCL, hC0⟩
      · exact N.grown keep q hq
  · intro C i v s₃ m₃ E' hC hP hp hn hm hk htk
    exact loadOwn hn hm ⟨rfl, _, _, rfl, fun _ _ e => e⟩ hkind hx hdb
  · intro D h' tk ys vs' hnew hlD hplD hlen hP hF hk
    have e : vs' = items.toList := by simpa using list_of_places (items := items) hlen hP
    subst e
    have keep := up h' hk
    obtain ⟨nD, eD⟩ := hplD
    have e2 : ys = (items.toList.filter p).toArray := by
      have := paired_id (p := p) hF
      rw [← this]
    subst e2
    have hne : ∀ q ∈ news, q.1 ≠ D := fun q hq e => by rw [← e, Heap.get?_push_of_some _ (N q hq).1] at hnew; cases hnew
    have hDL : D ≠ L := fun e => by
      obtain ⟨oL, _, _, hL, _⟩ := F.ns
      rw [e, Heap.get?_push_of_some _ hL] at hnew; cases hnew
    have hD0 : h₀.get? D = none := by
      cases e : h₀.get? D with
      | none => rfl
      | some o' => rw [Heap.get?_push_of_some _ (F.keep _ _ e)] at hnew; cases hnew
    refine hfin D h' tk nD (F.keeps keep) ?_ hne
    intro q hq
    rcases List.mem_cons.mp hq with rfl | hq
    · exact ⟨eD, hDL, hD0⟩
    · exact N.grown keep q hq
end
end
section
section
variable {prog : Program} {w : World} {A : Around} {E : Value → Shared → Prop} {s : Shared}
theorem set_all {l sl D : Addr} {its ys : Array Value} {n k : Nat} {Q : Unit → Shared → Prop} (ho : s.heap.get? l = some (listOf its n))
    (hs : s.heap.IsSliceOf sl .none .none .none) (hD : s.heap.get? D = some (listOf ys k)) (hne : l ≠ D) (hsz : its.size + ys.size ≤ sizeLine)
    (h : ∀ h' n', Heap.SameBut l s.heap h' → h'.get? l = some (listOf ys n') → Q () { s with heap := h' }) :
    wpAny (model prog w) A (setItem (.ref l) (.ref sl) (.ref D)) Q E s := by
  have hl : s.heap.IsList l its := ⟨_, ho, rfl, n, rfl⟩
  obtain ⟨os, hos, hcs, hds⟩ := id hs
  have hTs : s.TypeIs (.ref sl) "slice" := ⟨os, hos, hcs⟩
  have hTD : s.TypeIs (.ref D) "list" := ⟨_, hD, rfl⟩
  unfold setItem
  try with_reducible refine wpAny_holding ?_
  first | refine wpAny_bind (wpAny_pure ?_) | skip
  refine wpAny_bind (wpAny_sequenceKey hl.typeIs (by decide) ?_)
  refine wpAny_bind (wpAny_callSpecial?_slot (name := Str.ofString "__setitem__") hl.typeIs slot_list_setitem
    (wpAny_call_entry slot_list_setitem hl.typeIs entry_list_setitem ?_ (args_list_setitem _ _ _)))
  show wpAny _ _ (Builtin.List.listSubscript? (.ref sl) >>= _) _ _ s
  refine wpAny_bind ?_
  unfold Builtin.List.listSubscript?
  refine wpAny_bind (wpAny_specialOf hTs slice_no_index ?_)
  simp only [Option.isNone_none, if_true]
  refine wpAny_pure ?_
  show wpAny _ _ (typeOf (.ref sl) >>= _) _ _ s
  refine wpAny_bind (wpAny_typeOf hTs ?_)
  rw [if_neg (by decide)]
  rw [listSliceParts_eq]
  refine wpAny_bind (wpAny_bind (wpAny_field hos hds (x := .none) rfl (wpAny_bind (wpAny_listPart .none ?_))))
  rw [if_neg (show ¬ ((rawPart none == rawInt 0) = true) from Bool.false_ne_true)]
  refine wpAny_bind (wpAny_field hos hds (x := .none) rfl (wpAny_bind (wpAny_listPart .none ?_)))
  refine wpAny_bind (wpAny_field hos hds (x := .none) rfl (wpAny_bind (wpAny_listPart .none (wpAny_pure ?_))))
  have e1 : Builtin.List.listSameRef (.ref l) (.ref D) = false := by simpa [Builtin.List.listSameRef] using hne
  have fin : ∀ A : Around, wpAny (model prog w) A (Builtin.List.listUpdate (.ref l) fun xs => xs.extract 0 (0:Int).toNat ++ ys ++ xs.extract (max (0:Int) (its.size:Int)).toNat) (fun _ s' => Q () s') E s := by
    intro A
    have e2 : ∀ xs : Array Value, xs.size = its.size → (xs.extract 0 (0:Int).toNat ++ ys ++ xs.extract (max (0:Int) (its.size:Int)).toNat) = ys := by
      intro xs hx
      simp [hx]
    show wpAny _ _ (updateSeq l _) _ _ _
    refine wpAny_updateSeq ho rfl ?_
    have hm : Obj.mapSeq (fun xs => xs.extract 0 (0:Int).toNat ++ ys ++ xs.extract (max (0:Int) (its.size:Int)).toNat) (listOf its n) = listOf ys (if ys.size == its.size then n else n + 1) := by
      simp only [Obj.mapSeq, e2 its rfl]
    refine h _ (if ys.size == its.size then n else n + 1) (Heap.SameBut.update ..) ?_
    rw [Heap.get?_update_self _ ho (by rw [hm]; rfl), hm]
  rw [e1, if_neg (by decide)]
  show wpAny _ _ (Builtin.List.listAllItems (.ref D) _ >>= _) _ _ s
  refine wpAny_bind ?_
  unfold Builtin.List.listAllItems
  refine wpAny_bind (wpAny_typeOf hTD ?_)
  rw [if_pos (by decide)]
  refine wpAny_bind (wpAny_seqItems hD rfl (wpAny_pure ?_))
  show wpAny _ _ (Builtin.List.listItems (.ref l) >>= _) _ _ s
  refine wpAny_bind (wpAny_listItems ho rfl ?_)
  refine wpAny_bind (wpAny_of_eq (sliceIndices_raw none none none its.size (by simp)) ?_)
  have e3 : sliceBounds none none none its.size = (0, (its.size : Int), 1) := rfl
  rw [e3]
  dsimp only
  rw [if_pos (by decide)]
  refine wpAny_bind (wpAny_rule ?_)
  have e4 : Builtin.List.listTooLong (its.size + ys.size) = false := by
    simp only [Builtin.List.listTooLong, decide_eq_false_iff_not]; omega
  rw [e4, if_neg (by decide)]
  refine wpAny_bind (wpAny_mono (fin _) (fun _ s' hs' => wpAny_bind (wpAny_letGo (wpAny_pure ⟨.none, rfl, wpAny_pure hs'⟩))) fun _ _ e => e)
end
end
section
section
variable {w : World} {mean : ExcName → Option Value} {mg mb : PySem.Str → Option Value} {dp un : Nat} {gd : Option (List Code)} {cn : PySem.Str} {cs : Scope} {a : Addr} {ccd : Value} {cl : List (PySem.Str × Addr)} {outer : List Env} {A₀ : Around} {base h₀ : Heap} {L : Addr} {m : PySem.Str → Option Value} {news : List (Addr × Obj)} {s : Shared} {Q E : Value → Shared → Prop}
  (B : Below A₀ base outer h₀) (F : Fr h₀ L s.heap m) (X : (hd.heap_39 w.params).In h₀) (N : News h₀ L s.heap news) (T : Top hd.view_39 LO mean mg mb h₀) (hk : cs.kind = .function)
include B F X N T hk

set_option maxRecDepth 100000 in
set_option maxHeartbeats 8000000 in
set_option pp.deepTerms false in
set_option pp.deepTerms.threshold 10 in
theorem del_ {t d l : Addr} {its : List Value} {tkk : Tok} {n : Nat} {rest : List (Addr × Obj)} {x : PySem.Str} {tk : Tok} {ps : List (PySem.Str × PySem.Str)} (hn : news = (l, listOf (List.toArray its) n) :: rest) (hsz : its.length < 1000) (hlr : ∀ p ∈ rest, p.1 ≠ l) (h1 : (t, instObj 199 d) ∈ rest) (h2 : (d, dictOf [hdrE w tkk l] 1) ∈ rest) (h4 : PairsAre rest its ps) 
    (hnot : ∀ p ∈ ps, (Txt.lower p.1 == Txt.lower x) = false)
    (hx : Clean (Txt.lower x)) (hlen : x.length < 100) (hks : ∀ p ∈ ps, p.1.length < 100) (hdp : dp + 20 < recursionLimit) 
    (hret : ∀ h' tk' n', Fr h₀ L h' m → News h₀ L h' ((l, listOf (List.toArray its) n') :: rest) → Q .none { s with heap := h', toks := tk' }) :
    wpAny (model PySem.Challenge.rw_wa0038_01.row.prog w) (ktrTop dp un gd cn cs L a ccd cl outer) (call (.ref 117) [.ref t, .str x tk] []) Q E s := by
  revert X; k_fill; intro X
  subst hn
  refine wpAny_call ?_
  k_dflt (((refine' code_defC ?k1 ?k2 ?k3 ?k4 ?k5 ?kA ?kF ?kK ?k6 ?k7 ?k8 ?k9 ?kB ?kD ?_ ?c2 ?c3 ?c4; (case kA => exact rfl); (case kF => exact rfl); (case kK => first | exact rfl | assumption); (case k1 => k_asm); (case k2 => k_asm); (case k3 => k_asm); (case k4 => k_asm); (case k5 => k_asm); (case k6 => k_is); (case k7 => k_is); (case k8 => ktr_room); (case k9 => first | exact BindsTo.of_eq rfl | exact binds_K (by k_in) rfl (by k_is) rfl rfl rfl | fail "k_enter: no rule for these arguments"); (case kB => exact rfl); (case kD => decide +kernel); (case c2 => exact rfl); (case c3 => exact rfl); (case c4 => exact rfl); k_whole; intro g' L' h' tk' cells' FG' F' N' Y' B' X' T' l1; (try k_lt l1); k_cells Y'; (try simp only [List.cons_append, List.nil_append] at N'); (try dsimp only); (try k_lift B'); (try k_fold))))
  (repeat' (first | (k_unfold; (try dsimp only)) | (k_end; wrow_close) | ((((fail_if_success (with_reducible show wpAny _ _ (call (Value.builtin "dict.items") _ _) _ _ _)); (fail_if_success (with_reducible show wpAny _ _ (call (Value.type "range") _ _) _ _ _)); (fail_if_success (with_reducible show wpAny _ _ (call (Value.ref 112) _ _) _ _ _)); (fail_if_success (with_reducible show wpAny _ _ (eval (Expr.ListComp _ _ _ _) _) _ _ _)); (fail_if_success (with_reducible show wpAny _ _ (exec (Stmt.For _ _ _ _ _) _) _ _ _)); (fail_if_success (with_reducible show wpAny _ _ (exec (Stmt.While _ _ _ _) _) _ _ _)); (fail_if_success (with_reducible show wpAny _ _ (exec (Stmt.Assign [Expr.Name _ _] (Expr.ListComp _ _ _ _) _) _) _ _ _)))); first | (first | with_reducible (k_here; (with_reducible show wpAny _ _ (call (Value.ref 98) _ _) _ _ _); k_dflt (refine' conv ?Bqz ?Fqz ?Xqz ?Nqz ?Tqz ?hkqz ?hxqz ?hdqz ?_; (case Bqz => k_asm); (case Fqz => k_asm); (case Xqz => k_asm); (case Nqz => k_asm); (case Tqz => k_asm); (case hkqz => first | exact rfl | assumption); (case hxqz => assumption); (case hdqz => ktr_room); intro t h' tk' F' N'; (try dsimp only))) | walk1) | (dsimp only; ((((fail_if_success (with_reducible show wpAny _ _ (call (Value.builtin "dict.items") _ _) _ _ _)); (fail_if_success (with_reducible show wpAny _ _ (call (Value.type "range") _ _) _ _ _)); (fail_if_success (with_reducible show wpAny _ _ (call (Value.ref 112) _ _) _ _ _)); (fail_if_success (with_reducible show wpAny _ _ (eval (Expr.ListComp _ _ _ _) _) _ _ _)); (fail_if_success (with_reducible show wpAny _ _ (exec (Stmt.For _ _ _ _ _) _) _ _ _)); (fail_if_success (with_reducible show wpAny _ _ (exec (Stmt.While _ _ _ _) _) _ _ _)); (fail_if_success (with_reducible show wpAny _ _ (exec (Stmt.Assign [Expr.Name _ _] (Expr.ListComp _ _ _ _) _) _) _ _ _))))); (first | with_reducible (k_here; (with_reducible show wpAny _ _ (call (Value.ref 98) _ _) _ _ _); k_dflt (refine' conv ?Bqz ?Fqz ?Xqz ?Nqz ?Tqz ?hkqz ?hxqz ?hdqz ?_; (case Bqz => k_asm); (case Fqz => k_asm); (case Xqz => k_asm); (case Nqz => k_asm); (case Tqz => k_asm); (case hkqz => first | exact rfl | assumption); (case hxqz => assumption); (case hdqz => ktr_room); intro t h' tk' F' N'; (try dsimp only))) | walk1))) | (leave1; walk_say "STEP leave1"; try dsimp only) | fail "no step"))
  rename Fr _ _ _ _ => lF
  refine comp_filter lF (fun _ => true) (by rfl) (by with_unfolding_all rfl) (by decide) (by rfl) (by decide) (by rfl) ?_
  (repeat' (first | (k_unfold; (try dsimp only)) | (k_end; wrow_close) | ((((fail_if_success (with_reducible show wpAny _ _ (call (Value.builtin "dict.items") _ _) _ _ _)); (fail_if_success (with_reducible show wpAny _ _ (call (Value.type "range") _ _) _ _ _)); (fail_if_success (with_reducible show wpAny _ _ (call (Value.ref 112) _ _) _ _ _)); (fail_if_success (with_reducible show wpAny _ _ (eval (Expr.ListComp _ _ _ _) _) _ _ _)); (fail_if_success (with_reducible show wpAny _ _ (exec (Stmt.For _ _ _ _ _) _) _ _ _)); (fail_if_success (with_reducible show wpAny _ _ (exec (Stmt.While _ _ _ _) _) _ _ _)); (fail_if_success (with_reducible show wpAny _ _ (exec (Stmt.Assign [Expr.Name _ _] (Expr.ListComp _ _ _ _) _) _) _ _ _)))); first | (first | with_reducible (k_here; (with_reducible show wpAny _ _ (call (Value.ref 98) _ _) _ _ _); k_dflt (refine' conv ?Bqz ?Fqz ?Xqz ?Nqz ?Tqz ?hkqz ?hxqz ?hdqz ?_; (case Bqz => k_asm); (case Fqz => k_asm); (case Xqz => k_asm); (case Nqz => k_asm); (case Tqz => k_asm); (case hkqz => first | exact rfl | assumption); (case hxqz => assumption); (case hdqz => ktr_room); intro t h' tk' F' N'; (try dsimp only))) | walk1) | (dsimp only; ((((fail_if_success (with_reducible show wpAny _ _ (call (Value.builtin "dict.items") _ _) _ _ _)); (fail_if_success (with_reducible show wpAny _ _ (call (Value.type "range") _ _) _ _ _)); (fail_if_success (with_reducible show wpAny _ _ (call (Value.ref 112) _ _) _ _ _)); (fail_if_success (with_reducible show wpAny _ _ (eval (Expr.ListComp _ _ _ _) _) _ _ _)); (fail_if_success (with_reducible show wpAny _ _ (exec (Stmt.For _ _ _ _ _) _) _ _ _)); (fail_if_success (with_reducible show wpAny _ _ (exec (Stmt.While _ _ _ _) _) _ _ _)); (fail_if_success (with_reducible show wpAny _ _ (exec (Stmt.Assign [Expr.Name _ _] (Expr.ListComp _ _ _ _) _) _) _ _ _))))); (first | with_reducible (k_here; (with_reducible show wpAny _ _ (call (Value.ref 98) _ _) _ _ _); k_dflt (refine' conv ?Bqz ?Fqz ?Xqz ?Nqz ?Tqz ?hkqz ?hxqz ?hdqz ?_; (case Bqz => k_asm); (case Fqz => k_asm); (case Xqz => k_asm); (case Nqz => k_asm); (case Tqz => k_asm); (case hkqz => first | exact rfl | assumption); (case hxqz => assumption); (case hdqz => ktr_room); intro t h' tk' F' N'; (try dsimp only))) | walk1))) | (leave1; walk_say "STEP leave1"; try dsimp only) | fail "no step"))
  refine ⟨l, its.toArray, n, _, rfl, lF, by assumption, by k_mem, ?_, ?_, ?_⟩
  · rw [sizeLine_eq]; simp; omega
  · intro v C oC m₃ s₃ hv F₃ N₃ hoC hm
    clear lF
    obtain ⟨i, hi⟩ := List.mem_iff_getElem?.mp hv
    obtain ⟨kk, vv, ta, t1, t2, hps, rfl, e2⟩ := h4.at (i := i) (by simpa using hi)
    have hkl : kk.length < 100 := hks _ (List.mem_of_getElem? hps)
    (repeat' (first | (k_unfold; (try dsimp only)) | (k_end; wrow_close) | ((((fail_if_success (with_reducible show wpAny _ _ (call (Value.builtin "dict.items") _ _) _ _ _)); (fail_if_success (with_reducible show wpAny _ _ (call (Value.type "range") _ _) _ _ _)); (fail_if_success (with_reducible show wpAny _ _ (call (Value.ref 112) _ _) _ _ _)); (fail_if_success (with_reducible show wpAny _ _ (eval (Expr.ListComp _ _ _ _) _) _ _ _)); (fail_if_success (with_reducible show wpAny _ _ (exec (Stmt.For _ _ _ _ _) _) _ _ _)); (fail_if_success (with_reducible show wpAny _ _ (exec (Stmt.While _ _ _ _) _) _ _ _)); (fail_if_success (with_reducible show wpAny _ _ (exec (Stmt.Assign [Expr.Name _ _] (Expr.ListComp _ _ _ _) _) _) _ _ _)))); first | (first | with_reducible (k_here; (with_reducible show wpAny _ _ (call (Value.ref 98) _ _) _ _ _); k_dflt (refine' conv ?Bqz ?Fqz ?Xqz ?Nqz ?Tqz ?hkqz ?hxqz ?hdqz ?_; (case Bqz => k_asm); (case Fqz => k_asm); (case Xqz => k_asm); (case Nqz => k_asm); (case Tqz => k_asm); (case hkqz => first | exact rfl | assumption); (case hxqz => assumption); (case hdqz => ktr_room); intro t h' tk' F' N'; (try dsimp only))) | walk1) | (dsimp only; ((((fail_if_success (with_reducible show wpAny _ _ (call (Value.builtin "dict.items") _ _) _ _ _)); (fail_if_success (with_reducible show wpAny _ _ (call (Value.type "range") _ _) _ _ _)); (fail_if_success (with_reducible show wpAny _ _ (call (Value.ref 112) _ _) _ _ _)); (fail_if_success (with_reducible show wpAny _ _ (eval (Expr.ListComp _ _ _ _) _) _ _ _)); (fail_if_success (with_reducible show wpAny _ _ (exec (Stmt.For _ _ _ _ _) _) _ _ _)); (fail_if_success (with_reducible show wpAny _ _ (exec (Stmt.While _ _ _ _) _) _ _ _)); (fail_if_success (with_reducible show wpAny _ _ (exec (Stmt.Assign [Expr.Name _ _] (Expr.ListComp _ _ _ _) _) _) _ _ _))))); (first | with_reducible (k_here; (with_reducible show wpAny _ _ (call (Value.ref 98) _ _) _ _ _); k_dflt (refine' conv ?Bqz ?Fqz ?Xqz ?Nqz ?Tqz ?hkqz ?hxqz ?hdqz ?_; (case Bqz => k_asm); (case Fqz => k_asm); (case Xqz => k_asm); (case Nqz => k_asm); (case Tqz => k_asm); (case hkqz => first | exact rfl | assumption); (case hxqz => assumption); (case hdqz => ktr_room); intro t h' tk' F' N'; (try dsimp only))) | walk1))) | (leave1; walk_say "STEP leave1"; try dsimp only) | fail "no step"))
    · have := hnot _ (List.mem_of_getElem? hps)
      rw [bne, this]; rfl
    · exact ⟨_, _, rfl, fun _ _ e => e⟩
  · intro D h tk nD F₃ N₃ hDn
    clear lF
    have eq : its.toArray.toList.filter (fun _ => true) = its := by simp
    rw [eq] at N₃
    (repeat' (first | (k_unfold; (try dsimp only)) | (k_end; wrow_close) | ((((fail_if_success (with_reducible show wpAny _ _ (call (Value.builtin "dict.items") _ _) _ _ _)); (fail_if_success (with_reducible show wpAny _ _ (call (Value.type "range") _ _) _ _ _)); (fail_if_success (with_reducible show wpAny _ _ (call (Value.ref 112) _ _) _ _ _)); (fail_if_success (with_reducible show wpAny _ _ (eval (Expr.ListComp _ _ _ _) _) _ _ _)); (fail_if_success (with_reducible show wpAny _ _ (exec (Stmt.For _ _ _ _ _) _) _ _ _)); (fail_if_success (with_reducible show wpAny _ _ (exec (Stmt.While _ _ _ _) _) _ _ _)); (fail_if_success (with_reducible show wpAny _ _ (exec (Stmt.Assign [Expr.Name _ _] (Expr.ListComp _ _ _ _) _) _) _ _ _)))); first | (first | with_reducible (k_here; (with_reducible show wpAny _ _ (call (Value.ref 98) _ _) _ _ _); k_dflt (refine' conv ?Bqz ?Fqz ?Xqz ?Nqz ?Tqz ?hkqz ?hxqz ?hdqz ?_; (case Bqz => k_asm); (case Fqz => k_asm); (case Xqz => k_asm); (case Nqz => k_asm); (case Tqz => k_asm); (case hkqz => first | exact rfl | assumption); (case hxqz => assumption); (case hdqz => ktr_room); intro t h' tk' F' N'; (try dsimp only))) | walk1) | (dsimp only; ((((fail_if_success (with_reducible show wpAny _ _ (call (Value.builtin "dict.items") _ _) _ _ _)); (fail_if_success (with_reducible show wpAny _ _ (call (Value.type "range") _ _) _ _ _)); (fail_if_success (with_reducible show wpAny _ _ (call (Value.ref 112) _ _) _ _ _)); (fail_if_success (with_reducible show wpAny _ _ (eval (Expr.ListComp _ _ _ _) _) _ _ _)); (fail_if_success (with_reducible show wpAny _ _ (exec (Stmt.For _ _ _ _ _) _) _ _ _)); (fail_if_success (with_reducible show wpAny _ _ (exec (Stmt.While _ _ _ _) _) _ _ _)); (fail_if_success (with_reducible show wpAny _ _ (exec (Stmt.Assign [Expr.Name _ _] (Expr.ListComp _ _ _ _) _) _) _ _ _))))); (first | with_reducible (k_here; (with_reducible show wpAny _ _ (call (Value.ref 98) _ _) _ _ _); k_dflt (refine' conv ?Bqz ?Fqz ?Xqz ?Nqz ?Tqz ?hkqz ?hxqz ?hdqz ?_; (case Bqz => k_asm); (case Fqz => k_asm); (case Xqz => k_asm); (case Nqz => k_asm); (case Tqz => k_asm); (case hkqz => first | exact rfl | assumption); (case hxqz => assumption); (case hdqz => ktr_room); intro t h' tk' F' N'; (try dsimp only))) | walk1))) | (leave1; walk_say "STEP leave1"; try dsimp only) | fail "no step"))
    have hDl : l ≠ D := fun e => by
      subst e
      exact (hDn _ (.tail _ (.head _))) rfl
    have zD := (N₃ (D, _) (.head _)).1
    have zl := N₃ (l, _) (.tail _ (.tail _ (.head _)))
    refine set_all (n := n) (k := nD) (its := its.toArray) (ys := its.toArray) (l := l) (D := D) (Heap.get?_push_of_some _ zl.1) (Heap.IsSliceOf.new ..) (Heap.get?_push_of_some _ zD) hDl ?_ ?_
    · rw [sizeLine_eq]; simp; omega
    · intro h5 n5 hs5 hl5
      have F₅ := (F₃.push _).change hs5 zl.2.1 zl.2.2
      have N₄ : News _ _ _ ([(D, _), (_, _)] ++ (l, _) :: rest) := N₃.keepsAll (fun b o e => Heap.get?_push_of_some { cls := .type "slice", data := .fields #[.none, .none, .none] } e)
      have N₅ := News.setAt N₄ (by
        intro p hp
        rcases List.mem_cons.mp hp with rfl | hp
        · exact hDl.symm
        · rcases List.mem_cons.mp hp with rfl | hp
          · dsimp only
            exact @Nat.ne_of_gt _ _ (by omega)
          · exact absurd hp List.not_mem_nil) hlr hs5 hl5
      dsimp only [List.cons_append, List.nil_append] at N₅
      clear N₃ F₃ zl zD
      (repeat' (first | (k_unfold; (try dsimp only)) | (k_end; wrow_close) | ((((fail_if_success (with_reducible show wpAny _ _ (call (Value.builtin "dict.items") _ _) _ _ _)); (fail_if_success (with_reducible show wpAny _ _ (call (Value.type "range") _ _) _ _ _)); (fail_if_success (with_reducible show wpAny _ _ (call (Value.ref 112) _ _) _ _ _)); (fail_if_success (with_reducible show wpAny _ _ (eval (Expr.ListComp _ _ _ _) _) _ _ _)); (fail_if_success (with_reducible show wpAny _ _ (exec (Stmt.For _ _ _ _ _) _) _ _ _)); (fail_if_success (with_reducible show wpAny _ _ (exec (Stmt.While _ _ _ _) _) _ _ _)); (fail_if_success (with_reducible show wpAny _ _ (exec (Stmt.Assign [Expr.Name _ _] (Expr.ListComp _ _ _ _) _) _) _ _ _)))); first | (first | with_reducible (k_here; (with_reducible show wpAny _ _ (call (Value.ref 98) _ _) _ _ _); k_dflt (refine' conv ?Bqz ?Fqz ?Xqz ?Nqz ?Tqz ?hkqz ?hxqz ?hdqz ?_; (case Bqz => k_asm); (case Fqz => k_asm); (case Xqz => k_asm); (case Nqz => k_asm); (case Tqz => k_asm); (case hkqz => first | exact rfl | assumption); (case hxqz => assumption); (case hdqz => ktr_room); intro t h' tk' F' N'; (try dsimp only))) | walk1) | (dsimp only; ((((fail_if_success (with_reducible show wpAny _ _ (call (Value.builtin "dict.items") _ _) _ _ _)); (fail_if_success (with_reducible show wpAny _ _ (call (Value.type "range") _ _) _ _ _)); (fail_if_success (with_reducible show wpAny _ _ (call (Value.ref 112) _ _) _ _ _)); (fail_if_success (with_reducible show wpAny _ _ (eval (Expr.ListComp _ _ _ _) _) _ _ _)); (fail_if_success (with_reducible show wpAny _ _ (exec (Stmt.For _ _ _ _ _) _) _ _ _)); (fail_if_success (with_reducible show wpAny _ _ (exec (Stmt.While _ _ _ _) _) _ _ _)); (fail_if_success (with_reducible show wpAny _ _ (exec (Stmt.Assign [Expr.Name _ _] (Expr.ListComp _ _ _ _) _) _) _ _ _))))); (first | with_reducible (k_here; (with_reducible show wpAny _ _ (call (Value.ref 98) _ _) _ _ _); k_dflt (refine' conv ?Bqz ?Fqz ?Xqz ?Nqz ?Tqz ?hkqz ?hxqz ?hdqz ?_; (case Bqz => k_asm); (case Fqz => k_asm); (case Xqz => k_asm); (case Nqz => k_asm); (case Tqz => k_asm); (case hkqz => first | exact rfl | assumption); (case hxqz => assumption); (case hdqz => ktr_room); intro t h' tk' F' N'; (try dsimp only))) | walk1))) | (leave1; walk_say "STEP leave1"; try dsimp only) | fail "no step"))
      rename News h₀ L _ _ => Nz
      exact hret _ _ _ (by k_asm) fun p hp => Nz p (.tail _ (.tail _ hp))
end
end
section
section
variable {M : Model} {A : Around} {E : Value → Shared → Prop} {s : Shared} {K : Frag} {x C L f : Addr} {h₀ : Heap} {m : PySem.Str → Option Value} {ox : Obj} {od : Option Obj} {i v : Value}
theorem del_own {Q : Unit → Shared → Prop} (F : Fr h₀ L s.heap m) (X₀ : K.In h₀) (I : InstAt s.heap x ox C od) (hq : noSeq K C = true) (hs : findIn K (.ref C) "__delitem__" = some (some (.ref f))) (hf : isFn K (.ref f) = true)
    (h : wpAny M A (call (.ref f) [.ref x, i]) (fun _ s' => Q () s') E s) : wpAny M A (delItem (.ref x) i) Q E s := by
  have X := X₀.keeps F.keep
  unfold delItem sequenceKey
  refine wpAny_holding (wpAny_bind (wpAny_bind (I.type.here ?_)))
  refine wpAny_bind ((anyM_none X hq).here ?_)
  rw [if_pos (show (!false) = true from rfl)]
  exact wpAny_pure (wpAny_bind (special_fn X I hs (beq_iff_eq.mp hf) (wpAny_mono h (fun _ _ z => wpAny_pure z) fun _ _ z => z)))
end
section
variable {w : World} {mean : ExcName → Option Value} {mg mb : PySem.Str → Option Value} {dp un : Nat} {gd : Option (List Code)} {cn : PySem.Str} {cs : Scope} {a : Addr} {ccd : Value} {cl : List (PySem.Str × Addr)} {outer : List Env} {A₀ : Around} {base h₀ : Heap} {L : Addr} {m : PySem.Str → Option Value} {news : List (Addr × Obj)} {s : Shared} {Q E : Value → Shared → Prop}
  (B : Below A₀ base outer h₀) (F : Fr h₀ L s.heap m) (X : (hd.heap_39 w.params).In h₀) (N : News h₀ L s.heap news) (T : Top hd.view_39 LO mean mg mb h₀) (hk : cs.kind = .function)
include B F X N T hk


set_option maxRecDepth 100000 in
set_option maxHeartbeats 8000000 in
set_option pp.deepTerms false in
set_option pp.deepTerms.threshold 10 in
theorem set_ {t d l : Addr} {its : List Value} {tkk : Tok} {n : Nat} {rest : List (Addr × Obj)} {x v : PySem.Str} {tk tv : Tok} {ps : List (PySem.Str × PySem.Str)} (hn : news = (l, listOf (List.toArray its) n) :: rest) (hsz : its.length < 1000) (hlr : ∀ p ∈ rest, p.1 ≠ l) (h1 : (t, instObj 199 d) ∈ rest) (h2 : (d, dictOf [hdrE w tkk l] 1) ∈ rest) (h4 : PairsAre rest its ps) 
    (hnot : ∀ p ∈ ps, (Txt.lower p.1 == Txt.lower x) = false)
    (hx : Clean (Txt.lower x)) (hx' : Clean x) (hv : Clean v) (hlen : x.length < 100) (hks : ∀ p ∈ ps, p.1.length < 100) (hdp : dp + 20 + 20 < recursionLimit) 
    (hret : ∀ h' tk' a t1 t2 n', Fr h₀ L h' m → News h₀ L h' ((a, tup2 x v t1 t2) :: (l, listOf (List.toArray (its ++ [.ref a])) n') :: rest) → l < a ∧ AllLt a rest → Q .none { s with heap := h', toks := tk' }) :
    wpAny (model PySem.Challenge.rw_wa0038_01.row.prog w) (ktrTop dp un gd cn cs L a ccd cl outer) (call (.ref 112) [.ref t, .str x tk, .str v tv] []) Q E s := by
  revert X; k_fill; intro X
  subst hn
  refine wpAny_call ?_
  k_dflt (((refine' code_def ?k1 ?k2 ?k3 ?k4 ?k5 ?kA ?kF ?kK ?k6 ?k7 ?k8 ?k9 ?kB ?_ ?c2 ?c3 ?c4 ?c5; (case kA => exact rfl); (case kF => exact rfl); (case kK => first | exact rfl | assumption); (case k1 => k_asm); (case k2 => k_asm); (case k3 => k_asm); (case k4 => k_asm); (case k5 => k_asm); (case k6 => k_is); (case k7 => k_is); (case k8 => ktr_room); (case k9 => first | exact BindsTo.of_eq rfl | exact binds_K (by k_in) rfl (by k_is) rfl rfl rfl | fail "no rule for these arguments"); (case c5 => decide); (case kB => exact locs rfl); (case c2 => exact rfl); (case c3 => exact rfl); (case c4 => exact rfl); k_whole; intro g' L' h' FG' F' N' B' X' T'; (try dsimp only); (try k_lift B'); (try k_fold))))
  (repeat' (first | (k_unfold; (try dsimp only)) | (k_end; wrow_close) | ((((fail_if_success (with_reducible show wpAny _ _ (call (Value.builtin "dict.items") _ _) _ _ _)); (fail_if_success (with_reducible show wpAny _ _ (call (Value.type "range") _ _) _ _ _)); (fail_if_success (with_reducible show wpAny _ _ (call (Value.ref 112) _ _) _ _ _)); (fail_if_success (with_reducible show wpAny _ _ (eval (Expr.ListComp _ _ _ _) _) _ _ _)); (fail_if_success (with_reducible show wpAny _ _ (exec (Stmt.For _ _ _ _ _) _) _ _ _)); (fail_if_success (with_reducible show wpAny _ _ (exec (Stmt.While _ _ _ _) _) _ _ _)); (fail_if_success (with_reducible show wpAny _ _ (exec (Stmt.Assign [Expr.Name _ _] (Expr.ListComp _ _ _ _) _) _) _ _ _)))); first | (first | with_reducible (k_here; (with_reducible show wpAny _ _ (call (Value.ref 117) _ _) _ _ _); k_dflt (refine' del_ ?Bqz ?Fqz ?Xqz ?Nqz ?Tqz ?hkqz ?hnqz ?hszqz ?hlrqz ?h1qz ?h2qz ?h4qz ?hnotqz ?hxqz ?hlenqz ?hksqz ?hdqz ?_; (case Bqz => k_asm); (case Fqz => k_asm); (case Xqz => k_asm); (case Nqz => k_asm); (case Tqz => k_asm); (case hkqz => first | exact rfl | assumption); (case hnqz => exact rfl); (case hszqz => assumption); (case hlrqz => assumption); (case h1qz => assumption); (case h2qz => assumption); (case h4qz => assumption); (case hnotqz => assumption); (case hxqz => assumption); (case hlenqz => assumption); (case hksqz => assumption); (case hdqz => ktr_room); intro h' tk' n' F' N'; (try dsimp only))) | with_reducible (k_here; (with_reducible show wpAny _ _ (delItem (Value.ref _) _) _ _ _); k_dflt (refine' del_own ?Fqz ?Xqz ?Iqz ?hQqz ?hSqz ?hFqz ?_; (case Fqz => k_asm); (case Xqz => k_asm); (case Iqz => k_inst); (case hSqz => k_is); (case hFqz => k_is); (case hQqz => k_is); k_whole)) | with_reducible (k_here; (with_reducible show wpAny _ _ (call (Value.ref 98) _ _) _ _ _); k_dflt (refine' conv ?Bqz ?Fqz ?Xqz ?Nqz ?Tqz ?hkqz ?hxqz ?hdqz ?_; (case Bqz => k_asm); (case Fqz => k_asm); (case Xqz => k_asm); (case Nqz => k_asm); (case Tqz => k_asm); (case hkqz => first | exact rfl | assumption); (case hxqz => assumption); (case hdqz => ktr_room); intro t h' tk' F' N'; (try dsimp only))) | with_reducible (k_here; (with_reducible show wpAny _ _ (call (Value.builtin "re.Pattern.search") _ _) _ _ _); k_dflt (first  | (refine' search_name ?hxqz ?h1qz ?h2qz ?_; (case h1qz => refine' in_get ?Xqz ?eqz; (case Xqz => k_in); (case eqz => k_is)); (case h2qz => refine' in_get ?Xqz ?eqz; (case Xqz => k_in); (case eqz => k_is)); (case hxqz => assumption)) | (refine' search_val ?hxqz ?h1qz ?h2qz ?_; (case h1qz => refine' in_get ?Xqz ?eqz; (case Xqz => k_in); (case eqz => k_is)); (case h2qz => refine' in_get ?Xqz ?eqz; (case Xqz => k_in); (case eqz => k_is)); (case hxqz => assumption)))) | with_reducible (k_here; (with_reducible show wpAny _ _ (getMethod (Value.ref _) (PySem.Str.ofString "search") _) _ _ _); k_dflt (refine' method_search ?h1qz ?_; (case h1qz => refine' in_get ?Xqz ?eqz; (case Xqz => k_in); (case eqz => k_is)))) | walk1) | (dsimp only; ((((fail_if_success (with_reducible show wpAny _ _ (call (Value.builtin "dict.items") _ _) _ _ _)); (fail_if_success (with_reducible show wpAny _ _ (call (Value.type "range") _ _) _ _ _)); (fail_if_success (with_reducible show wpAny _ _ (call (Value.ref 112) _ _) _ _ _)); (fail_if_success (with_reducible show wpAny _ _ (eval (Expr.ListComp _ _ _ _) _) _ _ _)); (fail_if_success (with_reducible show wpAny _ _ (exec (Stmt.For _ _ _ _ _) _) _ _ _)); (fail_if_success (with_reducible show wpAny _ _ (exec (Stmt.While _ _ _ _) _) _ _ _)); (fail_if_success (with_reducible show wpAny _ _ (exec (Stmt.Assign [Expr.Name _ _] (Expr.ListComp _ _ _ _) _) _) _ _ _))))); (first | with_reducible (k_here; (with_reducible show wpAny _ _ (call (Value.ref 117) _ _) _ _ _); k_dflt (refine' del_ ?Bqz ?Fqz ?Xqz ?Nqz ?Tqz ?hkqz ?hnqz ?hszqz ?hlrqz ?h1qz ?h2qz ?h4qz ?hnotqz ?hxqz ?hlenqz ?hksqz ?hdqz ?_; (case Bqz => k_asm); (case Fqz => k_asm); (case Xqz => k_asm); (case Nqz => k_asm); (case Tqz => k_asm); (case hkqz => first | exact rfl | assumption); (case hnqz => exact rfl); (case hszqz => assumption); (case hlrqz => assumption); (case h1qz => assumption); (case h2qz => assumption); (case h4qz => assumption); (case hnotqz => assumption); (case hxqz => assumption); (case hlenqz => assumption); (case hksqz => assumption); (case hdqz => ktr_room); intro h' tk' n' F' N'; (try dsimp only))) | with_reducible (k_here; (with_reducible show wpAny _ _ (delItem (Value.ref _) _) _ _ _); k_dflt (refine' del_own ?Fqz ?Xqz ?Iqz ?hQqz ?hSqz ?hFqz ?_; (case Fqz => k_asm); (case Xqz => k_asm); (case Iqz => k_inst); (case hSqz => k_is); (case hFqz => k_is); (case hQqz => k_is); k_whole)) | with_reducible (k_here; (with_reducible show wpAny _ _ (call (Value.ref 98) _ _) _ _ _); k_dflt (refine' conv ?Bqz ?Fqz ?Xqz ?Nqz ?Tqz ?hkqz ?hxqz ?hdqz ?_; (case Bqz => k_asm); (case Fqz => k_asm); (case Xqz => k_asm); (case Nqz => k_asm); (case Tqz => k_asm); (case hkqz => first | exact rfl | assumption); (case hxqz => assumption); (case hdqz => ktr_room); intro t h' tk' F' N'; (try dsimp only))) | with_reducible (k_here; (with_reducible show wpAny _ _ (call (Value.builtin "re.Pattern.search") _ _) _ _ _); k_dflt (first  | (refine' search_name ?hxqz ?h1qz ?h2qz ?_; (case h1qz => refine' in_get ?Xqz ?eqz; (case Xqz => k_in); (case eqz => k_is)); (case h2qz => refine' in_get ?Xqz ?eqz; (case Xqz => k_in); (case eqz => k_is)); (case hxqz => assumption)) | (refine' search_val ?hxqz ?h1qz ?h2qz ?_; (case h1qz => refine' in_get ?Xqz ?eqz; (case Xqz => k_in); (case eqz => k_is)); (case h2qz => refine' in_get ?Xqz ?eqz; (case Xqz => k_in); (case eqz => k_is)); (case hxqz => assumption)))) | with_reducible (k_here; (with_reducible show wpAny _ _ (getMethod (Value.ref _) (PySem.Str.ofString "search") _) _ _ _); k_dflt (refine' method_search ?h1qz ?_; (case h1qz => refine' in_get ?Xqz ?eqz; (case Xqz => k_in); (case eqz => k_is)))) | walk1))) | (leave1; walk_say "STEP leave1"; try dsimp only) | fail "no step"))
  rename News h₀ L _ _ => Nz
  simp only [List.push_toArray] at Nz
  exact hret _ _ _ _ _ _ (by k_asm) Nz (by assumption)
end
end
section
section
variable {prog : Program} {w : World} {A : Around} {R : GenEnd} {Y : Protocol} {n : Nat} {s₀ : Shared} {c : Code} {fs : List Frame} {s : Shared} {env : Env}
  {K : Flow → Sem Fin} {H : Value → Sem Fin} {gd : Bool → Bool} {lv : List Value → List Value}
theorem seg_bindN {α β : Type} {m : Sem α} {K : α → Sem β} {K' : β → Sem Fin} {H' : Value → Sem Fin} {gd lv}
    (h : wpAny (model prog w) (A.over c fs) m (fun a s' => Seg (model prog w) A R Y n s₀ c ((K a).wrap K' H' gd lv) fs s') NoE s) : Seg (model prog w) A R Y n s₀ c ((m >>= K).wrap K' H' gd lv) fs s :=
  seg_bind_wrap (wpAny_mono h (fun _ _ x => x) fun _ _ e => e.elim)
theorem seg_execN {st : Stmt} (h : wpAny (model prog w) (A.over c fs) (exec st env) (fun f s' => Seg (model prog w) A R Y n s₀ c (K f) fs s') NoE s) :
    Seg (model prog w) A R Y n s₀ c ((exec st env).wrap K H gd lv) fs s := seg_wrap (wpAny_mono h (fun _ _ x => x) fun _ _ e => e.elim)
theorem seg_IfN {test : Expr} {body orelse : List Stmt} {pos : Pos}
    (h : wpAny (model prog w) (A.over c fs) (isTrue test env (eval test env)) (fun b s' => Seg (model prog w) A R Y n s₀ c ((if b = true then execs body env else execs orelse env).wrap K H gd lv) fs s') NoE s) :
    Seg (model prog w) A R Y n s₀ c ((exec (.If test body orelse pos) env).wrap K H gd lv) fs s := by
  rw [exec_If]
  show Seg _ A R Y n s₀ c (.at pos fun _ => Sem.wrap K H gd lv (isTrue test env (eval test env) >>= fun b => if b = true then execs body env else execs orelse env)) fs s
  exact seg_at (seg_bindN h)
theorem seg_YieldN {e : Expr} {ypos pos : Pos} (hfs : splitAtGen fs = none) (hgd : gd false = false) (hfg : fs.any Frame.guarded = false)
    (h : wpAny (model prog w) (A.over c fs) (eval e env) (fun v s' => ∀ kap : Resume → Shared → Prop,
        (∀ x s'', (match x with | .ref _ => False | _ => Seg (model prog w) A R Y n s'' c (K .next) fs s'') → kap (.send x) s'') → Y n s₀ v s' kap)
      NoE s) (hco : env.scope.isCoroutine = false := by rfl) (hi : interactive env = false := by rfl) :
    Seg (model prog w) A R Y (n + 1) s₀ c ((exec (.Expr (.Yield (some e) ypos) pos) env).wrap K H gd lv) fs s :=
  seg_Expr_Yield hfs hgd hfg (wpAny_mono h (fun _ _ x => x) fun _ _ e => e.elim) hco hi
theorem seg_ForN {target iter : Expr} {body orelse : List Stmt} {pos : Pos}
    (h : wpAny (model prog w) (A.over c fs) (eval iter env) (fun xv s₁ => wpAny (model prog w) (A.over c fs) (pyIter xv) (fun it s₂ => ∀ p, Seg (model prog w) A R Y n s₀ (.forLoop target it body orelse env) ((model prog w).den (.forLoop target it body orelse env))
      (.ret (fun r => ((match r with | .ok f => (.pure f : Sem Flow) | .error e => .raise e).onRaise fun (x : Value) => do
        if (← field x 1) == Value.none then unsupported "frame.own-activation:exception-without-traceback"
        setFlight x env.frame).wrap K H gd lv) none (gd false) (lv []) c p [] :: fs) s₂) NoE s₁) NoE s)
    (hs : ∀ x, foldedSetIterable iter env x = pure x := by intro _; rfl) :
    Seg (model prog w) A R Y n s₀ c ((exec (.For target iter body orelse pos) env).wrap K H gd lv) fs s := by
  rw [exec_For]
  show Seg _ A R Y n s₀ c (.at pos fun _ => Sem.wrap K H gd lv (eval iter env >>= fun x => foldedSetIterable iter env x >>= fun x => standAt iter.pos >>= fun _ => (do runOwn (.forLoop target (← holding [x] (pyIter x)) body orelse env) env))) fs s
  refine seg_at (seg_bindN (wpAny_mono h (fun xv s₁ h₁ => ?_) fun _ _ e => e))
  rw [hs]
  refine seg_bindN (wpAny_pure (seg_bindN (wpAny_standAt (seg_bindN (wpAny_holding (wpAny_mono h₁ (fun it s₂ h₂ => ?_) fun _ _ e => e))))))
  exact seg_call h₂
theorem seg_forLoopN {target : Expr} {it : Value} {body orelse : List Stmt} 
    (h : wpAny (model prog w) (A.over (.forLoop target it body orelse env) fs) (pyNext it) (fun r s₁ => match r with
        | none => Seg (model prog w) A R Y n s₀ (.block orelse env) ((model prog w).den (.block orelse env)) fs s₁
        | some v => wpAny (model prog w) (A.over (.forLoop target it body orelse env) fs) (letOwnedTupleGo target it v) (fun _ s₁' => wpAny (model prog w) (A.over (.forLoop target it body orelse env) fs) (assign target env v) (fun _ s₂ =>
          Seg (model prog w) A R Y n s₀ (.forLoop target it body orelse env) ((execs body env).wrap (fun f => match f with
            | .next | .cont => .pure (.again (.forLoop target it body orelse env))
            | .brk => .pure (.done .next)
            | .ret v => .pure (.done (.ret v))) (fun e => (do noteFrame e env; theTreesLotGoes e : Sem Unit).wrap (fun _ => .raise e) .raise id id) id id) fs s₂) NoE s₁') NoE s₁) NoE s) :
    Seg (model prog w) A R Y n s₀ (.forLoop target it body orelse env) ((model prog w).den (.forLoop target it body orelse env)) fs s := by
  show Seg _ A R Y n s₀ _ ((forTurn target it body orelse env).onRaise (fun x => do noteFrame x env; theTreesLotGoes x)) fs s
  unfold forTurn
  rw [Sem.onRaise_eq_wrap]
  refine seg_bindN (wpAny_standAt (seg_bindN (wpAny_onRaise (wpAny_mono h (fun r s₁ h₁ => ?_) fun _ _ e => e.elim))))
  cases r with
  | none => exact seg_again rfl h₁
  | some v =>
    refine seg_bindN (wpAny_mono h₁ (fun _ s₁' h₁' => ?_) fun _ _ e => e)
    refine seg_bindN (wpAny_mono h₁' (fun _ s₂ h₂ => ?_) fun _ _ e => e)
    rw [Sem.bind_eq_wrap', Sem.wrap_wrap]
    refine Eq.mp ?_ h₂
    congr 1
    refine Sem.wrap_congr (execs body env) _ _ (fun f => by cases f <;> rfl) (fun e => ?_)
    show _ = Sem.wrap _ _ _ _ (Sem.raise e)
    first | exact (Sem.bind_eq_wrap _ _).symm | (show _ = (do noteFrame e env; theTreesLotGoes e : Sem Unit).bind (fun _ => .raise e); rw [Sem.bind_eq_wrap])
theorem seg_block0 (h : Seg (model prog w) A R Y n s₀ (.block [] env) (.pure (.done .next)) fs s) : Seg (model prog w) A R Y n s₀ (.block [] env) ((model prog w).den (.block [] env)) fs s := h
end
end
section
/-- the heap below an address, and what stands above it -/
noncomputable def cut (h : Heap) (L : Addr) : Heap := ⟨h.objs.extract 0 L, h.life⟩
noncomputable def above (h : Heap) (L : Addr) : List (Addr × Obj) := (List.range h.objs.size).filterMap fun a => if L < a then (h.get? a).map (fun o => (a, o)) else none
theorem cut_get {h : Heap} {L b : Nat} (hb : b < L) : (cut h L).get? b = h.get? b := by
  unfold cut Heap.get?
  have : (h.objs.extract 0 L)[b]? = h.objs[b]? := by
    rw [Array.getElem?_extract]
    simp only [Nat.sub_zero, Nat.zero_add]
    by_cases hs : b < h.objs.size
    · rw [if_pos (by omega)]
    · rw [if_neg (by omega), Array.getElem?_eq_none (by omega)]
  rw [this]
theorem cut_none {h : Heap} {L b : Nat} (hb : L ≤ b) : (cut h L).get? b = none := by
  refine Heap.get?_none_of_le ?_
  unfold cut
  simp only [Array.size_extract]
  omega
theorem cut_lt {h : Heap} {L b : Addr} {o : Obj} (e : (cut h L).get? b = some o) : b < L ∧ h.get? b = some o := by
  by_cases hb : b < L
  · exact ⟨hb, by rw [← cut_get hb]; exact e⟩
  · rw [cut_none (Nat.le_of_not_lt hb)] at e; cases e
theorem cut_size (h : Heap) (L : Nat) : (cut h L).objs.size ≤ L := by
  unfold cut
  simp only [Array.size_extract]
  omega
theorem mem_above {h : Heap} {L b : Addr} {o : Obj} : (b, o) ∈ above h L ↔ L < b ∧ h.get? b = some o := by
  unfold above
  rw [List.mem_filterMap]
  constructor
  · rintro ⟨a, _, e⟩
    by_cases ha : L < a
    · rw [if_pos ha] at e
      cases q : h.get? a with
      | none => rw [q] at e; cases e
      | some o' => rw [q] at e; cases e; exact ⟨ha, q⟩
    · rw [if_neg ha] at e; cases e
  · rintro ⟨hb, e⟩
    exact ⟨b, List.mem_range.mpr (Heap.lt_size e), by rw [if_pos hb, e]; rfl⟩
section
variable {A A₀ : Around} {base h₀ h h' : Heap} {outer : List Env} {env : Env} {L G : Addr} {mc m m' : PySem.Str → Option Value} {K : Frag} {p : Program} {loose : List PySem.Str} {mean : ExcName → Option Value} {mg mb : PySem.Str → Option Value} {nw : List (Addr × Obj)}
theorem fr_after' (F : Fr h₀ L h mc) (hk : ∀ b o, b ≠ G → h.get? b = some o → h'.get? b = some o) (hL : L < G) : Fr h₀ L h' mc :=
  ⟨F.ns.at fun o e => hk _ o (Nat.ne_of_lt hL) e, fun b o e => hk b o (Nat.ne_of_lt (Nat.lt_of_lt_of_le (Heap.lt_size e) (Nat.le_trans F.above (Nat.le_of_lt hL)))) (F.keep b o e), F.above⟩
theorem fr_lt (F : Fr h₀ L h mc) (hk : ∀ b o, b < G → h.get? b = some o → h'.get? b = some o) (hL : L < G) : Fr h₀ L h' mc :=
  ⟨F.ns.at fun o e => hk _ o hL e, fun b o e => hk b o (Nat.lt_of_lt_of_le (Heap.lt_size e) (Nat.le_trans F.above (Nat.le_of_lt hL))) (F.keep b o e), F.above⟩
theorem fr_cut (F : Fr h₀ L h mc) (hL : L < G) : Fr h₀ L (cut h G) mc :=
  ⟨F.ns.at fun o e => by rw [cut_get hL]; exact e, fun b o e => by rw [cut_get (Nat.lt_of_lt_of_le (Heap.lt_size e) (Nat.le_trans F.above (Nat.le_of_lt hL)))]; exact F.keep b o e, F.above⟩
theorem fr_gen (hn : h.Ns G m) : Fr (cut h G) G h m := ⟨hn, fun _ _ e => (cut_lt e).2, cut_size _ _⟩
theorem news_gen : News (cut h G) G h (above h G) := fun p hp => by
  obtain ⟨b, o⟩ := p
  have := mem_above.mp hp
  exact ⟨this.2, Nat.ne_of_gt this.1, cut_none (Nat.le_of_lt this.1)⟩
theorem kept_gen (F : Fr (cut h G) G h' m') (N : News (cut h G) G h' nw) (hn : ∀ p ∈ above h G, p ∈ nw) : ∀ b o, b ≠ G → h.get? b = some o → h'.get? b = some o := fun b o hb e => by
  rcases Nat.lt_or_gt_of_ne hb with hlt | hgt
  · exact F.keep b o (by rw [cut_get hlt]; exact e)
  · exact (N _ (hn _ (mem_above.mpr ⟨hgt, e⟩))).1
theorem below_gen (B : Below A₀ base outer h₀) (F : Fr h₀ L h mc) (hL : L < G) (hA : A.frames = some (env :: outer)) (hf : env.frame = some L) (hk : env.scope.kind = .function) : Below A base (env :: outer) (cut h G) := by
  have := pushX (env := env) B (fr_cut F hL) hf hk
  exact ⟨hA, this.stays, this.frames⟩
end

section
variable {prog : Program} {w : World} {A A₀ : Around} {base h₀ : Heap} {outer : List Env} {env : Env} {L G : Addr} {mc m : PySem.Str → Option Value} {K : Frag} {p : Program} {loose : List PySem.Str} {mean : ExcName → Option Value} {mg mb : PySem.Str → Option Value} {R : GenEnd} {Y : Protocol} {n : Nat} {s₀ s : Shared} {c : Code} {t : Sem Fin} {fs : List Frame}
theorem seg_ctx (B : Below A₀ base outer h₀) (X : K.In h₀) (T : Top p loose mean mg mb h₀) (Fc : Fr h₀ L s.heap mc) (hL : L < G) (hn : s.heap.Ns G m) (hA : A.frames = some (env :: outer)) (hf : env.frame = some L) (hk : env.scope.kind = .function)
    (h : Below A base (env :: outer) (cut s.heap G) → K.In (cut s.heap G) → Top p loose mean mg mb (cut s.heap G) → Fr (cut s.heap G) G s.heap m → News (cut s.heap G) G s.heap (above s.heap G) → Seg (model prog w) A R Y n s₀ c t fs s) : Seg (model prog w) A R Y n s₀ c t fs s :=
  h (below_gen B Fc hL hA hf hk) (X.keeps (fr_cut Fc hL).keep) (T.keeps (fr_cut Fc hL).keep) (fr_gen hn) news_gen
theorem wp_ctx {α : Type} {c : Code} {x : Sem α} {Q : α → Shared → Prop} {E : Value → Shared → Prop} (B : Below A₀ base outer h₀) (X : K.In h₀) (T : Top p loose mean mg mb h₀) (Fc : Fr h₀ L s.heap mc) (hL : L < G) (hn : s.heap.Ns G m) (hA : A.frames = some (env :: outer)) (hf : env.frame = some L) (hk : env.scope.kind = .function)
    (h : Below A base (env :: outer) (cut s.heap G) → K.In (cut s.heap G) → Top p loose mean mg mb (cut s.heap G) → Fr (cut s.heap G) G s.heap m → News (cut s.heap G) G s.heap (above s.heap G) → wpAny (model prog w) (A.over c fs) x Q E s) : wpAny (model prog w) (A.over c fs) x Q E s :=
  h (below_gen B Fc hL hA hf hk) (X.keeps (fr_cut Fc hL).keep) (T.keeps (fr_cut Fc hL).keep) (fr_gen hn) news_gen
end
section
variable {prog : Program} {w : World} {A : Around} {R : GenEnd} {Y : Protocol} {fs : List Frame} {env : Env}
theorem seg_loop {target : Expr} {it : Value} {body orelse : List Stmt} (I : Nat → Nat → Shared → Shared → Prop)
    (turn : ∀ k, (∀ k', k' < k → ∀ n s₀ s, I k' n s₀ s → Seg (model prog w) A R Y n s₀ (.forLoop target it body orelse env) (.pure (.again (.forLoop target it body orelse env))) fs s) → ∀ n s₀ s, I k n s₀ s →
      wpAny (model prog w) (A.over (.forLoop target it body orelse env) fs) (pyNext it) (fun r s₁ => match r with
        | none => Seg (model prog w) A R Y n s₀ (.block orelse env) ((model prog w).den (.block orelse env)) fs s₁
        | some v => wpAny (model prog w) (A.over (.forLoop target it body orelse env) fs) (letOwnedTupleGo target it v) (fun _ s₁' => wpAny (model prog w) (A.over (.forLoop target it body orelse env) fs) (assign target env v) (fun _ s₂ =>
          Seg (model prog w) A R Y n s₀ (.forLoop target it body orelse env) ((execs body env).wrap (fun f => match f with
            | .next | .cont => .pure (.again (.forLoop target it body orelse env))
            | .brk => .pure (.done .next)
            | .ret v => .pure (.done (.ret v))) (fun e => (do noteFrame e env; theTreesLotGoes e : Sem Unit).wrap (fun _ => .raise e) .raise id id) id id) fs s₂) NoE s₁') NoE s₁) NoE s) :
    ∀ k n s₀ s, I k n s₀ s → Seg (model prog w) A R Y n s₀ (.forLoop target it body orelse env) ((model prog w).den (.forLoop target it body orelse env)) fs s := by
  intro k
  induction k using Nat.strongRecOn with
  | _ k ih =>
    intro n s₀ s hI
    exact seg_forLoopN (turn k (fun k' hk n s₀ s h => seg_again rfl (ih k' hk n s₀ s h)) n s₀ s hI)
end

section
variable {prog : Program} {w : World} {A₀ A : Around} {s : Shared} {base h₀ : Heap} {outer : List Env} {L : Addr} {m : PySem.Str → Option Value} {env : Env} {news : List (Addr × Obj)} {K : Frag} {p : Program} {loose : List PySem.Str} {mean : ExcName → Option Value} {mg mb : PySem.Str → Option Value}
  {R : Result → Shared → Prop} {name qual : PySem.Str} {params : Arguments} {body : List Stmt} {scope : Scope} {dV kV doc pm cdv ct oc : Value} {an od : Option Addr} {osl : Array (Option Value)} {f : Addr} {args : Args} {binds : List (PySem.Str × Value)}
theorem code_gen (F : Fr h₀ L s.heap m) (N : News h₀ L s.heap news) (X₀ : K.In h₀) (T : Top p loose mean mg mb h₀)
    (ho : K.lookup f = some ⟨oc, od, .func (fnOf name qual params body scope dV kV doc pm an cdv ct), osl⟩) (hcd : codeIn K cdv qual = true) (hroom : A.depth < recursionLimit)
    (hbind : BindsTo s (fnOf name qual params body scope dV kV doc pm an cdv ct) args binds) (hloc : ∀ y ∈ binds, scope.names.lookup y.1 = some .local)
    (h : ∀ LG h' tk, L < LG → (∀ p ∈ news, p.1 < LG) → h'.objs.size = LG + 2 → h'.Ns LG (fun y => binds.reverse.lookup y) → h'.IsGen (LG + 1) s.gens.size → Fr h₀ L h' m → News h₀ L h' news →
      R (.ok (.ret (.ref (LG + 1)))) { s with heap := h', gens := s.gens.push (.fresh (.func body (envOf qual scope LG f cdv))), toks := tk })
    (hco : scope.isCoroutine = false) (hgen : scope.isGenerator = true) (hk : scope.kind = .function)
    (hcell : ∀ x ∈ scope.names, x.2 ≠ .cell) : codeAny (model prog w) A (.call (.ref f) args) R s := by
  refine codeAny_call_generator (fd := fnOf name qual params body scope dV kV doc pm an cdv ct) (body := body) hroom ((X₀.keeps F.keep) _ _ ho) rfl hco hgen rfl (codeRec_of (X₀.keeps F.keep) hcd) (hbind _ _ _ _ ?_)
  refine wpAny_newFunctionEnv hcell hloc (fun h₁ hns hsb => ⟨(T.nolimit.keeps F.keep).fresh _ hsb, ?_⟩) hk
  have hsz : h₁.objs.size = s.heap.objs.size + 1 := by rw [hsb.1, Heap.size_push]
  have keep : ∀ b o, s.heap.get? b = some o → (h₁.push { cls := .type "generator", data := .fields #[.int s.gens.size 0, .str name (s.toks + binds.length), .str qual (s.toks + binds.length + 1)] }).get? b = some o :=
    fun b o e => Heap.get?_push_of_some _ (hsb.extBut b o (Nat.ne_of_lt (Heap.lt_size e)) (Heap.get?_push_of_some _ e))
  have := h s.heap.objs.size (h₁.push { cls := .type "generator", data := .fields #[.int s.gens.size 0, .str name (s.toks + binds.length), .str qual (s.toks + binds.length + 1)] }) (s.toks + binds.length + 1 + 1)
    F.ns.lt (fun p hp => Heap.lt_size (N p hp).1) (by rw [Heap.size_push, hsz]) (hns.push _) (by rw [← hsz]; exact ⟨_, _, _, Heap.get?_push_size _ rfl, rfl, rfl, rfl⟩)
    (F.after keep) (fun p hp => ⟨keep _ _ (N p hp).1, (N p hp).2⟩)
  rw [← hsz] at this
  exact this
end
end
section
noncomputable abbrev genStep (LG Z : Addr) (s₀ s : Shared) : Prop := ∃ h' tk, s = { s₀ with heap := h', toks := tk } ∧ ∀ b o, b ≠ LG → b < Z → s₀.heap.get? b = some o → h'.get? b = some o
noncomputable abbrev genGround (h₀ : Heap) (L LG : Addr) (s s'' : Shared) : Prop := (∀ b o, LG ≤ b → s.heap.get? b = some o → s''.heap.get? b = some o) ∧ ∃ mc, Fr h₀ L s''.heap mc
noncomputable abbrev tupIS (p : Int) (tp : Tok) (x : PySem.Str) (tx : Tok) : Obj := { cls := .type "tuple", data := .seq #[.int p tp, .str x tx] }
noncomputable def genY (h₀ : Heap) (L LG Z : Addr) (outs : List PySem.Str) : Protocol := fun k s₀ v s kap =>
  ∃ out T p tp tc, outs.reverse[k]? = some out ∧ v = .ref T ∧ LG ≤ T ∧ s.heap.get? T = some (tupIS p tp out tc) ∧ genStep LG Z s₀ s ∧ ∀ s'', genGround h₀ L LG s s'' → kap (.send .none) s''
noncomputable def genR (LG Z : Addr) : GenEnd := fun n s₀ r s₁ => r = .ok (.ret .none) ∧ (n = 0 ∧ genStep LG Z s₀ s₁)
noncomputable def atLeast (h : Heap) (L : Addr) : List (Addr × Obj) := (List.range h.objs.size).filterMap fun a => if L ≤ a then (h.get? a).map (fun o => (a, o)) else none
theorem mem_atLeast {h : Heap} {L b : Addr} {o : Obj} : (b, o) ∈ atLeast h L ↔ L ≤ b ∧ h.get? b = some o := by
  unfold atLeast
  rw [List.mem_filterMap]
  constructor
  · rintro ⟨a, _, e⟩
    by_cases ha : L ≤ a
    · rw [if_pos ha] at e
      cases q : h.get? a with
      | none => rw [q] at e; cases e
      | some o' => rw [q] at e; cases e; exact ⟨ha, q⟩
    · rw [if_neg ha] at e; cases e
  · rintro ⟨hb, e⟩
    exact ⟨b, List.mem_range.mpr (Heap.lt_size e), by rw [if_pos hb, e]; rfl⟩
noncomputable def TurnG (h₀ : Heap) (L : Addr) (s : Shared) (gs' : Array GenState) (nw : List (Addr × Obj)) (off : (PySem.Str → Option Value) → Prop) (K : (PySem.Str → Option Value) → Prop) (s₃ : Shared) : Prop :=
  ∃ h3 tk3 m3, s₃ = { s with heap := h3, toks := tk3, gens := gs' } ∧ Fr h₀ L h3 m3 ∧ News h₀ L h3 nw ∧ off m3 ∧ K m3
section
variable {prog : Program} {w : World} {A : Around} {E : Value → Shared → Prop} {s : Shared} {env : Env}
theorem next_gen {a : Addr} {g n : Nat} {gs : GenState} {P : Nat → Shared → Shared → Prop} {Y : Protocol} {Q : Option Value → Shared → Prop} (hh : A.handled = none)
    (hl : s.heap.NoLimit) (hroom : A.depth < recursionLimit)
    (hg : s.heap.IsGen a g) (hgs : s.gens[g]? = some gs)
    (hgo : gs.Goes (model prog w) A.in1 (fun n s₀ r s₁ => r = .ok (.ret .none) ∧ P n s₀ s₁) Y n (.send .none) (s.setGen g .running))
    (hY : ∀ v s₁ gs', gs'.bare = true → Y (n - 1) (s.setGen g .running) v s₁ (fun r' s'' => match n with
        | 0 => False
        | m + 1 => gs'.Goes (model prog w) A.in1 (fun n s₀ r s₁ => r = .ok (.ret .none) ∧ P n s₀ s₁) Y m r' s'') → Q (some v) (s₁.setGen g gs'))
    (hP : ∀ s₁, P n (s.setGen g .running) s₁ → ∀ h', (∀ b o, s₁.heap.get? b = some o → h'.get? b = some o) → Q none { s₁.setGen g .finished with heap := h' }) :
    wpAny (model prog w) A (pyNext (.ref a)) Q E s := by
  unfold pyNext
  refine wpAny_bind (wpAny_attempt (wpAny_callSpecial?_slot (name := Str.ofString "__next__") hg.typeIs slot_gen_next
    (wpAny_call_entry slot_gen_next hg.typeIs entry_gen_next ?_ (args_gen_next _))))
  show wpAny _ A.in1 (Builtin.Generator.genWake (.ref a) (.send .none)) _ _ s
  unfold Builtin.Generator.genWake
  refine wpAny_bind (wpAny_holding (wpAny_genNumber hg (wpAny_bind (wpAny_genState hgs ?_))))
  cases gs with
  | running => exact hgo.elim
  | finished => exact hgo.elim
  | _ =>
    refine wpAny_bind (wpAny_roomToWake hl hroom ?_)
    show wpAny _ A.in1 (.resume g (.send .none) [] _) _ _ s
    refine wpAny_resumeQ hgs hgo (fun x s₁ hx => ?_) (fun v s₁ gs' hb hv => ?_)
    · obtain ⟨rfl, hp⟩ := hx
      show wpAny _ A.in1 (newExc (.type "StopIteration") [] >>= _) _ _ _
      refine wpAny_bind ?_
      simp only [newExc, newTuple]
      refine wpAny_bind (wpAny_newObj_type ?_ (by size_fits))
      refine wpAny_bind (m := firstArgMember _ _) (wpAny_of_eq (a := Value.none) (by first | rfl | (simp only [firstArgMember]; rfl)) ?_)
      refine wpAny_newObj_type ?_ (by size_fits)
      simp only [raiseNew]
      refine wpAny_bind (wpAny_bind (wpAny_handled ?_))
      rw [show A.in1.handled = none from hh]
      refine wpAny_throw ?_
      refine wpAny_bind (wpAny_isInstance (T := "StopIteration") (b := true) ⟨_, Heap.get?_push_size _ rfl, rfl⟩ isSubtype_stop ?_)
      exact wpAny_pure (hP s₁ hp _ fun b o hb => Heap.get?_push_of_some _ (Heap.get?_push_of_some _ hb))
    · exact wpAny_pure ⟨v, rfl, wpAny_pure (hY v s₁ gs' hb hv)⟩

theorem letGo_gen {tgt : Expr} {G : Addr} {gi : Nat} {v : Value} {Q : Unit → Shared → Prop} (hg : s.heap.IsGen G gi) (h : Q () s) :
    wpAny (model prog w) A (letOwnedTupleGo tgt (.ref G) v) Q E s := by
  obtain ⟨o, nm, qn, ho, hc, hd, _⟩ := hg
  have key : ∀ e : Expr, (∃ a b c, e = .Tuple a b c) ∨ (∃ a b, e = .List a b) → wpAny (model prog w) A (letOwnedTupleGo e (.ref G) v) Q E s := by
    rintro e (⟨x, y, z, rfl⟩ | ⟨x, y, rfl⟩)
    all_goals (
      cases v with
      | ref r =>
        show wpAny _ _ (load G >>= _) _ _ _
        refine wpAny_bind (wpAny_load ho ?_)
        rw [hc, hd]
        show wpAny _ _ (if (_ && _) = true then _ else _) _ _ _
        rw [if_neg (by simp)]
        exact wpAny_pure h
      | _ => exact wpAny_pure h)
  cases tgt with
  | Tuple a b c => exact key _ (.inl ⟨_, _, _, rfl⟩)
  | List a b => exact key _ (.inr ⟨_, _, rfl⟩)
  | _ => exact wpAny_pure h

theorem rev_at {outs pre r : List PySem.Str} {out : PySem.Str} (h : outs = pre ++ out :: r) : outs.reverse[r.length]? = some out := by
  subst h
  rw [List.reverse_append, List.reverse_cons, List.append_assoc, List.getElem?_append_right (by simp), List.length_reverse, Nat.sub_self]
  rfl
theorem suf_at {outs pre r : List PySem.Str} {out : PySem.Str} (h : outs = pre ++ r) (hr : outs.reverse[r.length - 1]? = some out) (hn : r ≠ []) : ∃ r', r = out :: r' := by
  cases r with
  | nil => exact absurd rfl hn
  | cons a r' =>
    have := rev_at h
    simp only [List.length_cons, Nat.add_sub_cancel] at hr
    rw [this] at hr
    cases hr
    exact ⟨r', rfl⟩

theorem bare_set {gs : Array GenState} {i : Nat} {x : GenState} (h : Bare gs) (hx : x.bare = true) : Bare (gs.setIfInBounds i x) := fun y hy => by
  rcases Array.mem_or_eq_of_mem_setIfInBounds hy with q | q
  · exact h y q
  · exact q ▸ hx

theorem walks_str {w : World} {prog : Program} {A : Around} (hA : A.handled = none) (x : PySem.Str) (t : Tok) (I : Addr) :
    WalksU prog w A (I + 1) [I + 1, I] [I + 1, I] x.cps.size (fun i vals => ∃ t' y, (∃ c u, x.cps[i]? = some c ∧ y = .str ⟨#[c]⟩ u) ∧ vals = #[.int i t', y])
      (fun i h => (∃ old, IsEnum h (I + 1) I i old) ∧ h.IsStrIter I "str_ascii_iterator" x t i)
      (fun i T h => (∃ y, IsEnumOut h (I + 1) I ((i : Int) + 1) y T) ∧ h.IsStrIter I "str_ascii_iterator" x t (i + 1) ∧ T ≠ I + 1 ∧ T ≠ I) :=
  (WalksT.enumerateD (Draws.strAscii (A := A.in1) hA I x t) (I + 1) (Nat.succ_ne_self _) (fun hm => Nat.succ_ne_self _ (List.mem_singleton.mp hm)) (List.mem_singleton.mpr rfl)).toU

theorem iter_gen {tgt : Expr} {body : List Stmt} {Q : Flow → Shared → Prop} {h₀ : Heap} {m : PySem.Str → Option Value} {news : List (Addr × Obj)} {G LG Z : Addr} {gi : Nat} {outs : List PySem.Str} {gs : GenState}
    (names : List PySem.Str) (K : List PySem.Str → (PySem.Str → Option Value) → Prop)
    (hh : A.handled = none) (hroom : A.depth < recursionLimit) (hlim : h₀.NoLimit) (F : Fr h₀ env.locals s.heap m) (N : News h₀ env.locals s.heap news) (hb : Bare s.gens)
    (hLG : env.locals < LG) (hGL : LG < G) (hGZ : G < Z) (hnews : ∀ p ∈ news, p.1 < LG) (hg : s.heap.IsGen G gi) (hgs : s.gens[gi]? = some gs)
    (hgo : ∀ s'', genGround h₀ env.locals LG s s'' → gs.Goes (model prog w) A.in1 (genR LG Z) (genY h₀ env.locals LG Z outs) outs.length (.send .none) s'')
    (hK : K outs m)
    (turn : ∀ (out : PySem.Str) (r : List PySem.Str) (u : PySem.Str → Option Value) h tk gs' (rest : List (Addr × Obj)) (T : Addr) (p : Int) (tp tc : Tok), K (out :: r) (fun y => if names.contains y = true then u y else m y) → Bare gs' → Fr h₀ env.locals h (fun y => if names.contains y = true then u y else m y) → News h₀ env.locals h (rest ++ news) → (T, tupIS p tp out tc) ∈ rest ++ news →
      wpAny (model prog w) A (assign tgt env (.ref T)) (fun _ s₂ => wpAny (model prog w) A (execs body env) (fun f s₃ => match f with
        | .next | .cont => TurnG h₀ env.locals s gs' (rest ++ news) (fun m3 => ∀ y, names.contains y = false → m3 y = m y) (K r) s₃
        | .brk => Q .next s₃
        | .ret v => Q (.ret v) s₃) NoE s₂) NoE { s with heap := h, toks := tk, gens := gs' })
    (done : ∀ (u : PySem.Str → Option Value) h tk gs', K [] (fun y => if names.contains y = true then u y else m y) → Bare gs' → Fr h₀ env.locals h (fun y => if names.contains y = true then u y else m y) → News h₀ env.locals h news → Q .next { s with heap := h, toks := tk, gens := gs' }) :
    wpAny (model prog w) A (pyIter (.ref G)) (fun it s₂ => ForAt prog w A env tgt body Q it s₂) E s := by
  refine wpAny_pyIter_gen hg ?_
  have h0lt : h₀.objs.size ≤ LG := Nat.le_trans F.above (Nat.le_of_lt hLG)
  refine ⟨fun k s' => ∃ pre r h tk gs' gst m', k = r.length ∧ outs = pre ++ r ∧ s' = { s with heap := h, toks := tk, gens := gs' } ∧ Bare gs' ∧ gs'[gi]? = some gst ∧
      (∀ s'', genGround h₀ env.locals LG s' s'' → gst.Goes (model prog w) A.in1 (genR LG Z) (genY h₀ env.locals LG Z outs) r.length (.send .none) s'') ∧
      h.IsGen G gi ∧ Fr h₀ env.locals h m' ∧ News h₀ env.locals h news ∧ (∀ y, names.contains y = false → m' y = m y) ∧ K r m', outs.length,
    ⟨[], outs, s.heap, s.toks, s.gens, gs, m, rfl, rfl, rfl, hb, hgs, hgo, hg, F, N, fun _ _ => rfl, hK⟩, ?_⟩
  rintro k s' ⟨pre, r, h, tk, gs', gst, m', rfl, ho, rfl, hb', hgs', hgo', hg', F', N', hm', hk'⟩
  refine next_gen (P := fun n s₀ s₁ => n = 0 ∧ genStep LG Z s₀ s₁) (Y := genY h₀ env.locals LG Z outs) (n := r.length) hh (hlim.keeps F'.keep) hroom hg' hgs' (hgo' _ ⟨fun _ _ _ e => e, m', F'⟩) ?_ ?_
  · intro v s₁ gs₁ hbare hY
    obtain ⟨out, T, p, tp, tc, hout, rfl, hTL, hT, ⟨h₁, tk₁, rfl, hk₁⟩, hkap⟩ := hY
    have F₁ : Fr h₀ env.locals h₁ m' := ⟨F'.ns.at fun o e => hk₁ _ o (Nat.ne_of_lt hLG) (Nat.lt_trans hLG (Nat.lt_trans hGL hGZ)) e,
      fun b o e => hk₁ b o (Nat.ne_of_lt (Nat.lt_of_lt_of_le (Heap.lt_size e) h0lt)) (Nat.lt_trans (Nat.lt_of_lt_of_le (Heap.lt_size e) h0lt) (Nat.lt_trans hGL hGZ)) (F'.keep b o e), F'.above⟩
    have hrne : r ≠ [] := by
      intro e
      subst e
      exact hkap { s with heap := h₁, toks := tk₁, gens := gs' } ⟨fun _ _ _ e => e, m', F₁⟩
    obtain ⟨r', rfl⟩ := suf_at ho hout hrne
    have hgi : gi < gs'.size := (Array.getElem?_eq_some_iff.mp hgs').1
    have hg₁ : h₁.IsGen G gi := let ⟨o, nm, qn, e, rr⟩ := hg'; ⟨o, nm, qn, hk₁ _ _ (Nat.ne_of_gt hGL) hGZ e, rr⟩
    have N₁ : News h₀ env.locals h₁ (atLeast h₁ LG ++ news) := fun p hp => by
      rcases List.mem_append.mp hp with hp | hp
      · obtain ⟨b, o⟩ := p
        have q := mem_atLeast.mp hp
        exact ⟨q.2, Nat.ne_of_gt (Nat.lt_of_lt_of_le hLG q.1), Heap.get?_none_of_le (Nat.le_trans h0lt q.1)⟩
      · exact ⟨hk₁ _ _ (Nat.ne_of_lt (hnews p hp)) (Nat.lt_trans (hnews p hp) (Nat.lt_trans hGL hGZ)) (N' p hp).1, (N' p hp).2⟩
    have hbb : Bare ((gs'.setIfInBounds gi .running).setIfInBounds gi gs₁) := bare_set (bare_set hb' rfl) hbare
    have em : (fun y => if names.contains y = true then m' y else m y) = m' := by
      funext y
      cases hc : names.contains y with
      | true => rfl
      | false => simp only [Bool.false_eq_true, if_false]; exact (hm' y hc).symm
    show wpAny _ A (letOwnedTupleGo tgt (.ref G) (.ref T)) _ _ { s with heap := h₁, toks := tk₁, gens := (gs'.setIfInBounds gi .running).setIfInBounds gi gs₁ }
    refine letGo_gen (gi := gi) hg₁ ?_
    refine wpAny_mono (turn out r' m' h₁ tk₁ _ (atLeast h₁ LG) T p tp tc (by rw [em]; exact hk') hbb (by rw [em]; exact F₁) N₁ (List.mem_append_left _ (mem_atLeast.mpr ⟨hTL, hT⟩))) (fun _ s₂ h₂ => wpAny_mono h₂ (fun f s₃ h₃ => ?_) fun _ _ e => e) fun _ _ e => e
    have fin : TurnG h₀ env.locals s ((gs'.setIfInBounds gi .running).setIfInBounds gi gs₁) (atLeast h₁ LG ++ news) (fun m3 => ∀ y, names.contains y = false → m3 y = m y) (K r') s₃ →
        ∃ k, k < (out :: r').length ∧ ∃ pre r h tk gs' gst m', k = r.length ∧ outs = pre ++ r ∧ s₃ = { s with heap := h, toks := tk, gens := gs' } ∧ Bare gs' ∧ gs'[gi]? = some gst ∧
      (∀ s'', genGround h₀ env.locals LG s₃ s'' → gst.Goes (model prog w) A.in1 (genR LG Z) (genY h₀ env.locals LG Z outs) r.length (.send .none) s'') ∧
      h.IsGen G gi ∧ Fr h₀ env.locals h m' ∧ News h₀ env.locals h news ∧ (∀ y, names.contains y = false → m' y = m y) ∧ K r m' := by
      rintro ⟨h3, tk3, m3, rfl, F3, N3, off3, k3⟩
      have up : ∀ b o, LG ≤ b → h₁.get? b = some o → h3.get? b = some o := fun b o hb e => (N3 (b, o) (List.mem_append_left _ (mem_atLeast.mpr ⟨hb, e⟩))).1
      refine ⟨r'.length, Nat.lt_succ_self _, pre ++ [out], r', h3, tk3, _, gs₁, m3, rfl, by rw [ho, List.append_assoc]; rfl, rfl, hbb, ?_, ?_, ?_, F3, fun p hp => N3 p (List.mem_append_right _ hp), off3, k3⟩
      · simp [hgi]
      · exact fun s'' g => hkap s'' ⟨fun b o hb e => g.1 b o hb (up b o hb e), g.2⟩
      · exact let ⟨o, nm, qn, e, rr⟩ := hg₁; ⟨o, nm, qn, up _ _ (Nat.le_of_lt hGL) e, rr⟩
    cases f with
    | next => exact fin h₃
    | cont => exact fin h₃
    | brk => exact h₃
    | ret v => exact h₃
  · intro s₁ hP h' hk₁
    obtain ⟨hz, h₁, tk₁, rfl, hkk⟩ := hP
    have hr : r = [] := List.length_eq_zero_iff.mp hz
    subst hr
    have em : (fun y => if names.contains y = true then m' y else m y) = m' := by
      funext y
      cases hc : names.contains y with
      | true => rfl
      | false => simp only [Bool.false_eq_true, if_false]; exact (hm' y hc).symm
    refine done m' h' tk₁ _ (by rw [em]; exact hk') (bare_set (bare_set hb' rfl) rfl) ?_ ?_
    · rw [em]
      exact ⟨F'.ns.at fun o e => hk₁ _ _ (hkk _ o (Nat.ne_of_lt hLG) (Nat.lt_trans hLG (Nat.lt_trans hGL hGZ)) e),
        fun b o e => hk₁ _ _ (hkk b o (Nat.ne_of_lt (Nat.lt_of_lt_of_le (Heap.lt_size e) h0lt)) (Nat.lt_trans (Nat.lt_of_lt_of_le (Heap.lt_size e) h0lt) (Nat.lt_trans hGL hGZ)) (F'.keep b o e)), F'.above⟩
    · exact fun p hp => ⟨hk₁ _ _ (hkk _ _ (Nat.ne_of_lt (hnews p hp)) (Nat.lt_trans (hnews p hp) (Nat.lt_trans hGL hGZ)) (N' p hp).1), (N' p hp).2⟩

theorem enum_str_K {h₀ : Heap} {L : Addr} {m : PySem.Str → Option Value} {news : List (Addr × Obj)} {x : PySem.Str} {t : Tok} {Q : Value → Shared → Prop} (F : Fr h₀ L s.heap m) (N : News h₀ L s.heap news)
    (h : ∀ I h', L < I → (∀ p ∈ news, p.1 < I) → IsEnum h' (I + 1) I 0 .none → h'.IsStrIter I (strIterType x) x t 0 → Fr h₀ L h' m → News h₀ L h' news → (∀ b o, s.heap.get? b = some o → h'.get? b = some o) → Q (.ref (I + 1)) { s with heap := h' }) :
    wpAny (model prog w) A (call (.type "enumerate") [.str x t]) Q E s :=
  call_enumerate_str fun h' he hit _ hk => h _ h' F.ns.lt (fun p hp => Heap.lt_size (N p hp).1) he hit (F.after hk) (fun p hp => ⟨hk _ _ (N p hp).1, (N p hp).2⟩) hk
end
end
section
noncomputable def escOuts : Bool → List Nat → List PySem.Str
  | false, [] => []
  | true, [] => [PySem.Str.ofString "\\"]
  | true, c :: r => (PySem.Str.ofString "\\" ++ ⟨#[c]⟩) :: escOuts false r
  | false, c :: r => if c = 92 then escOuts true r else ⟨#[c]⟩ :: escOuts false r
noncomputable def chkOuts : Int → List PySem.Str → Bool
  | o, [] => decide (o = 0)
  | o, x :: r => if (x == PySem.Str.ofString "(") = true then chkOuts (o + 1) r else if (x == PySem.Str.ofString ")") = true then (if o - 1 < 0 then false else chkOuts (o - 1) r) else chkOuts o r
noncomputable def chk (x : PySem.Str) : Bool := chkOuts 0 (escOuts false x.cps.toList)
theorem escOuts_len : ∀ (e : Bool) (l : List Nat), (escOuts e l).length ≤ l.length + 1
  | false, [] => by simp [escOuts]
  | true, [] => by simp [escOuts]
  | true, c :: r => by simp only [escOuts, List.length_cons]; exact Nat.succ_le_succ (escOuts_len false r)
  | false, c :: r => by
    simp only [escOuts, List.length_cons]
    split
    · exact Nat.le_succ_of_le (escOuts_len true r)
    · exact Nat.succ_le_succ (escOuts_len false r)
theorem drop_at {l : Array Nat} {i c : Nat} (h : l[i]? = some c) : l.toList.drop i = c :: l.toList.drop (i + 1) := by
  have h' : l.toList[i]? = some c := by rw [Array.getElem?_toList]; exact h
  obtain ⟨hlt, e⟩ := List.getElem?_eq_some_iff.mp h'
  rw [List.drop_eq_getElem_cons hlt, e]
theorem one_ne {c : Nat} (h : c ≠ 92) : ((⟨#[c]⟩ : PySem.Str) == PySem.Str.ofString "\\") = false := by
  rw [beq_eq_false_iff_ne]
  intro e
  have e2 : (⟨#[c]⟩ : PySem.Str).cps = #[92] := by rw [e]; rfl
  simp at e2
  exact h e2
theorem bare_push {gs : Array GenState} {x : GenState} (h : Bare gs) (hx : x.bare = true) : Bare (gs.push x) := fun y hy => by
  rcases Array.mem_push.mp hy with q | q
  · exact h y q
  · exact q ▸ hx
section
variable {w : World} {mean : ExcName → Option Value} {mg mb : PySem.Str → Option Value} {dp un : Nat} {gd : Option (List Code)} {cn : PySem.Str} {cs : Scope} {a : Addr} {ccd : Value} {cl : List (PySem.Str × Addr)} {outer : List Env} {A₀ : Around} {base h₀ : Heap} {L : Addr} {m : PySem.Str → Option Value} {news : List (Addr × Obj)} {s : Shared} {Q E : Value → Shared → Prop}
  (B : Below A₀ base outer h₀) (F : Fr h₀ L s.heap m) (X : (hd.heap_39 w.params).In h₀) (N : News h₀ L s.heap news) (T : Top hd.view_39 LO mean mg mb h₀) (hk : cs.kind = .function)
include B F X N T hk
set_option maxRecDepth 100000 in
set_option maxHeartbeats 8000000 in
set_option pp.deepTerms false in
set_option pp.deepTerms.threshold 10 in
theorem check {x : PySem.Str} {tx0 : Tok} (hq : (Builtin.Str.occurrences x (PySem.Str.ofString "\"") 0 x.length 1).isEmpty = true) (ha : x.cps.all (· < 128) = true) (hlen : x.length < 100) (hdp : dp + 20 < recursionLimit) (hun : un + 40 < cLine) (hb : Bare s.gens)
    (hret : ∀ h' tk' gs', Fr h₀ L h' m → News h₀ L h' news → Bare gs' → Q (.bool (chk x)) { s with heap := h', toks := tk', gens := gs' }) :
    wpAny (model PySem.Challenge.rw_wa0038_01.row.prog w) (ktrTop dp un gd cn cs L a ccd cl outer) (call (.ref 59) [.str x tx0] []) Q E s := by
  revert X; k_fill; intro X
  refine wpAny_call ?_
  k_dflt (((refine' code_def ?k1 ?k2 ?k3 ?k4 ?k5 ?kA ?kF ?kK ?k6 ?k7 ?k8 ?k9 ?kB ?_ ?c2 ?c3 ?c4 ?c5; (case kA => exact rfl); (case kF => exact rfl); (case kK => first | exact rfl | assumption); (case k1 => k_asm); (case k2 => k_asm); (case k3 => k_asm); (case k4 => k_asm); (case k5 => k_asm); (case k6 => k_is); (case k7 => k_is); (case k8 => ktr_room); (case k9 => first | exact BindsTo.of_eq rfl | exact binds_K (by k_in) rfl (by k_is) rfl rfl rfl | fail "no rule for these arguments"); (case c5 => decide); (case kB => exact locs rfl); (case c2 => exact rfl); (case c3 => exact rfl); (case c4 => exact rfl); k_whole; intro g' L' h' FG' F' N' B' X' T'; (try dsimp only); (try k_lift B'); (try k_fold))))
  (repeat' (first | (k_unfold; (try dsimp only)) | (k_end; wrow_close) | ((((fail_if_success (with_reducible show wpAny _ _ (call (Value.builtin "dict.items") _ _) _ _ _)); (fail_if_success (with_reducible show wpAny _ _ (call (Value.type "range") _ _) _ _ _)); (fail_if_success (with_reducible show wpAny _ _ (call (Value.ref 112) _ _) _ _ _)); (fail_if_success (with_reducible show wpAny _ _ (eval (Expr.ListComp _ _ _ _) _) _ _ _)); (fail_if_success (with_reducible show wpAny _ _ (exec (Stmt.For _ _ _ _ _) _) _ _ _)); (fail_if_success (with_reducible show wpAny _ _ (exec (Stmt.While _ _ _ _) _) _ _ _)); (fail_if_success (with_reducible show wpAny _ _ (exec (Stmt.Assign [Expr.Name _ _] (Expr.ListComp _ _ _ _) _) _) _ _ _)))); first | (first | with_reducible (k_here; (with_reducible show wpAny _ _ (call (Value.type _) [Value.str _ _]) _ _ _); refine' enum_str_K ?Fqz ?Nqz ?_; (case Fqz => k_asm); (case Nqz => k_asm); intro I7 h7 hLI hnI he7 hit7 F7 N7 hk7) | walk1) | (dsimp only; ((((fail_if_success (with_reducible show wpAny _ _ (call (Value.builtin "dict.items") _ _) _ _ _)); (fail_if_success (with_reducible show wpAny _ _ (call (Value.type "range") _ _) _ _ _)); (fail_if_success (with_reducible show wpAny _ _ (call (Value.ref 112) _ _) _ _ _)); (fail_if_success (with_reducible show wpAny _ _ (eval (Expr.ListComp _ _ _ _) _) _ _ _)); (fail_if_success (with_reducible show wpAny _ _ (exec (Stmt.For _ _ _ _ _) _) _ _ _)); (fail_if_success (with_reducible show wpAny _ _ (exec (Stmt.While _ _ _ _) _) _ _ _)); (fail_if_success (with_reducible show wpAny _ _ (exec (Stmt.Assign [Expr.Name _ _] (Expr.ListComp _ _ _ _) _) _) _ _ _))))); (first | with_reducible (k_here; (with_reducible show wpAny _ _ (call (Value.type _) [Value.str _ _]) _ _ _); refine' enum_str_K ?Fqz ?Nqz ?_; (case Fqz => k_asm); (case Nqz => k_asm); intro I7 h7 hLI hnI he7 hit7 F7 N7 hk7) | walk1))) | (leave1; walk_say "STEP leave1"; try dsimp only) | fail "no step"))
  refine for_any ?_
  (repeat' (first | (k_unfold; (try dsimp only)) | (k_end; wrow_close) | ((((fail_if_success (with_reducible show wpAny _ _ (call (Value.builtin "dict.items") _ _) _ _ _)); (fail_if_success (with_reducible show wpAny _ _ (call (Value.type "range") _ _) _ _ _)); (fail_if_success (with_reducible show wpAny _ _ (call (Value.ref 112) _ _) _ _ _)); (fail_if_success (with_reducible show wpAny _ _ (eval (Expr.ListComp _ _ _ _) _) _ _ _)); (fail_if_success (with_reducible show wpAny _ _ (exec (Stmt.For _ _ _ _ _) _) _ _ _)); (fail_if_success (with_reducible show wpAny _ _ (exec (Stmt.While _ _ _ _) _) _ _ _)); (fail_if_success (with_reducible show wpAny _ _ (exec (Stmt.Assign [Expr.Name _ _] (Expr.ListComp _ _ _ _) _) _) _ _ _)))); first | (first | with_reducible (k_here; (with_reducible show wpAny _ _ (call (Value.type _) [Value.str _ _]) _ _ _); refine' enum_str_K ?Fqz ?Nqz ?_; (case Fqz => k_asm); (case Nqz => k_asm); intro I7 h7 hLI hnI he7 hit7 F7 N7 hk7) | walk1) | (dsimp only; ((((fail_if_success (with_reducible show wpAny _ _ (call (Value.builtin "dict.items") _ _) _ _ _)); (fail_if_success (with_reducible show wpAny _ _ (call (Value.type "range") _ _) _ _ _)); (fail_if_success (with_reducible show wpAny _ _ (call (Value.ref 112) _ _) _ _ _)); (fail_if_success (with_reducible show wpAny _ _ (eval (Expr.ListComp _ _ _ _) _) _ _ _)); (fail_if_success (with_reducible show wpAny _ _ (exec (Stmt.For _ _ _ _ _) _) _ _ _)); (fail_if_success (with_reducible show wpAny _ _ (exec (Stmt.While _ _ _ _) _) _ _ _)); (fail_if_success (with_reducible show wpAny _ _ (exec (Stmt.Assign [Expr.Name _ _] (Expr.ListComp _ _ _ _) _) _) _ _ _))))); (first | with_reducible (k_here; (with_reducible show wpAny _ _ (call (Value.type _) [Value.str _ _]) _ _ _); refine' enum_str_K ?Fqz ?Nqz ?_; (case Fqz => k_asm); (case Nqz => k_asm); intro I7 h7 hLI hnI he7 hit7 F7 N7 hk7) | walk1))) | (leave1; walk_say "STEP leave1"; try dsimp only) | fail "no step"))
  refine wpAny_call ?_
  k_dflt (refine' code_gen ?F ?N ?X ?T ?ho ?hcd ?hroom ?hbind ?hloc ?_ ?c1 ?c2 ?c3 ?c4; (case F => k_asm); (case N => k_asm); (case X => k_asm); (case T => k_asm); (case ho => k_is); (case hcd => k_is); (case hroom => ktr_room); (case hbind => first | exact BindsTo.of_eq rfl | exact binds_K (by k_in) rfl (by k_is) rfl rfl rfl); (case hloc => exact locs rfl); (case c1 => exact rfl); (case c2 => exact rfl); (case c3 => exact rfl); (case c4 => decide))
  intro LG h5 tk5 hLG hnews5 hsz5 hns5 hg5 F5 N5
  dsimp only at hns5 hg5 F5 ⊢
  refine iter_gen (names := [PySem.Str.ofString "pos", PySem.Str.ofString "ch", PySem.Str.ofString "opens"]) (G := LG + 1) (Z := LG + 2) (outs := escOuts false x.cps.toList)
    (fun r m' => ∃ o t, m' (PySem.Str.ofString "opens") = some (.int o t) ∧ o.natAbs + r.length ≤ 200 ∧ chkOuts o r = chk x)
    (by rfl) (by ktr_room) (TopRead.nolimit (by k_asm)) F5 N5 ?_ hLG (Nat.lt_succ_self _) (Nat.lt_succ_self _) hnews5 hg5 (by exact Array.getElem?_push_size ..) ?_ ?_ ?_ ?_
  · exact bare_push hb rfl
  · intro s5 hs5
    obtain ⟨hup5, mc5, Fc5⟩ := hs5
    dsimp only at hup5 Fc5
    have Ns5 : s5.heap.Ns LG _ := hns5.at fun o e => hup5 _ o (Nat.le_refl _) e
    refine ⟨rfl, ?_⟩
    have hG5 : ∃ og, (LG + 1, og) ∈ above s5.heap LG := by
      obtain ⟨og, _, _, e, _⟩ := hg5
      exact ⟨og, mem_above.mpr ⟨Nat.lt_succ_self _, hup5 _ _ (Nat.le_succ _) e⟩⟩
    clear hns5 F5 N5 hg5
    rename Below _ base (envX cn cs L a ccd cl :: outer) _ => Bc
    rename Top _ _ _ _ _ _ => Tc
    rename Frag.In _ _ => Xc
    refine seg_ctx Bc Xc Tc Fc5 hLG Ns5 (by rfl) (by rfl) (by rfl) fun Bg Xg Tg Fg Ng => seg_func (seg_execs_cons (seg_execN ?_))
    (repeat' (first | (k_unfold; (try dsimp only)) | (k_end; wrow_close) | ((((fail_if_success (with_reducible show wpAny _ _ (call (Value.builtin "dict.items") _ _) _ _ _)); (fail_if_success (with_reducible show wpAny _ _ (call (Value.type "range") _ _) _ _ _)); (fail_if_success (with_reducible show wpAny _ _ (call (Value.ref 112) _ _) _ _ _)); (fail_if_success (with_reducible show wpAny _ _ (eval (Expr.ListComp _ _ _ _) _) _ _ _)); (fail_if_success (with_reducible show wpAny _ _ (exec (Stmt.For _ _ _ _ _) _) _ _ _)); (fail_if_success (with_reducible show wpAny _ _ (exec (Stmt.While _ _ _ _) _) _ _ _)); (fail_if_success (with_reducible show wpAny _ _ (exec (Stmt.Assign [Expr.Name _ _] (Expr.ListComp _ _ _ _) _) _) _ _ _)))); first | (first | with_reducible (k_here; (with_reducible show wpAny _ _ (call (Value.type _) [Value.str _ _]) _ _ _); refine' enum_str_K ?Fqz ?Nqz ?_; (case Fqz => k_asm); (case Nqz => k_asm); intro I7 h7 hLI hnI he7 hit7 F7 N7 hk7) | walk1) | (dsimp only; ((((fail_if_success (with_reducible show wpAny _ _ (call (Value.builtin "dict.items") _ _) _ _ _)); (fail_if_success (with_reducible show wpAny _ _ (call (Value.type "range") _ _) _ _ _)); (fail_if_success (with_reducible show wpAny _ _ (call (Value.ref 112) _ _) _ _ _)); (fail_if_success (with_reducible show wpAny _ _ (eval (Expr.ListComp _ _ _ _) _) _ _ _)); (fail_if_success (with_reducible show wpAny _ _ (exec (Stmt.For _ _ _ _ _) _) _ _ _)); (fail_if_success (with_reducible show wpAny _ _ (exec (Stmt.While _ _ _ _) _) _ _ _)); (fail_if_success (with_reducible show wpAny _ _ (exec (Stmt.Assign [Expr.Name _ _] (Expr.ListComp _ _ _ _) _) _) _ _ _))))); (first | with_reducible (k_here; (with_reducible show wpAny _ _ (call (Value.type _) [Value.str _ _]) _ _ _); refine' enum_str_K ?Fqz ?Nqz ?_; (case Fqz => k_asm); (case Nqz => k_asm); intro I7 h7 hLI hnI he7 hit7 F7 N7 hk7) | walk1))) | (leave1; walk_say "STEP leave1"; try dsimp only) | fail "no step"))
    refine seg_execs_cons (seg_execN ?_)
    (repeat' (first | (k_unfold; (try dsimp only)) | (k_end; wrow_close) | ((((fail_if_success (with_reducible show wpAny _ _ (call (Value.builtin "dict.items") _ _) _ _ _)); (fail_if_success (with_reducible show wpAny _ _ (call (Value.type "range") _ _) _ _ _)); (fail_if_success (with_reducible show wpAny _ _ (call (Value.ref 112) _ _) _ _ _)); (fail_if_success (with_reducible show wpAny _ _ (eval (Expr.ListComp _ _ _ _) _) _ _ _)); (fail_if_success (with_reducible show wpAny _ _ (exec (Stmt.For _ _ _ _ _) _) _ _ _)); (fail_if_success (with_reducible show wpAny _ _ (exec (Stmt.While _ _ _ _) _) _ _ _)); (fail_if_success (with_reducible show wpAny _ _ (exec (Stmt.Assign [Expr.Name _ _] (Expr.ListComp _ _ _ _) _) _) _ _ _)))); first | (first | with_reducible (k_here; (with_reducible show wpAny _ _ (call (Value.type _) [Value.str _ _]) _ _ _); refine' enum_str_K ?Fqz ?Nqz ?_; (case Fqz => k_asm); (case Nqz => k_asm); intro I7 h7 hLI hnI he7 hit7 F7 N7 hk7) | walk1) | (dsimp only; ((((fail_if_success (with_reducible show wpAny _ _ (call (Value.builtin "dict.items") _ _) _ _ _)); (fail_if_success (with_reducible show wpAny _ _ (call (Value.type "range") _ _) _ _ _)); (fail_if_success (with_reducible show wpAny _ _ (call (Value.ref 112) _ _) _ _ _)); (fail_if_success (with_reducible show wpAny _ _ (eval (Expr.ListComp _ _ _ _) _) _ _ _)); (fail_if_success (with_reducible show wpAny _ _ (exec (Stmt.For _ _ _ _ _) _) _ _ _)); (fail_if_success (with_reducible show wpAny _ _ (exec (Stmt.While _ _ _ _) _) _ _ _)); (fail_if_success (with_reducible show wpAny _ _ (exec (Stmt.Assign [Expr.Name _ _] (Expr.ListComp _ _ _ _) _) _) _ _ _))))); (first | with_reducible (k_here; (with_reducible show wpAny _ _ (call (Value.type _) [Value.str _ _]) _ _ _); refine' enum_str_K ?Fqz ?Nqz ?_; (case Fqz => k_asm); (case Nqz => k_asm); intro I7 h7 hLI hnI he7 hit7 F7 N7 hk7) | walk1))) | (leave1; walk_say "STEP leave1"; try dsimp only) | fail "no step"))
    refine seg_execs_cons (seg_ForN ?_)
    (repeat' (first | (k_unfold; (try dsimp only)) | (k_end; wrow_close) | ((((fail_if_success (with_reducible show wpAny _ _ (call (Value.builtin "dict.items") _ _) _ _ _)); (fail_if_success (with_reducible show wpAny _ _ (call (Value.type "range") _ _) _ _ _)); (fail_if_success (with_reducible show wpAny _ _ (call (Value.ref 112) _ _) _ _ _)); (fail_if_success (with_reducible show wpAny _ _ (eval (Expr.ListComp _ _ _ _) _) _ _ _)); (fail_if_success (with_reducible show wpAny _ _ (exec (Stmt.For _ _ _ _ _) _) _ _ _)); (fail_if_success (with_reducible show wpAny _ _ (exec (Stmt.While _ _ _ _) _) _ _ _)); (fail_if_success (with_reducible show wpAny _ _ (exec (Stmt.Assign [Expr.Name _ _] (Expr.ListComp _ _ _ _) _) _) _ _ _)))); first | (first | with_reducible (k_here; (with_reducible show wpAny _ _ (call (Value.type _) [Value.str _ _]) _ _ _); refine' enum_str_K ?Fqz ?Nqz ?_; (case Fqz => k_asm); (case Nqz => k_asm); intro I7 h7 hLI hnI he7 hit7 F7 N7 hk7) | walk1) | (dsimp only; ((((fail_if_success (with_reducible show wpAny _ _ (call (Value.builtin "dict.items") _ _) _ _ _)); (fail_if_success (with_reducible show wpAny _ _ (call (Value.type "range") _ _) _ _ _)); (fail_if_success (with_reducible show wpAny _ _ (call (Value.ref 112) _ _) _ _ _)); (fail_if_success (with_reducible show wpAny _ _ (eval (Expr.ListComp _ _ _ _) _) _ _ _)); (fail_if_success (with_reducible show wpAny _ _ (exec (Stmt.For _ _ _ _ _) _) _ _ _)); (fail_if_success (with_reducible show wpAny _ _ (exec (Stmt.While _ _ _ _) _) _ _ _)); (fail_if_success (with_reducible show wpAny _ _ (exec (Stmt.Assign [Expr.Name _ _] (Expr.ListComp _ _ _ _) _) _) _ _ _))))); (first | with_reducible (k_here; (with_reducible show wpAny _ _ (call (Value.type _) [Value.str _ _]) _ _ _); refine' enum_str_K ?Fqz ?Nqz ?_; (case Fqz => k_asm); (case Nqz => k_asm); intro I7 h7 hLI hnI he7 hit7 F7 N7 hk7) | walk1))) | (leave1; walk_say "STEP leave1"; try dsimp only) | fail "no step"))
    rename IsEnum _ _ _ _ _ => he7
    rename Heap.IsStrIter _ _ _ _ _ _ => hit7
    rename Fr _ LG _ _ => F7
    rename News _ LG _ _ => N7
    rename ∀ p ∈ above _ _, p.1 < _ => hnI
    rename Addr => I7
    have hIZ : LG + 1 < I7 := hnI _ hG5.choose_spec
    have hty : strIterType x = "str_ascii_iterator" := by unfold strIterType; rw [ha]; rfl
    rw [hty] at hit7
    refine (walks_str (by rfl) x tx0 I7).self 0 _ _ _ ⟨⟨_, he7⟩, hit7⟩ ?_
    intro pz
    have kep7 := kept_gen F7 N7 (fun p hp => hp)
    have Ns7 := F7.ns
    have Fc7 := fr_after' Fc5 kep7 hLG
    clear N7 F7 hnI
    refine seg_loop (fun k n s₀ s => ∃ (i : Nat) (e : Bool) (p : Int) (tp : Tok) (m : PySem.Str → Option Value) (h : Heap) (tk : Nat), k = x.cps.size - i ∧ i ≤ x.cps.size ∧ n = (escOuts e (x.cps.toList.drop i)).length ∧ (∃ pre, escOuts false x.cps.toList = pre ++ escOuts e (x.cps.toList.drop i)) ∧
      s = { s₀ with heap := h, toks := tk } ∧ (∀ b o, b ≠ LG → b < LG + 2 → s₀.heap.get? b = some o → h.get? b = some o) ∧ ((∃ old, IsEnum h (I7 + 1) I7 i old) ∧ h.IsStrIter I7 "str_ascii_iterator" x tx0 i) ∧ h.Ns LG m ∧ m (PySem.Str.ofString "escape") = some (.bool e) ∧ m (PySem.Str.ofString "pos") = some (.int p tp) ∧ (∃ og, h.get? (LG + 1) = some og) ∧ ∃ mc, Fr _ _ h mc) ?_ x.cps.size _ _ _
      ⟨0, false, 0, _, _, _, _, by rw [Nat.sub_zero], Nat.zero_le _, rfl, ⟨[], rfl⟩, rfl, fun b o hb _ e => kep7 b o hb e, ⟨⟨_, he7⟩, hit7⟩, Ns7, rfl, rfl, ⟨_, kep7 _ _ (Nat.succ_ne_self _) (mem_above.mp hG5.choose_spec).2⟩, _, Fc7⟩
    have hLI : LG < I7 := Nat.lt_trans (Nat.lt_succ_self _) hIZ
    have nin : ∀ {b : Addr}, b < I7 → b ∉ [I7 + 1, I7] := fun {b} hb hm => by
      rcases List.mem_cons.mp hm with e | hm
      · exact absurd (e ▸ hb) (Nat.not_lt.mpr (Nat.le_succ _))
      · exact absurd ((List.mem_singleton.mp hm) ▸ hb) (Nat.lt_irrefl _)
    have FW := (walks_str (prog := PySem.Challenge.rw_wa0038_01.row.prog) (w := w) (A := callerA) (by rfl) x tx0 I7).frame
    have wrLG : ∀ b ∈ [I7 + 1, I7], LG < b := fun b hb => by
      rcases List.mem_cons.mp hb with e | hb
      · exact e ▸ Nat.lt_succ_of_lt hLI
      · exact (List.mem_singleton.mp hb) ▸ hLI
    clear Ns7 Fc7 he7 hit7 kep7 Ns5 Fc5 hup5
    rintro k again n s₀ s ⟨i, e, p, tp, m, h, tk, rfl, hile, rfl, ⟨pre, hpre⟩, rfl, hst, hSt, Ns, hesc, hpos, ⟨og, hog⟩, mc, Fc⟩
    by_cases hi : i < x.cps.size
    · obtain ⟨c, hc⟩ : ∃ c, x.cps[i]? = some c := ⟨_, Array.getElem?_eq_getElem hi⟩
      have hd := drop_at hc
      rw [hd] at hpre ⊢
      cases e with
      | true =>
        rw [show (escOuts true (c :: x.cps.toList.drop (i + 1))).length = (escOuts false (x.cps.toList.drop (i + 1))).length + 1 from rfl]

        refine (walks_str (by rfl) x tx0 I7).item i _ _ _ hi hSt ?_
        intro T vals h1 tk1 hP hT hmid hk1
        obtain ⟨t', y, ⟨c', u, hc', rfl⟩, rfl⟩ := hP
        rw [hc] at hc'
        cases hc'
        refine (walks_str (by rfl) x tx0 I7).go _ _ _ i T _ _ _ hmid ?_
        intro h2 hst2 hk2
        have hT2 : h2.IsTuple T _ := let ⟨o, e, r⟩ := hT; ⟨o, hk2 _ o ((walks_str (prog := PySem.Challenge.rw_wa0038_01.row.prog) (w := w) (A := callerA) (by rfl) x tx0 I7).apart i T _ hmid) e, r⟩
        refine wpAny_assign_Tuple (by rfl) hT2 rfl rfl fun h3 hx3 => ?_
        have kk3 : ∀ b o, h2.get? b = some o → h3.get? b = some o := fun b o e => hx3 b o (Nat.ne_of_lt (Heap.lt_size e)) e
        have kk : ∀ b o, b < I7 → h.get? b = some o → h3.get? b = some o := fun b o hb e => kk3 b o (hk2 b o (nin hb) (hk1 b o (nin hb) e))
        have Ns3 : h3.Ns LG m := Ns.at fun o e => kk _ o hLI e
        have Fc3 := fr_lt (h' := h3) Fc kk (Nat.lt_trans hLG hLI)
        have hSt3 := FW (i + 1) h2 h3 hst2 (fun b _ o e => kk3 b o e)
        have hst3 : ∀ b o, b ≠ LG → b < LG + 2 → s₀.heap.get? b = some o → h3.get? b = some o := fun b o hb hb2 e => kk b o (Nat.lt_of_lt_of_le hb2 hIZ) (hst b o hb hb2 e)
        have hog3 := kk _ _ hIZ hog
        clear hT hmid hk1 hk2 hT2 hx3 kk3 kk hst Ns Fc hSt hst2
        refine wp_ctx Bc Xc Tc Fc3 hLG Ns3 (by rfl) (by rfl) (by rfl) fun Bg Xg Tg Fg Ng => ?_
        have Fg2 := fr_track (x := PySem.Str.ofString "escape") (fr_track Fg hpos) (by show (if _ then _ else _) = _; rw [if_neg (by decide)]; exact hesc)
        clear Fg
        refine wpAny_bind (wpAny_holding ?_)
        (repeat' (first | (k_unfold; (try dsimp only)) | (k_end; wrow_close) | ((((fail_if_success (with_reducible show wpAny _ _ (call (Value.builtin "dict.items") _ _) _ _ _)); (fail_if_success (with_reducible show wpAny _ _ (call (Value.type "range") _ _) _ _ _)); (fail_if_success (with_reducible show wpAny _ _ (call (Value.ref 112) _ _) _ _ _)); (fail_if_success (with_reducible show wpAny _ _ (eval (Expr.ListComp _ _ _ _) _) _ _ _)); (fail_if_success (with_reducible show wpAny _ _ (exec (Stmt.For _ _ _ _ _) _) _ _ _)); (fail_if_success (with_reducible show wpAny _ _ (exec (Stmt.While _ _ _ _) _) _ _ _)); (fail_if_success (with_reducible show wpAny _ _ (exec (Stmt.Assign [Expr.Name _ _] (Expr.ListComp _ _ _ _) _) _) _ _ _)))); first | (first | with_reducible (k_here; (with_reducible show wpAny _ _ (call (Value.type _) [Value.str _ _]) _ _ _); refine' enum_str_K ?Fqz ?Nqz ?_; (case Fqz => k_asm); (case Nqz => k_asm); intro I7 h7 hLI hnI he7 hit7 F7 N7 hk7) | walk1) | (dsimp only; ((((fail_if_success (with_reducible show wpAny _ _ (call (Value.builtin "dict.items") _ _) _ _ _)); (fail_if_success (with_reducible show wpAny _ _ (call (Value.type "range") _ _) _ _ _)); (fail_if_success (with_reducible show wpAny _ _ (call (Value.ref 112) _ _) _ _ _)); (fail_if_success (with_reducible show wpAny _ _ (eval (Expr.ListComp _ _ _ _) _) _ _ _)); (fail_if_success (with_reducible show wpAny _ _ (exec (Stmt.For _ _ _ _ _) _) _ _ _)); (fail_if_success (with_reducible show wpAny _ _ (exec (Stmt.While _ _ _ _) _) _ _ _)); (fail_if_success (with_reducible show wpAny _ _ (exec (Stmt.Assign [Expr.Name _ _] (Expr.ListComp _ _ _ _) _) _) _ _ _))))); (first | with_reducible (k_here; (with_reducible show wpAny _ _ (call (Value.type _) [Value.str _ _]) _ _ _); refine' enum_str_K ?Fqz ?Nqz ?_; (case Fqz => k_asm); (case Nqz => k_asm); intro I7 h7 hLI hnI he7 hit7 F7 N7 hk7) | walk1))) | (leave1; walk_say "STEP leave1"; try dsimp only) | fail "no step"))
        refine seg_execs_cons (seg_IfN ?_)
        (repeat' (first | (k_unfold; (try dsimp only)) | (k_end; wrow_close) | ((((fail_if_success (with_reducible show wpAny _ _ (call (Value.builtin "dict.items") _ _) _ _ _)); (fail_if_success (with_reducible show wpAny _ _ (call (Value.type "range") _ _) _ _ _)); (fail_if_success (with_reducible show wpAny _ _ (call (Value.ref 112) _ _) _ _ _)); (fail_if_success (with_reducible show wpAny _ _ (eval (Expr.ListComp _ _ _ _) _) _ _ _)); (fail_if_success (with_reducible show wpAny _ _ (exec (Stmt.For _ _ _ _ _) _) _ _ _)); (fail_if_success (with_reducible show wpAny _ _ (exec (Stmt.While _ _ _ _) _) _ _ _)); (fail_if_success (with_reducible show wpAny _ _ (exec (Stmt.Assign [Expr.Name _ _] (Expr.ListComp _ _ _ _) _) _) _ _ _)))); first | (first | with_reducible (k_here; (with_reducible show wpAny _ _ (call (Value.type _) [Value.str _ _]) _ _ _); refine' enum_str_K ?Fqz ?Nqz ?_; (case Fqz => k_asm); (case Nqz => k_asm); intro I7 h7 hLI hnI he7 hit7 F7 N7 hk7) | walk1) | (dsimp only; ((((fail_if_success (with_reducible show wpAny _ _ (call (Value.builtin "dict.items") _ _) _ _ _)); (fail_if_success (with_reducible show wpAny _ _ (call (Value.type "range") _ _) _ _ _)); (fail_if_success (with_reducible show wpAny _ _ (call (Value.ref 112) _ _) _ _ _)); (fail_if_success (with_reducible show wpAny _ _ (eval (Expr.ListComp _ _ _ _) _) _ _ _)); (fail_if_success (with_reducible show wpAny _ _ (exec (Stmt.For _ _ _ _ _) _) _ _ _)); (fail_if_success (with_reducible show wpAny _ _ (exec (Stmt.While _ _ _ _) _) _ _ _)); (fail_if_success (with_reducible show wpAny _ _ (exec (Stmt.Assign [Expr.Name _ _] (Expr.ListComp _ _ _ _) _) _) _ _ _))))); (first | with_reducible (k_here; (with_reducible show wpAny _ _ (call (Value.type _) [Value.str _ _]) _ _ _); refine' enum_str_K ?Fqz ?Nqz ?_; (case Fqz => k_asm); (case Nqz => k_asm); intro I7 h7 hLI hnI he7 hit7 F7 N7 hk7) | walk1))) | (leave1; walk_say "STEP leave1"; try dsimp only) | fail "no step"))

        rw [if_pos rfl]
        refine seg_execs_cons (seg_YieldN (by rfl) (by rfl) (by rfl) ?_)
        (repeat' (first | (k_unfold; (try dsimp only)) | (k_end; wrow_close) | ((((fail_if_success (with_reducible show wpAny _ _ (call (Value.builtin "dict.items") _ _) _ _ _)); (fail_if_success (with_reducible show wpAny _ _ (call (Value.type "range") _ _) _ _ _)); (fail_if_success (with_reducible show wpAny _ _ (call (Value.ref 112) _ _) _ _ _)); (fail_if_success (with_reducible show wpAny _ _ (eval (Expr.ListComp _ _ _ _) _) _ _ _)); (fail_if_success (with_reducible show wpAny _ _ (exec (Stmt.For _ _ _ _ _) _) _ _ _)); (fail_if_success (with_reducible show wpAny _ _ (exec (Stmt.While _ _ _ _) _) _ _ _)); (fail_if_success (with_reducible show wpAny _ _ (exec (Stmt.Assign [Expr.Name _ _] (Expr.ListComp _ _ _ _) _) _) _ _ _)))); first | (first | with_reducible (k_here; (with_reducible show wpAny _ _ (call (Value.type _) [Value.str _ _]) _ _ _); refine' enum_str_K ?Fqz ?Nqz ?_; (case Fqz => k_asm); (case Nqz => k_asm); intro I7 h7 hLI hnI he7 hit7 F7 N7 hk7) | walk1) | (dsimp only; ((((fail_if_success (with_reducible show wpAny _ _ (call (Value.builtin "dict.items") _ _) _ _ _)); (fail_if_success (with_reducible show wpAny _ _ (call (Value.type "range") _ _) _ _ _)); (fail_if_success (with_reducible show wpAny _ _ (call (Value.ref 112) _ _) _ _ _)); (fail_if_success (with_reducible show wpAny _ _ (eval (Expr.ListComp _ _ _ _) _) _ _ _)); (fail_if_success (with_reducible show wpAny _ _ (exec (Stmt.For _ _ _ _ _) _) _ _ _)); (fail_if_success (with_reducible show wpAny _ _ (exec (Stmt.While _ _ _ _) _) _ _ _)); (fail_if_success (with_reducible show wpAny _ _ (exec (Stmt.Assign [Expr.Name _ _] (Expr.ListComp _ _ _ _) _) _) _ _ _))))); (first | with_reducible (k_here; (with_reducible show wpAny _ _ (call (Value.type _) [Value.str _ _]) _ _ _); refine' enum_str_K ?Fqz ?Nqz ?_; (case Fqz => k_asm); (case Nqz => k_asm); intro I7 h7 hLI hnI he7 hit7 F7 N7 hk7) | walk1))) | (leave1; walk_say "STEP leave1"; try dsimp only) | fail "no step"))
        rename_i hkap
        rename Fr _ LG _ _ => F8
        rename News _ LG _ _ => N8
        rename AllLt _ _ => hl8a
        have hl8 := ktn_ltOf hl8a
        have kep8 := kept_gen F8 N8 (fun p hp => List.mem_cons_of_mem _ hp)
        have hpre2 : escOuts false x.cps.toList = pre ++ (PySem.Str.ofString "\\" ++ ⟨#[c]⟩) :: escOuts false (x.cps.toList.drop (i + 1)) := hpre
        refine ⟨_, _, _, _, _, rev_at hpre2, rfl, ?_, (N8 _ (.head _)).1, ⟨_, _, rfl, fun b o hb hb2 e => kep8 b o hb (hst3 b o hb hb2 e)⟩, ?_⟩
        · obtain ⟨oI, eI, _⟩ := hSt3.2
          exact Nat.le_of_lt (Nat.lt_trans hLI (hl8 _ (mem_above.mpr ⟨hLI, eI⟩)))
        · intro s9 hg9
          refine hkap _ s9 ?_
          obtain ⟨hup9, mc9, Fc9⟩ := hg9
          have Ns9 : s9.heap.Ns LG _ := F8.ns.at fun o e => hup9 _ o (Nat.le_refl _) e
          have hSt9 := FW (i + 1) h3 s9.heap hSt3 (fun b hb o e => hup9 b o (Nat.le_of_lt (wrLG b hb)) (kep8 b o (Nat.ne_of_gt (wrLG b hb)) e))
          clear hkap F8 N8 hSt3 hst3 Fc3 Ns3
          show Seg _ _ _ _ _ _ _ _ _ _
          refine seg_ctx Bc Xc Tc Fc9 hLG Ns9 (by rfl) (by rfl) (by rfl) fun Bg Xg Tg Fg Ng => ?_
          refine seg_execs_cons (seg_execN ?_)
          (repeat' (first | (k_unfold; (try dsimp only)) | (k_end; wrow_close) | ((((fail_if_success (with_reducible show wpAny _ _ (call (Value.builtin "dict.items") _ _) _ _ _)); (fail_if_success (with_reducible show wpAny _ _ (call (Value.type "range") _ _) _ _ _)); (fail_if_success (with_reducible show wpAny _ _ (call (Value.ref 112) _ _) _ _ _)); (fail_if_success (with_reducible show wpAny _ _ (eval (Expr.ListComp _ _ _ _) _) _ _ _)); (fail_if_success (with_reducible show wpAny _ _ (exec (Stmt.For _ _ _ _ _) _) _ _ _)); (fail_if_success (with_reducible show wpAny _ _ (exec (Stmt.While _ _ _ _) _) _ _ _)); (fail_if_success (with_reducible show wpAny _ _ (exec (Stmt.Assign [Expr.Name _ _] (Expr.ListComp _ _ _ _) _) _) _ _ _)))); first | (first | with_reducible (k_here; (with_reducible show wpAny _ _ (call (Value.type _) [Value.str _ _]) _ _ _); refine' enum_str_K ?Fqz ?Nqz ?_; (case Fqz => k_asm); (case Nqz => k_asm); intro I7 h7 hLI hnI he7 hit7 F7 N7 hk7) | walk1) | (dsimp only; ((((fail_if_success (with_reducible show wpAny _ _ (call (Value.builtin "dict.items") _ _) _ _ _)); (fail_if_success (with_reducible show wpAny _ _ (call (Value.type "range") _ _) _ _ _)); (fail_if_success (with_reducible show wpAny _ _ (call (Value.ref 112) _ _) _ _ _)); (fail_if_success (with_reducible show wpAny _ _ (eval (Expr.ListComp _ _ _ _) _) _ _ _)); (fail_if_success (with_reducible show wpAny _ _ (exec (Stmt.For _ _ _ _ _) _) _ _ _)); (fail_if_success (with_reducible show wpAny _ _ (exec (Stmt.While _ _ _ _) _) _ _ _)); (fail_if_success (with_reducible show wpAny _ _ (exec (Stmt.Assign [Expr.Name _ _] (Expr.ListComp _ _ _ _) _) _) _ _ _))))); (first | with_reducible (k_here; (with_reducible show wpAny _ _ (call (Value.type _) [Value.str _ _]) _ _ _); refine' enum_str_K ?Fqz ?Nqz ?_; (case Fqz => k_asm); (case Nqz => k_asm); intro I7 h7 hLI hnI he7 hit7 F7 N7 hk7) | walk1))) | (leave1; walk_say "STEP leave1"; try dsimp only) | fail "no step"))
          rename Fr _ LG _ _ => F10
          rename News _ LG _ _ => N10
          have kep10 := kept_gen F10 N10 (fun p hp => hp)
          refine seg_execs_nil (seg_execs_nil ?_)
          refine again (x.cps.size - (i + 1)) (by omega) _ _ _ ⟨i + 1, false, _, _, _, _, _, rfl, hi, rfl, ⟨pre ++ [_], by rw [hpre2, List.append_assoc]; rfl⟩, rfl, fun b o hb _ e => kep10 b o hb e, FW _ _ _ hSt9 (fun b hb o e => kep10 b o (Nat.ne_of_gt (wrLG b hb)) e), F10.ns, rfl, rfl, ⟨_, kep10 _ _ (Nat.succ_ne_self _) (hup9 _ _ (Nat.le_succ _) (kep8 _ _ (Nat.succ_ne_self _) hog3))⟩, mc9, fr_after' Fc9 kep10 hLG⟩
      | false =>
        by_cases h92 : c = 92
        · have hcc : ((⟨#[c]⟩ : PySem.Str) == PySem.Str.ofString "\\") = true := by rw [h92]; rfl
          have hpre2 : escOuts false x.cps.toList = pre ++ escOuts true (x.cps.toList.drop (i + 1)) := by rw [hpre, escOuts, if_pos h92]
          rw [show (escOuts false (c :: x.cps.toList.drop (i + 1))).length = (escOuts true (x.cps.toList.drop (i + 1))).length from by rw [escOuts, if_pos h92]]
          refine (walks_str (by rfl) x tx0 I7).item i _ _ _ hi hSt ?_
          intro T vals h1 tk1 hP hT hmid hk1
          obtain ⟨t', y, ⟨c', u, hc', rfl⟩, rfl⟩ := hP
          rw [hc] at hc'
          cases hc'
          refine (walks_str (by rfl) x tx0 I7).go _ _ _ i T _ _ _ hmid ?_
          intro h2 hst2 hk2
          have hT2 : h2.IsTuple T _ := let ⟨o, e, r⟩ := hT; ⟨o, hk2 _ o ((walks_str (prog := PySem.Challenge.rw_wa0038_01.row.prog) (w := w) (A := callerA) (by rfl) x tx0 I7).apart i T _ hmid) e, r⟩
          refine wpAny_assign_Tuple (by rfl) hT2 rfl rfl fun h3 hx3 => ?_
          have kk3 : ∀ b o, h2.get? b = some o → h3.get? b = some o := fun b o e => hx3 b o (Nat.ne_of_lt (Heap.lt_size e)) e
          have kk : ∀ b o, b < I7 → h.get? b = some o → h3.get? b = some o := fun b o hb e => kk3 b o (hk2 b o (nin hb) (hk1 b o (nin hb) e))
          have Ns3 : h3.Ns LG m := Ns.at fun o e => kk _ o hLI e
          have Fc3 := fr_lt (h' := h3) Fc kk (Nat.lt_trans hLG hLI)
          have hSt3 := FW (i + 1) h2 h3 hst2 (fun b _ o e => kk3 b o e)
          have hst3 : ∀ b o, b ≠ LG → b < LG + 2 → s₀.heap.get? b = some o → h3.get? b = some o := fun b o hb hb2 e => kk b o (Nat.lt_of_lt_of_le hb2 hIZ) (hst b o hb hb2 e)
          have hog3 := kk _ _ hIZ hog
          clear hT hmid hk1 hk2 hT2 hx3 kk3 kk hst Ns Fc hSt hst2
          refine wp_ctx Bc Xc Tc Fc3 hLG Ns3 (by rfl) (by rfl) (by rfl) fun Bg Xg Tg Fg Ng => ?_
          have Fg2 := fr_track (x := PySem.Str.ofString "escape") (fr_track Fg hpos) (by show (if _ then _ else _) = _; rw [if_neg (by decide)]; exact hesc)
          clear Fg
          refine wpAny_bind (wpAny_holding ?_)
          (repeat' (first | (k_unfold; (try dsimp only)) | (k_end; wrow_close) | ((((fail_if_success (with_reducible show wpAny _ _ (call (Value.builtin "dict.items") _ _) _ _ _)); (fail_if_success (with_reducible show wpAny _ _ (call (Value.type "range") _ _) _ _ _)); (fail_if_success (with_reducible show wpAny _ _ (call (Value.ref 112) _ _) _ _ _)); (fail_if_success (with_reducible show wpAny _ _ (eval (Expr.ListComp _ _ _ _) _) _ _ _)); (fail_if_success (with_reducible show wpAny _ _ (exec (Stmt.For _ _ _ _ _) _) _ _ _)); (fail_if_success (with_reducible show wpAny _ _ (exec (Stmt.While _ _ _ _) _) _ _ _)); (fail_if_success (with_reducible show wpAny _ _ (exec (Stmt.Assign [Expr.Name _ _] (Expr.ListComp _ _ _ _) _) _) _ _ _)))); first | (first | with_reducible (k_here; (with_reducible show wpAny _ _ (call (Value.type _) [Value.str _ _]) _ _ _); refine' enum_str_K ?Fqz ?Nqz ?_; (case Fqz => k_asm); (case Nqz => k_asm); intro I7 h7 hLI hnI he7 hit7 F7 N7 hk7) | walk1) | (dsimp only; ((((fail_if_success (with_reducible show wpAny _ _ (call (Value.builtin "dict.items") _ _) _ _ _)); (fail_if_success (with_reducible show wpAny _ _ (call (Value.type "range") _ _) _ _ _)); (fail_if_success (with_reducible show wpAny _ _ (call (Value.ref 112) _ _) _ _ _)); (fail_if_success (with_reducible show wpAny _ _ (eval (Expr.ListComp _ _ _ _) _) _ _ _)); (fail_if_success (with_reducible show wpAny _ _ (exec (Stmt.For _ _ _ _ _) _) _ _ _)); (fail_if_success (with_reducible show wpAny _ _ (exec (Stmt.While _ _ _ _) _) _ _ _)); (fail_if_success (with_reducible show wpAny _ _ (exec (Stmt.Assign [Expr.Name _ _] (Expr.ListComp _ _ _ _) _) _) _ _ _))))); (first | with_reducible (k_here; (with_reducible show wpAny _ _ (call (Value.type _) [Value.str _ _]) _ _ _); refine' enum_str_K ?Fqz ?Nqz ?_; (case Fqz => k_asm); (case Nqz => k_asm); intro I7 h7 hLI hnI he7 hit7 F7 N7 hk7) | walk1))) | (leave1; walk_say "STEP leave1"; try dsimp only) | fail "no step"))
          refine seg_execs_cons (seg_IfN ?_)
          (repeat' (first | (k_unfold; (try dsimp only)) | (k_end; wrow_close) | ((((fail_if_success (with_reducible show wpAny _ _ (call (Value.builtin "dict.items") _ _) _ _ _)); (fail_if_success (with_reducible show wpAny _ _ (call (Value.type "range") _ _) _ _ _)); (fail_if_success (with_reducible show wpAny _ _ (call (Value.ref 112) _ _) _ _ _)); (fail_if_success (with_reducible show wpAny _ _ (eval (Expr.ListComp _ _ _ _) _) _ _ _)); (fail_if_success (with_reducible show wpAny _ _ (exec (Stmt.For _ _ _ _ _) _) _ _ _)); (fail_if_success (with_reducible show wpAny _ _ (exec (Stmt.While _ _ _ _) _) _ _ _)); (fail_if_success (with_reducible show wpAny _ _ (exec (Stmt.Assign [Expr.Name _ _] (Expr.ListComp _ _ _ _) _) _) _ _ _)))); first | (first | with_reducible (k_here; (with_reducible show wpAny _ _ (call (Value.type _) [Value.str _ _]) _ _ _); refine' enum_str_K ?Fqz ?Nqz ?_; (case Fqz => k_asm); (case Nqz => k_asm); intro I7 h7 hLI hnI he7 hit7 F7 N7 hk7) | walk1) | (dsimp only; ((((fail_if_success (with_reducible show wpAny _ _ (call (Value.builtin "dict.items") _ _) _ _ _)); (fail_if_success (with_reducible show wpAny _ _ (call (Value.type "range") _ _) _ _ _)); (fail_if_success (with_reducible show wpAny _ _ (call (Value.ref 112) _ _) _ _ _)); (fail_if_success (with_reducible show wpAny _ _ (eval (Expr.ListComp _ _ _ _) _) _ _ _)); (fail_if_success (with_reducible show wpAny _ _ (exec (Stmt.For _ _ _ _ _) _) _ _ _)); (fail_if_success (with_reducible show wpAny _ _ (exec (Stmt.While _ _ _ _) _) _ _ _)); (fail_if_success (with_reducible show wpAny _ _ (exec (Stmt.Assign [Expr.Name _ _] (Expr.ListComp _ _ _ _) _) _) _ _ _))))); (first | with_reducible (k_here; (with_reducible show wpAny _ _ (call (Value.type _) [Value.str _ _]) _ _ _); refine' enum_str_K ?Fqz ?Nqz ?_; (case Fqz => k_asm); (case Nqz => k_asm); intro I7 h7 hLI hnI he7 hit7 F7 N7 hk7) | walk1))) | (leave1; walk_say "STEP leave1"; try dsimp only) | fail "no step"))

          rw [if_neg (by decide)]
          refine seg_execs_cons (seg_IfN ?_)
          (repeat' (first | (k_unfold; (try dsimp only)) | (k_end; wrow_close) | ((((fail_if_success (with_reducible show wpAny _ _ (call (Value.builtin "dict.items") _ _) _ _ _)); (fail_if_success (with_reducible show wpAny _ _ (call (Value.type "range") _ _) _ _ _)); (fail_if_success (with_reducible show wpAny _ _ (call (Value.ref 112) _ _) _ _ _)); (fail_if_success (with_reducible show wpAny _ _ (eval (Expr.ListComp _ _ _ _) _) _ _ _)); (fail_if_success (with_reducible show wpAny _ _ (exec (Stmt.For _ _ _ _ _) _) _ _ _)); (fail_if_success (with_reducible show wpAny _ _ (exec (Stmt.While _ _ _ _) _) _ _ _)); (fail_if_success (with_reducible show wpAny _ _ (exec (Stmt.Assign [Expr.Name _ _] (Expr.ListComp _ _ _ _) _) _) _ _ _)))); first | (first | with_reducible (k_here; (with_reducible show wpAny _ _ (call (Value.type _) [Value.str _ _]) _ _ _); refine' enum_str_K ?Fqz ?Nqz ?_; (case Fqz => k_asm); (case Nqz => k_asm); intro I7 h7 hLI hnI he7 hit7 F7 N7 hk7) | walk1) | (dsimp only; ((((fail_if_success (with_reducible show wpAny _ _ (call (Value.builtin "dict.items") _ _) _ _ _)); (fail_if_success (with_reducible show wpAny _ _ (call (Value.type "range") _ _) _ _ _)); (fail_if_success (with_reducible show wpAny _ _ (call (Value.ref 112) _ _) _ _ _)); (fail_if_success (with_reducible show wpAny _ _ (eval (Expr.ListComp _ _ _ _) _) _ _ _)); (fail_if_success (with_reducible show wpAny _ _ (exec (Stmt.For _ _ _ _ _) _) _ _ _)); (fail_if_success (with_reducible show wpAny _ _ (exec (Stmt.While _ _ _ _) _) _ _ _)); (fail_if_success (with_reducible show wpAny _ _ (exec (Stmt.Assign [Expr.Name _ _] (Expr.ListComp _ _ _ _) _) _) _ _ _))))); (first | with_reducible (k_here; (with_reducible show wpAny _ _ (call (Value.type _) [Value.str _ _]) _ _ _); refine' enum_str_K ?Fqz ?Nqz ?_; (case Fqz => k_asm); (case Nqz => k_asm); intro I7 h7 hLI hnI he7 hit7 F7 N7 hk7) | walk1))) | (leave1; walk_say "STEP leave1"; try dsimp only) | fail "no step"))
          rw [if_pos hcc]
          refine seg_execs_cons (seg_execN ?_)
          (repeat' (first | (k_unfold; (try dsimp only)) | (k_end; wrow_close) | ((((fail_if_success (with_reducible show wpAny _ _ (call (Value.builtin "dict.items") _ _) _ _ _)); (fail_if_success (with_reducible show wpAny _ _ (call (Value.type "range") _ _) _ _ _)); (fail_if_success (with_reducible show wpAny _ _ (call (Value.ref 112) _ _) _ _ _)); (fail_if_success (with_reducible show wpAny _ _ (eval (Expr.ListComp _ _ _ _) _) _ _ _)); (fail_if_success (with_reducible show wpAny _ _ (exec (Stmt.For _ _ _ _ _) _) _ _ _)); (fail_if_success (with_reducible show wpAny _ _ (exec (Stmt.While _ _ _ _) _) _ _ _)); (fail_if_success (with_reducible show wpAny _ _ (exec (Stmt.Assign [Expr.Name _ _] (Expr.ListComp _ _ _ _) _) _) _ _ _)))); first | (first | with_reducible (k_here; (with_reducible show wpAny _ _ (call (Value.type _) [Value.str _ _]) _ _ _); refine' enum_str_K ?Fqz ?Nqz ?_; (case Fqz => k_asm); (case Nqz => k_asm); intro I7 h7 hLI hnI he7 hit7 F7 N7 hk7) | walk1) | (dsimp only; ((((fail_if_success (with_reducible show wpAny _ _ (call (Value.builtin "dict.items") _ _) _ _ _)); (fail_if_success (with_reducible show wpAny _ _ (call (Value.type "range") _ _) _ _ _)); (fail_if_success (with_reducible show wpAny _ _ (call (Value.ref 112) _ _) _ _ _)); (fail_if_success (with_reducible show wpAny _ _ (eval (Expr.ListComp _ _ _ _) _) _ _ _)); (fail_if_success (with_reducible show wpAny _ _ (exec (Stmt.For _ _ _ _ _) _) _ _ _)); (fail_if_success (with_reducible show wpAny _ _ (exec (Stmt.While _ _ _ _) _) _ _ _)); (fail_if_success (with_reducible show wpAny _ _ (exec (Stmt.Assign [Expr.Name _ _] (Expr.ListComp _ _ _ _) _) _) _ _ _))))); (first | with_reducible (k_here; (with_reducible show wpAny _ _ (call (Value.type _) [Value.str _ _]) _ _ _); refine' enum_str_K ?Fqz ?Nqz ?_; (case Fqz => k_asm); (case Nqz => k_asm); intro I7 h7 hLI hnI he7 hit7 F7 N7 hk7) | walk1))) | (leave1; walk_say "STEP leave1"; try dsimp only) | fail "no step"))
          rename Fr _ LG _ _ => F10
          rename News _ LG _ _ => N10
          have kep10 := kept_gen F10 N10 (fun p hp => hp)
          refine seg_execs_nil (seg_execs_nil (seg_execs_nil ?_))
          refine again (x.cps.size - (i + 1)) (by omega) _ _ _ ⟨i + 1, true, _, _, _, _, _, rfl, hi, rfl, ⟨pre, hpre2⟩, rfl, fun b o hb hb2 e => kep10 b o hb (hst3 b o hb hb2 e), FW _ _ _ hSt3 (fun b hb o e => kep10 b o (Nat.ne_of_gt (wrLG b hb)) e), F10.ns, rfl, rfl, ⟨_, kep10 _ _ (Nat.succ_ne_self _) hog3⟩, mc, fr_after' Fc3 kep10 hLG⟩
        · have hcc : ((⟨#[c]⟩ : PySem.Str) == PySem.Str.ofString "\\") = false := one_ne h92
          have hpre2 : escOuts false x.cps.toList = pre ++ ⟨#[c]⟩ :: escOuts false (x.cps.toList.drop (i + 1)) := by rw [hpre, escOuts, if_neg h92]
          rw [show (escOuts false (c :: x.cps.toList.drop (i + 1))).length = (escOuts false (x.cps.toList.drop (i + 1))).length + 1 from by rw [escOuts, if_neg h92]; rfl]
          refine (walks_str (by rfl) x tx0 I7).item i _ _ _ hi hSt ?_
          intro T vals h1 tk1 hP hT hmid hk1
          obtain ⟨t', y, ⟨c', u, hc', rfl⟩, rfl⟩ := hP
          rw [hc] at hc'
          cases hc'
          refine (walks_str (by rfl) x tx0 I7).go _ _ _ i T _ _ _ hmid ?_
          intro h2 hst2 hk2
          have hT2 : h2.IsTuple T _ := let ⟨o, e, r⟩ := hT; ⟨o, hk2 _ o ((walks_str (prog := PySem.Challenge.rw_wa0038_01.row.prog) (w := w) (A := callerA) (by rfl) x tx0 I7).apart i T _ hmid) e, r⟩
          refine wpAny_assign_Tuple (by rfl) hT2 rfl rfl fun h3 hx3 => ?_
          have kk3 : ∀ b o, h2.get? b = some o → h3.get? b = some o := fun b o e => hx3 b o (Nat.ne_of_lt (Heap.lt_size e)) e
          have kk : ∀ b o, b < I7 → h.get? b = some o → h3.get? b = some o := fun b o hb e => kk3 b o (hk2 b o (nin hb) (hk1 b o (nin hb) e))
          have Ns3 : h3.Ns LG m := Ns.at fun o e => kk _ o hLI e
          have Fc3 := fr_lt (h' := h3) Fc kk (Nat.lt_trans hLG hLI)
          have hSt3 := FW (i + 1) h2 h3 hst2 (fun b _ o e => kk3 b o e)
          have hst3 : ∀ b o, b ≠ LG → b < LG + 2 → s₀.heap.get? b = some o → h3.get? b = some o := fun b o hb hb2 e => kk b o (Nat.lt_of_lt_of_le hb2 hIZ) (hst b o hb hb2 e)
          have hog3 := kk _ _ hIZ hog
          clear hT hmid hk1 hk2 hT2 hx3 kk3 kk hst Ns Fc hSt hst2
          refine wp_ctx Bc Xc Tc Fc3 hLG Ns3 (by rfl) (by rfl) (by rfl) fun Bg Xg Tg Fg Ng => ?_
          have Fg2 := fr_track (x := PySem.Str.ofString "escape") (fr_track Fg hpos) (by show (if _ then _ else _) = _; rw [if_neg (by decide)]; exact hesc)
          clear Fg
          refine wpAny_bind (wpAny_holding ?_)
          (repeat' (first | (k_unfold; (try dsimp only)) | (k_end; wrow_close) | ((((fail_if_success (with_reducible show wpAny _ _ (call (Value.builtin "dict.items") _ _) _ _ _)); (fail_if_success (with_reducible show wpAny _ _ (call (Value.type "range") _ _) _ _ _)); (fail_if_success (with_reducible show wpAny _ _ (call (Value.ref 112) _ _) _ _ _)); (fail_if_success (with_reducible show wpAny _ _ (eval (Expr.ListComp _ _ _ _) _) _ _ _)); (fail_if_success (with_reducible show wpAny _ _ (exec (Stmt.For _ _ _ _ _) _) _ _ _)); (fail_if_success (with_reducible show wpAny _ _ (exec (Stmt.While _ _ _ _) _) _ _ _)); (fail_if_success (with_reducible show wpAny _ _ (exec (Stmt.Assign [Expr.Name _ _] (Expr.ListComp _ _ _ _) _) _) _ _ _)))); first | (first | with_reducible (k_here; (with_reducible show wpAny _ _ (call (Value.type _) [Value.str _ _]) _ _ _); refine' enum_str_K ?Fqz ?Nqz ?_; (case Fqz => k_asm); (case Nqz => k_asm); intro I7 h7 hLI hnI he7 hit7 F7 N7 hk7) | walk1) | (dsimp only; ((((fail_if_success (with_reducible show wpAny _ _ (call (Value.builtin "dict.items") _ _) _ _ _)); (fail_if_success (with_reducible show wpAny _ _ (call (Value.type "range") _ _) _ _ _)); (fail_if_success (with_reducible show wpAny _ _ (call (Value.ref 112) _ _) _ _ _)); (fail_if_success (with_reducible show wpAny _ _ (eval (Expr.ListComp _ _ _ _) _) _ _ _)); (fail_if_success (with_reducible show wpAny _ _ (exec (Stmt.For _ _ _ _ _) _) _ _ _)); (fail_if_success (with_reducible show wpAny _ _ (exec (Stmt.While _ _ _ _) _) _ _ _)); (fail_if_success (with_reducible show wpAny _ _ (exec (Stmt.Assign [Expr.Name _ _] (Expr.ListComp _ _ _ _) _) _) _ _ _))))); (first | with_reducible (k_here; (with_reducible show wpAny _ _ (call (Value.type _) [Value.str _ _]) _ _ _); refine' enum_str_K ?Fqz ?Nqz ?_; (case Fqz => k_asm); (case Nqz => k_asm); intro I7 h7 hLI hnI he7 hit7 F7 N7 hk7) | walk1))) | (leave1; walk_say "STEP leave1"; try dsimp only) | fail "no step"))
          refine seg_execs_cons (seg_IfN ?_)
          (repeat' (first | (k_unfold; (try dsimp only)) | (k_end; wrow_close) | ((((fail_if_success (with_reducible show wpAny _ _ (call (Value.builtin "dict.items") _ _) _ _ _)); (fail_if_success (with_reducible show wpAny _ _ (call (Value.type "range") _ _) _ _ _)); (fail_if_success (with_reducible show wpAny _ _ (call (Value.ref 112) _ _) _ _ _)); (fail_if_success (with_reducible show wpAny _ _ (eval (Expr.ListComp _ _ _ _) _) _ _ _)); (fail_if_success (with_reducible show wpAny _ _ (exec (Stmt.For _ _ _ _ _) _) _ _ _)); (fail_if_success (with_reducible show wpAny _ _ (exec (Stmt.While _ _ _ _) _) _ _ _)); (fail_if_success (with_reducible show wpAny _ _ (exec (Stmt.Assign [Expr.Name _ _] (Expr.ListComp _ _ _ _) _) _) _ _ _)))); first | (first | with_reducible (k_here; (with_reducible show wpAny _ _ (call (Value.type _) [Value.str _ _]) _ _ _); refine' enum_str_K ?Fqz ?Nqz ?_; (case Fqz => k_asm); (case Nqz => k_asm); intro I7 h7 hLI hnI he7 hit7 F7 N7 hk7) | walk1) | (dsimp only; ((((fail_if_success (with_reducible show wpAny _ _ (call (Value.builtin "dict.items") _ _) _ _ _)); (fail_if_success (with_reducible show wpAny _ _ (call (Value.type "range") _ _) _ _ _)); (fail_if_success (with_reducible show wpAny _ _ (call (Value.ref 112) _ _) _ _ _)); (fail_if_success (with_reducible show wpAny _ _ (eval (Expr.ListComp _ _ _ _) _) _ _ _)); (fail_if_success (with_reducible show wpAny _ _ (exec (Stmt.For _ _ _ _ _) _) _ _ _)); (fail_if_success (with_reducible show wpAny _ _ (exec (Stmt.While _ _ _ _) _) _ _ _)); (fail_if_success (with_reducible show wpAny _ _ (exec (Stmt.Assign [Expr.Name _ _] (Expr.ListComp _ _ _ _) _) _) _ _ _))))); (first | with_reducible (k_here; (with_reducible show wpAny _ _ (call (Value.type _) [Value.str _ _]) _ _ _); refine' enum_str_K ?Fqz ?Nqz ?_; (case Fqz => k_asm); (case Nqz => k_asm); intro I7 h7 hLI hnI he7 hit7 F7 N7 hk7) | walk1))) | (leave1; walk_say "STEP leave1"; try dsimp only) | fail "no step"))

          rw [if_neg (by decide)]
          refine seg_execs_cons (seg_IfN ?_)
          (repeat' (first | (k_unfold; (try dsimp only)) | (k_end; wrow_close) | ((((fail_if_success (with_reducible show wpAny _ _ (call (Value.builtin "dict.items") _ _) _ _ _)); (fail_if_success (with_reducible show wpAny _ _ (call (Value.type "range") _ _) _ _ _)); (fail_if_success (with_reducible show wpAny _ _ (call (Value.ref 112) _ _) _ _ _)); (fail_if_success (with_reducible show wpAny _ _ (eval (Expr.ListComp _ _ _ _) _) _ _ _)); (fail_if_success (with_reducible show wpAny _ _ (exec (Stmt.For _ _ _ _ _) _) _ _ _)); (fail_if_success (with_reducible show wpAny _ _ (exec (Stmt.While _ _ _ _) _) _ _ _)); (fail_if_success (with_reducible show wpAny _ _ (exec (Stmt.Assign [Expr.Name _ _] (Expr.ListComp _ _ _ _) _) _) _ _ _)))); first | (first | with_reducible (k_here; (with_reducible show wpAny _ _ (call (Value.type _) [Value.str _ _]) _ _ _); refine' enum_str_K ?Fqz ?Nqz ?_; (case Fqz => k_asm); (case Nqz => k_asm); intro I7 h7 hLI hnI he7 hit7 F7 N7 hk7) | walk1) | (dsimp only; ((((fail_if_success (with_reducible show wpAny _ _ (call (Value.builtin "dict.items") _ _) _ _ _)); (fail_if_success (with_reducible show wpAny _ _ (call (Value.type "range") _ _) _ _ _)); (fail_if_success (with_reducible show wpAny _ _ (call (Value.ref 112) _ _) _ _ _)); (fail_if_success (with_reducible show wpAny _ _ (eval (Expr.ListComp _ _ _ _) _) _ _ _)); (fail_if_success (with_reducible show wpAny _ _ (exec (Stmt.For _ _ _ _ _) _) _ _ _)); (fail_if_success (with_reducible show wpAny _ _ (exec (Stmt.While _ _ _ _) _) _ _ _)); (fail_if_success (with_reducible show wpAny _ _ (exec (Stmt.Assign [Expr.Name _ _] (Expr.ListComp _ _ _ _) _) _) _ _ _))))); (first | with_reducible (k_here; (with_reducible show wpAny _ _ (call (Value.type _) [Value.str _ _]) _ _ _); refine' enum_str_K ?Fqz ?Nqz ?_; (case Fqz => k_asm); (case Nqz => k_asm); intro I7 h7 hLI hnI he7 hit7 F7 N7 hk7) | walk1))) | (leave1; walk_say "STEP leave1"; try dsimp only) | fail "no step"))
          rw [if_neg (by rw [hcc]; decide)]
          refine seg_execs_cons (seg_YieldN (by rfl) (by rfl) (by rfl) ?_)
          (repeat' (first | (k_unfold; (try dsimp only)) | (k_end; wrow_close) | ((((fail_if_success (with_reducible show wpAny _ _ (call (Value.builtin "dict.items") _ _) _ _ _)); (fail_if_success (with_reducible show wpAny _ _ (call (Value.type "range") _ _) _ _ _)); (fail_if_success (with_reducible show wpAny _ _ (call (Value.ref 112) _ _) _ _ _)); (fail_if_success (with_reducible show wpAny _ _ (eval (Expr.ListComp _ _ _ _) _) _ _ _)); (fail_if_success (with_reducible show wpAny _ _ (exec (Stmt.For _ _ _ _ _) _) _ _ _)); (fail_if_success (with_reducible show wpAny _ _ (exec (Stmt.While _ _ _ _) _) _ _ _)); (fail_if_success (with_reducible show wpAny _ _ (exec (Stmt.Assign [Expr.Name _ _] (Expr.ListComp _ _ _ _) _) _) _ _ _)))); first | (first | with_reducible (k_here; (with_reducible show wpAny _ _ (call (Value.type _) [Value.str _ _]) _ _ _); refine' enum_str_K ?Fqz ?Nqz ?_; (case Fqz => k_asm); (case Nqz => k_asm); intro I7 h7 hLI hnI he7 hit7 F7 N7 hk7) | walk1) | (dsimp only; ((((fail_if_success (with_reducible show wpAny _ _ (call (Value.builtin "dict.items") _ _) _ _ _)); (fail_if_success (with_reducible show wpAny _ _ (call (Value.type "range") _ _) _ _ _)); (fail_if_success (with_reducible show wpAny _ _ (call (Value.ref 112) _ _) _ _ _)); (fail_if_success (with_reducible show wpAny _ _ (eval (Expr.ListComp _ _ _ _) _) _ _ _)); (fail_if_success (with_reducible show wpAny _ _ (exec (Stmt.For _ _ _ _ _) _) _ _ _)); (fail_if_success (with_reducible show wpAny _ _ (exec (Stmt.While _ _ _ _) _) _ _ _)); (fail_if_success (with_reducible show wpAny _ _ (exec (Stmt.Assign [Expr.Name _ _] (Expr.ListComp _ _ _ _) _) _) _ _ _))))); (first | with_reducible (k_here; (with_reducible show wpAny _ _ (call (Value.type _) [Value.str _ _]) _ _ _); refine' enum_str_K ?Fqz ?Nqz ?_; (case Fqz => k_asm); (case Nqz => k_asm); intro I7 h7 hLI hnI he7 hit7 F7 N7 hk7) | walk1))) | (leave1; walk_say "STEP leave1"; try dsimp only) | fail "no step"))
          rename_i hkap
          rename Fr _ LG _ _ => F8
          rename News _ LG _ _ => N8
          rename AllLt _ _ => hl8a
          have hl8 := ktn_ltOf hl8a
          have kep8 := kept_gen F8 N8 (fun p hp => List.mem_cons_of_mem _ hp)
          refine ⟨_, _, _, _, _, rev_at hpre2, rfl, ?_, (N8 _ (.head _)).1, ⟨_, _, rfl, fun b o hb hb2 e => kep8 b o hb (hst3 b o hb hb2 e)⟩, ?_⟩
          · obtain ⟨oI, eI, _⟩ := hSt3.2
            exact Nat.le_of_lt (Nat.lt_trans hLI (hl8 _ (mem_above.mpr ⟨hLI, eI⟩)))
          · intro s9 hg9
            refine hkap _ s9 ?_
            obtain ⟨hup9, mc9, Fc9⟩ := hg9
            have Ns9 : s9.heap.Ns LG _ := F8.ns.at fun o e => hup9 _ o (Nat.le_refl _) e
            have hSt9 := FW (i + 1) h3 s9.heap hSt3 (fun b hb o e => hup9 b o (Nat.le_of_lt (wrLG b hb)) (kep8 b o (Nat.ne_of_gt (wrLG b hb)) e))
            clear hkap F8 N8 hSt3 hst3 Fc3 Ns3
            show Seg _ _ _ _ _ _ _ _ _ _
            refine seg_execs_nil (seg_execs_nil (seg_execs_nil ?_))
            refine again (x.cps.size - (i + 1)) (by omega) _ _ _ ⟨i + 1, false, _, _, _, _, _, rfl, hi, rfl, ⟨pre ++ [_], by rw [hpre2, List.append_assoc]; rfl⟩, rfl, fun b o hb _ e => e, hSt9, Ns9, rfl, rfl, ⟨_, hup9 _ _ (Nat.le_succ _) (kep8 _ _ (Nat.succ_ne_self _) hog3)⟩, mc9, Fc9⟩
    · have hin : i = x.cps.size := Nat.le_antisymm hile (Nat.le_of_not_lt hi)
      have hd : x.cps.toList.drop i = [] := by rw [hin]; simp
      rw [hd] at hpre ⊢
      rw [hin] at hSt
      refine (walks_str (by rfl) x tx0 I7).done _ _ _ hSt ?_
      intro h1 tk1 hk1
      have kk : ∀ b o, b < I7 → h.get? b = some o → h1.get? b = some o := fun b o hb e => hk1 b o (nin hb) e
      have Ns3 : h1.Ns LG m := Ns.at fun o e => kk _ o hLI e
      have Fc3 := fr_lt (h' := h1) Fc kk (Nat.lt_trans hLG hLI)
      have hst3 : ∀ b o, b ≠ LG → b < LG + 2 → s₀.heap.get? b = some o → h1.get? b = some o := fun b o hb hb2 e => kk b o (Nat.lt_of_lt_of_le hb2 hIZ) (hst b o hb hb2 e)
      have hog3 := kk _ _ hIZ hog
      clear hk1 kk hst Ns Fc hSt
      refine seg_block0 (seg_leaf (.ok .next) ?_)
      refine seg_ctx Bc Xc Tc Fc3 hLG Ns3 (by rfl) (by rfl) (by rfl) fun Bg Xg Tg Fg Ng => ?_
      have Fg2 := fr_track (x := PySem.Str.ofString "escape") (fr_track Fg hpos) (by show (if _ then _ else _) = _; rw [if_neg (by decide)]; exact hesc)
      clear Fg
      show Seg _ _ _ _ _ _ _ (Sem.wrap _ _ _ _ (execs (_ :: _) _)) _ _
      refine seg_execs_cons (seg_IfN ?_)
      cases e with
      | true =>
        (repeat' (first | (k_unfold; (try dsimp only)) | (k_end; wrow_close) | ((((fail_if_success (with_reducible show wpAny _ _ (call (Value.builtin "dict.items") _ _) _ _ _)); (fail_if_success (with_reducible show wpAny _ _ (call (Value.type "range") _ _) _ _ _)); (fail_if_success (with_reducible show wpAny _ _ (call (Value.ref 112) _ _) _ _ _)); (fail_if_success (with_reducible show wpAny _ _ (eval (Expr.ListComp _ _ _ _) _) _ _ _)); (fail_if_success (with_reducible show wpAny _ _ (exec (Stmt.For _ _ _ _ _) _) _ _ _)); (fail_if_success (with_reducible show wpAny _ _ (exec (Stmt.While _ _ _ _) _) _ _ _)); (fail_if_success (with_reducible show wpAny _ _ (exec (Stmt.Assign [Expr.Name _ _] (Expr.ListComp _ _ _ _) _) _) _ _ _)))); first | (first | with_reducible (k_here; (with_reducible show wpAny _ _ (call (Value.type _) [Value.str _ _]) _ _ _); refine' enum_str_K ?Fqz ?Nqz ?_; (case Fqz => k_asm); (case Nqz => k_asm); intro I7 h7 hLI hnI he7 hit7 F7 N7 hk7) | walk1) | (dsimp only; ((((fail_if_success (with_reducible show wpAny _ _ (call (Value.builtin "dict.items") _ _) _ _ _)); (fail_if_success (with_reducible show wpAny _ _ (call (Value.type "range") _ _) _ _ _)); (fail_if_success (with_reducible show wpAny _ _ (call (Value.ref 112) _ _) _ _ _)); (fail_if_success (with_reducible show wpAny _ _ (eval (Expr.ListComp _ _ _ _) _) _ _ _)); (fail_if_success (with_reducible show wpAny _ _ (exec (Stmt.For _ _ _ _ _) _) _ _ _)); (fail_if_success (with_reducible show wpAny _ _ (exec (Stmt.While _ _ _ _) _) _ _ _)); (fail_if_success (with_reducible show wpAny _ _ (exec (Stmt.Assign [Expr.Name _ _] (Expr.ListComp _ _ _ _) _) _) _ _ _))))); (first | with_reducible (k_here; (with_reducible show wpAny _ _ (call (Value.type _) [Value.str _ _]) _ _ _); refine' enum_str_K ?Fqz ?Nqz ?_; (case Fqz => k_asm); (case Nqz => k_asm); intro I7 h7 hLI hnI he7 hit7 F7 N7 hk7) | walk1))) | (leave1; walk_say "STEP leave1"; try dsimp only) | fail "no step"))
        rw [if_pos rfl]
        refine seg_execs_cons (seg_YieldN (n := 0) (by rfl) (by rfl) (by rfl) ?_)
        (repeat' (first | (k_unfold; (try dsimp only)) | (k_end; wrow_close) | ((((fail_if_success (with_reducible show wpAny _ _ (call (Value.builtin "dict.items") _ _) _ _ _)); (fail_if_success (with_reducible show wpAny _ _ (call (Value.type "range") _ _) _ _ _)); (fail_if_success (with_reducible show wpAny _ _ (call (Value.ref 112) _ _) _ _ _)); (fail_if_success (with_reducible show wpAny _ _ (eval (Expr.ListComp _ _ _ _) _) _ _ _)); (fail_if_success (with_reducible show wpAny _ _ (exec (Stmt.For _ _ _ _ _) _) _ _ _)); (fail_if_success (with_reducible show wpAny _ _ (exec (Stmt.While _ _ _ _) _) _ _ _)); (fail_if_success (with_reducible show wpAny _ _ (exec (Stmt.Assign [Expr.Name _ _] (Expr.ListComp _ _ _ _) _) _) _ _ _)))); first | (first | with_reducible (k_here; (with_reducible show wpAny _ _ (call (Value.type _) [Value.str _ _]) _ _ _); refine' enum_str_K ?Fqz ?Nqz ?_; (case Fqz => k_asm); (case Nqz => k_asm); intro I7 h7 hLI hnI he7 hit7 F7 N7 hk7) | walk1) | (dsimp only; ((((fail_if_success (with_reducible show wpAny _ _ (call (Value.builtin "dict.items") _ _) _ _ _)); (fail_if_success (with_reducible show wpAny _ _ (call (Value.type "range") _ _) _ _ _)); (fail_if_success (with_reducible show wpAny _ _ (call (Value.ref 112) _ _) _ _ _)); (fail_if_success (with_reducible show wpAny _ _ (eval (Expr.ListComp _ _ _ _) _) _ _ _)); (fail_if_success (with_reducible show wpAny _ _ (exec (Stmt.For _ _ _ _ _) _) _ _ _)); (fail_if_success (with_reducible show wpAny _ _ (exec (Stmt.While _ _ _ _) _) _ _ _)); (fail_if_success (with_reducible show wpAny _ _ (exec (Stmt.Assign [Expr.Name _ _] (Expr.ListComp _ _ _ _) _) _) _ _ _))))); (first | with_reducible (k_here; (with_reducible show wpAny _ _ (call (Value.type _) [Value.str _ _]) _ _ _); refine' enum_str_K ?Fqz ?Nqz ?_; (case Fqz => k_asm); (case Nqz => k_asm); intro I7 h7 hLI hnI he7 hit7 F7 N7 hk7) | walk1))) | (leave1; walk_say "STEP leave1"; try dsimp only) | fail "no step"))
        rename_i hkap
        rename Fr _ LG _ _ => F8
        rename News _ LG _ _ => N8
        rename AllLt _ _ => hl8a
        have hl8 := ktn_ltOf hl8a
        have kep8 := kept_gen F8 N8 (fun p hp => List.mem_cons_of_mem _ hp)
        have hpre2 : escOuts false x.cps.toList = pre ++ PySem.Str.ofString "\\" :: [] := hpre
        refine ⟨_, _, _, _, _, rev_at hpre2, rfl, ?_, (N8 _ (.head _)).1, ⟨_, _, rfl, fun b o hb hb2 e => kep8 b o hb (hst3 b o hb hb2 e)⟩, ?_⟩
        · exact Nat.le_of_lt (Nat.lt_trans (Nat.lt_succ_self _) (hl8 _ (mem_above.mpr ⟨Nat.lt_succ_self _, hog3⟩)))
        · intro s9 hg9
          refine hkap _ s9 ?_
          show Seg _ _ _ _ _ _ _ _ _ _
          refine seg_execs_nil (seg_execs_nil ?_)
          exact seg_end (.ok (.ret .none)) ⟨rfl, rfl, _, _, rfl, fun b o _ _ e => e⟩
      | false =>
        (repeat' (first | (k_unfold; (try dsimp only)) | (k_end; wrow_close) | ((((fail_if_success (with_reducible show wpAny _ _ (call (Value.builtin "dict.items") _ _) _ _ _)); (fail_if_success (with_reducible show wpAny _ _ (call (Value.type "range") _ _) _ _ _)); (fail_if_success (with_reducible show wpAny _ _ (call (Value.ref 112) _ _) _ _ _)); (fail_if_success (with_reducible show wpAny _ _ (eval (Expr.ListComp _ _ _ _) _) _ _ _)); (fail_if_success (with_reducible show wpAny _ _ (exec (Stmt.For _ _ _ _ _) _) _ _ _)); (fail_if_success (with_reducible show wpAny _ _ (exec (Stmt.While _ _ _ _) _) _ _ _)); (fail_if_success (with_reducible show wpAny _ _ (exec (Stmt.Assign [Expr.Name _ _] (Expr.ListComp _ _ _ _) _) _) _ _ _)))); first | (first | with_reducible (k_here; (with_reducible show wpAny _ _ (call (Value.type _) [Value.str _ _]) _ _ _); refine' enum_str_K ?Fqz ?Nqz ?_; (case Fqz => k_asm); (case Nqz => k_asm); intro I7 h7 hLI hnI he7 hit7 F7 N7 hk7) | walk1) | (dsimp only; ((((fail_if_success (with_reducible show wpAny _ _ (call (Value.builtin "dict.items") _ _) _ _ _)); (fail_if_success (with_reducible show wpAny _ _ (call (Value.type "range") _ _) _ _ _)); (fail_if_success (with_reducible show wpAny _ _ (call (Value.ref 112) _ _) _ _ _)); (fail_if_success (with_reducible show wpAny _ _ (eval (Expr.ListComp _ _ _ _) _) _ _ _)); (fail_if_success (with_reducible show wpAny _ _ (exec (Stmt.For _ _ _ _ _) _) _ _ _)); (fail_if_success (with_reducible show wpAny _ _ (exec (Stmt.While _ _ _ _) _) _ _ _)); (fail_if_success (with_reducible show wpAny _ _ (exec (Stmt.Assign [Expr.Name _ _] (Expr.ListComp _ _ _ _) _) _) _ _ _))))); (first | with_reducible (k_here; (with_reducible show wpAny _ _ (call (Value.type _) [Value.str _ _]) _ _ _); refine' enum_str_K ?Fqz ?Nqz ?_; (case Fqz => k_asm); (case Nqz => k_asm); intro I7 h7 hLI hnI he7 hit7 F7 N7 hk7) | walk1))) | (leave1; walk_say "STEP leave1"; try dsimp only) | fail "no step"))
        rw [if_neg (by decide)]
        rename Fr _ LG _ _ => F8
        rename News _ LG _ _ => N8
        have kep8 := kept_gen F8 N8 (fun p hp => hp)
        refine seg_execs_nil (seg_execs_nil ?_)
        exact seg_end (.ok (.ret .none)) ⟨rfl, rfl, _, _, rfl, fun b o hb hb2 e => kep8 b o hb (hst3 b o hb hb2 e)⟩
  · exact ⟨0, _, rfl, by have := escOuts_len false x.cps.toList; simp only [Array.length_toList] at this; have h2 : x.cps.size < 100 := hlen; simp only [Int.natAbs_zero]; omega, rfl⟩
  · rintro out r u h6 tk6 gs6 rest T p tp tc ⟨o, t, ho, hbd, hchk⟩ hbare6 F6 N6 hT
    refine cutT fun Rk hR => ?_
    have F7 := fr_track F6 ho
    clear F6
    (repeat' (first | (k_unfold; (try dsimp only)) | (k_end; wrow_close) | ((((fail_if_success (with_reducible show wpAny _ _ (call (Value.builtin "dict.items") _ _) _ _ _)); (fail_if_success (with_reducible show wpAny _ _ (call (Value.type "range") _ _) _ _ _)); (fail_if_success (with_reducible show wpAny _ _ (call (Value.ref 112) _ _) _ _ _)); (fail_if_success (with_reducible show wpAny _ _ (eval (Expr.ListComp _ _ _ _) _) _ _ _)); (fail_if_success (with_reducible show wpAny _ _ (exec (Stmt.For _ _ _ _ _) _) _ _ _)); (fail_if_success (with_reducible show wpAny _ _ (exec (Stmt.While _ _ _ _) _) _ _ _)); (fail_if_success (with_reducible show wpAny _ _ (exec (Stmt.Assign [Expr.Name _ _] (Expr.ListComp _ _ _ _) _) _) _ _ _)))); first | (first | with_reducible (k_here; (with_reducible show wpAny _ _ (call (Value.type _) [Value.str _ _]) _ _ _); refine' enum_str_K ?Fqz ?Nqz ?_; (case Fqz => k_asm); (case Nqz => k_asm); intro I7 h7 hLI hnI he7 hit7 F7 N7 hk7) | walk1) | (dsimp only; ((((fail_if_success (with_reducible show wpAny _ _ (call (Value.builtin "dict.items") _ _) _ _ _)); (fail_if_success (with_reducible show wpAny _ _ (call (Value.type "range") _ _) _ _ _)); (fail_if_success (with_reducible show wpAny _ _ (call (Value.ref 112) _ _) _ _ _)); (fail_if_success (with_reducible show wpAny _ _ (eval (Expr.ListComp _ _ _ _) _) _ _ _)); (fail_if_success (with_reducible show wpAny _ _ (exec (Stmt.For _ _ _ _ _) _) _ _ _)); (fail_if_success (with_reducible show wpAny _ _ (exec (Stmt.While _ _ _ _) _) _ _ _)); (fail_if_success (with_reducible show wpAny _ _ (exec (Stmt.Assign [Expr.Name _ _] (Expr.ListComp _ _ _ _) _) _) _ _ _))))); (first | with_reducible (k_here; (with_reducible show wpAny _ _ (call (Value.type _) [Value.str _ _]) _ _ _); refine' enum_str_K ?Fqz ?Nqz ?_; (case Fqz => k_asm); (case Nqz => k_asm); intro I7 h7 hLI hnI he7 hit7 F7 N7 hk7) | walk1))) | (leave1; walk_say "STEP leave1"; try dsimp only) | fail "no step"))
    all_goals (simp only [List.length_cons] at hbd)
    · rename (out == PySem.Str.ofString "(") = true => e1
      refine hR _ _ ?_
      exact ⟨_, _, _, rfl, by k_asm, by k_asm, (by
        intro y hy
        simp only [off_ne hy (x := PySem.Str.ofString "pos") (by rfl), off_ne hy (x := PySem.Str.ofString "ch") (by rfl), off_ne hy (x := PySem.Str.ofString "opens") (by rfl), hy, Bool.false_eq_true, if_false]), o + 1, _, rfl, by omega, by rw [← hchk, chkOuts, if_pos e1]⟩
    · rename (out == PySem.Str.ofString "(") = false => e1
      rename (out == PySem.Str.ofString ")") = true => e2
      rename o - 1 < 0 => e3
      have e : false = chk x := by rw [← hchk, chkOuts, if_neg (by rw [e1]; decide), if_pos e2, if_pos e3]
      refine hR _ _ ?_
      dsimp only
      (repeat' (first | (k_unfold; (try dsimp only)) | (k_end; wrow_close) | ((((fail_if_success (with_reducible show wpAny _ _ (call (Value.builtin "dict.items") _ _) _ _ _)); (fail_if_success (with_reducible show wpAny _ _ (call (Value.type "range") _ _) _ _ _)); (fail_if_success (with_reducible show wpAny _ _ (call (Value.ref 112) _ _) _ _ _)); (fail_if_success (with_reducible show wpAny _ _ (eval (Expr.ListComp _ _ _ _) _) _ _ _)); (fail_if_success (with_reducible show wpAny _ _ (exec (Stmt.For _ _ _ _ _) _) _ _ _)); (fail_if_success (with_reducible show wpAny _ _ (exec (Stmt.While _ _ _ _) _) _ _ _)); (fail_if_success (with_reducible show wpAny _ _ (exec (Stmt.Assign [Expr.Name _ _] (Expr.ListComp _ _ _ _) _) _) _ _ _)))); first | (first | with_reducible (k_here; (with_reducible show wpAny _ _ (call (Value.type _) [Value.str _ _]) _ _ _); refine' enum_str_K ?Fqz ?Nqz ?_; (case Fqz => k_asm); (case Nqz => k_asm); intro I7 h7 hLI hnI he7 hit7 F7 N7 hk7) | walk1) | (dsimp only; ((((fail_if_success (with_reducible show wpAny _ _ (call (Value.builtin "dict.items") _ _) _ _ _)); (fail_if_success (with_reducible show wpAny _ _ (call (Value.type "range") _ _) _ _ _)); (fail_if_success (with_reducible show wpAny _ _ (call (Value.ref 112) _ _) _ _ _)); (fail_if_success (with_reducible show wpAny _ _ (eval (Expr.ListComp _ _ _ _) _) _ _ _)); (fail_if_success (with_reducible show wpAny _ _ (exec (Stmt.For _ _ _ _ _) _) _ _ _)); (fail_if_success (with_reducible show wpAny _ _ (exec (Stmt.While _ _ _ _) _) _ _ _)); (fail_if_success (with_reducible show wpAny _ _ (exec (Stmt.Assign [Expr.Name _ _] (Expr.ListComp _ _ _ _) _) _) _ _ _))))); (first | with_reducible (k_here; (with_reducible show wpAny _ _ (call (Value.type _) [Value.str _ _]) _ _ _); refine' enum_str_K ?Fqz ?Nqz ?_; (case Fqz => k_asm); (case Nqz => k_asm); intro I7 h7 hLI hnI he7 hit7 F7 N7 hk7) | walk1))) | (leave1; walk_say "STEP leave1"; try dsimp only) | fail "no step"))
      rw [e]
      exact hret _ _ _ (by k_asm) (fun p hp => (by assumption : News h₀ L _ (rest ++ news)) p (List.mem_append_right _ hp)) hbare6
    · rename (out == PySem.Str.ofString "(") = false => e1
      rename (out == PySem.Str.ofString ")") = true => e2
      rename ¬ (o - 1 < 0) => e3
      refine hR _ _ ?_
      exact ⟨_, _, _, rfl, by k_asm, by k_asm, (by
        intro y hy
        simp only [off_ne hy (x := PySem.Str.ofString "pos") (by rfl), off_ne hy (x := PySem.Str.ofString "ch") (by rfl), off_ne hy (x := PySem.Str.ofString "opens") (by rfl), hy, Bool.false_eq_true, if_false]), o - 1, _, rfl, by omega, by rw [← hchk, chkOuts, if_neg (by rw [e1]; decide), if_pos e2, if_neg e3]⟩
    · rename (out == PySem.Str.ofString "(") = false => e1
      rename (out == PySem.Str.ofString ")") = false => e2
      refine hR _ _ ?_
      exact ⟨_, _, _, rfl, by k_asm, by k_asm, (by
        intro y hy
        simp only [off_ne hy (x := PySem.Str.ofString "pos") (by rfl), off_ne hy (x := PySem.Str.ofString "ch") (by rfl), off_ne hy (x := PySem.Str.ofString "opens") (by rfl), hy, Bool.false_eq_true, if_false]), o, _, rfl, by omega, by rw [← hchk, chkOuts, if_neg (by rw [e1]; decide), if_neg (by rw [e2]; decide)]⟩
  · rintro u h6 tk6 gs6 ⟨o, t, ho, hbd, hchk⟩ hbare6 F6 N6
    have F7 := fr_track F6 ho
    clear F6
    dsimp only
    (repeat' (first | (k_unfold; (try dsimp only)) | (k_end; wrow_close) | ((((fail_if_success (with_reducible show wpAny _ _ (call (Value.builtin "dict.items") _ _) _ _ _)); (fail_if_success (with_reducible show wpAny _ _ (call (Value.type "range") _ _) _ _ _)); (fail_if_success (with_reducible show wpAny _ _ (call (Value.ref 112) _ _) _ _ _)); (fail_if_success (with_reducible show wpAny _ _ (eval (Expr.ListComp _ _ _ _) _) _ _ _)); (fail_if_success (with_reducible show wpAny _ _ (exec (Stmt.For _ _ _ _ _) _) _ _ _)); (fail_if_success (with_reducible show wpAny _ _ (exec (Stmt.While _ _ _ _) _) _ _ _)); (fail_if_success (with_reducible show wpAny _ _ (exec (Stmt.Assign [Expr.Name _ _] (Expr.ListComp _ _ _ _) _) _) _ _ _)))); first | (first | with_reducible (k_here; (with_reducible show wpAny _ _ (call (Value.type _) [Value.str _ _]) _ _ _); refine' enum_str_K ?Fqz ?Nqz ?_; (case Fqz => k_asm); (case Nqz => k_asm); intro I7 h7 hLI hnI he7 hit7 F7 N7 hk7) | walk1) | (dsimp only; ((((fail_if_success (with_reducible show wpAny _ _ (call (Value.builtin "dict.items") _ _) _ _ _)); (fail_if_success (with_reducible show wpAny _ _ (call (Value.type "range") _ _) _ _ _)); (fail_if_success (with_reducible show wpAny _ _ (call (Value.ref 112) _ _) _ _ _)); (fail_if_success (with_reducible show wpAny _ _ (eval (Expr.ListComp _ _ _ _) _) _ _ _)); (fail_if_success (with_reducible show wpAny _ _ (exec (Stmt.For _ _ _ _ _) _) _ _ _)); (fail_if_success (with_reducible show wpAny _ _ (exec (Stmt.While _ _ _ _) _) _ _ _)); (fail_if_success (with_reducible show wpAny _ _ (exec (Stmt.Assign [Expr.Name _ _] (Expr.ListComp _ _ _ _) _) _) _ _ _))))); (first | with_reducible (k_here; (with_reducible show wpAny _ _ (call (Value.type _) [Value.str _ _]) _ _ _); refine' enum_str_K ?Fqz ?Nqz ?_; (case Fqz => k_asm); (case Nqz => k_asm); intro I7 h7 hLI hnI he7 hit7 F7 N7 hk7) | walk1))) | (leave1; walk_say "STEP leave1"; try dsimp only) | fail "no step"))
    have e : (o == 0) = chk x := hchk
    rw [e]
    exact hret _ _ _ (by k_asm) (by k_asm) hbare6
end
end
section
noncomputable abbrev segT (ds : List PySem.Str) (i j : Nat) : PySem.Str := Txt.join (PySem.Str.ofString "") ((ds.drop i).take (j + 1 - i))
noncomputable abbrev segC (ds : List PySem.Str) (i j : Nat) : Bool := chk (segT ds i j)
noncomputable def okText (x : PySem.Str) : Prop := (Builtin.Str.occurrences x (PySem.Str.ofString "\"") 0 x.length 1).isEmpty = true ∧ x.cps.all (· < 128) = true ∧ x.length < 100
theorem news_swap {h₀ h : Heap} {L : Addr} {a b : Addr × Obj} {r : List (Addr × Obj)} (N : News h₀ L h (a :: b :: r)) : News h₀ L h (b :: a :: r) := fun p hp => N p (by
  rcases List.mem_cons.mp hp with rfl | hp
  · exact .tail _ (.head _)
  · rcases List.mem_cons.mp hp with rfl | hp
    · exact .head _
    · exact .tail _ (.tail _ hp))
theorem PairsAre.snoc {news : List (Addr × Obj)} {its : List Value} {ps : List (PySem.Str × PySem.Str)} {a : Addr} {k v : PySem.Str} {t1 t2 : Tok} (x : PairsAre news its ps) (ha : (a, tup2 k v t1 t2) ∈ news) : PairsAre news (its ++ [.ref a]) (ps ++ [(k, v)]) := by
  refine ⟨by simp [x.1], fun i k' v' e => ?_⟩
  by_cases hi : i < ps.length
  · rw [List.getElem?_append_left hi] at e
    obtain ⟨a', t1', t2', e1, e2⟩ := x.2 i k' v' e
    exact ⟨a', t1', t2', by rw [List.getElem?_append_left (by rw [x.1]; exact hi)]; exact e1, e2⟩
  · rw [List.getElem?_append_right (Nat.le_of_not_lt hi)] at e
    have h0 : i - ps.length = 0 := by
      cases q : i - ps.length with
      | zero => rfl
      | succ k => rw [q] at e; simp at e
    rw [h0] at e
    simp at e
    obtain ⟨rfl, rfl⟩ := e
    refine ⟨a, t1, t2, ?_, ha⟩
    rw [List.getElem?_append_right (by rw [x.1]; exact Nat.le_of_not_lt hi), x.1, h0]
    rfl
noncomputable def RFresh (w : World) (x d l : Addr) (tkk : Tok) (news rest : List (Addr × Obj)) (its : List Value) (ps : List (PySem.Str × PySem.Str)) : Prop :=
  ∃ r1, rest = r1 ++ news ∧ (x, instObj 199 d) ∈ r1 ∧ (d, dictOf [hdrE w tkk l] 1) ∈ r1 ∧ PairsAre r1 its ps ∧ ∀ p ∈ r1, ∀ q ∈ news, @LT.lt Nat _ q.1 p.1
theorem RFresh.snoc2 {w : World} {x d l : Addr} {tkk : Tok} {news rest : List (Addr × Obj)} {its : List Value} {ps : List (PySem.Str × PySem.Str)} (h : RFresh w x d l tkk news rest its ps) {a b : Addr} {k v k' v' : PySem.Str} {t1 t2 t3 t4 : Tok} (ha : ∀ q ∈ news, @LT.lt Nat _ q.1 a) (hb : ∀ q ∈ news, @LT.lt Nat _ q.1 b) :
    RFresh w x d l tkk news ((b, tup2 k' v' t3 t4) :: (a, tup2 k v t1 t2) :: rest) (its ++ [.ref a] ++ [.ref b]) (ps ++ [(k, v)] ++ [(k', v')]) := by
  obtain ⟨r1, rfl, h1, h2, h3, h4⟩ := h
  refine ⟨(b, tup2 k' v' t3 t4) :: (a, tup2 k v t1 t2) :: r1, rfl, .tail _ (.tail _ h1), .tail _ (.tail _ h2), ((h3.mono fun p hp => .tail _ (.tail _ hp)).snoc (.tail _ (.head _))).snoc (.head _), fun p hp q hq => ?_⟩
  rcases List.mem_cons.mp hp with rfl | hp
  · exact hb q hq
  · rcases List.mem_cons.mp hp with rfl | hp
    · exact ha q hq
    · exact h4 p hp q hq
noncomputable def mateGo (c : Nat → Bool) : Nat → Nat → Nat
  | 0, j => j
  | f + 1, j => if j < 5 then (if c j = true then j else mateGo c f (j + 2)) else j
noncomputable def mate (c : Nat → Nat → Bool) (i : Nat) : Nat := mateGo (c i) 3 (i + 1)
noncomputable def pairsUp (sg : Nat → Bool) (c : Nat → Nat → Bool) (nm : Nat → PySem.Str) : Nat → List (PySem.Str × PySem.Str)
  | 0 => []
  | i + 1 => if sg i = true then pairsUp sg c nm i ++ [(nm i, nm (mate c i)), (nm (mate c i), nm i)] else pairsUp sg c nm i
theorem mateGo_ge {c : Nat → Bool} {f j : Nat} (h : ¬ j < 5) : mateGo c f j = j := by
  cases f with
  | zero => rfl
  | succ f => rw [mateGo, if_neg h]
theorem pairs_keys {sg : Nat → Bool} {c : Nat → Nat → Bool} {nm : Nat → PySem.Str} (P : PySem.Str → Prop) (h : ∀ k, P (nm k)) : ∀ (i : Nat), ∀ p ∈ pairsUp sg c nm i, P p.1
  | 0, p, hp => by simp [pairsUp] at hp
  | i + 1, p, hp => by
    rw [pairsUp] at hp
    split at hp
    · rcases List.mem_append.mp hp with hp | hp
      · exact pairs_keys P h i p hp
      · rcases List.mem_cons.mp hp with rfl | hp
        · exact h _
        · rw [List.mem_singleton.mp hp]; exact h _
    · exact pairs_keys P h i p hp
noncomputable abbrev sgOf (br : PySem.Str) : Nat → Bool := fun i => Txt.item br (i : Int) == PySem.Str.ofString "("
noncomputable abbrev psOf (br : PySem.Str) (ds ns : List PySem.Str) (i : Nat) : List (PySem.Str × PySem.Str) := pairsUp (sgOf br) (segC ds) (fun i => ns.getD i PySem.Str.empty) i
section
variable {w : World} {mean : ExcName → Option Value} {mg mb : PySem.Str → Option Value} {dp un : Nat} {gd : Option (List Code)} {cn : PySem.Str} {cs : Scope} {a : Addr} {ccd : Value} {cl : List (PySem.Str × Addr)} {outer : List Env} {A₀ : Around} {base h₀ : Heap} {L : Addr} {m : PySem.Str → Option Value} {news : List (Addr × Obj)} {s : Shared} {Q E : Value → Shared → Prop}
  (B : Below A₀ base outer h₀) (F : Fr h₀ L s.heap m) (X : (hd.heap_39 w.params).In h₀) (N : News h₀ L s.heap news) (T : Top hd.view_39 LO mean mg mb h₀) (hk : cs.kind = .function)
include B F X N T hk
set_option maxRecDepth 100000 in
set_option maxHeartbeats 8000000 in
set_option pp.deepTerms false in
set_option pp.deepTerms.threshold 10 in
theorem pairs {br : PySem.Str} {tb : Tok} {ld ln : Addr} {dv nv : List Value} {nd nn : Nat} (hbr : br.length = 6) (hld : (ld, listOf dv.toArray nd) ∈ news) (hln : (ln, listOf nv.toArray nn) ∈ news) {ds ns : List PySem.Str} (hds : StrsAre dv ds) (hns : StrsAre nv ns) (hdl : ds.length = 6) (hnl : ns.length = 6) (hsum : ∀ i k, (((ds.drop i).take k).map (·.length)).sum ≤ 1000) (hok : ∀ i j, okText (segT ds i j)) (hcl : ∀ k, Clean (ns.getD k PySem.Str.empty) ∧ Clean (Txt.lower (ns.getD k PySem.Str.empty)) ∧ (ns.getD k PySem.Str.empty).length < 100) (hmt : ∀ i, i < 6 → sgOf br i = true → mate (segC ds) i < 6 ∧ (∀ p ∈ psOf br ds ns i, (Txt.lower p.1 == Txt.lower (ns.getD i PySem.Str.empty)) = false) ∧ (∀ p ∈ psOf br ds ns i ++ [(ns.getD i PySem.Str.empty, ns.getD (mate (segC ds) i) PySem.Str.empty)], (Txt.lower p.1 == Txt.lower (ns.getD (mate (segC ds) i) PySem.Str.empty)) = false)) (hdp : dp + 60 < recursionLimit) (hun : un + 80 < cLine) (hb : Bare s.gens)
    (hret : ∀ x h' tk' gs' r1, Fr h₀ L h' m → News h₀ L h' (r1 ++ news) → (∀ p ∈ r1, ∀ q ∈ news, @LT.lt Nat _ q.1 p.1) → IsTab w r1 x (psOf br ds ns 6) → Bare gs' → Q (.ref x) { s with heap := h', toks := tk', gens := gs' }) :
    wpAny (model PySem.Challenge.rw_wa0038_01.row.prog w) (ktrTop dp un gd cn cs L a ccd cl outer) (call (.ref 210) [.str br tb, .ref ld, .ref ln] []) Q E s := by
  revert X; k_fill; intro X
  refine wpAny_call ?_
  k_dflt (((refine' code_def ?k1 ?k2 ?k3 ?k4 ?k5 ?kA ?kF ?kK ?k6 ?k7 ?k8 ?k9 ?kB ?_ ?c2 ?c3 ?c4 ?c5; (case kA => exact rfl); (case kF => exact rfl); (case kK => first | exact rfl | assumption); (case k1 => k_asm); (case k2 => k_asm); (case k3 => k_asm); (case k4 => k_asm); (case k5 => k_asm); (case k6 => k_is); (case k7 => k_is); (case k8 => ktr_room); (case k9 => first | exact BindsTo.of_eq rfl | exact binds_K (by k_in) rfl (by k_is) rfl rfl rfl | fail "no rule for these arguments"); (case c5 => decide); (case kB => exact locs rfl); (case c2 => exact rfl); (case c3 => exact rfl); (case c4 => exact rfl); k_whole; intro g' L' h' FG' F' N' B' X' T'; (try dsimp only); (try k_lift B'); (try k_fold))))
  (repeat' (first | (k_unfold; (try dsimp only)) | (k_end; wrow_close) | ((((fail_if_success (with_reducible show wpAny _ _ (call (Value.builtin "dict.items") _ _) _ _ _)); (fail_if_success (with_reducible show wpAny _ _ (call (Value.type "range") _ _) _ _ _)); (fail_if_success (with_reducible show wpAny _ _ (call (Value.ref 112) _ _) _ _ _)); (fail_if_success (with_reducible show wpAny _ _ (eval (Expr.ListComp _ _ _ _) _) _ _ _)); (fail_if_success (with_reducible show wpAny _ _ (exec (Stmt.For _ _ _ _ _) _) _ _ _)); (fail_if_success (with_reducible show wpAny _ _ (exec (Stmt.While _ _ _ _) _) _ _ _)); (fail_if_success (with_reducible show wpAny _ _ (exec (Stmt.Assign [Expr.Name _ _] (Expr.ListComp _ _ _ _) _) _) _ _ _)))); first | (first | with_reducible (k_here; (with_reducible show wpAny _ _ (subscriptTail _ _ (Value.ref _) (Value.int _ _)) _ _ _); refine' item_strsA ?lqz ?iqz ?aqz ?bqz ?cqz ?_; (case lqz => exact News.isList (by k_asm) (by first | k_mem | exact .tail _ (.tail _ (by assumption)) | exact .tail _ (.tail _ (.tail _ (by assumption))))); (case iqz => assumption); (case aqz => omega); (case bqz => omega); (case cqz => omega); intro _; (try simp only [Int.toNat_natCast])) | with_reducible (k_here; (with_reducible show wpAny _ _ (call (Value.ref 59) _ _) _ _ _); k_dflt (refine' check ?Bqz ?Fqz ?Xqz ?Nqz ?Tqz ?hkqz ?hqqz ?haqz ?hlqz ?hdqz ?huqz ?hbqz ?_; (case Bqz => k_asm); (case Fqz => k_asm); (case Xqz => k_asm); (case Nqz => k_asm); (case Tqz => k_asm); (case hkqz => first | exact rfl | assumption); (case hqqz => assumption); (case haqz => assumption); (case hlqz => assumption); (case hdqz => ktr_room); (case huqz => ktr_units); (case hbqz => assumption); intro h12 tk12 gs12 F12 N12 hb12; (try dsimp only))) | with_reducible (k_here; (with_reducible show wpAny _ _ (call (Value.ref 199) _ _) _ _ _); k_dflt (refine' made ?Bqz ?Fqz ?Xqz ?Nqz ?Tqz ?hkqz ?hdqz ?_; (case Bqz => k_asm); (case Fqz => k_asm); (case Xqz => k_asm); (case Nqz => k_asm); (case Tqz => k_asm); (case hkqz => first | exact rfl | assumption); (case hdqz => ktr_room); intro x9 d9 l9 h9 tk9 tkk9 F9 N9 q91 q92 q93; (try dsimp only))) | walk1 | (k_here; (with_reducible show wpAny _ _ (subscriptTail _ _ (Value.ref _) (Value.int _ _)) _ _ _); refine' item_strsA ?lqz ?iqz ?aqz ?bqz ?cqz ?_; (case lqz => exact News.isList (by k_asm) (by first | k_mem | exact .tail _ (.tail _ (by assumption)) | exact .tail _ (.tail _ (.tail _ (by assumption))))); (case iqz => assumption); (case aqz => omega); (case bqz => omega); (case cqz => omega); intro _; (try simp only [Int.toNat_natCast]))) | (dsimp only; ((((fail_if_success (with_reducible show wpAny _ _ (call (Value.builtin "dict.items") _ _) _ _ _)); (fail_if_success (with_reducible show wpAny _ _ (call (Value.type "range") _ _) _ _ _)); (fail_if_success (with_reducible show wpAny _ _ (call (Value.ref 112) _ _) _ _ _)); (fail_if_success (with_reducible show wpAny _ _ (eval (Expr.ListComp _ _ _ _) _) _ _ _)); (fail_if_success (with_reducible show wpAny _ _ (exec (Stmt.For _ _ _ _ _) _) _ _ _)); (fail_if_success (with_reducible show wpAny _ _ (exec (Stmt.While _ _ _ _) _) _ _ _)); (fail_if_success (with_reducible show wpAny _ _ (exec (Stmt.Assign [Expr.Name _ _] (Expr.ListComp _ _ _ _) _) _) _ _ _))))); (first | with_reducible (k_here; (with_reducible show wpAny _ _ (subscriptTail _ _ (Value.ref _) (Value.int _ _)) _ _ _); refine' item_strsA ?lqz ?iqz ?aqz ?bqz ?cqz ?_; (case lqz => exact News.isList (by k_asm) (by first | k_mem | exact .tail _ (.tail _ (by assumption)) | exact .tail _ (.tail _ (.tail _ (by assumption))))); (case iqz => assumption); (case aqz => omega); (case bqz => omega); (case cqz => omega); intro _; (try simp only [Int.toNat_natCast])) | with_reducible (k_here; (with_reducible show wpAny _ _ (call (Value.ref 59) _ _) _ _ _); k_dflt (refine' check ?Bqz ?Fqz ?Xqz ?Nqz ?Tqz ?hkqz ?hqqz ?haqz ?hlqz ?hdqz ?huqz ?hbqz ?_; (case Bqz => k_asm); (case Fqz => k_asm); (case Xqz => k_asm); (case Nqz => k_asm); (case Tqz => k_asm); (case hkqz => first | exact rfl | assumption); (case hqqz => assumption); (case haqz => assumption); (case hlqz => assumption); (case hdqz => ktr_room); (case huqz => ktr_units); (case hbqz => assumption); intro h12 tk12 gs12 F12 N12 hb12; (try dsimp only))) | with_reducible (k_here; (with_reducible show wpAny _ _ (call (Value.ref 199) _ _) _ _ _); k_dflt (refine' made ?Bqz ?Fqz ?Xqz ?Nqz ?Tqz ?hkqz ?hdqz ?_; (case Bqz => k_asm); (case Fqz => k_asm); (case Xqz => k_asm); (case Nqz => k_asm); (case Tqz => k_asm); (case hkqz => first | exact rfl | assumption); (case hdqz => ktr_room); intro x9 d9 l9 h9 tk9 tkk9 F9 N9 q91 q92 q93; (try dsimp only))) | walk1 | (k_here; (with_reducible show wpAny _ _ (subscriptTail _ _ (Value.ref _) (Value.int _ _)) _ _ _); refine' item_strsA ?lqz ?iqz ?aqz ?bqz ?cqz ?_; (case lqz => exact News.isList (by k_asm) (by first | k_mem | exact .tail _ (.tail _ (by assumption)) | exact .tail _ (.tail _ (.tail _ (by assumption))))); (case iqz => assumption); (case aqz => omega); (case bqz => omega); (case cqz => omega); intro _; (try simp only [Int.toNat_natCast]))))) | (leave1; walk_say "STEP leave1"; try dsimp only) | fail "no step"))
  refine for_any ?_
  (repeat' (first | (k_unfold; (try dsimp only)) | (k_end; wrow_close) | ((((fail_if_success (with_reducible show wpAny _ _ (call (Value.builtin "dict.items") _ _) _ _ _)); (fail_if_success (with_reducible show wpAny _ _ (call (Value.type "range") _ _) _ _ _)); (fail_if_success (with_reducible show wpAny _ _ (call (Value.ref 112) _ _) _ _ _)); (fail_if_success (with_reducible show wpAny _ _ (eval (Expr.ListComp _ _ _ _) _) _ _ _)); (fail_if_success (with_reducible show wpAny _ _ (exec (Stmt.For _ _ _ _ _) _) _ _ _)); (fail_if_success (with_reducible show wpAny _ _ (exec (Stmt.While _ _ _ _) _) _ _ _)); (fail_if_success (with_reducible show wpAny _ _ (exec (Stmt.Assign [Expr.Name _ _] (Expr.ListComp _ _ _ _) _) _) _ _ _)))); first | (first | with_reducible (k_here; (with_reducible show wpAny _ _ (subscriptTail _ _ (Value.ref _) (Value.int _ _)) _ _ _); refine' item_strsA ?lqz ?iqz ?aqz ?bqz ?cqz ?_; (case lqz => exact News.isList (by k_asm) (by first | k_mem | exact .tail _ (.tail _ (by assumption)) | exact .tail _ (.tail _ (.tail _ (by assumption))))); (case iqz => assumption); (case aqz => omega); (case bqz => omega); (case cqz => omega); intro _; (try simp only [Int.toNat_natCast])) | with_reducible (k_here; (with_reducible show wpAny _ _ (call (Value.ref 59) _ _) _ _ _); k_dflt (refine' check ?Bqz ?Fqz ?Xqz ?Nqz ?Tqz ?hkqz ?hqqz ?haqz ?hlqz ?hdqz ?huqz ?hbqz ?_; (case Bqz => k_asm); (case Fqz => k_asm); (case Xqz => k_asm); (case Nqz => k_asm); (case Tqz => k_asm); (case hkqz => first | exact rfl | assumption); (case hqqz => assumption); (case haqz => assumption); (case hlqz => assumption); (case hdqz => ktr_room); (case huqz => ktr_units); (case hbqz => assumption); intro h12 tk12 gs12 F12 N12 hb12; (try dsimp only))) | with_reducible (k_here; (with_reducible show wpAny _ _ (call (Value.ref 199) _ _) _ _ _); k_dflt (refine' made ?Bqz ?Fqz ?Xqz ?Nqz ?Tqz ?hkqz ?hdqz ?_; (case Bqz => k_asm); (case Fqz => k_asm); (case Xqz => k_asm); (case Nqz => k_asm); (case Tqz => k_asm); (case hkqz => first | exact rfl | assumption); (case hdqz => ktr_room); intro x9 d9 l9 h9 tk9 tkk9 F9 N9 q91 q92 q93; (try dsimp only))) | walk1 | (k_here; (with_reducible show wpAny _ _ (subscriptTail _ _ (Value.ref _) (Value.int _ _)) _ _ _); refine' item_strsA ?lqz ?iqz ?aqz ?bqz ?cqz ?_; (case lqz => exact News.isList (by k_asm) (by first | k_mem | exact .tail _ (.tail _ (by assumption)) | exact .tail _ (.tail _ (.tail _ (by assumption))))); (case iqz => assumption); (case aqz => omega); (case bqz => omega); (case cqz => omega); intro _; (try simp only [Int.toNat_natCast]))) | (dsimp only; ((((fail_if_success (with_reducible show wpAny _ _ (call (Value.builtin "dict.items") _ _) _ _ _)); (fail_if_success (with_reducible show wpAny _ _ (call (Value.type "range") _ _) _ _ _)); (fail_if_success (with_reducible show wpAny _ _ (call (Value.ref 112) _ _) _ _ _)); (fail_if_success (with_reducible show wpAny _ _ (eval (Expr.ListComp _ _ _ _) _) _ _ _)); (fail_if_success (with_reducible show wpAny _ _ (exec (Stmt.For _ _ _ _ _) _) _ _ _)); (fail_if_success (with_reducible show wpAny _ _ (exec (Stmt.While _ _ _ _) _) _ _ _)); (fail_if_success (with_reducible show wpAny _ _ (exec (Stmt.Assign [Expr.Name _ _] (Expr.ListComp _ _ _ _) _) _) _ _ _))))); (first | with_reducible (k_here; (with_reducible show wpAny _ _ (subscriptTail _ _ (Value.ref _) (Value.int _ _)) _ _ _); refine' item_strsA ?lqz ?iqz ?aqz ?bqz ?cqz ?_; (case lqz => exact News.isList (by k_asm) (by first | k_mem | exact .tail _ (.tail _ (by assumption)) | exact .tail _ (.tail _ (.tail _ (by assumption))))); (case iqz => assumption); (case aqz => omega); (case bqz => omega); (case cqz => omega); intro _; (try simp only [Int.toNat_natCast])) | with_reducible (k_here; (with_reducible show wpAny _ _ (call (Value.ref 59) _ _) _ _ _); k_dflt (refine' check ?Bqz ?Fqz ?Xqz ?Nqz ?Tqz ?hkqz ?hqqz ?haqz ?hlqz ?hdqz ?huqz ?hbqz ?_; (case Bqz => k_asm); (case Fqz => k_asm); (case Xqz => k_asm); (case Nqz => k_asm); (case Tqz => k_asm); (case hkqz => first | exact rfl | assumption); (case hqqz => assumption); (case haqz => assumption); (case hlqz => assumption); (case hdqz => ktr_room); (case huqz => ktr_units); (case hbqz => assumption); intro h12 tk12 gs12 F12 N12 hb12; (try dsimp only))) | with_reducible (k_here; (with_reducible show wpAny _ _ (call (Value.ref 199) _ _) _ _ _); k_dflt (refine' made ?Bqz ?Fqz ?Xqz ?Nqz ?Tqz ?hkqz ?hdqz ?_; (case Bqz => k_asm); (case Fqz => k_asm); (case Xqz => k_asm); (case Nqz => k_asm); (case Tqz => k_asm); (case hkqz => first | exact rfl | assumption); (case hdqz => ktr_room); intro x9 d9 l9 h9 tk9 tkk9 F9 N9 q91 q92 q93; (try dsimp only))) | walk1 | (k_here; (with_reducible show wpAny _ _ (subscriptTail _ _ (Value.ref _) (Value.int _ _)) _ _ _); refine' item_strsA ?lqz ?iqz ?aqz ?bqz ?cqz ?_; (case lqz => exact News.isList (by k_asm) (by first | k_mem | exact .tail _ (.tail _ (by assumption)) | exact .tail _ (.tail _ (.tail _ (by assumption))))); (case iqz => assumption); (case aqz => omega); (case bqz => omega); (case cqz => omega); intro _; (try simp only [Int.toNat_natCast]))))) | (leave1; walk_say "STEP leave1"; try dsimp only) | fail "no step"))
  refine call_range_1 ?_
  rename Fr _ _ _ _ => F5
  rename News _ _ _ _ => N5
  refine iter_rangeO (a := 0) (c := 1) 6 [PySem.Str.ofString "i", PySem.Str.ofString "j"]
    (fun i m' nw gs => Bare gs ∧ ∃ (its : List Value) (n : Nat) (rest : List (Addr × Obj)), nw = (l9, listOf its.toArray n) :: rest ∧ (∀ p ∈ rest, p.1 ≠ l9) ∧ (x9, instObj 199 d9) ∈ rest ∧ (d9, dictOf [hdrE w tkk9 l9] 1) ∈ rest ∧ (∀ p ∈ news, p ∈ rest) ∧ PairsAre rest its (psOf br ds ns i) ∧ its.length ≤ 2 * i ∧ RFresh w x9 d9 l9 tkk9 news rest its (psOf br ds ns i))
    (by rfl) (F5.push _) (N5.pushKeep _) (IsRange.new _ _ _ _ _ _ _) (small_one (by decide) (by decide) (by decide) (by decide)) (by decide) ⟨hb, [], 0, _, rfl, ?_, .head _, .tail _ (.head _), fun p hp => .tail _ (.tail _ hp), ⟨rfl, fun i k v e => by simp [pairsUp] at e⟩, Nat.le_refl _, [(x9, instObj 199 d9), (d9, dictOf [hdrE w tkk9 l9] 1)], rfl, .head _, .tail _ (.head _), ⟨rfl, fun i k v e => by simp [pairsUp] at e⟩, by
      intro p hp q hq
      rcases List.mem_cons.mp hp with rfl | hp
      · exact Nat.lt_trans (q91 q hq) q92
      · rw [List.mem_singleton.mp hp]; exact q91 q hq⟩ ?_ ?_
  · intro p hp
    rcases List.mem_cons.mp hp with rfl | hp
    · exact Nat.ne_of_lt q93
    · rcases List.mem_cons.mp hp with rfl | hp
      · exact Nat.ne_of_lt (Nat.lt_trans q92 q93)
      · exact Nat.ne_of_lt (Nat.lt_trans (q91 p hp) (Nat.lt_trans q92 q93))
  · rintro i tv u nw h6 tk6 gs6 I oI hi ⟨hbare, its, n6, rest, rfl, hlr, hin, hdi, hnw, hPA, hlen, hfr⟩ offI F6 N6
    refine cutT fun Rk hR => ?_
    rw [show (0 : Int) + (i : Int) * 1 = (i : Int) by omega]
    (repeat' (first | (k_unfold; (try dsimp only)) | (k_end; wrow_close) | ((((fail_if_success (with_reducible show wpAny _ _ (call (Value.builtin "dict.items") _ _) _ _ _)); (fail_if_success (with_reducible show wpAny _ _ (call (Value.type "range") _ _) _ _ _)); (fail_if_success (with_reducible show wpAny _ _ (call (Value.ref 112) _ _) _ _ _)); (fail_if_success (with_reducible show wpAny _ _ (eval (Expr.ListComp _ _ _ _) _) _ _ _)); (fail_if_success (with_reducible show wpAny _ _ (exec (Stmt.For _ _ _ _ _) _) _ _ _)); (fail_if_success (with_reducible show wpAny _ _ (exec (Stmt.While _ _ _ _) _) _ _ _)); (fail_if_success (with_reducible show wpAny _ _ (exec (Stmt.Assign [Expr.Name _ _] (Expr.ListComp _ _ _ _) _) _) _ _ _)))); first | (first | with_reducible (k_here; (with_reducible show wpAny _ _ (subscriptTail _ _ (Value.ref _) (Value.int _ _)) _ _ _); refine' item_strsA ?lqz ?iqz ?aqz ?bqz ?cqz ?_; (case lqz => exact News.isList (by k_asm) (by first | k_mem | exact .tail _ (.tail _ (by assumption)) | exact .tail _ (.tail _ (.tail _ (by assumption))))); (case iqz => assumption); (case aqz => omega); (case bqz => omega); (case cqz => omega); intro _; (try simp only [Int.toNat_natCast])) | with_reducible (k_here; (with_reducible show wpAny _ _ (call (Value.ref 59) _ _) _ _ _); k_dflt (refine' check ?Bqz ?Fqz ?Xqz ?Nqz ?Tqz ?hkqz ?hqqz ?haqz ?hlqz ?hdqz ?huqz ?hbqz ?_; (case Bqz => k_asm); (case Fqz => k_asm); (case Xqz => k_asm); (case Nqz => k_asm); (case Tqz => k_asm); (case hkqz => first | exact rfl | assumption); (case hqqz => assumption); (case haqz => assumption); (case hlqz => assumption); (case hdqz => ktr_room); (case huqz => ktr_units); (case hbqz => assumption); intro h12 tk12 gs12 F12 N12 hb12; (try dsimp only))) | with_reducible (k_here; (with_reducible show wpAny _ _ (call (Value.ref 199) _ _) _ _ _); k_dflt (refine' made ?Bqz ?Fqz ?Xqz ?Nqz ?Tqz ?hkqz ?hdqz ?_; (case Bqz => k_asm); (case Fqz => k_asm); (case Xqz => k_asm); (case Nqz => k_asm); (case Tqz => k_asm); (case hkqz => first | exact rfl | assumption); (case hdqz => ktr_room); intro x9 d9 l9 h9 tk9 tkk9 F9 N9 q91 q92 q93; (try dsimp only))) | walk1 | (k_here; (with_reducible show wpAny _ _ (subscriptTail _ _ (Value.ref _) (Value.int _ _)) _ _ _); refine' item_strsA ?lqz ?iqz ?aqz ?bqz ?cqz ?_; (case lqz => exact News.isList (by k_asm) (by first | k_mem | exact .tail _ (.tail _ (by assumption)) | exact .tail _ (.tail _ (.tail _ (by assumption))))); (case iqz => assumption); (case aqz => omega); (case bqz => omega); (case cqz => omega); intro _; (try simp only [Int.toNat_natCast]))) | (dsimp only; ((((fail_if_success (with_reducible show wpAny _ _ (call (Value.builtin "dict.items") _ _) _ _ _)); (fail_if_success (with_reducible show wpAny _ _ (call (Value.type "range") _ _) _ _ _)); (fail_if_success (with_reducible show wpAny _ _ (call (Value.ref 112) _ _) _ _ _)); (fail_if_success (with_reducible show wpAny _ _ (eval (Expr.ListComp _ _ _ _) _) _ _ _)); (fail_if_success (with_reducible show wpAny _ _ (exec (Stmt.For _ _ _ _ _) _) _ _ _)); (fail_if_success (with_reducible show wpAny _ _ (exec (Stmt.While _ _ _ _) _) _ _ _)); (fail_if_success (with_reducible show wpAny _ _ (exec (Stmt.Assign [Expr.Name _ _] (Expr.ListComp _ _ _ _) _) _) _ _ _))))); (first | with_reducible (k_here; (with_reducible show wpAny _ _ (subscriptTail _ _ (Value.ref _) (Value.int _ _)) _ _ _); refine' item_strsA ?lqz ?iqz ?aqz ?bqz ?cqz ?_; (case lqz => exact News.isList (by k_asm) (by first | k_mem | exact .tail _ (.tail _ (by assumption)) | exact .tail _ (.tail _ (.tail _ (by assumption))))); (case iqz => assumption); (case aqz => omega); (case bqz => omega); (case cqz => omega); intro _; (try simp only [Int.toNat_natCast])) | with_reducible (k_here; (with_reducible show wpAny _ _ (call (Value.ref 59) _ _) _ _ _); k_dflt (refine' check ?Bqz ?Fqz ?Xqz ?Nqz ?Tqz ?hkqz ?hqqz ?haqz ?hlqz ?hdqz ?huqz ?hbqz ?_; (case Bqz => k_asm); (case Fqz => k_asm); (case Xqz => k_asm); (case Nqz => k_asm); (case Tqz => k_asm); (case hkqz => first | exact rfl | assumption); (case hqqz => assumption); (case haqz => assumption); (case hlqz => assumption); (case hdqz => ktr_room); (case huqz => ktr_units); (case hbqz => assumption); intro h12 tk12 gs12 F12 N12 hb12; (try dsimp only))) | with_reducible (k_here; (with_reducible show wpAny _ _ (call (Value.ref 199) _ _) _ _ _); k_dflt (refine' made ?Bqz ?Fqz ?Xqz ?Nqz ?Tqz ?hkqz ?hdqz ?_; (case Bqz => k_asm); (case Fqz => k_asm); (case Xqz => k_asm); (case Nqz => k_asm); (case Tqz => k_asm); (case hkqz => first | exact rfl | assumption); (case hdqz => ktr_room); intro x9 d9 l9 h9 tk9 tkk9 F9 N9 q91 q92 q93; (try dsimp only))) | walk1 | (k_here; (with_reducible show wpAny _ _ (subscriptTail _ _ (Value.ref _) (Value.int _ _)) _ _ _); refine' item_strsA ?lqz ?iqz ?aqz ?bqz ?cqz ?_; (case lqz => exact News.isList (by k_asm) (by first | k_mem | exact .tail _ (.tail _ (by assumption)) | exact .tail _ (.tail _ (.tail _ (by assumption))))); (case iqz => assumption); (case aqz => omega); (case bqz => omega); (case cqz => omega); intro _; (try simp only [Int.toNat_natCast]))))) | (leave1; walk_say "STEP leave1"; try dsimp only) | fail "no step"))
    · rename (Txt.item br _ == _) = true => hsg
      rename Fr _ _ _ _ => F7
      rename News _ _ _ _ => N7
      refine while_P (names := [PySem.Str.ofString "j"]) (fun f m' nw gs => nw = (I, oI) :: (l9, listOf its.toArray n6) :: rest ∧ Bare gs ∧ ∃ (j : Nat) (tj : Tok), m' (PySem.Str.ofString "j") = some (.int (j : Int) tj) ∧ mateGo (segC ds i) f j = mate (segC ds) i ∧ i < j ∧ j + 2 * f = i + 7)
        (fun m' nw gs => nw = (I, oI) :: (l9, listOf its.toArray n6) :: rest ∧ Bare gs ∧ ∃ tj : Tok, m' (PySem.Str.ofString "j") = some (.int (mate (segC ds) i : Nat) tj)) 3 F7 N7 ⟨rfl, hbare, i + 1, _, rfl, rfl, Nat.lt_succ_self _, by omega⟩ ?_ ?_
      · rintro f u7 nw7 h7 tk7 gs7 ⟨rfl, hbare7, j, tj, hj, hmate, hij, hjf⟩ F8 N8
        refine cutW fun Rk Sk hR hS => ?_
        have F9 := fr_track F8 hj
        clear F8
        (repeat' (first | (k_unfold; (try dsimp only)) | (k_end; wrow_close) | ((((fail_if_success (with_reducible show wpAny _ _ (call (Value.builtin "dict.items") _ _) _ _ _)); (fail_if_success (with_reducible show wpAny _ _ (call (Value.type "range") _ _) _ _ _)); (fail_if_success (with_reducible show wpAny _ _ (call (Value.ref 112) _ _) _ _ _)); (fail_if_success (with_reducible show wpAny _ _ (eval (Expr.ListComp _ _ _ _) _) _ _ _)); (fail_if_success (with_reducible show wpAny _ _ (exec (Stmt.For _ _ _ _ _) _) _ _ _)); (fail_if_success (with_reducible show wpAny _ _ (exec (Stmt.While _ _ _ _) _) _ _ _)); (fail_if_success (with_reducible show wpAny _ _ (exec (Stmt.Assign [Expr.Name _ _] (Expr.ListComp _ _ _ _) _) _) _ _ _)))); first | (first | with_reducible (k_here; (with_reducible show wpAny _ _ (subscriptTail _ _ (Value.ref _) (Value.int _ _)) _ _ _); refine' item_strsA ?lqz ?iqz ?aqz ?bqz ?cqz ?_; (case lqz => exact News.isList (by k_asm) (by first | k_mem | exact .tail _ (.tail _ (by assumption)) | exact .tail _ (.tail _ (.tail _ (by assumption))))); (case iqz => assumption); (case aqz => omega); (case bqz => omega); (case cqz => omega); intro _; (try simp only [Int.toNat_natCast])) | with_reducible (k_here; (with_reducible show wpAny _ _ (call (Value.ref 59) _ _) _ _ _); k_dflt (refine' check ?Bqz ?Fqz ?Xqz ?Nqz ?Tqz ?hkqz ?hqqz ?haqz ?hlqz ?hdqz ?huqz ?hbqz ?_; (case Bqz => k_asm); (case Fqz => k_asm); (case Xqz => k_asm); (case Nqz => k_asm); (case Tqz => k_asm); (case hkqz => first | exact rfl | assumption); (case hqqz => assumption); (case haqz => assumption); (case hlqz => assumption); (case hdqz => ktr_room); (case huqz => ktr_units); (case hbqz => assumption); intro h12 tk12 gs12 F12 N12 hb12; (try dsimp only))) | with_reducible (k_here; (with_reducible show wpAny _ _ (call (Value.ref 199) _ _) _ _ _); k_dflt (refine' made ?Bqz ?Fqz ?Xqz ?Nqz ?Tqz ?hkqz ?hdqz ?_; (case Bqz => k_asm); (case Fqz => k_asm); (case Xqz => k_asm); (case Nqz => k_asm); (case Tqz => k_asm); (case hkqz => first | exact rfl | assumption); (case hdqz => ktr_room); intro x9 d9 l9 h9 tk9 tkk9 F9 N9 q91 q92 q93; (try dsimp only))) | walk1 | (k_here; (with_reducible show wpAny _ _ (subscriptTail _ _ (Value.ref _) (Value.int _ _)) _ _ _); refine' item_strsA ?lqz ?iqz ?aqz ?bqz ?cqz ?_; (case lqz => exact News.isList (by k_asm) (by first | k_mem | exact .tail _ (.tail _ (by assumption)) | exact .tail _ (.tail _ (.tail _ (by assumption))))); (case iqz => assumption); (case aqz => omega); (case bqz => omega); (case cqz => omega); intro _; (try simp only [Int.toNat_natCast]))) | (dsimp only; ((((fail_if_success (with_reducible show wpAny _ _ (call (Value.builtin "dict.items") _ _) _ _ _)); (fail_if_success (with_reducible show wpAny _ _ (call (Value.type "range") _ _) _ _ _)); (fail_if_success (with_reducible show wpAny _ _ (call (Value.ref 112) _ _) _ _ _)); (fail_if_success (with_reducible show wpAny _ _ (eval (Expr.ListComp _ _ _ _) _) _ _ _)); (fail_if_success (with_reducible show wpAny _ _ (exec (Stmt.For _ _ _ _ _) _) _ _ _)); (fail_if_success (with_reducible show wpAny _ _ (exec (Stmt.While _ _ _ _) _) _ _ _)); (fail_if_success (with_reducible show wpAny _ _ (exec (Stmt.Assign [Expr.Name _ _] (Expr.ListComp _ _ _ _) _) _) _ _ _))))); (first | with_reducible (k_here; (with_reducible show wpAny _ _ (subscriptTail _ _ (Value.ref _) (Value.int _ _)) _ _ _); refine' item_strsA ?lqz ?iqz ?aqz ?bqz ?cqz ?_; (case lqz => exact News.isList (by k_asm) (by first | k_mem | exact .tail _ (.tail _ (by assumption)) | exact .tail _ (.tail _ (.tail _ (by assumption))))); (case iqz => assumption); (case aqz => omega); (case bqz => omega); (case cqz => omega); intro _; (try simp only [Int.toNat_natCast])) | with_reducible (k_here; (with_reducible show wpAny _ _ (call (Value.ref 59) _ _) _ _ _); k_dflt (refine' check ?Bqz ?Fqz ?Xqz ?Nqz ?Tqz ?hkqz ?hqqz ?haqz ?hlqz ?hdqz ?huqz ?hbqz ?_; (case Bqz => k_asm); (case Fqz => k_asm); (case Xqz => k_asm); (case Nqz => k_asm); (case Tqz => k_asm); (case hkqz => first | exact rfl | assumption); (case hqqz => assumption); (case haqz => assumption); (case hlqz => assumption); (case hdqz => ktr_room); (case huqz => ktr_units); (case hbqz => assumption); intro h12 tk12 gs12 F12 N12 hb12; (try dsimp only))) | with_reducible (k_here; (with_reducible show wpAny _ _ (call (Value.ref 199) _ _) _ _ _); k_dflt (refine' made ?Bqz ?Fqz ?Xqz ?Nqz ?Tqz ?hkqz ?hdqz ?_; (case Bqz => k_asm); (case Fqz => k_asm); (case Xqz => k_asm); (case Nqz => k_asm); (case Tqz => k_asm); (case hkqz => first | exact rfl | assumption); (case hdqz => ktr_room); intro x9 d9 l9 h9 tk9 tkk9 F9 N9 q91 q92 q93; (try dsimp only))) | walk1 | (k_here; (with_reducible show wpAny _ _ (subscriptTail _ _ (Value.ref _) (Value.int _ _)) _ _ _); refine' item_strsA ?lqz ?iqz ?aqz ?bqz ?cqz ?_; (case lqz => exact News.isList (by k_asm) (by first | k_mem | exact .tail _ (.tail _ (by assumption)) | exact .tail _ (.tail _ (.tail _ (by assumption))))); (case iqz => assumption); (case aqz => omega); (case bqz => omega); (case cqz => omega); intro _; (try simp only [Int.toNat_natCast]))))) | (leave1; walk_say "STEP leave1"; try dsimp only) | fail "no step"))
        · rename ((j : Int) < 5) => hj5
          have hj5' : j < 5 := by omega
          obtain ⟨f', rfl⟩ : ∃ f', f = f' + 1 := by
            cases f with
            | zero => exact absurd hjf (by omega)
            | succ f' => exact ⟨f', rfl⟩
          rw [mateGo, if_pos hj5'] at hmate
          obtain ⟨hqt, hat, hlt⟩ := hok i j
          have hdvl : dv.length = 6 := by rw [hds.len_eq]; exact hdl
          have hsl : StrsAre (((dv.drop i).take (j + 1 - i)).toArray.toList) ((ds.drop i).take (j + 1 - i)) := (hds.drop' i).take' _
          have hpick : (slicePick dv.toArray (some (i : Int)) (some ((j : Int) + 1)) none).toList = (dv.drop i).take (j + 1 - i) := by
            rw [show ((j : Int) + 1) = ((j + 1 : Nat) : Int) by rfl, slicePick_run dv.toArray i (j + 1) (by simp [hdvl]; omega) (by omega)]
          refine' kmk_slice_lit ?F ?N (News.isList (by assumption) (.tail _ (.tail _ (hnw _ hld)))) (.int _ _) (.int _ _) hpick ?_ (by with_unfolding_all rfl) (by intro _; with_unfolding_all rfl) (by rw [sizeLine_eq]; simp [hdvl]); (case F => k_asm); (case N => k_asm)
          intro D10 h10 F10 N10 l10
          (repeat' (first | (k_unfold; (try dsimp only)) | (k_end; wrow_close) | ((((fail_if_success (with_reducible show wpAny _ _ (call (Value.builtin "dict.items") _ _) _ _ _)); (fail_if_success (with_reducible show wpAny _ _ (call (Value.type "range") _ _) _ _ _)); (fail_if_success (with_reducible show wpAny _ _ (call (Value.ref 112) _ _) _ _ _)); (fail_if_success (with_reducible show wpAny _ _ (eval (Expr.ListComp _ _ _ _) _) _ _ _)); (fail_if_success (with_reducible show wpAny _ _ (exec (Stmt.For _ _ _ _ _) _) _ _ _)); (fail_if_success (with_reducible show wpAny _ _ (exec (Stmt.While _ _ _ _) _) _ _ _)); (fail_if_success (with_reducible show wpAny _ _ (exec (Stmt.Assign [Expr.Name _ _] (Expr.ListComp _ _ _ _) _) _) _ _ _)))); first | (first | with_reducible (k_here; (with_reducible show wpAny _ _ (subscriptTail _ _ (Value.ref _) (Value.int _ _)) _ _ _); refine' item_strsA ?lqz ?iqz ?aqz ?bqz ?cqz ?_; (case lqz => exact News.isList (by k_asm) (by first | k_mem | exact .tail _ (.tail _ (by assumption)) | exact .tail _ (.tail _ (.tail _ (by assumption))))); (case iqz => assumption); (case aqz => omega); (case bqz => omega); (case cqz => omega); intro _; (try simp only [Int.toNat_natCast])) | with_reducible (k_here; (with_reducible show wpAny _ _ (call (Value.ref 59) _ _) _ _ _); k_dflt (refine' check ?Bqz ?Fqz ?Xqz ?Nqz ?Tqz ?hkqz ?hqqz ?haqz ?hlqz ?hdqz ?huqz ?hbqz ?_; (case Bqz => k_asm); (case Fqz => k_asm); (case Xqz => k_asm); (case Nqz => k_asm); (case Tqz => k_asm); (case hkqz => first | exact rfl | assumption); (case hqqz => assumption); (case haqz => assumption); (case hlqz => assumption); (case hdqz => ktr_room); (case huqz => ktr_units); (case hbqz => assumption); intro h12 tk12 gs12 F12 N12 hb12; (try dsimp only))) | with_reducible (k_here; (with_reducible show wpAny _ _ (call (Value.ref 199) _ _) _ _ _); k_dflt (refine' made ?Bqz ?Fqz ?Xqz ?Nqz ?Tqz ?hkqz ?hdqz ?_; (case Bqz => k_asm); (case Fqz => k_asm); (case Xqz => k_asm); (case Nqz => k_asm); (case Tqz => k_asm); (case hkqz => first | exact rfl | assumption); (case hdqz => ktr_room); intro x9 d9 l9 h9 tk9 tkk9 F9 N9 q91 q92 q93; (try dsimp only))) | walk1 | (k_here; (with_reducible show wpAny _ _ (subscriptTail _ _ (Value.ref _) (Value.int _ _)) _ _ _); refine' item_strsA ?lqz ?iqz ?aqz ?bqz ?cqz ?_; (case lqz => exact News.isList (by k_asm) (by first | k_mem | exact .tail _ (.tail _ (by assumption)) | exact .tail _ (.tail _ (.tail _ (by assumption))))); (case iqz => assumption); (case aqz => omega); (case bqz => omega); (case cqz => omega); intro _; (try simp only [Int.toNat_natCast]))) | (dsimp only; ((((fail_if_success (with_reducible show wpAny _ _ (call (Value.builtin "dict.items") _ _) _ _ _)); (fail_if_success (with_reducible show wpAny _ _ (call (Value.type "range") _ _) _ _ _)); (fail_if_success (with_reducible show wpAny _ _ (call (Value.ref 112) _ _) _ _ _)); (fail_if_success (with_reducible show wpAny _ _ (eval (Expr.ListComp _ _ _ _) _) _ _ _)); (fail_if_success (with_reducible show wpAny _ _ (exec (Stmt.For _ _ _ _ _) _) _ _ _)); (fail_if_success (with_reducible show wpAny _ _ (exec (Stmt.While _ _ _ _) _) _ _ _)); (fail_if_success (with_reducible show wpAny _ _ (exec (Stmt.Assign [Expr.Name _ _] (Expr.ListComp _ _ _ _) _) _) _ _ _))))); (first | with_reducible (k_here; (with_reducible show wpAny _ _ (subscriptTail _ _ (Value.ref _) (Value.int _ _)) _ _ _); refine' item_strsA ?lqz ?iqz ?aqz ?bqz ?cqz ?_; (case lqz => exact News.isList (by k_asm) (by first | k_mem | exact .tail _ (.tail _ (by assumption)) | exact .tail _ (.tail _ (.tail _ (by assumption))))); (case iqz => assumption); (case aqz => omega); (case bqz => omega); (case cqz => omega); intro _; (try simp only [Int.toNat_natCast])) | with_reducible (k_here; (with_reducible show wpAny _ _ (call (Value.ref 59) _ _) _ _ _); k_dflt (refine' check ?Bqz ?Fqz ?Xqz ?Nqz ?Tqz ?hkqz ?hqqz ?haqz ?hlqz ?hdqz ?huqz ?hbqz ?_; (case Bqz => k_asm); (case Fqz => k_asm); (case Xqz => k_asm); (case Nqz => k_asm); (case Tqz => k_asm); (case hkqz => first | exact rfl | assumption); (case hqqz => assumption); (case haqz => assumption); (case hlqz => assumption); (case hdqz => ktr_room); (case huqz => ktr_units); (case hbqz => assumption); intro h12 tk12 gs12 F12 N12 hb12; (try dsimp only))) | with_reducible (k_here; (with_reducible show wpAny _ _ (call (Value.ref 199) _ _) _ _ _); k_dflt (refine' made ?Bqz ?Fqz ?Xqz ?Nqz ?Tqz ?hkqz ?hdqz ?_; (case Bqz => k_asm); (case Fqz => k_asm); (case Xqz => k_asm); (case Nqz => k_asm); (case Tqz => k_asm); (case hkqz => first | exact rfl | assumption); (case hdqz => ktr_room); intro x9 d9 l9 h9 tk9 tkk9 F9 N9 q91 q92 q93; (try dsimp only))) | walk1 | (k_here; (with_reducible show wpAny _ _ (subscriptTail _ _ (Value.ref _) (Value.int _ _)) _ _ _); refine' item_strsA ?lqz ?iqz ?aqz ?bqz ?cqz ?_; (case lqz => exact News.isList (by k_asm) (by first | k_mem | exact .tail _ (.tail _ (by assumption)) | exact .tail _ (.tail _ (.tail _ (by assumption))))); (case iqz => assumption); (case aqz => omega); (case bqz => omega); (case cqz => omega); intro _; (try simp only [Int.toNat_natCast]))))) | (leave1; walk_say "STEP leave1"; try dsimp only) | fail "no step"))
          refine join_listC (News.isList N10 (.head _)) hsl (by decide) (by have := hsum i (j + 1 - i); have h2 : ((ds.drop i).take (j + 1 - i)).length ≤ 6 := by (simp [hdl]; omega)
                                                                            omega) ?_
          intro t11 k11
          (repeat' (first | (k_unfold; (try dsimp only)) | (k_end; wrow_close) | ((((fail_if_success (with_reducible show wpAny _ _ (call (Value.builtin "dict.items") _ _) _ _ _)); (fail_if_success (with_reducible show wpAny _ _ (call (Value.type "range") _ _) _ _ _)); (fail_if_success (with_reducible show wpAny _ _ (call (Value.ref 112) _ _) _ _ _)); (fail_if_success (with_reducible show wpAny _ _ (eval (Expr.ListComp _ _ _ _) _) _ _ _)); (fail_if_success (with_reducible show wpAny _ _ (exec (Stmt.For _ _ _ _ _) _) _ _ _)); (fail_if_success (with_reducible show wpAny _ _ (exec (Stmt.While _ _ _ _) _) _ _ _)); (fail_if_success (with_reducible show wpAny _ _ (exec (Stmt.Assign [Expr.Name _ _] (Expr.ListComp _ _ _ _) _) _) _ _ _)))); first | (first | with_reducible (k_here; (with_reducible show wpAny _ _ (subscriptTail _ _ (Value.ref _) (Value.int _ _)) _ _ _); refine' item_strsA ?lqz ?iqz ?aqz ?bqz ?cqz ?_; (case lqz => exact News.isList (by k_asm) (by first | k_mem | exact .tail _ (.tail _ (by assumption)) | exact .tail _ (.tail _ (.tail _ (by assumption))))); (case iqz => assumption); (case aqz => omega); (case bqz => omega); (case cqz => omega); intro _; (try simp only [Int.toNat_natCast])) | with_reducible (k_here; (with_reducible show wpAny _ _ (call (Value.ref 59) _ _) _ _ _); k_dflt (refine' check ?Bqz ?Fqz ?Xqz ?Nqz ?Tqz ?hkqz ?hqqz ?haqz ?hlqz ?hdqz ?huqz ?hbqz ?_; (case Bqz => k_asm); (case Fqz => k_asm); (case Xqz => k_asm); (case Nqz => k_asm); (case Tqz => k_asm); (case hkqz => first | exact rfl | assumption); (case hqqz => assumption); (case haqz => assumption); (case hlqz => assumption); (case hdqz => ktr_room); (case huqz => ktr_units); (case hbqz => assumption); intro h12 tk12 gs12 F12 N12 hb12; (try dsimp only))) | with_reducible (k_here; (with_reducible show wpAny _ _ (call (Value.ref 199) _ _) _ _ _); k_dflt (refine' made ?Bqz ?Fqz ?Xqz ?Nqz ?Tqz ?hkqz ?hdqz ?_; (case Bqz => k_asm); (case Fqz => k_asm); (case Xqz => k_asm); (case Nqz => k_asm); (case Tqz => k_asm); (case hkqz => first | exact rfl | assumption); (case hdqz => ktr_room); intro x9 d9 l9 h9 tk9 tkk9 F9 N9 q91 q92 q93; (try dsimp only))) | walk1 | (k_here; (with_reducible show wpAny _ _ (subscriptTail _ _ (Value.ref _) (Value.int _ _)) _ _ _); refine' item_strsA ?lqz ?iqz ?aqz ?bqz ?cqz ?_; (case lqz => exact News.isList (by k_asm) (by first | k_mem | exact .tail _ (.tail _ (by assumption)) | exact .tail _ (.tail _ (.tail _ (by assumption))))); (case iqz => assumption); (case aqz => omega); (case bqz => omega); (case cqz => omega); intro _; (try simp only [Int.toNat_natCast]))) | (dsimp only; ((((fail_if_success (with_reducible show wpAny _ _ (call (Value.builtin "dict.items") _ _) _ _ _)); (fail_if_success (with_reducible show wpAny _ _ (call (Value.type "range") _ _) _ _ _)); (fail_if_success (with_reducible show wpAny _ _ (call (Value.ref 112) _ _) _ _ _)); (fail_if_success (with_reducible show wpAny _ _ (eval (Expr.ListComp _ _ _ _) _) _ _ _)); (fail_if_success (with_reducible show wpAny _ _ (exec (Stmt.For _ _ _ _ _) _) _ _ _)); (fail_if_success (with_reducible show wpAny _ _ (exec (Stmt.While _ _ _ _) _) _ _ _)); (fail_if_success (with_reducible show wpAny _ _ (exec (Stmt.Assign [Expr.Name _ _] (Expr.ListComp _ _ _ _) _) _) _ _ _))))); (first | with_reducible (k_here; (with_reducible show wpAny _ _ (subscriptTail _ _ (Value.ref _) (Value.int _ _)) _ _ _); refine' item_strsA ?lqz ?iqz ?aqz ?bqz ?cqz ?_; (case lqz => exact News.isList (by k_asm) (by first | k_mem | exact .tail _ (.tail _ (by assumption)) | exact .tail _ (.tail _ (.tail _ (by assumption))))); (case iqz => assumption); (case aqz => omega); (case bqz => omega); (case cqz => omega); intro _; (try simp only [Int.toNat_natCast])) | with_reducible (k_here; (with_reducible show wpAny _ _ (call (Value.ref 59) _ _) _ _ _); k_dflt (refine' check ?Bqz ?Fqz ?Xqz ?Nqz ?Tqz ?hkqz ?hqqz ?haqz ?hlqz ?hdqz ?huqz ?hbqz ?_; (case Bqz => k_asm); (case Fqz => k_asm); (case Xqz => k_asm); (case Nqz => k_asm); (case Tqz => k_asm); (case hkqz => first | exact rfl | assumption); (case hqqz => assumption); (case haqz => assumption); (case hlqz => assumption); (case hdqz => ktr_room); (case huqz => ktr_units); (case hbqz => assumption); intro h12 tk12 gs12 F12 N12 hb12; (try dsimp only))) | with_reducible (k_here; (with_reducible show wpAny _ _ (call (Value.ref 199) _ _) _ _ _); k_dflt (refine' made ?Bqz ?Fqz ?Xqz ?Nqz ?Tqz ?hkqz ?hdqz ?_; (case Bqz => k_asm); (case Fqz => k_asm); (case Xqz => k_asm); (case Nqz => k_asm); (case Tqz => k_asm); (case hkqz => first | exact rfl | assumption); (case hdqz => ktr_room); intro x9 d9 l9 h9 tk9 tkk9 F9 N9 q91 q92 q93; (try dsimp only))) | walk1 | (k_here; (with_reducible show wpAny _ _ (subscriptTail _ _ (Value.ref _) (Value.int _ _)) _ _ _); refine' item_strsA ?lqz ?iqz ?aqz ?bqz ?cqz ?_; (case lqz => exact News.isList (by k_asm) (by first | k_mem | exact .tail _ (.tail _ (by assumption)) | exact .tail _ (.tail _ (.tail _ (by assumption))))); (case iqz => assumption); (case aqz => omega); (case bqz => omega); (case cqz => omega); intro _; (try simp only [Int.toNat_natCast]))))) | (leave1; walk_say "STEP leave1"; try dsimp only) | fail "no step"))
          · rename chk _ = true => hc
            rename News _ _ _ (_ :: _ :: _ :: _) => Nz
            refine hS _ ?_
            exact ⟨_, _, _, _, _, rfl, by k_asm, fun p hp => Nz p (.tail _ hp), by
              intro y hy
              simp only [off_ne hy (x := PySem.Str.ofString "j") (by rfl), hy, Bool.false_eq_true, if_false], rfl, by assumption, tj, by
              rw [← hmate, if_pos hc]; rfl⟩
          · rename chk _ = false => hc
            rename News _ _ _ (_ :: _ :: _ :: _) => Nz
            rw [if_neg (fun e => absurd (hc.symm.trans e) (by decide))] at hmate
            refine hR _ _ ?_
            exact ⟨_, _, _, _, _, rfl, by k_asm, fun p hp => Nz p (.tail _ hp), by
              intro y hy
              simp only [off_ne hy (x := PySem.Str.ofString "j") (by rfl), hy, Bool.false_eq_true, if_false], f', Nat.lt_succ_self _, rfl, by assumption, j + 2, _, rfl, hmate, by omega, by omega⟩
        · rename ¬ ((j : Int) < 5) => hj5
          have hj5' : ¬ j < 5 := by omega
          rw [mateGo_ge hj5'] at hmate
          refine hS _ ?_
          exact ⟨_, _, _, _, _, rfl, by k_asm, by k_asm, by
              intro y hy
              simp only [off_ne hy (x := PySem.Str.ofString "j") (by rfl), hy, Bool.false_eq_true, if_false], rfl, hbare7, tj, by
            rw [← hmate]; rfl⟩
      · rintro u7 nw7 h7 tk7 gs7 ⟨rfl, hbare7, tj, hj⟩ F8 N8
        have F9 := fr_track F8 hj
        have N9 := news_swap N8
        clear F8 N8
        obtain ⟨hm6, hno1, hno2⟩ := hmt i hi hsg
        have hlnr := hnw _ hln
        dsimp only
        (repeat' (first | (k_unfold; (try dsimp only)) | (k_end; wrow_close) | ((((fail_if_success (with_reducible show wpAny _ _ (call (Value.builtin "dict.items") _ _) _ _ _)); (fail_if_success (with_reducible show wpAny _ _ (call (Value.type "range") _ _) _ _ _)); (fail_if_success (with_reducible show wpAny _ _ (call (Value.ref 112) _ _) _ _ _)); (fail_if_success (with_reducible show wpAny _ _ (eval (Expr.ListComp _ _ _ _) _) _ _ _)); (fail_if_success (with_reducible show wpAny _ _ (exec (Stmt.For _ _ _ _ _) _) _ _ _)); (fail_if_success (with_reducible show wpAny _ _ (exec (Stmt.While _ _ _ _) _) _ _ _)); (fail_if_success (with_reducible show wpAny _ _ (exec (Stmt.Assign [Expr.Name _ _] (Expr.ListComp _ _ _ _) _) _) _ _ _)))); first | (first | with_reducible (k_here; (with_reducible show wpAny _ _ (subscriptTail _ _ (Value.ref _) (Value.int _ _)) _ _ _); refine' item_strsA ?lqz ?iqz ?aqz ?bqz ?cqz ?_; (case lqz => exact News.isList (by k_asm) (by first | k_mem | exact .tail _ (.tail _ (by assumption)) | exact .tail _ (.tail _ (.tail _ (by assumption))))); (case iqz => assumption); (case aqz => omega); (case bqz => omega); (case cqz => omega); intro _; (try simp only [Int.toNat_natCast])) | with_reducible (k_here; (with_reducible show wpAny _ _ (call (Value.ref 59) _ _) _ _ _); k_dflt (refine' check ?Bqz ?Fqz ?Xqz ?Nqz ?Tqz ?hkqz ?hqqz ?haqz ?hlqz ?hdqz ?huqz ?hbqz ?_; (case Bqz => k_asm); (case Fqz => k_asm); (case Xqz => k_asm); (case Nqz => k_asm); (case Tqz => k_asm); (case hkqz => first | exact rfl | assumption); (case hqqz => assumption); (case haqz => assumption); (case hlqz => assumption); (case hdqz => ktr_room); (case huqz => ktr_units); (case hbqz => assumption); intro h12 tk12 gs12 F12 N12 hb12; (try dsimp only))) | with_reducible (k_here; (with_reducible show wpAny _ _ (call (Value.ref 199) _ _) _ _ _); k_dflt (refine' made ?Bqz ?Fqz ?Xqz ?Nqz ?Tqz ?hkqz ?hdqz ?_; (case Bqz => k_asm); (case Fqz => k_asm); (case Xqz => k_asm); (case Nqz => k_asm); (case Tqz => k_asm); (case hkqz => first | exact rfl | assumption); (case hdqz => ktr_room); intro x9 d9 l9 h9 tk9 tkk9 F9 N9 q91 q92 q93; (try dsimp only))) | walk1 | (k_here; (with_reducible show wpAny _ _ (subscriptTail _ _ (Value.ref _) (Value.int _ _)) _ _ _); refine' item_strsA ?lqz ?iqz ?aqz ?bqz ?cqz ?_; (case lqz => exact News.isList (by k_asm) (by first | k_mem | exact .tail _ (.tail _ (by assumption)) | exact .tail _ (.tail _ (.tail _ (by assumption))))); (case iqz => assumption); (case aqz => omega); (case bqz => omega); (case cqz => omega); intro _; (try simp only [Int.toNat_natCast]))) | (dsimp only; ((((fail_if_success (with_reducible show wpAny _ _ (call (Value.builtin "dict.items") _ _) _ _ _)); (fail_if_success (with_reducible show wpAny _ _ (call (Value.type "range") _ _) _ _ _)); (fail_if_success (with_reducible show wpAny _ _ (call (Value.ref 112) _ _) _ _ _)); (fail_if_success (with_reducible show wpAny _ _ (eval (Expr.ListComp _ _ _ _) _) _ _ _)); (fail_if_success (with_reducible show wpAny _ _ (exec (Stmt.For _ _ _ _ _) _) _ _ _)); (fail_if_success (with_reducible show wpAny _ _ (exec (Stmt.While _ _ _ _) _) _ _ _)); (fail_if_success (with_reducible show wpAny _ _ (exec (Stmt.Assign [Expr.Name _ _] (Expr.ListComp _ _ _ _) _) _) _ _ _))))); (first | with_reducible (k_here; (with_reducible show wpAny _ _ (subscriptTail _ _ (Value.ref _) (Value.int _ _)) _ _ _); refine' item_strsA ?lqz ?iqz ?aqz ?bqz ?cqz ?_; (case lqz => exact News.isList (by k_asm) (by first | k_mem | exact .tail _ (.tail _ (by assumption)) | exact .tail _ (.tail _ (.tail _ (by assumption))))); (case iqz => assumption); (case aqz => omega); (case bqz => omega); (case cqz => omega); intro _; (try simp only [Int.toNat_natCast])) | with_reducible (k_here; (with_reducible show wpAny _ _ (call (Value.ref 59) _ _) _ _ _); k_dflt (refine' check ?Bqz ?Fqz ?Xqz ?Nqz ?Tqz ?hkqz ?hqqz ?haqz ?hlqz ?hdqz ?huqz ?hbqz ?_; (case Bqz => k_asm); (case Fqz => k_asm); (case Xqz => k_asm); (case Nqz => k_asm); (case Tqz => k_asm); (case hkqz => first | exact rfl | assumption); (case hqqz => assumption); (case haqz => assumption); (case hlqz => assumption); (case hdqz => ktr_room); (case huqz => ktr_units); (case hbqz => assumption); intro h12 tk12 gs12 F12 N12 hb12; (try dsimp only))) | with_reducible (k_here; (with_reducible show wpAny _ _ (call (Value.ref 199) _ _) _ _ _); k_dflt (refine' made ?Bqz ?Fqz ?Xqz ?Nqz ?Tqz ?hkqz ?hdqz ?_; (case Bqz => k_asm); (case Fqz => k_asm); (case Xqz => k_asm); (case Nqz => k_asm); (case Tqz => k_asm); (case hkqz => first | exact rfl | assumption); (case hdqz => ktr_room); intro x9 d9 l9 h9 tk9 tkk9 F9 N9 q91 q92 q93; (try dsimp only))) | walk1 | (k_here; (with_reducible show wpAny _ _ (subscriptTail _ _ (Value.ref _) (Value.int _ _)) _ _ _); refine' item_strsA ?lqz ?iqz ?aqz ?bqz ?cqz ?_; (case lqz => exact News.isList (by k_asm) (by first | k_mem | exact .tail _ (.tail _ (by assumption)) | exact .tail _ (.tail _ (.tail _ (by assumption))))); (case iqz => assumption); (case aqz => omega); (case bqz => omega); (case cqz => omega); intro _; (try simp only [Int.toNat_natCast]))))) | (leave1; walk_say "STEP leave1"; try dsimp only) | fail "no step"))
        have hA := hcl i
        have hB := hcl (mate (segC ds) i)
        have hIl : I ≠ l9 := fun e => offI _ (.head _) e.symm
        refine' set_ (t := x9) (d := d9) (l := l9) (its := its) (tkk := tkk9) (n := n6) (rest := (I, oI) :: rest) (ps := psOf br ds ns i) ?B ?F ?X ?N ?T ?hk rfl (by omega) ?hlr (.tail _ hin) (.tail _ hdi) (hPA.mono fun p hp => .tail _ hp) hno1 hA.2.1 hA.1 hB.1 hA.2.2 (pairs_keys (fun x => x.length < 100) (fun k => (hcl k).2.2) i) ?hd ?_; (case B => k_asm); (case F => k_asm); (case X => k_asm); (case N => k_asm); (case T => k_asm); (case hk => rfl); (case hd => ktr_room)
        · intro p hp
          rcases List.mem_cons.mp hp with rfl | hp
          · exact hIl
          · exact hlr p hp
        intro h13 tk13 a13 t13 u13 n13 F13 N13 l13
        have N14 := news_swap N13
        clear N13
        (repeat' (first | (k_unfold; (try dsimp only)) | (k_end; wrow_close) | ((((fail_if_success (with_reducible show wpAny _ _ (call (Value.builtin "dict.items") _ _) _ _ _)); (fail_if_success (with_reducible show wpAny _ _ (call (Value.type "range") _ _) _ _ _)); (fail_if_success (with_reducible show wpAny _ _ (call (Value.ref 112) _ _) _ _ _)); (fail_if_success (with_reducible show wpAny _ _ (eval (Expr.ListComp _ _ _ _) _) _ _ _)); (fail_if_success (with_reducible show wpAny _ _ (exec (Stmt.For _ _ _ _ _) _) _ _ _)); (fail_if_success (with_reducible show wpAny _ _ (exec (Stmt.While _ _ _ _) _) _ _ _)); (fail_if_success (with_reducible show wpAny _ _ (exec (Stmt.Assign [Expr.Name _ _] (Expr.ListComp _ _ _ _) _) _) _ _ _)))); first | (first | with_reducible (k_here; (with_reducible show wpAny _ _ (subscriptTail _ _ (Value.ref _) (Value.int _ _)) _ _ _); refine' item_strsA ?lqz ?iqz ?aqz ?bqz ?cqz ?_; (case lqz => exact News.isList (by k_asm) (by first | k_mem | exact .tail _ (.tail _ (by assumption)) | exact .tail _ (.tail _ (.tail _ (by assumption))))); (case iqz => assumption); (case aqz => omega); (case bqz => omega); (case cqz => omega); intro _; (try simp only [Int.toNat_natCast])) | with_reducible (k_here; (with_reducible show wpAny _ _ (call (Value.ref 59) _ _) _ _ _); k_dflt (refine' check ?Bqz ?Fqz ?Xqz ?Nqz ?Tqz ?hkqz ?hqqz ?haqz ?hlqz ?hdqz ?huqz ?hbqz ?_; (case Bqz => k_asm); (case Fqz => k_asm); (case Xqz => k_asm); (case Nqz => k_asm); (case Tqz => k_asm); (case hkqz => first | exact rfl | assumption); (case hqqz => assumption); (case haqz => assumption); (case hlqz => assumption); (case hdqz => ktr_room); (case huqz => ktr_units); (case hbqz => assumption); intro h12 tk12 gs12 F12 N12 hb12; (try dsimp only))) | with_reducible (k_here; (with_reducible show wpAny _ _ (call (Value.ref 199) _ _) _ _ _); k_dflt (refine' made ?Bqz ?Fqz ?Xqz ?Nqz ?Tqz ?hkqz ?hdqz ?_; (case Bqz => k_asm); (case Fqz => k_asm); (case Xqz => k_asm); (case Nqz => k_asm); (case Tqz => k_asm); (case hkqz => first | exact rfl | assumption); (case hdqz => ktr_room); intro x9 d9 l9 h9 tk9 tkk9 F9 N9 q91 q92 q93; (try dsimp only))) | walk1 | (k_here; (with_reducible show wpAny _ _ (subscriptTail _ _ (Value.ref _) (Value.int _ _)) _ _ _); refine' item_strsA ?lqz ?iqz ?aqz ?bqz ?cqz ?_; (case lqz => exact News.isList (by k_asm) (by first | k_mem | exact .tail _ (.tail _ (by assumption)) | exact .tail _ (.tail _ (.tail _ (by assumption))))); (case iqz => assumption); (case aqz => omega); (case bqz => omega); (case cqz => omega); intro _; (try simp only [Int.toNat_natCast]))) | (dsimp only; ((((fail_if_success (with_reducible show wpAny _ _ (call (Value.builtin "dict.items") _ _) _ _ _)); (fail_if_success (with_reducible show wpAny _ _ (call (Value.type "range") _ _) _ _ _)); (fail_if_success (with_reducible show wpAny _ _ (call (Value.ref 112) _ _) _ _ _)); (fail_if_success (with_reducible show wpAny _ _ (eval (Expr.ListComp _ _ _ _) _) _ _ _)); (fail_if_success (with_reducible show wpAny _ _ (exec (Stmt.For _ _ _ _ _) _) _ _ _)); (fail_if_success (with_reducible show wpAny _ _ (exec (Stmt.While _ _ _ _) _) _ _ _)); (fail_if_success (with_reducible show wpAny _ _ (exec (Stmt.Assign [Expr.Name _ _] (Expr.ListComp _ _ _ _) _) _) _ _ _))))); (first | with_reducible (k_here; (with_reducible show wpAny _ _ (subscriptTail _ _ (Value.ref _) (Value.int _ _)) _ _ _); refine' item_strsA ?lqz ?iqz ?aqz ?bqz ?cqz ?_; (case lqz => exact News.isList (by k_asm) (by first | k_mem | exact .tail _ (.tail _ (by assumption)) | exact .tail _ (.tail _ (.tail _ (by assumption))))); (case iqz => assumption); (case aqz => omega); (case bqz => omega); (case cqz => omega); intro _; (try simp only [Int.toNat_natCast])) | with_reducible (k_here; (with_reducible show wpAny _ _ (call (Value.ref 59) _ _) _ _ _); k_dflt (refine' check ?Bqz ?Fqz ?Xqz ?Nqz ?Tqz ?hkqz ?hqqz ?haqz ?hlqz ?hdqz ?huqz ?hbqz ?_; (case Bqz => k_asm); (case Fqz => k_asm); (case Xqz => k_asm); (case Nqz => k_asm); (case Tqz => k_asm); (case hkqz => first | exact rfl | assumption); (case hqqz => assumption); (case haqz => assumption); (case hlqz => assumption); (case hdqz => ktr_room); (case huqz => ktr_units); (case hbqz => assumption); intro h12 tk12 gs12 F12 N12 hb12; (try dsimp only))) | with_reducible (k_here; (with_reducible show wpAny _ _ (call (Value.ref 199) _ _) _ _ _); k_dflt (refine' made ?Bqz ?Fqz ?Xqz ?Nqz ?Tqz ?hkqz ?hdqz ?_; (case Bqz => k_asm); (case Fqz => k_asm); (case Xqz => k_asm); (case Nqz => k_asm); (case Tqz => k_asm); (case hkqz => first | exact rfl | assumption); (case hdqz => ktr_room); intro x9 d9 l9 h9 tk9 tkk9 F9 N9 q91 q92 q93; (try dsimp only))) | walk1 | (k_here; (with_reducible show wpAny _ _ (subscriptTail _ _ (Value.ref _) (Value.int _ _)) _ _ _); refine' item_strsA ?lqz ?iqz ?aqz ?bqz ?cqz ?_; (case lqz => exact News.isList (by k_asm) (by first | k_mem | exact .tail _ (.tail _ (by assumption)) | exact .tail _ (.tail _ (.tail _ (by assumption))))); (case iqz => assumption); (case aqz => omega); (case bqz => omega); (case cqz => omega); intro _; (try simp only [Int.toNat_natCast]))))) | (leave1; walk_say "STEP leave1"; try dsimp only) | fail "no step"))
        have l13b := ktn_ltOf l13.2
        refine' set_ (t := x9) (d := d9) (l := l9) (its := its ++ [.ref a13]) (tkk := tkk9) (n := n13) (rest := (a13, tup2 _ _ t13 u13) :: (I, oI) :: rest) (ps := psOf br ds ns i ++ [(ns.getD i PySem.Str.empty, ns.getD (mate (segC ds) i) PySem.Str.empty)]) ?B2 ?F2 ?X2 ?N2 ?T2 ?hk2 rfl (by simp; omega) ?hlr2 (.tail _ (.tail _ hin)) (.tail _ (.tail _ hdi)) ((hPA.mono fun p hp => .tail _ (.tail _ hp)).snoc (.head _)) hno2 hB.2.1 hB.1 hA.1 hB.2.2 ?hks2 ?hd2 ?_; (case B2 => k_asm); (case F2 => k_asm); (case X2 => k_asm); (case N2 => k_asm); (case T2 => k_asm); (case hk2 => rfl); (case hd2 => ktr_room)
        · intro p hp
          rcases List.mem_cons.mp hp with rfl | hp
          · exact Nat.ne_of_gt l13.1
          · rcases List.mem_cons.mp hp with rfl | hp
            · exact hIl
            · exact hlr p hp
        · intro p hp
          rcases List.mem_append.mp hp with hp | hp
          · exact pairs_keys (fun x => x.length < 100) (fun k => (hcl k).2.2) i p hp
          · rw [List.mem_singleton.mp hp]; exact hA.2.2
        intro h15 tk15 a15 t15 u15 n15 F15 N15 l15
        (repeat' (first | (k_unfold; (try dsimp only)) | (k_end; wrow_close) | ((((fail_if_success (with_reducible show wpAny _ _ (call (Value.builtin "dict.items") _ _) _ _ _)); (fail_if_success (with_reducible show wpAny _ _ (call (Value.type "range") _ _) _ _ _)); (fail_if_success (with_reducible show wpAny _ _ (call (Value.ref 112) _ _) _ _ _)); (fail_if_success (with_reducible show wpAny _ _ (eval (Expr.ListComp _ _ _ _) _) _ _ _)); (fail_if_success (with_reducible show wpAny _ _ (exec (Stmt.For _ _ _ _ _) _) _ _ _)); (fail_if_success (with_reducible show wpAny _ _ (exec (Stmt.While _ _ _ _) _) _ _ _)); (fail_if_success (with_reducible show wpAny _ _ (exec (Stmt.Assign [Expr.Name _ _] (Expr.ListComp _ _ _ _) _) _) _ _ _)))); first | (first | with_reducible (k_here; (with_reducible show wpAny _ _ (subscriptTail _ _ (Value.ref _) (Value.int _ _)) _ _ _); refine' item_strsA ?lqz ?iqz ?aqz ?bqz ?cqz ?_; (case lqz => exact News.isList (by k_asm) (by first | k_mem | exact .tail _ (.tail _ (by assumption)) | exact .tail _ (.tail _ (.tail _ (by assumption))))); (case iqz => assumption); (case aqz => omega); (case bqz => omega); (case cqz => omega); intro _; (try simp only [Int.toNat_natCast])) | with_reducible (k_here; (with_reducible show wpAny _ _ (call (Value.ref 59) _ _) _ _ _); k_dflt (refine' check ?Bqz ?Fqz ?Xqz ?Nqz ?Tqz ?hkqz ?hqqz ?haqz ?hlqz ?hdqz ?huqz ?hbqz ?_; (case Bqz => k_asm); (case Fqz => k_asm); (case Xqz => k_asm); (case Nqz => k_asm); (case Tqz => k_asm); (case hkqz => first | exact rfl | assumption); (case hqqz => assumption); (case haqz => assumption); (case hlqz => assumption); (case hdqz => ktr_room); (case huqz => ktr_units); (case hbqz => assumption); intro h12 tk12 gs12 F12 N12 hb12; (try dsimp only))) | with_reducible (k_here; (with_reducible show wpAny _ _ (call (Value.ref 199) _ _) _ _ _); k_dflt (refine' made ?Bqz ?Fqz ?Xqz ?Nqz ?Tqz ?hkqz ?hdqz ?_; (case Bqz => k_asm); (case Fqz => k_asm); (case Xqz => k_asm); (case Nqz => k_asm); (case Tqz => k_asm); (case hkqz => first | exact rfl | assumption); (case hdqz => ktr_room); intro x9 d9 l9 h9 tk9 tkk9 F9 N9 q91 q92 q93; (try dsimp only))) | walk1 | (k_here; (with_reducible show wpAny _ _ (subscriptTail _ _ (Value.ref _) (Value.int _ _)) _ _ _); refine' item_strsA ?lqz ?iqz ?aqz ?bqz ?cqz ?_; (case lqz => exact News.isList (by k_asm) (by first | k_mem | exact .tail _ (.tail _ (by assumption)) | exact .tail _ (.tail _ (.tail _ (by assumption))))); (case iqz => assumption); (case aqz => omega); (case bqz => omega); (case cqz => omega); intro _; (try simp only [Int.toNat_natCast]))) | (dsimp only; ((((fail_if_success (with_reducible show wpAny _ _ (call (Value.builtin "dict.items") _ _) _ _ _)); (fail_if_success (with_reducible show wpAny _ _ (call (Value.type "range") _ _) _ _ _)); (fail_if_success (with_reducible show wpAny _ _ (call (Value.ref 112) _ _) _ _ _)); (fail_if_success (with_reducible show wpAny _ _ (eval (Expr.ListComp _ _ _ _) _) _ _ _)); (fail_if_success (with_reducible show wpAny _ _ (exec (Stmt.For _ _ _ _ _) _) _ _ _)); (fail_if_success (with_reducible show wpAny _ _ (exec (Stmt.While _ _ _ _) _) _ _ _)); (fail_if_success (with_reducible show wpAny _ _ (exec (Stmt.Assign [Expr.Name _ _] (Expr.ListComp _ _ _ _) _) _) _ _ _))))); (first | with_reducible (k_here; (with_reducible show wpAny _ _ (subscriptTail _ _ (Value.ref _) (Value.int _ _)) _ _ _); refine' item_strsA ?lqz ?iqz ?aqz ?bqz ?cqz ?_; (case lqz => exact News.isList (by k_asm) (by first | k_mem | exact .tail _ (.tail _ (by assumption)) | exact .tail _ (.tail _ (.tail _ (by assumption))))); (case iqz => assumption); (case aqz => omega); (case bqz => omega); (case cqz => omega); intro _; (try simp only [Int.toNat_natCast])) | with_reducible (k_here; (with_reducible show wpAny _ _ (call (Value.ref 59) _ _) _ _ _); k_dflt (refine' check ?Bqz ?Fqz ?Xqz ?Nqz ?Tqz ?hkqz ?hqqz ?haqz ?hlqz ?hdqz ?huqz ?hbqz ?_; (case Bqz => k_asm); (case Fqz => k_asm); (case Xqz => k_asm); (case Nqz => k_asm); (case Tqz => k_asm); (case hkqz => first | exact rfl | assumption); (case hqqz => assumption); (case haqz => assumption); (case hlqz => assumption); (case hdqz => ktr_room); (case huqz => ktr_units); (case hbqz => assumption); intro h12 tk12 gs12 F12 N12 hb12; (try dsimp only))) | with_reducible (k_here; (with_reducible show wpAny _ _ (call (Value.ref 199) _ _) _ _ _); k_dflt (refine' made ?Bqz ?Fqz ?Xqz ?Nqz ?Tqz ?hkqz ?hdqz ?_; (case Bqz => k_asm); (case Fqz => k_asm); (case Xqz => k_asm); (case Nqz => k_asm); (case Tqz => k_asm); (case hkqz => first | exact rfl | assumption); (case hdqz => ktr_room); intro x9 d9 l9 h9 tk9 tkk9 F9 N9 q91 q92 q93; (try dsimp only))) | walk1 | (k_here; (with_reducible show wpAny _ _ (subscriptTail _ _ (Value.ref _) (Value.int _ _)) _ _ _); refine' item_strsA ?lqz ?iqz ?aqz ?bqz ?cqz ?_; (case lqz => exact News.isList (by k_asm) (by first | k_mem | exact .tail _ (.tail _ (by assumption)) | exact .tail _ (.tail _ (.tail _ (by assumption))))); (case iqz => assumption); (case aqz => omega); (case bqz => omega); (case cqz => omega); intro _; (try simp only [Int.toNat_natCast]))))) | (leave1; walk_say "STEP leave1"; try dsimp only) | fail "no step"))
        have l15b := ktn_ltOf l15.2
        have e : psOf br ds ns (i + 1) = (psOf br ds ns i ++ [(ns.getD i PySem.Str.empty, ns.getD (mate (segC ds) i) PySem.Str.empty)]) ++ [(ns.getD (mate (segC ds) i) PySem.Str.empty, ns.getD i PySem.Str.empty)] := by
          show pairsUp _ _ _ (i + 1) = _
          rw [pairsUp, if_pos hsg, List.append_assoc]; rfl
        rename News _ _ _ (_ :: _ :: _ :: _ :: _) => Nz
        refine hR _ _ ?_
        refine ⟨_, _, _, _, (l9, listOf (its ++ [Value.ref a13] ++ [Value.ref a15]).toArray n15) :: (a15, tup2 (ns.getD (mate (segC ds) i) PySem.Str.empty) (ns.getD i PySem.Str.empty) t15 u15) :: (a13, tup2 (ns.getD i PySem.Str.empty) (ns.getD (mate (segC ds) i) PySem.Str.empty) t13 u13) :: rest, rfl, by k_asm, fun p hp => Nz p ?_, ?_, by
            intro y hy
            have hyj : [PySem.Str.ofString "j"].contains y = false := by
              simp only [List.contains_cons, Bool.or_eq_false_iff] at hy ⊢
              exact hy.2
            simp only [off_ne hy (x := PySem.Str.ofString "j") (by rfl), off_ne hy (x := PySem.Str.ofString "i") (by rfl), hy, hyj, Bool.false_eq_true, if_false], hbare7, its ++ [Value.ref a13] ++ [Value.ref a15], n15, _, rfl, ?_, .tail _ (.tail _ hin), .tail _ (.tail _ hdi), fun p hp => .tail _ (.tail _ (hnw p hp)), ?_, by simp; omega, ?_⟩
        · rcases List.mem_cons.mp hp with rfl | hp
          · exact .tail _ (.tail _ (.tail _ (.head _)))
          · rcases List.mem_cons.mp hp with rfl | hp
            · exact .tail _ (.head _)
            · rcases List.mem_cons.mp hp with rfl | hp
              · exact .head _
              · rcases List.mem_cons.mp hp with rfl | hp
                · exact .tail _ (.tail _ (.head _))
                · exact .tail _ (.tail _ (.tail _ (.tail _ hp)))
        · intro p hp
          rcases List.mem_cons.mp hp with rfl | hp
          · exact hIl.symm
          · rcases List.mem_cons.mp hp with rfl | hp
            · exact Nat.ne_of_gt (l15b _ (.tail _ (.head _)))
            · rcases List.mem_cons.mp hp with rfl | hp
              · exact Nat.ne_of_gt (l13b _ (.head _))
              · exact offI p (.tail _ hp)
        · intro p hp
          rcases List.mem_cons.mp hp with rfl | hp
          · exact Nat.ne_of_gt l15.1
          · rcases List.mem_cons.mp hp with rfl | hp
            · exact Nat.ne_of_gt l13.1
            · exact hlr p hp
        · rw [e]
          exact ((hPA.mono fun p hp => .tail _ (.tail _ hp)).snoc (.tail _ (.head _))).snoc (.head _)
        · rw [e]
          exact hfr.snoc2 (fun q hq => l13b _ (.tail _ (hnw q hq))) (fun q hq => l15b _ (.tail _ (.tail _ (hnw q hq))))
    · rename (Txt.item br _ == _) = false => hsg
      have e : psOf br ds ns (i + 1) = psOf br ds ns i := by
        show pairsUp _ _ _ (i + 1) = _
        rw [pairsUp, if_neg (by show ¬ ((Txt.item br (i : Int) == PySem.Str.ofString "(") = true); rw [hsg]; decide)]
      refine hR _ _ ?_
      exact ⟨_, _, _, _, _, rfl, by k_asm, by k_asm, offI, by
            intro y hy
            simp only [off_ne hy (x := PySem.Str.ofString "j") (by rfl), off_ne hy (x := PySem.Str.ofString "i") (by rfl), hy, Bool.false_eq_true, if_false], hbare, its, n6, rest, rfl, hlr, hin, hdi, hnw, by rw [e]; exact hPA, by omega, by rw [e]; exact hfr⟩
  · rintro u nw h6 tk6 gs6 ⟨hbare, its, n6, rest, rfl, hlr, hin, hdi, hnw, hPA, hlen, hfr⟩ F6 N6
    dsimp only
    (repeat' (first | (k_unfold; (try dsimp only)) | (k_end; wrow_close) | ((((fail_if_success (with_reducible show wpAny _ _ (call (Value.builtin "dict.items") _ _) _ _ _)); (fail_if_success (with_reducible show wpAny _ _ (call (Value.type "range") _ _) _ _ _)); (fail_if_success (with_reducible show wpAny _ _ (call (Value.ref 112) _ _) _ _ _)); (fail_if_success (with_reducible show wpAny _ _ (eval (Expr.ListComp _ _ _ _) _) _ _ _)); (fail_if_success (with_reducible show wpAny _ _ (exec (Stmt.For _ _ _ _ _) _) _ _ _)); (fail_if_success (with_reducible show wpAny _ _ (exec (Stmt.While _ _ _ _) _) _ _ _)); (fail_if_success (with_reducible show wpAny _ _ (exec (Stmt.Assign [Expr.Name _ _] (Expr.ListComp _ _ _ _) _) _) _ _ _)))); first | (first | with_reducible (k_here; (with_reducible show wpAny _ _ (subscriptTail _ _ (Value.ref _) (Value.int _ _)) _ _ _); refine' item_strsA ?lqz ?iqz ?aqz ?bqz ?cqz ?_; (case lqz => exact News.isList (by k_asm) (by first | k_mem | exact .tail _ (.tail _ (by assumption)) | exact .tail _ (.tail _ (.tail _ (by assumption))))); (case iqz => assumption); (case aqz => omega); (case bqz => omega); (case cqz => omega); intro _; (try simp only [Int.toNat_natCast])) | with_reducible (k_here; (with_reducible show wpAny _ _ (call (Value.ref 59) _ _) _ _ _); k_dflt (refine' check ?Bqz ?Fqz ?Xqz ?Nqz ?Tqz ?hkqz ?hqqz ?haqz ?hlqz ?hdqz ?huqz ?hbqz ?_; (case Bqz => k_asm); (case Fqz => k_asm); (case Xqz => k_asm); (case Nqz => k_asm); (case Tqz => k_asm); (case hkqz => first | exact rfl | assumption); (case hqqz => assumption); (case haqz => assumption); (case hlqz => assumption); (case hdqz => ktr_room); (case huqz => ktr_units); (case hbqz => assumption); intro h12 tk12 gs12 F12 N12 hb12; (try dsimp only))) | with_reducible (k_here; (with_reducible show wpAny _ _ (call (Value.ref 199) _ _) _ _ _); k_dflt (refine' made ?Bqz ?Fqz ?Xqz ?Nqz ?Tqz ?hkqz ?hdqz ?_; (case Bqz => k_asm); (case Fqz => k_asm); (case Xqz => k_asm); (case Nqz => k_asm); (case Tqz => k_asm); (case hkqz => first | exact rfl | assumption); (case hdqz => ktr_room); intro x9 d9 l9 h9 tk9 tkk9 F9 N9 q91 q92 q93; (try dsimp only))) | walk1 | (k_here; (with_reducible show wpAny _ _ (subscriptTail _ _ (Value.ref _) (Value.int _ _)) _ _ _); refine' item_strsA ?lqz ?iqz ?aqz ?bqz ?cqz ?_; (case lqz => exact News.isList (by k_asm) (by first | k_mem | exact .tail _ (.tail _ (by assumption)) | exact .tail _ (.tail _ (.tail _ (by assumption))))); (case iqz => assumption); (case aqz => omega); (case bqz => omega); (case cqz => omega); intro _; (try simp only [Int.toNat_natCast]))) | (dsimp only; ((((fail_if_success (with_reducible show wpAny _ _ (call (Value.builtin "dict.items") _ _) _ _ _)); (fail_if_success (with_reducible show wpAny _ _ (call (Value.type "range") _ _) _ _ _)); (fail_if_success (with_reducible show wpAny _ _ (call (Value.ref 112) _ _) _ _ _)); (fail_if_success (with_reducible show wpAny _ _ (eval (Expr.ListComp _ _ _ _) _) _ _ _)); (fail_if_success (with_reducible show wpAny _ _ (exec (Stmt.For _ _ _ _ _) _) _ _ _)); (fail_if_success (with_reducible show wpAny _ _ (exec (Stmt.While _ _ _ _) _) _ _ _)); (fail_if_success (with_reducible show wpAny _ _ (exec (Stmt.Assign [Expr.Name _ _] (Expr.ListComp _ _ _ _) _) _) _ _ _))))); (first | with_reducible (k_here; (with_reducible show wpAny _ _ (subscriptTail _ _ (Value.ref _) (Value.int _ _)) _ _ _); refine' item_strsA ?lqz ?iqz ?aqz ?bqz ?cqz ?_; (case lqz => exact News.isList (by k_asm) (by first | k_mem | exact .tail _ (.tail _ (by assumption)) | exact .tail _ (.tail _ (.tail _ (by assumption))))); (case iqz => assumption); (case aqz => omega); (case bqz => omega); (case cqz => omega); intro _; (try simp only [Int.toNat_natCast])) | with_reducible (k_here; (with_reducible show wpAny _ _ (call (Value.ref 59) _ _) _ _ _); k_dflt (refine' check ?Bqz ?Fqz ?Xqz ?Nqz ?Tqz ?hkqz ?hqqz ?haqz ?hlqz ?hdqz ?huqz ?hbqz ?_; (case Bqz => k_asm); (case Fqz => k_asm); (case Xqz => k_asm); (case Nqz => k_asm); (case Tqz => k_asm); (case hkqz => first | exact rfl | assumption); (case hqqz => assumption); (case haqz => assumption); (case hlqz => assumption); (case hdqz => ktr_room); (case huqz => ktr_units); (case hbqz => assumption); intro h12 tk12 gs12 F12 N12 hb12; (try dsimp only))) | with_reducible (k_here; (with_reducible show wpAny _ _ (call (Value.ref 199) _ _) _ _ _); k_dflt (refine' made ?Bqz ?Fqz ?Xqz ?Nqz ?Tqz ?hkqz ?hdqz ?_; (case Bqz => k_asm); (case Fqz => k_asm); (case Xqz => k_asm); (case Nqz => k_asm); (case Tqz => k_asm); (case hkqz => first | exact rfl | assumption); (case hdqz => ktr_room); intro x9 d9 l9 h9 tk9 tkk9 F9 N9 q91 q92 q93; (try dsimp only))) | walk1 | (k_here; (with_reducible show wpAny _ _ (subscriptTail _ _ (Value.ref _) (Value.int _ _)) _ _ _); refine' item_strsA ?lqz ?iqz ?aqz ?bqz ?cqz ?_; (case lqz => exact News.isList (by k_asm) (by first | k_mem | exact .tail _ (.tail _ (by assumption)) | exact .tail _ (.tail _ (.tail _ (by assumption))))); (case iqz => assumption); (case aqz => omega); (case bqz => omega); (case cqz => omega); intro _; (try simp only [Int.toNat_natCast]))))) | (leave1; walk_say "STEP leave1"; try dsimp only) | fail "no step"))
    rename News h₀ L _ _ => Nz
    obtain ⟨r1, rfl, k1, k2, k3, k4⟩ := hfr
    exact hret _ _ _ _ ((l9, listOf its.toArray n6) :: r1) (by k_asm) Nz (fun p hp q hq => by
      rcases List.mem_cons.mp hp with rfl | hp
      · exact Nat.lt_trans (q91 q hq) (Nat.lt_trans q92 q93)
      · exact k4 p hp q hq) ⟨d9, l9, its, tkk9, n6, .tail _ k1, .tail _ k2, .head _, k3.mono fun p hp => .tail _ hp⟩ hbare
end
end
section
structure ZAp (z TI TO i1 i2 : Addr) (f1 f2 : List Addr) : Prop where
  TIz : TI ≠ z
  TOz : TO ≠ z
  i1z : i1 ≠ z
  i2z : i2 ≠ z
  TITO : TI ≠ TO
  TIi1 : TI ≠ i1
  TIi2 : TI ≠ i2
  TOi1 : TO ≠ i1
  TOi2 : TO ≠ i2
  i12 : i1 ≠ i2
  zf1 : z ∉ f1
  zf2 : z ∉ f2
  of1 : TO ∉ f1
  of2 : TO ∉ f2
  i2f1 : i2 ∉ f1
  i1f2 : i1 ∉ f2
section
variable {prog : Program} {w : World} {A : Around} {E : Value → Shared → Prop} {s : Shared} {z TI TO i1 i2 : Addr} {f1 f2 : List Addr} {n1 n2 k : Nat} {P1 P2 : Nat → Value → Prop} {S1 S2 : Nat → Heap → Prop} {a b : Value}
theorem zipD_item {Q : Value → Shared → Prop} (G1 : Draws prog w A i1 f1 n1 P1 S1) (G2 : Draws prog w A i2 f2 n2 P2 S2) (D : ZAp z TI TO i1 i2 f1 f2)
    (hz : IsZip s.heap z TI TO .none) (hTI : IsPair s.heap TI (.ref i1) (.ref i2)) (hTO : IsPair s.heap TO a b) (h1 : S1 k s.heap) (h2 : S2 k s.heap) (hk1 : k < n1) (hk2 : k < n2)
    (hQ : ∀ h' tk x y, P1 k x → P2 k y → IsZip h' z TI TO (rawInt s.heap.objs.size) → IsPair h' TO x y → S1 (k + 1) h' → S2 (k + 1) h' → IsPair h' s.heap.objs.size x y → h'.objs.size = s.heap.objs.size + 1 →
      (∀ c o, c ≠ z → c ≠ TO → c ≠ i1 → c ≠ i2 → s.heap.get? c = some o → h'.get? c = some o) → Q (.ref s.heap.objs.size) { s with heap := h', toks := tk }) :
    wpAny (model prog w) A (Builtin.«zip.__next__» ⟨[.ref z], []⟩) (fun fin s' => ∃ v, fin = .done (.ret v) ∧ Q v s') E s := by
  show wpAny _ _ (field (.ref z) 2 >>= _) _ _ _
  refine wpAny_bind (wpAny_field hz rfl (x := .bool false) rfl ?_)
  show wpAny _ _ (field (.ref z) 3 >>= _) _ _ _
  refine wpAny_bind (wpAny_field hz rfl (x := .ref TI) rfl ?_)
  refine wpAny_bind (wpAny_seqItems hTI rfl ?_)
  show wpAny _ _ (Builtin.SmallTypes.ownedTupleIsFree (.ref z) >>= _) _ _ _
  refine wpAny_bind ?_
  unfold Builtin.SmallTypes.ownedTupleIsFree
  refine wpAny_bind (wpAny_field hz rfl (x := .none) rfl (wpAny_pure ?_))
  simp only [if_true]
  refine wpAny_bind (wpAny_rule ?_)
  refine wpAny_bind (wpAny_field hz rfl (x := .ref TO) rfl ?_)
  refine wpAny_bind (wpAny_setField_rec hz (by simp) fun h₁ hz₁ hs₁ => ?_)
  replace hz₁ : IsZip h₁ z TI TO .ellipsis := hz₁
  refine wpAny_bind ?_
  simp only [List.zipIdx_cons, List.zipIdx_nil, List.forIn_cons, List.forIn_nil]
  refine wpAny_bind (wpAny_bind (wpAny_onRaise ?_))
  show wpAny _ _ (Builtin.SmallTypes.nextOf (.ref i1) >>= _) _ _ _
  have a1 : S1 k h₁ := G1.frame _ _ _ h1 fun c hc o e => hs₁.extBut c o (fun q => D.zf1 (q ▸ hc)) e
  have a2 : S2 k h₁ := G2.frame _ _ _ h2 fun c hc o e => hs₁.extBut c o (fun q => D.zf2 (q ▸ hc)) e
  refine wpAny_bind (G1.item k { s with heap := h₁ } _ _ hk1 a1 fun x h₂ tk₂ hx b1 hs₂ => wpAny_pure ?_)
  replace hs₂ : Heap.SameBut i1 h₁ h₂ := hs₂
  have b2 : S2 k h₂ := G2.frame _ _ _ a2 fun c hc o e => hs₂.extBut c o (fun q => D.i1f2 (q ▸ hc)) e
  have hTO₂ : IsPair h₂ TO a b := hs₂.extBut _ _ D.TOi1 (hs₁.extBut _ _ D.TOz hTO)
  refine wpAny_bind (wpAny_seqItems hTO₂ rfl ?_)
  refine wpAny_bind (wpAny_updateSeq_pair hTO₂ fun h₃ hTO₃ hs₃ => ?_)
  replace hTO₃ : IsPair h₃ TO x b := hTO₃
  replace hs₃ : Heap.SameBut TO h₂ h₃ := hs₃
  have c1 : S1 (k + 1) h₃ := G1.frame _ _ _ b1 fun c hc o e => hs₃.extBut c o (fun q => D.of1 (q ▸ hc)) e
  have c2 : S2 k h₃ := G2.frame _ _ _ b2 fun c hc o e => hs₃.extBut c o (fun q => D.of2 (q ▸ hc)) e
  refine wpAny_bind (wpAny_letGo (wpAny_pure ?_))
  refine wpAny_bind (wpAny_bind (wpAny_onRaise ?_))
  show wpAny _ _ (Builtin.SmallTypes.nextOf (.ref i2) >>= _) _ _ _
  refine wpAny_bind (G2.item k { s with heap := h₃, toks := tk₂ } _ _ hk2 c2 fun y h₄ tk₄ hy d2 hs₄ => wpAny_pure ?_)
  replace hs₄ : Heap.SameBut i2 h₃ h₄ := hs₄
  have d1 : S1 (k + 1) h₄ := G1.frame _ _ _ c1 fun c hc o e => hs₄.extBut c o (fun q => D.i2f1 (q ▸ hc)) e
  have hTO₄ : IsPair h₄ TO x b := hs₄.extBut _ _ D.TOi2 hTO₃
  refine wpAny_bind (wpAny_seqItems hTO₄ rfl ?_)
  refine wpAny_bind (wpAny_updateSeq_pair hTO₄ fun h₅ hTO₅ hs₅ => ?_)
  replace hTO₅ : IsPair h₅ TO x y := hTO₅
  replace hs₅ : Heap.SameBut TO h₄ h₅ := hs₅
  have e1 : S1 (k + 1) h₅ := G1.frame _ _ _ d1 fun c hc o e => hs₅.extBut c o (fun q => D.of1 (q ▸ hc)) e
  have e2 : S2 (k + 1) h₅ := G2.frame _ _ _ d2 fun c hc o e => hs₅.extBut c o (fun q => D.of2 (q ▸ hc)) e
  refine wpAny_bind (wpAny_letGo (wpAny_pure (wpAny_pure ?_)))
  refine wpAny_bind (wpAny_seqItems hTO₅ rfl ?_)
  refine wpAny_bind (wpAny_newTuple ?_)
  have hsz : h₅.objs.size = s.heap.objs.size := by rw [hs₅.1, hs₄.1, hs₃.1, hs₂.1, hs₁.1]
  have hz₅ : IsZip h₅ z TI TO .ellipsis := hs₅.extBut _ _ D.TOz.symm (hs₄.extBut _ _ D.i2z.symm (hs₃.extBut _ _ D.TOz.symm (hs₂.extBut _ _ D.i1z.symm hz₁)))
  have hk₅ : ∀ c o, c ≠ z → c ≠ TO → c ≠ i1 → c ≠ i2 → s.heap.get? c = some o → h₅.get? c = some o := fun c o c1 c2 c3 c4 e =>
    hs₅.extBut _ _ c2 (hs₄.extBut _ _ c4 (hs₃.extBut _ _ c2 (hs₂.extBut _ _ c3 (hs₁.extBut _ _ c1 e))))
  have hzlt : z < h₅.objs.size := Heap.lt_size hz₅
  show wpAny _ _ (Builtin.SmallTypes.ownedTupleHandOut (.ref z) (.ref h₅.objs.size) >>= _) _ _ _
  refine wpAny_bind ?_
  unfold Builtin.SmallTypes.ownedTupleHandOut
  have hz₆ : IsZip (h₅.push { cls := .type "tuple", data := .seq #[x, y] }) z TI TO .ellipsis := Heap.get?_push_of_some _ hz₅
  refine wpAny_bind (wpAny_setField_rec hz₆ (by simp) fun h₇ hz₇ hs₇ => ?_)
  replace hz₇ : IsZip h₇ z TI TO (rawInt h₅.objs.size) := hz₇
  refine wpAny_setField_rec hz₇ (by simp) fun h₈ hz₈ hs₈ => ?_
  replace hz₈ : IsZip h₈ z TI TO (rawInt h₅.objs.size) := hz₈
  have up : ∀ c o, c ≠ z → h₅.get? c = some o → h₈.get? c = some o := fun c o c1 e => hs₈.extBut _ _ c1 (hs₇.extBut _ _ c1 (Heap.get?_push_of_some _ e))
  have hT₈ : IsPair h₈ h₅.objs.size x y := hs₈.extBut _ _ (Nat.ne_of_gt hzlt) (hs₇.extBut _ _ (Nat.ne_of_gt hzlt) (Heap.get?_push_size _ rfl))
  have hz8 : h₈.objs.size = h₅.objs.size + 1 := by rw [hs₈.1, hs₇.1, Heap.size_push]
  rw [hsz] at hz₈ hT₈ hz8
  refine wpAny_pure ⟨_, rfl, ?_⟩
  show Q (.ref h₅.objs.size) _
  rw [hsz]
  exact hQ h₈ _ x y hx hy hz₈ (up _ _ D.TOz hTO₅) (G1.frame _ _ _ e1 fun c hc o e => up c o (fun q => D.zf1 (q ▸ hc)) e) (G2.frame _ _ _ e2 fun c hc o e => up c o (fun q => D.zf2 (q ▸ hc)) e) hT₈ hz8 fun c o c1 c2 c3 c4 e => up c o c1 (hk₅ c o c1 c2 c3 c4 e)
theorem zipD_end {Q : Fin → Shared → Prop} (G1 : Draws prog w A i1 f1 n1 P1 S1) (D : ZAp z TI TO i1 i2 f1 f2)
    (hz : IsZip s.heap z TI TO .none) (hTI : IsPair s.heap TI (.ref i1) (.ref i2)) (h1 : S1 n1 s.heap)
    (hE : ∀ h' e, (∀ c o, c ≠ z → c ≠ TO → c ≠ i1 → c ≠ i2 → s.heap.get? c = some o → h'.get? c = some o) → (∃ o, h'.get? e = some o ∧ o.cls = .type "StopIteration") → E (.ref e) { s with heap := h' }) :
    wpAny (model prog w) A (Builtin.«zip.__next__» ⟨[.ref z], []⟩) Q E s := by
  show wpAny _ _ (field (.ref z) 2 >>= _) _ _ _
  refine wpAny_bind (wpAny_field hz rfl (x := .bool false) rfl ?_)
  show wpAny _ _ (field (.ref z) 3 >>= _) _ _ _
  refine wpAny_bind (wpAny_field hz rfl (x := .ref TI) rfl ?_)
  refine wpAny_bind (wpAny_seqItems hTI rfl ?_)
  show wpAny _ _ (Builtin.SmallTypes.ownedTupleIsFree (.ref z) >>= _) _ _ _
  refine wpAny_bind ?_
  unfold Builtin.SmallTypes.ownedTupleIsFree
  refine wpAny_bind (wpAny_field hz rfl (x := .none) rfl (wpAny_pure ?_))
  simp only [if_true]
  refine wpAny_bind (wpAny_rule ?_)
  refine wpAny_bind (wpAny_field hz rfl (x := .ref TO) rfl ?_)
  refine wpAny_bind (wpAny_setField_rec hz (by simp) fun h₁ hz₁ hs₁ => ?_)
  replace hz₁ : IsZip h₁ z TI TO .ellipsis := hz₁
  refine wpAny_bind ?_
  simp only [List.zipIdx_cons, List.zipIdx_nil, List.forIn_cons, List.forIn_nil]
  refine wpAny_bind (wpAny_bind (wpAny_onRaise ?_))
  show wpAny _ _ (Builtin.SmallTypes.nextOf (.ref i1) >>= _) _ _ _
  have a1 : S1 n1 h₁ := G1.frame _ _ _ h1 fun c hc o e => hs₁.extBut c o (fun q => D.zf1 (q ▸ hc)) e
  refine wpAny_bind (G1.done { s with heap := h₁ } _ _ a1 fun h₂ e hs₂ he => ?_)
  replace hs₂ : Heap.ExtBut i1 h₁ h₂ := hs₂
  obtain ⟨oe, hoe, hce⟩ := he
  have hz₂ : IsZip h₂ z TI TO .ellipsis := hs₂ _ _ D.i1z.symm hz₁
  have hez : e ≠ z := fun x => by subst x; rw [hz₂] at hoe; cases hoe; simp at hce
  refine wpAny_setField_rec hz₂ (by simp) fun h₃ _ hs₃ => hE h₃ e (fun c o c1 _ c3 _ x => hs₃.extBut _ _ c1 (hs₂ _ _ c3 (hs₁.extBut _ _ c1 x))) ⟨oe, hs₃.extBut _ _ hez hoe, hce⟩
end
end
section
section
variable {prog : Program} {w : World} {A : Around} {E : Value → Shared → Prop} {s : Shared} {z TI TO i1 i2 : Addr} {f1 f2 : List Addr} {n1 n2 k : Nat} {P1 P2 : Nat → Value → Prop} {S1 S2 : Nat → Heap → Prop} {a b : Value}
theorem zipD_next_item {Q : Option Value → Shared → Prop} (G1 : Draws prog w A.in1 i1 f1 n1 P1 S1) (G2 : Draws prog w A.in1 i2 f2 n2 P2 S2) (D : ZAp z TI TO i1 i2 f1 f2)
    (hz : IsZip s.heap z TI TO .none) (hTI : IsPair s.heap TI (.ref i1) (.ref i2)) (hTO : IsPair s.heap TO a b) (h1 : S1 k s.heap) (h2 : S2 k s.heap) (hk1 : k < n1) (hk2 : k < n2)
    (hQ : ∀ h' tk x y, P1 k x → P2 k y → IsZip h' z TI TO (rawInt s.heap.objs.size) → IsPair h' TO x y → S1 (k + 1) h' → S2 (k + 1) h' → IsPair h' s.heap.objs.size x y → h'.objs.size = s.heap.objs.size + 1 →
      (∀ c o, c ≠ z → c ≠ TO → c ≠ i1 → c ≠ i2 → s.heap.get? c = some o → h'.get? c = some o) → Q (some (.ref s.heap.objs.size)) { s with heap := h', toks := tk }) :
    wpAny (model prog w) A (pyNext (.ref z)) Q E s := by
  have hT : s.TypeIs (.ref z) "zip" := ⟨_, hz, rfl⟩
  unfold pyNext
  exact wpAny_bind (wpAny_attempt (wpAny_callSpecial?_slot (name := PySem.Str.ofString "__next__") hT F.slot_zip_next
    (wpAny_call_entry F.slot_zip_next hT F.entry_zip_next
      (zipD_item G1 G2 D hz hTI hTO h1 h2 hk1 hk2 fun h' tk x y a1 a2 a3 a4 a5 a6 a7 a8 a9 => wpAny_pure (hQ h' tk x y a1 a2 a3 a4 a5 a6 a7 a8 a9)) (F.args_zip_next_1 _))))
theorem zipD_next_end {Q : Option Value → Shared → Prop} (G1 : Draws prog w A.in1 i1 f1 n1 P1 S1) (D : ZAp z TI TO i1 i2 f1 f2)
    (hz : IsZip s.heap z TI TO .none) (hTI : IsPair s.heap TI (.ref i1) (.ref i2)) (h1 : S1 n1 s.heap)
    (hQ : ∀ h', (∀ c o, c ≠ z → c ≠ TO → c ≠ i1 → c ≠ i2 → s.heap.get? c = some o → h'.get? c = some o) → Q none { s with heap := h' }) : wpAny (model prog w) A (pyNext (.ref z)) Q E s := by
  have hT : s.TypeIs (.ref z) "zip" := ⟨_, hz, rfl⟩
  unfold pyNext
  refine wpAny_bind (wpAny_attempt (wpAny_callSpecial?_slot (name := PySem.Str.ofString "__next__") hT F.slot_zip_next
    (wpAny_call_entry F.slot_zip_next hT F.entry_zip_next (zipD_end G1 D hz hTI h1 fun h' e hk he => ?_) (F.args_zip_next_1 _))))
  obtain ⟨o, ho, hc⟩ := he
  refine wpAny_bind (wpAny_isInstance (T := "StopIteration") (b := true) ⟨o, ho, hc⟩ isSubtype_stop ?_)
  exact wpAny_pure (hQ _ hk)
end
theorem walksT_zipD {prog : Program} {w : World} {A : Around} {z TI TO i1 i2 : Addr} {f1 f2 : List Addr} {n1 n2 : Nat} {P1 P2 : Nat → Value → Prop} {S1 S2 : Nat → Heap → Prop}
    (G1 : Draws prog w A.in1 i1 f1 n1 P1 S1) (G2 : Draws prog w A.in1 i2 f2 n2 P2 S2) (D : ZAp z TI TO i1 i2 f1 f2) (h1 : i1 ∈ f1) (h2 : i2 ∈ f2) (hn : n1 ≤ n2) :
    WalksT prog w A z (z :: TI :: TO :: (f1 ++ f2)) [z, TO, i1, i2] n1
      (fun i vals => ∃ x y, P1 i x ∧ P2 i y ∧ vals = #[x, y])
      (fun i h => IsZip h z TI TO .none ∧ IsPair h TI (.ref i1) (.ref i2) ∧ (∃ a b, IsPair h TO a b) ∧ S1 i h ∧ S2 i h)
      (fun i T h => IsZip h z TI TO (rawInt T) ∧ IsPair h TI (.ref i1) (.ref i2) ∧ (∃ a b, IsPair h TO a b) ∧ S1 (i + 1) h ∧ S2 (i + 1) h ∧ T ≠ z ∧ T ≠ TO ∧ T ≠ i1 ∧ T ≠ i2) where
  sub := fun c hc => by simp at hc ⊢; rcases hc with rfl | rfl | rfl | rfl <;> simp [h1, h2]
  frame := fun i h h' hst hk => by
    obtain ⟨hz, hTI, ⟨a, b, hTO⟩, h1, h2⟩ := hst
    exact ⟨hk z (by simp) _ hz, hk TI (by simp) _ hTI, ⟨a, b, hk TO (by simp) _ hTO⟩, G1.frame _ _ _ h1 fun c hc o e => hk c (by simp [hc]) o e, G2.frame _ _ _ h2 fun c hc o e => hk c (by simp [hc]) o e⟩
  item := fun i s Q E hi hst hQ => by
    obtain ⟨hz, hTI, ⟨a, b, hTO⟩, h1, h2⟩ := hst
    refine zipD_next_item G1 G2 D hz hTI hTO h1 h2 hi (Nat.lt_of_lt_of_le hi hn) fun h' tk x y p1 p2 a1 a2 a3 a4 a5 a6 hk => ?_
    have lt : ∀ {c o}, s.heap.get? c = some o → s.heap.objs.size ≠ c := fun e => Nat.ne_of_gt (Heap.lt_size e)
    exact hQ s.heap.objs.size #[x, y] h' tk ⟨_, _, p1, p2, rfl⟩ (Nat.le_refl _) ⟨_, a5, rfl, _, rfl⟩
      ⟨a1, hk _ _ D.TIz D.TITO D.TIi1 D.TIi2 hTI, ⟨_, _, a2⟩, a3, a4,
        lt hz, lt hTO, (by obtain ⟨_, e⟩ := G1.live _ _ h1; exact lt e), (by obtain ⟨_, e⟩ := G2.live _ _ h2; exact lt e)⟩
      fun c o hc e => hk c o (fun x => hc (by simp [x])) (fun x => hc (by simp [x])) (fun x => hc (by simp [x])) (fun x => hc (by simp [x])) e
  go := fun elts k pos i T s Q E hm hQ => by
    obtain ⟨hz, hTI, ⟨a, b, hTO⟩, h1, h2, _⟩ := hm
    refine wpAny_letOwnedTupleGo_zip hz fun h' hz' hs' => hQ h' ⟨hz', hs'.extBut _ _ D.TIz hTI, ⟨a, b, hs'.extBut _ _ D.TOz hTO⟩, G1.frame _ _ _ h1 fun c hc o e => hs'.extBut _ _ (fun q => D.zf1 (q ▸ hc)) e, G2.frame _ _ _ h2 fun c hc o e => hs'.extBut _ _ (fun q => D.zf2 (q ▸ hc)) e⟩
      fun c o hc e => hs'.extBut _ _ (fun x => hc (by simp [x])) e
  apart := fun i T h hm hT => by
    obtain ⟨_, _, _, _, _, t1, t2, t3, t4⟩ := hm
    simp at hT
    rcases hT with rfl | rfl | rfl | rfl
    · exact t1 rfl
    · exact t2 rfl
    · exact t3 rfl
    · exact t4 rfl
  done := fun s Q E hst hQ => by
    obtain ⟨hz, hTI, ⟨a, b, hTO⟩, h1, h2⟩ := hst
    exact zipD_next_end G1 D hz hTI h1 fun h' hk => hQ h' s.toks fun c o hc e =>
      hk c o (fun x => hc (by simp [x])) (fun x => hc (by simp [x])) (fun x => hc (by simp [x])) (fun x => hc (by simp [x])) e
  self := fun i s Q E hst hQ => wpAny_pyIter_zip hst.1 hQ

noncomputable abbrev zSL1 (h : Heap) (x : PySem.Str) (t : Tok) : Heap := h.push { cls := .type (strIterType x), data := .fields #[.str x t, .int 0 0] }
noncomputable abbrev zSL2 (h : Heap) (x : PySem.Str) (t : Tok) (l2 : Addr) : Heap := (zSL1 h x t).push { cls := .type "list_iterator", data := .fields #[.ref l2, .int 0 0] }
noncomputable abbrev zSL3 (h : Heap) (x : PySem.Str) (t : Tok) (l2 : Addr) : Heap := (zSL2 h x t l2).push { cls := .type "tuple", data := .seq #[.ref h.objs.size, .ref (zSL1 h x t).objs.size] }
noncomputable abbrev zSL4 (h : Heap) (x : PySem.Str) (t : Tok) (l2 : Addr) : Heap := (zSL3 h x t l2).push { cls := .type "tuple", data := .seq #[.none, .none] }
noncomputable abbrev zSL5 (h : Heap) (x : PySem.Str) (t : Tok) (l2 : Addr) : Heap := (zSL4 h x t l2).push { cls := .type "zip", data := .fields #[.none, .bool false, .bool false, .ref (zSL2 h x t l2).objs.size, .ref (zSL3 h x t l2).objs.size] }
set_option maxHeartbeats 2000000 in
theorem meets_zip_newSL (x : PySem.Str) (t : Tok) (l2 : Addr) (ys : Array Value) :
    Meets (Builtin.«zip.__new__» ⟨[.type "zip", .str x t, .ref l2], []⟩) (fun _ R s => s.heap.IsList l2 ys ∧
      R (.ok (.ret (.ref (zSL4 s.heap x t l2).objs.size))) { s with heap := zSL5 s.heap x t l2 }) :=
  .of_wp fun prog w A R s h => by
    obtain ⟨hp, g, d, tk, os⟩ := s; obtain ⟨hl2, h⟩ := h
    have hsub := sub_zip
    have hL2 : Heap.IsList (Shared.heap ⟨hp.push { cls := .type (strIterType x), data := .fields #[.str x t, .int 0 0] }, g, d, tk, os⟩) l2 ys := Heap.IsList.push hl2 _
    wp_walk using wpAny_pyIter_strU, wpAny_pyIter_list hL2
    exact ⟨_, rfl, h⟩
section
variable {prog : Program} {w : World} {A : Around} {E : Value → Shared → Prop} {s : Shared}
theorem call_zip_SL {x : PySem.Str} {t : Tok} {l2 : Addr} {ys : Array Value} {Q : Value → Shared → Prop} (hl2 : s.heap.IsList l2 ys)
    (h : ∀ h', IsZip h' (s.heap.objs.size + 4) (s.heap.objs.size + 2) (s.heap.objs.size + 3) .none → IsPair h' (s.heap.objs.size + 2) (.ref s.heap.objs.size) (.ref (s.heap.objs.size + 1)) →
      IsPair h' (s.heap.objs.size + 3) .none .none → h'.IsStrIter s.heap.objs.size (strIterType x) x t 0 → h'.IsListIter (s.heap.objs.size + 1) l2 0 → h'.objs.size = s.heap.objs.size + 5 →
      (∀ c o, s.heap.get? c = some o → h'.get? c = some o) → Q (.ref (s.heap.objs.size + 4)) { s with heap := h' }) :
    wpAny (model prog w) A (call (.type "zip") [.str x t, .ref l2]) Q E s := by
  refine callType_new F.called_zip (by decide) (F.typeCall_zip_2 _ _) (F.newCall_zip_2 _ _) (fun obj => F.args_object_init_3 obj _ _) F.entry_zip_new
    (meets_zip_newSL x t l2 ys) ⟨hl2, ?_⟩
  have z1 : (zSL1 s.heap x t).objs.size = s.heap.objs.size + 1 := Heap.size_push ..
  have z2 : (zSL2 s.heap x t l2).objs.size = s.heap.objs.size + 2 := by rw [Heap.size_push, z1]
  have z3 : (zSL3 s.heap x t l2).objs.size = s.heap.objs.size + 3 := by rw [Heap.size_push, z2]
  have z4 : (zSL4 s.heap x t l2).objs.size = s.heap.objs.size + 4 := by rw [Heap.size_push, z3]
  have z5 : (zSL5 s.heap x t l2).objs.size = s.heap.objs.size + 5 := by rw [Heap.size_push, z4]
  have g5 : (zSL5 s.heap x t l2).get? (zSL4 s.heap x t l2).objs.size = some _ := Heap.get?_push_size _ rfl
  have g4 : (zSL5 s.heap x t l2).get? (zSL3 s.heap x t l2).objs.size = some _ := Heap.get?_push_of_some _ (Heap.get?_push_size _ rfl)
  have g3 : (zSL5 s.heap x t l2).get? (zSL2 s.heap x t l2).objs.size = some _ := Heap.get?_push_of_some _ (Heap.get?_push_of_some _ (Heap.get?_push_size _ rfl))
  have g2 : (zSL5 s.heap x t l2).get? (zSL1 s.heap x t).objs.size = some _ := Heap.get?_push_of_some _ (Heap.get?_push_of_some _ (Heap.get?_push_of_some _ (Heap.get?_push_size _ rfl)))
  have g1 : (zSL5 s.heap x t l2).get? s.heap.objs.size = some _ := Heap.get?_push_of_some _ (Heap.get?_push_of_some _ (Heap.get?_push_of_some _ (Heap.get?_push_of_some _ (Heap.get?_push_size _ rfl))))
  show _ ∧ _
  rw [z2, z3, z4] at g5
  rw [z1, z2] at g3
  rw [z3] at g4
  rw [z1] at g2
  rw [z4]
  exact ⟨⟨_, g5, rfl⟩, h _ g5 g3 g4 ⟨_, g1, rfl, rfl⟩ ⟨_, g2, rfl, rfl⟩ z5 fun c o x =>
    Heap.get?_push_of_some _ (Heap.get?_push_of_some _ (Heap.get?_push_of_some _ (Heap.get?_push_of_some _ (Heap.get?_push_of_some _ x))))⟩
end
section
variable {prog : Program} {w : World} {A : Around} {E : Value → Shared → Prop} {h₀ : Heap} {L : Addr} {m : PySem.Str → Option Value} {env : Env}
theorem block_T {elt iter : Expr} {x x₂ : PySem.Str} {px px₂ tp : Pos} {tk} {scope : Scope} {cl : List (PySem.Str × Addr)} {pos : Pos} {s₂ : Shared} {z : Addr} {fp wr : List Addr} {n : Nat} {Pt : Nat → Array Value → Prop} {St : Nat → Heap → Prop} {Mid : Nat → Addr → Heap → Prop} {news : List (Addr × Obj)}
    {RR : Value → Addr → Result → Shared → Prop} (K : Nat → List Value → Prop)
    (W : WalksT prog w A z fp wr n Pt St Mid) (hsz : n ≤ sizeLine)
    (hcell : ∀ y ∈ scope.names, y.2 ≠ .cell) (hkind : scope.kind = .function) (hx : scope.names.lookup x = some .local) (hx₂ : scope.names.lookup x₂ = some .local) (hxx : x ≠ x₂) (hh : A.handled = none) (hst : St 0 s₂.heap) (hfp : ∀ b ∈ fp, b < s₂.heap.objs.size)
    (F : Fr h₀ L s₂.heap m) (N : News h₀ L s₂.heap news) (hwL : L ∉ wr) (hw₀ : ∀ b ∈ wr, h₀.get? b = none) (hwn : ∀ p ∈ news, p.1 ∉ wr) (hK : K 0 [])
    (hPt : ∀ i vals, Pt i vals → ∃ v₁ v₂, vals = #[v₁, v₂])
    (turn : ∀ i v₁ v₂ ys (C : Addr) h tk m₂, i < n → Pt i #[v₁, v₂] → K i ys → h.Ns C m₂ → m₂ x = some v₁ → m₂ x₂ = some v₂ →
      wpAny (model prog w) A (eval elt (compEnvC scope cl C env)) (fun y s₄ => ∃ tk', s₄ = { s₂ with heap := h, toks := tk' } ∧ K (i + 1) (ys ++ [y])) NoE { s₂ with heap := h, toks := tk })
    (hRR : ∀ D C h tk m' ys, Fr h₀ L h m → News h₀ L h ((D, LCg.lst ys) :: news) → (∀ p ∈ news, p.1 ≠ D) → h.Ns C m' → h₀.get? C = none → C ≠ L → C ≠ D → (∀ p ∈ news, p.1 ≠ C) → K n ys → RR (.ref D) C (.ok .next) { s₂ with heap := h, toks := tk }) :
    wpAny (model prog w) A (newList []) (fun acc s₃ => wpAny (model prog w) A (newFunctionEnv scope env.globals cl [] env.qual none .none (some env)) (fun cenv s₄ =>
      codeAny (model prog w) A (.compStart (.ListComp elt [⟨.Tuple [.Name x px, .Name x₂ px₂] tk tp, iter, [], 0⟩] scope pos) 0 (.ref z) acc { cenv with scope := relabel scope env }) (RR acc cenv.locals) s₄) E s₃) E s₂ := by
  refine wpAny_newObj_type (wpAny_newFunctionEnv hcell (by intro y hy; simp at hy) (fun h₁ hns₁ hsb₁ => ?_) hkind)
  dsimp only at hns₁ hsb₁ ⊢
  generalize hH2 : s₂.heap.push { cls := .type "list", dict := none, data := .seq ([] : List Value).toArray } = H2 at hns₁ hsb₁ ⊢
  have hC : H2.objs.size = s₂.heap.objs.size + 1 := by rw [← hH2, Heap.size_push]
  have hDC : s₂.heap.objs.size ≠ H2.objs.size := by rw [hC]; exact Nat.ne_of_lt (Nat.lt_succ_self _)
  have below : ∀ b, b < s₂.heap.objs.size → b ≠ H2.objs.size ∧ b ≠ s₂.heap.objs.size := fun b hb => ⟨by rw [hC]; exact Nat.ne_of_lt (Nat.lt_succ_of_lt hb), Nat.ne_of_lt hb⟩
  have hDf : s₂.heap.objs.size ∉ fp := fun hm => Nat.lt_irrefl _ (hfp _ hm)
  have hCf : H2.objs.size ∉ fp := fun hm => by have := hfp _ hm; rw [hC] at this; exact Nat.lt_irrefl _ (Nat.lt_of_succ_lt this)
  have hDw : s₂.heap.objs.size ∉ wr := fun hm => hDf (W.sub _ hm)
  have hCw : H2.objs.size ∉ wr := fun hm => hCf (W.sub _ hm)
  have old : ∀ b o, s₂.heap.get? b = some o → h₁.get? b = some o := fun b o e => hsb₁.extBut b o (below b (Heap.lt_size e)).1 (Heap.get?_push_of_some _ (hH2 ▸ Heap.get?_push_of_some _ e))
  have hacc : h₁.get? s₂.heap.objs.size = some (LCg.lst []) := hsb₁.extBut _ _ hDC (Heap.get?_push_of_some _ (hH2 ▸ Heap.get?_push_size _ rfl))
  have hst₁ : St 0 h₁ := W.frame _ _ _ hst fun b _ o e => old b o e
  have fresh : ∀ a, s₂.heap.objs.size ≤ a → s₂.heap.get? a = none := fun a ha => by
    cases e : s₂.heap.get? a with
    | none => rfl
    | some o' => exact absurd (Heap.lt_size e) (Nat.not_lt.mpr ha)
  have fresh₀ : ∀ a, s₂.heap.objs.size ≤ a → h₀.get? a = none := fun a ha => by
    cases e : h₀.get? a with
    | none => rfl
    | some o' => have := F.keep a o' e; rw [fresh a ha] at this; cases this
  have hD₀ : h₀.get? s₂.heap.objs.size = none := fresh₀ _ (Nat.le_refl _)
  have hC₀ : h₀.get? H2.objs.size = none := fresh₀ _ (by rw [hC]; exact Nat.le_succ _)
  have hLlt : L < s₂.heap.objs.size := F.ns.lt
  have hDL : s₂.heap.objs.size ≠ L := Ne.symm (below L hLlt).2
  have hCL : H2.objs.size ≠ L := Ne.symm (below L hLlt).1
  have offD : ∀ p ∈ news, p.1 ≠ s₂.heap.objs.size := fun p hp => (below _ (Heap.lt_size (N p hp).1)).2
  have offC : ∀ p ∈ news, p.1 ≠ H2.objs.size := fun p hp => (below _ (Heap.lt_size (N p hp).1)).1
  -- what a change at wr alone leaves as it was
  have frw : ∀ {h h' : Heap}, Fr h₀ L h m → (∀ b o, b ∉ wr → h.get? b = some o → h'.get? b = some o) → Fr h₀ L h' m := fun {h h'} F' hk =>
    ⟨F'.ns.at fun o e => hk _ o hwL e, fun b o e => hk b o (fun hm => by rw [hw₀ b hm] at e; cases e) (F'.keep b o e), F'.above⟩
  have neww : ∀ {h h' : Heap} {ys : List Value}, News h₀ L h ((s₂.heap.objs.size, LCg.lst ys) :: news) → (∀ b o, b ∉ wr → h.get? b = some o → h'.get? b = some o) → News h₀ L h' ((s₂.heap.objs.size, LCg.lst ys) :: news) := fun {h h' ys} N' hk p hp => by
    refine ⟨hk _ _ ?_ (N' p hp).1, (N' p hp).2⟩
    rcases List.mem_cons.mp hp with rfl | hp
    · exact hDw
    · exact hwn p hp
  have loop : ∀ s₃ : Shared, s₃ = { s₂ with heap := h₁, toks := s₂.toks + ([] : List (PySem.Str × Value)).length } →
      codeAny (model prog w) A (.compLoop (.ListComp elt [⟨.Tuple [.Name x px, .Name x₂ px₂] tk tp, iter, [], 0⟩] scope pos) 0 (.ref z) (.ref s₂.heap.objs.size) (compEnvC scope cl H2.objs.size env))
        (RR (.ref s₂.heap.objs.size) H2.objs.size) s₃ := by
    rintro s₃ rfl
    refine LCp.codeAny_compLoop_pair
      (fun k s' => ∃ h' tk i ys m', s' = { s₂ with heap := h', toks := tk } ∧ i ≤ n ∧ k = n + 1 - i ∧ ys.length = i ∧ St i h' ∧ Fr h₀ L h' m ∧ h'.Ns H2.objs.size m' ∧ News h₀ L h' ((s₂.heap.objs.size, LCg.lst ys) :: news) ∧ K i ys) ?_ (n + 1)
      ⟨h₁, _, 0, [], _, rfl, Nat.zero_le _, rfl, rfl, hst₁, F.keeps old, hns₁, fun p hp => ?_, hK⟩
    · rintro k s' ⟨h', tk, i, ys, m', rfl, hi, rfl, hyl, hst', F', hn', N', hK'⟩
      by_cases hlt : i < n
      · refine W.item i _ _ _ hlt hst' fun T vals h₂ tk₂ hPv _ hT hMid hk₂ => ?_
        obtain ⟨v₁, v₂, rfl⟩ := hPt _ _ hPv
        have hTw : T ∉ wr := W.apart _ _ _ hMid
        refine W.go _ _ _ i T _ _ _ hMid fun h₃ hst₃ hk₃ => ?_
        have ht : IsTup h₃ T #[v₁, v₂] := by
          obtain ⟨oT, eT, hcT, nT, hdT⟩ := hT
          exact ⟨oT, hk₃ _ _ hTw eT, hcT, nT, hdT⟩
        refine assign_Tuple_tuple hh ht rfl rfl fun h₅ he => ?_
        have he' : ∀ b o, h₃.get? b = some o → h₅.get? b = some o := fun b o e => he b o (Nat.ne_of_lt (Heap.lt_size e)) e
        have hn₃ : h₃.Ns H2.objs.size m' := (hn'.at fun o e => hk₂ _ o hCw e).at fun o e => hk₃ _ o hCw e
        refine assignInOrder_cons (wpAny_assign_Name (wpAny_storeName_local (lookup_relabel_local hx) (hn₃.at fun o e => he' _ o e) (fun h₆ hn₆ hs₆ => ?_) (by simp [compEnvC, relabel, hkind])))
        refine assignInOrder_cons (wpAny_assign_Name (wpAny_storeName_local (lookup_relabel_local hx₂) hn₆ (fun h₇ hn₇ hs₇ => ?_) (by simp [compEnvC, relabel, hkind])))
        refine assignInOrder_nil ?_
        have old7 : ∀ b o, b ≠ H2.objs.size → h₃.get? b = some o → h₇.get? b = some o := fun b o hb e => hs₇.extBut b o hb (hs₆.extBut b o hb (he' b o e))
        have hst₇ : St (i + 1) h₇ := W.frame _ _ _ hst₃ fun b hb o e => old7 b o (fun q => hCf (by rw [← q]; exact hb)) e
        have F₇ : Fr h₀ L h₇ m := (((frw (frw F' hk₂) hk₃).keeps he').change hs₆ hCL hC₀).change hs₇ hCL hC₀
        have N₃ := neww (neww N' hk₂) hk₃
        have N₇ : News h₀ L h₇ ((s₂.heap.objs.size, LCg.lst ys) :: news) := fun p hp => by
          refine ⟨old7 _ _ ?_ (N₃ p hp).1, (N₃ p hp).2⟩
          rcases List.mem_cons.mp hp with rfl | hp
          · exact hDC
          · exact offC p hp
        refine wpAny_mono (turn i v₁ v₂ ys H2.objs.size h₇ _ _ hlt hPv hK' hn₇ (by simp [hxx]) (by simp)) (fun y s₄ h₄ => ?_) fun _ _ e => e.elim
        obtain ⟨tk₄, rfl, K₄⟩ := h₄
        have zD := (N₇ (s₂.heap.objs.size, LCg.lst ys) (.head _)).1
        refine append_at (hsz := by show ys.toArray.size ≤ sizeLine; rw [List.size_toArray, hyl]; exact Nat.le_trans hi hsz) zD fun h₈ hs₈ hD₈ => ?_
        refine ⟨n + 1 - (i + 1), by omega, h₈, tk₄, i + 1, ys ++ [y], _, rfl, hlt, rfl, by rw [List.length_append, List.length_singleton, hyl], W.frame _ _ _ hst₇ fun b hb o e => hs₈.extBut b o (fun q => hDf (q ▸ hb)) e, F₇.change hs₈ hDL hD₀,
          hn₇.sameBut hs₈ (Ne.symm hDC), fun p hp => ?_, K₄⟩
        rcases List.mem_cons.mp hp with rfl | hp
        · exact ⟨hD₈.trans (congrArg some (LCg.lst_snoc ys y)), hDL, hD₀⟩
        · have z := N₇ p (.tail _ hp)
          exact ⟨hs₈.extBut _ _ (offD p hp) z.1, z.2⟩
      · obtain rfl : i = n := Nat.le_antisymm hi (Nat.not_lt.mp hlt)
        refine W.done _ _ _ hst' fun h₂ tk₂ hk₂ => ?_
        exact hRR _ _ h₂ tk₂ _ ys (frw F' hk₂) (neww N' hk₂) offD (hn'.at fun o e => hk₂ _ o hCw e) hC₀ hCL (Ne.symm hDC) offC hK'
    · rcases List.mem_cons.mp hp with rfl | hp
      · exact ⟨hacc, hDL, hD₀⟩
      · exact ⟨old _ _ (N p hp).1, (N p hp).2⟩
  exact codeAny_compStart_list (loop _ rfl) (W.self 0 _ _ _ hst₁ (loop _ rfl))

noncomputable def SrcZ (prog : Program) (w : World) (A : Around) (h₀ : Heap) (L : Addr) (m : PySem.Str → Option Value) (env : Env) (elt : Expr) (x x₂ : PySem.Str) (scope : Scope) (cl : List (PySem.Str × Addr)) (yn : PySem.Str) (Q : Flow → Shared → Prop) (xv : Value) (s₁ : Shared) : Prop :=
  ∃ (z : Addr) (fp wr : List Addr) (n : Nat) (Pt : Nat → Array Value → Prop) (St : Nat → Heap → Prop) (Mid : Nat → Addr → Heap → Prop) (news : List (Addr × Obj)) (K : Nat → List Value → Prop), xv = .ref z ∧ A.handled = none ∧ WalksT prog w A z fp wr n Pt St Mid ∧ n ≤ sizeLine ∧ St 0 s₁.heap ∧ (∀ b ∈ fp, b < s₁.heap.objs.size) ∧
    Fr h₀ L s₁.heap m ∧ News h₀ L s₁.heap news ∧ L ∉ wr ∧ (∀ b ∈ wr, h₀.get? b = none) ∧ (∀ p ∈ news, p.1 ∉ wr) ∧ K 0 [] ∧ (∀ i vals, Pt i vals → ∃ v₁ v₂, vals = #[v₁, v₂]) ∧
    (∀ i v₁ v₂ ys (C : Addr) h tk m₂, i < n → Pt i #[v₁, v₂] → K i ys → h.Ns C m₂ → m₂ x = some v₁ → m₂ x₂ = some v₂ →
      wpAny (model prog w) A (eval elt (compEnvC scope cl C env)) (fun y s₄ => ∃ tk', s₄ = { s₁ with heap := h, toks := tk' } ∧ K (i + 1) (ys ++ [y])) NoE { s₁ with heap := h, toks := tk }) ∧
    (∀ ys, K n ys → ∀ (D : Addr) h tk, Fr h₀ L h (fun z => if z = yn then some (.ref D) else m z) → News h₀ L h ((D, LCg.lst ys) :: news) → (∀ p ∈ news, p.1 ≠ D) → Q .next { s₁ with heap := h, toks := tk })
theorem Assign_CZ {elt iter : Expr} {x x₂ y : PySem.Str} {px px₂ tp py : Pos} {tk} {scope : Scope} {cl : List (PySem.Str × Addr)} {pos spos : Pos} {s : Shared} {Q : Flow → Shared → Prop} (_F₀ : Fr h₀ L s.heap m) (hLe : env.locals = L)
    (hsw : swapsWith (.ListComp elt [⟨.Tuple [.Name x px, .Name x₂ px₂] tk tp, iter, [], 0⟩] scope pos) (some (.Name y py)) spos.line env = pure true)
    (hclos : closureFor scope env = pure cl) (hcell : ∀ z ∈ scope.names, z.2 ≠ .cell) (hkind : scope.kind = .function)
    (hnames : ∀ z ∈ scope.names, z.2 = .local → scope.names.lookup z.1 = some .local) (hx : scope.names.lookup x = some .local) (hx₂ : scope.names.lookup x₂ = some .local) (hxx : x ≠ x₂)
    (hy : env.kindOf y = some .local) (hp : (env.scope.kind == .class || (env.scope.kind == .module && env.locals != env.globals)) = false)
    (h : wpAny (model prog w) A (eval iter env) (SrcZ prog w A h₀ L m env elt x x₂ scope cl y Q) E s)
    (hs : ∀ x, foldedSetIterable iter env x = pure x := by intro _; rfl) :
    wpAny (model prog w) A (exec (.Assign [.Name y py] (.ListComp elt [⟨.Tuple [.Name x px, .Name x₂ px₂] tk tp, iter, [], 0⟩] scope pos) spos) env) Q E s := by
  subst hLe
  rw [exec_Assign_Name_used _ _ _ _ hsw]
  refine wpAny_bind (wpAny_standAt (wpAny_bind ?_))
  show wpAny _ A (do let _ ← comprehension (.ListComp elt [⟨.Tuple [.Name x px, .Name x₂ px₂] tk tp, iter, [], 0⟩] scope pos) scope env _ (newList []) false (eval iter env) (some (assign (.Name y py) env))) _ _ s
  refine wpAny_bind (wpAny_mono (wpAny_comprehension_free (use := some (assign (.Name y py) env)) (Q := fun _ s' => Q .next s') rfl hs hclos hkind hnames
    (wpAny_mono h (fun xv s₁ h₁ => ?_) fun _ _ e => e)) (fun _ s' hq => wpAny_pure (wpAny_pure hq)) fun _ _ e => e)
  obtain ⟨z, fp, wr, n, Pt, St, Mid, news, K, rfl, hh, W, hsz, hst, hfp, F, N, hwL, hw₀, hwn, hK, hPt, turn, fin⟩ := h₁
  refine W.self 0 _ _ _ hst ?_
  refine block_T K W hsz hcell hkind hx hx₂ hxx hh hst hfp F N hwL hw₀ hwn hK hPt turn ?_
  intro D C h' tk m' ys F' N' o1 hn hC₀ hCL hCD offC hK'
  show wpAny _ A (assign (.Name y py) env (.ref D)) _ _ _
  refine wpAny_assign_Name (wpAny_storeName_local hy F'.ns (fun h₂ hn₂ hs₂ => ?_) hp)
  have hL₀ : h₀.get? env.locals = none := Heap.get?_none_of_le F'.above
  have F₂ : Fr h₀ env.locals h₂ (fun z => if z = y then some (.ref D) else m z) := ⟨hn₂, fun b o e => hs₂.extBut b o (fun q => by rw [q, hL₀] at e; cases e) (F'.keep b o e), F'.above⟩
  refine ⟨m', hn.sameBut hs₂ hCL, fun h'' hs'' => fin ys hK' D h'' _ (F₂.change hs'' hCL hC₀) (fun p hp => ?_) o1⟩
  have z : h₂.get? p.1 = some p.2 := hs₂.extBut _ _ (N' p hp).2.1 (N' p hp).1
  refine ⟨hs''.extBut _ _ ?_ z, (N' p hp).2⟩
  rcases List.mem_cons.mp hp with rfl | hp
  · exact Ne.symm hCD
  · exact offC p hp
end
end
section
noncomputable def dress (br : PySem.Str) (bs : List PySem.Str) : List PySem.Str := List.zipWith (fun c b => (⟨#[c]⟩ : PySem.Str) ++ b) br.cps.toList bs
theorem zipWith_take_succ {α β γ : Type} (f : α → β → γ) : ∀ (xs : List α) (ys : List β) (i : Nat) (x : α) (y : β), xs[i]? = some x → ys[i]? = some y → (List.zipWith f xs ys).take (i + 1) = (List.zipWith f xs ys).take i ++ [f x y]
  | [], _, _, _, _, h, _ => by simp at h
  | _ :: _, [], _, _, _, _, h => by simp at h
  | a :: xs, b :: ys, 0, x, y, h, h' => by
    simp at h h'; subst h h'; simp
  | a :: xs, b :: ys, i + 1, x, y, h, h' => by
    have := zipWith_take_succ f xs ys i x y (by simpa using h) (by simpa using h')
    simp only [List.zipWith_cons_cons, List.take_succ_cons, this, List.cons_append]
theorem strs_app3 : ∀ {vs ws : List Value} {xs ys : List PySem.Str}, StrsAre vs xs → StrsAre ws ys → StrsAre (vs ++ ws) (xs ++ ys)
  | _, _, _, _, .nil, h => h
  | _, _, _, _, .cons y t h', h => .cons y t (strs_app3 h' h)
section
variable {prog : Program} {w : World} {A : Around} {E : Value → Shared → Prop} {h₀ : Heap} {L : Addr} {m : PySem.Str → Option Value} {env : Env} {s : Shared}
theorem zip_src {x x₂ yn : PySem.Str} {p1 p2 p3 : Pos} {scope : Scope} {cl : List (PySem.Str × Addr)} {Q : Flow → Shared → Prop} {br : PySem.Str} {tb : Tok} {lb : Addr} {bv : List Value} {nb : Nat} {bs : List PySem.Str} {news : List (Addr × Obj)}
    (hh : A.handled = none) (F : Fr h₀ L s.heap m) (N : News h₀ L s.heap news) (hlb : (lb, listOf bv.toArray nb) ∈ news) (hbv : StrsAre bv bs) (hbl : bs.length = 6) (hbs : ∀ b ∈ bs, b.length < 100) (hbr : br.length = 6) (ha : br.cps.all (· < 128) = true)
    (hkind : scope.kind = .function) (hx : scope.names.lookup x = some .local) (hx₂ : scope.names.lookup x₂ = some .local)
    (hnext : ∀ ys (D : Addr) h tk, StrsAre ys (dress br bs) → Fr h₀ L h (fun z => if z = yn then some (.ref D) else m z) → News h₀ L h ((D, LCg.lst ys) :: news) → (∀ p ∈ news, p.1 ≠ D) → Q .next { s with heap := h, toks := tk })
    (hdb : (x == (PySem.Str.ofString "__debug__")) = false := by decide) (hdb₂ : (x₂ == (PySem.Str.ofString "__debug__")) = false := by decide) :
    wpAny (model prog w) A (call (.type "zip") [.str br tb, .ref lb]) (SrcZ prog w A h₀ L m env (.BinOp (.Name x p1) .Add (.Name x₂ p2) p3) x x₂ scope cl yn Q) E s := by
  have hls : s.heap.IsList lb bv.toArray := ⟨_, (N _ hlb).1, rfl, nb, rfl⟩
  have hllt : @LT.lt Nat _ lb s.heap.objs.size := Heap.lt_size (N _ hlb).1
  have hbz : br.cps.size = 6 := hbr
  have hvl : bv.length = 6 := by rw [hbv.len_eq, hbl]
  refine call_zip_SL hls fun h' hz hTI hTO hit hli hsz hk => ?_
  have hty : strIterType br = "str_ascii_iterator" := by unfold strIterType; rw [ha]; rfl
  rw [hty] at hit
  obtain ⟨n, hn⟩ : ∃ n : Nat, s.heap.objs.size = n := ⟨_, rfl⟩
  rw [hn] at hz hTI hTO hit hli hsz hllt ⊢
  have D : ZAp (n + 4) (n + 2) (n + 3) n (n + 1) [n] [n + 1, lb] := by
    constructor
    all_goals first
      | (show @Ne Nat _ _; (first | exact Nat.ne_of_lt (Nat.lt_add_of_pos_right (k := 1) (by decide)) | exact Nat.ne_of_lt (Nat.lt_add_of_pos_right (k := 2) (by decide)) | exact Nat.ne_of_lt (Nat.lt_add_of_pos_right (k := 3) (by decide)) | exact Nat.ne_of_lt (Nat.lt_add_of_pos_right (k := 4) (by decide)) | exact Nat.ne_of_lt (Nat.lt_add_of_pos_right (k := 5) (by decide)) | exact Nat.ne_of_gt (Nat.lt_add_of_pos_right (k := 1) (by decide)) | exact Nat.ne_of_gt (Nat.lt_add_of_pos_right (k := 2) (by decide)) | exact Nat.ne_of_gt (Nat.lt_add_of_pos_right (k := 3) (by decide)) | exact Nat.ne_of_gt (Nat.lt_add_of_pos_right (k := 4) (by decide)) | exact Nat.ne_of_gt (Nat.lt_add_of_pos_right (k := 5) (by decide)) | exact Nat.le_refl _ | exact Nat.le_add_right _ _ | exact Nat.add_lt_add_left (by decide) _ | omega))
      | (simp only [List.mem_cons, List.not_mem_nil, or_false, not_or]; first | (show @Ne Nat _ _; (first | exact Nat.ne_of_lt (Nat.lt_add_of_pos_right (k := 1) (by decide)) | exact Nat.ne_of_lt (Nat.lt_add_of_pos_right (k := 2) (by decide)) | exact Nat.ne_of_lt (Nat.lt_add_of_pos_right (k := 3) (by decide)) | exact Nat.ne_of_lt (Nat.lt_add_of_pos_right (k := 4) (by decide)) | exact Nat.ne_of_lt (Nat.lt_add_of_pos_right (k := 5) (by decide)) | exact Nat.ne_of_gt (Nat.lt_add_of_pos_right (k := 1) (by decide)) | exact Nat.ne_of_gt (Nat.lt_add_of_pos_right (k := 2) (by decide)) | exact Nat.ne_of_gt (Nat.lt_add_of_pos_right (k := 3) (by decide)) | exact Nat.ne_of_gt (Nat.lt_add_of_pos_right (k := 4) (by decide)) | exact Nat.ne_of_gt (Nat.lt_add_of_pos_right (k := 5) (by decide)) | exact Nat.le_refl _ | exact Nat.le_add_right _ _ | exact Nat.add_lt_add_left (by decide) _ | omega)) | exact ⟨by show @Ne Nat _ _; (first | exact Nat.ne_of_lt (Nat.lt_add_of_pos_right (k := 1) (by decide)) | exact Nat.ne_of_lt (Nat.lt_add_of_pos_right (k := 2) (by decide)) | exact Nat.ne_of_lt (Nat.lt_add_of_pos_right (k := 3) (by decide)) | exact Nat.ne_of_lt (Nat.lt_add_of_pos_right (k := 4) (by decide)) | exact Nat.ne_of_lt (Nat.lt_add_of_pos_right (k := 5) (by decide)) | exact Nat.ne_of_gt (Nat.lt_add_of_pos_right (k := 1) (by decide)) | exact Nat.ne_of_gt (Nat.lt_add_of_pos_right (k := 2) (by decide)) | exact Nat.ne_of_gt (Nat.lt_add_of_pos_right (k := 3) (by decide)) | exact Nat.ne_of_gt (Nat.lt_add_of_pos_right (k := 4) (by decide)) | exact Nat.ne_of_gt (Nat.lt_add_of_pos_right (k := 5) (by decide)) | exact Nat.le_refl _ | exact Nat.le_add_right _ _ | exact Nat.add_lt_add_left (by decide) _ | omega), by show @Ne Nat _ _; (first | exact Nat.ne_of_lt (Nat.lt_add_of_pos_right (k := 1) (by decide)) | exact Nat.ne_of_lt (Nat.lt_add_of_pos_right (k := 2) (by decide)) | exact Nat.ne_of_lt (Nat.lt_add_of_pos_right (k := 3) (by decide)) | exact Nat.ne_of_lt (Nat.lt_add_of_pos_right (k := 4) (by decide)) | exact Nat.ne_of_lt (Nat.lt_add_of_pos_right (k := 5) (by decide)) | exact Nat.ne_of_gt (Nat.lt_add_of_pos_right (k := 1) (by decide)) | exact Nat.ne_of_gt (Nat.lt_add_of_pos_right (k := 2) (by decide)) | exact Nat.ne_of_gt (Nat.lt_add_of_pos_right (k := 3) (by decide)) | exact Nat.ne_of_gt (Nat.lt_add_of_pos_right (k := 4) (by decide)) | exact Nat.ne_of_gt (Nat.lt_add_of_pos_right (k := 5) (by decide)) | exact Nat.le_refl _ | exact Nat.le_add_right _ _ | exact Nat.add_lt_add_left (by decide) _ | omega)⟩)
  have fr₀ : ∀ b : Nat, n ≤ b → h₀.get? b = none := fun b hb => by
    cases e : h₀.get? b with
    | none => rfl
    | some o => have := Heap.lt_size (F.keep _ _ e); rw [hn] at this; exact absurd this (Nat.not_lt.mpr hb)
  have hLn : @LT.lt Nat _ L n := hn ▸ F.ns.lt
  have Nn : ∀ p ∈ news, @LT.lt Nat _ p.1 n := fun p hp => hn ▸ Heap.lt_size (N p hp).1
  refine ⟨n + 4, _, _, _, _, _, _, news, fun i ys => StrsAre ys ((dress br bs).take i), rfl, hh,
    walksT_zipD (Draws.strAscii (A := A.in1) hh n br tb) (Draws.list (A := A.in1) hh (n + 1) lb (show @Ne Nat lb (n + 1) by omega) bv.toArray) D (List.mem_singleton.mpr rfl) (List.mem_cons_self ..) (by show br.cps.size ≤ bv.toArray.size; rw [hbz, List.size_toArray, hvl]; exact Nat.le_refl _),
    by show br.cps.size ≤ _; rw [hbz, sizeLine_eq]; decide, ⟨hz, hTI, ⟨_, _, hTO⟩, hit, hli, hls.at fun o e => hk _ o e⟩, ?_, F.keeps hk, N.grown hk, ?_, ?_, ?_, .nil, ?_, ?_, ?_⟩
  · intro b hb
    show @LT.lt Nat _ b h'.objs.size
    rw [hsz]
    simp only [List.cons_append, List.nil_append, List.mem_cons, List.not_mem_nil, or_false] at hb
    rcases hb with e | e | e | e | e | e
    all_goals (rw [e]; show @LT.lt Nat _ _ (n + 5); (first | exact Nat.ne_of_lt (Nat.lt_add_of_pos_right (k := 1) (by decide)) | exact Nat.ne_of_lt (Nat.lt_add_of_pos_right (k := 2) (by decide)) | exact Nat.ne_of_lt (Nat.lt_add_of_pos_right (k := 3) (by decide)) | exact Nat.ne_of_lt (Nat.lt_add_of_pos_right (k := 4) (by decide)) | exact Nat.ne_of_lt (Nat.lt_add_of_pos_right (k := 5) (by decide)) | exact Nat.ne_of_gt (Nat.lt_add_of_pos_right (k := 1) (by decide)) | exact Nat.ne_of_gt (Nat.lt_add_of_pos_right (k := 2) (by decide)) | exact Nat.ne_of_gt (Nat.lt_add_of_pos_right (k := 3) (by decide)) | exact Nat.ne_of_gt (Nat.lt_add_of_pos_right (k := 4) (by decide)) | exact Nat.ne_of_gt (Nat.lt_add_of_pos_right (k := 5) (by decide)) | exact Nat.le_refl _ | exact Nat.le_add_right _ _ | exact Nat.add_lt_add_left (by decide) _ | omega))
  · simp only [List.mem_cons, List.not_mem_nil, or_false, not_or]
    refine ⟨?_, ?_, ?_, ?_⟩ <;> (show @Ne Nat _ _; (first | exact Nat.ne_of_lt (Nat.lt_add_of_pos_right (k := 1) (by decide)) | exact Nat.ne_of_lt (Nat.lt_add_of_pos_right (k := 2) (by decide)) | exact Nat.ne_of_lt (Nat.lt_add_of_pos_right (k := 3) (by decide)) | exact Nat.ne_of_lt (Nat.lt_add_of_pos_right (k := 4) (by decide)) | exact Nat.ne_of_lt (Nat.lt_add_of_pos_right (k := 5) (by decide)) | exact Nat.ne_of_gt (Nat.lt_add_of_pos_right (k := 1) (by decide)) | exact Nat.ne_of_gt (Nat.lt_add_of_pos_right (k := 2) (by decide)) | exact Nat.ne_of_gt (Nat.lt_add_of_pos_right (k := 3) (by decide)) | exact Nat.ne_of_gt (Nat.lt_add_of_pos_right (k := 4) (by decide)) | exact Nat.ne_of_gt (Nat.lt_add_of_pos_right (k := 5) (by decide)) | exact Nat.le_refl _ | exact Nat.le_add_right _ _ | exact Nat.add_lt_add_left (by decide) _ | omega))
  · intro b hb
    simp only [List.mem_cons, List.not_mem_nil, or_false] at hb
    rcases hb with e | e | e | e <;> (rw [e]; exact fr₀ _ (by show @LE.le Nat _ n _; (first | exact Nat.ne_of_lt (Nat.lt_add_of_pos_right (k := 1) (by decide)) | exact Nat.ne_of_lt (Nat.lt_add_of_pos_right (k := 2) (by decide)) | exact Nat.ne_of_lt (Nat.lt_add_of_pos_right (k := 3) (by decide)) | exact Nat.ne_of_lt (Nat.lt_add_of_pos_right (k := 4) (by decide)) | exact Nat.ne_of_lt (Nat.lt_add_of_pos_right (k := 5) (by decide)) | exact Nat.ne_of_gt (Nat.lt_add_of_pos_right (k := 1) (by decide)) | exact Nat.ne_of_gt (Nat.lt_add_of_pos_right (k := 2) (by decide)) | exact Nat.ne_of_gt (Nat.lt_add_of_pos_right (k := 3) (by decide)) | exact Nat.ne_of_gt (Nat.lt_add_of_pos_right (k := 4) (by decide)) | exact Nat.ne_of_gt (Nat.lt_add_of_pos_right (k := 5) (by decide)) | exact Nat.le_refl _ | exact Nat.le_add_right _ _ | exact Nat.add_lt_add_left (by decide) _ | omega)))
  · intro p hp hb
    have := Nn p hp
    simp only [List.mem_cons, List.not_mem_nil, or_false] at hb
    rcases hb with e | e | e | e <;> (rw [e] at this; exact absurd this (Nat.not_lt.mpr (by show @LE.le Nat _ n _; (first | exact Nat.ne_of_lt (Nat.lt_add_of_pos_right (k := 1) (by decide)) | exact Nat.ne_of_lt (Nat.lt_add_of_pos_right (k := 2) (by decide)) | exact Nat.ne_of_lt (Nat.lt_add_of_pos_right (k := 3) (by decide)) | exact Nat.ne_of_lt (Nat.lt_add_of_pos_right (k := 4) (by decide)) | exact Nat.ne_of_lt (Nat.lt_add_of_pos_right (k := 5) (by decide)) | exact Nat.ne_of_gt (Nat.lt_add_of_pos_right (k := 1) (by decide)) | exact Nat.ne_of_gt (Nat.lt_add_of_pos_right (k := 2) (by decide)) | exact Nat.ne_of_gt (Nat.lt_add_of_pos_right (k := 3) (by decide)) | exact Nat.ne_of_gt (Nat.lt_add_of_pos_right (k := 4) (by decide)) | exact Nat.ne_of_gt (Nat.lt_add_of_pos_right (k := 5) (by decide)) | exact Nat.le_refl _ | exact Nat.le_add_right _ _ | exact Nat.add_lt_add_left (by decide) _ | omega))))
  · rintro i vals ⟨a, b, _, _, rfl⟩; exact ⟨a, b, rfl⟩
  · rintro i v₁ v₂ ys C h tk m₂ hi ⟨a, b, ⟨c, u, hc, rfl⟩, hb, e⟩ hys hn₂ h1 h2
    obtain ⟨e1, e2⟩ : v₁ = .str ⟨#[c]⟩ u ∧ v₂ = b := by
      have := congrArg Array.toList e
      simp at this
      exact this
    subst e1 e2
    have hb' : bv[i]? = some v₂ := by simpa using hb
    have hib : i < bs.length := by rw [← hbv.len_eq]; exact (List.getElem?_eq_some_iff.mp hb').1
    have hbi : bs[i]? = some bs[i] := List.getElem?_eq_getElem hib
    obtain ⟨t2, ht2⟩ := hbv.at hbi
    rw [hb'] at ht2
    obtain rfl : v₂ = .str bs[i] t2 := Option.some.inj ht2
    refine wpAny_BinOp (loadOwn hn₂ h1 (loadOwn hn₂ h2 (add_str (fun t' tk' => ?_) ?_) hkind hx₂ hdb₂) hkind hx hdb)
    · refine ⟨tk', rfl, ?_⟩
      show StrsAre _ ((dress br bs).take (i + 1))
      unfold dress at hys ⊢
      rw [zipWith_take_succ _ _ _ i c bs[i] (by rw [Array.getElem?_toList]; exact hc) hbi]
      exact strs_app3 hys (.cons _ _ .nil)
    · have := hbs bs[i] (List.getElem_mem _)
      rw [sizeLine_eq]
      show 1 + _ ≤ _
      omega
  · intro ys hys D h tk F' N' o1
    have e : (dress br bs).take br.cps.size = dress br bs := by
      refine List.take_of_length_le ?_
      unfold dress
      rw [List.length_zipWith, Array.length_toList]
      exact Nat.min_le_left _ _
    rw [e] at hys
    exact hnext ys D h tk hys F' N' o1
end
end
section
noncomputable abbrev joinD (br : PySem.Str) (bs : List PySem.Str) : PySem.Str := Txt.join (PySem.Str.ofString "") (dress br bs)
noncomputable def MateOK (br : PySem.Str) (ds ns : List PySem.Str) : Prop := ∀ i, i < 6 → sgOf br i = true → mate (segC ds) i < 6 ∧ (∀ p ∈ psOf br ds ns i, (Txt.lower p.1 == Txt.lower (ns.getD i PySem.Str.empty)) = false) ∧ (∀ p ∈ psOf br ds ns i ++ [(ns.getD i PySem.Str.empty, ns.getD (mate (segC ds) i) PySem.Str.empty)], (Txt.lower p.1 == Txt.lower (ns.getD (mate (segC ds) i) PySem.Str.empty)) = false)
noncomputable def RowOK (bs ns : List PySem.Str) (br : PySem.Str) : Prop :=
  br.length = 6 ∧ br.cps.all (· < 128) = true ∧ okText (joinD br bs) ∧ (∀ i k, ((((dress br bs).drop i).take k).map (·.length)).sum ≤ 1000) ∧ (∀ i j, okText (segT (dress br bs) i j)) ∧ (chk (joinD br bs) = true → MateOK br (dress br bs) ns)
noncomputable def NamesOK (ns : List PySem.Str) : Prop := ∀ k, Clean (ns.getD k PySem.Str.empty) ∧ Clean (Txt.lower (ns.getD k PySem.Str.empty)) ∧ (ns.getD k PySem.Str.empty).length < 100
noncomputable def keptOf (bs ns rows : List PySem.Str) : List (List (PySem.Str × PySem.Str)) := (rows.filter fun br => chk (joinD br bs)).map fun br => psOf br (dress br bs) ns 6
noncomputable def TabsAre (w : World) (nw : List (Addr × Obj)) (tv : List Value) (tbl : List (List (PySem.Str × PySem.Str))) : Prop :=
  tv.length = tbl.length ∧ ∀ (i : Nat) (ps : List (PySem.Str × PySem.Str)), tbl[i]? = some ps → ∃ a : Addr, tv[i]? = some (Value.ref a) ∧ IsTab w nw a ps
theorem TabsAre.mono {w : World} {nw nw' : List (Addr × Obj)} {tv : List Value} {tbl : List (List (PySem.Str × PySem.Str))} (x : TabsAre w nw tv tbl) (h : ∀ p ∈ nw, p ∈ nw') : TabsAre w nw' tv tbl :=
  ⟨x.1, fun i ps e => let ⟨a, e1, e2⟩ := x.2 i ps e; ⟨a, e1, e2.mono h⟩⟩
theorem TabsAre.snoc {w : World} {nw : List (Addr × Obj)} {tv : List Value} {tbl : List (List (PySem.Str × PySem.Str))} {a : Addr} {ps : List (PySem.Str × PySem.Str)} (x : TabsAre w nw tv tbl) (ha : IsTab w nw a ps) : TabsAre w nw (tv ++ [Value.ref a]) (tbl ++ [ps]) := by
  refine ⟨by simp [x.1], fun i ps' e => ?_⟩
  by_cases hi : i < tbl.length
  · rw [List.getElem?_append_left hi] at e
    obtain ⟨a', e1, e2⟩ := x.2 i ps' e
    exact ⟨a', by rw [List.getElem?_append_left (by rw [x.1]; exact hi)]; exact e1, e2⟩
  · rw [List.getElem?_append_right (Nat.le_of_not_lt hi)] at e
    have h0 : i - tbl.length = 0 := by
      cases q : i - tbl.length with
      | zero => rfl
      | succ k => rw [q] at e; simp at e
    rw [h0] at e
    simp at e
    subst e
    refine ⟨a, ?_, ha⟩
    rw [List.getElem?_append_right (by rw [x.1]; exact Nat.le_of_not_lt hi), x.1, h0]
    rfl
theorem keptOf_take_true {bs ns rows : List PySem.Str} {i : Nat} {br : PySem.Str} (h : rows[i]? = some br) (hc : chk (joinD br bs) = true) : keptOf bs ns (rows.take (i + 1)) = keptOf bs ns (rows.take i) ++ [psOf br (dress br bs) ns 6] := by
  unfold keptOf
  rw [List.take_add_one, h, Option.toList, List.filter_append, List.map_append, List.filter_cons_of_pos (by exact hc)]; rfl
theorem keptOf_take_false {bs ns rows : List PySem.Str} {i : Nat} {br : PySem.Str} (h : rows[i]? = some br) (hc : chk (joinD br bs) = false) : keptOf bs ns (rows.take (i + 1)) = keptOf bs ns (rows.take i) := by
  unfold keptOf
  rw [List.take_add_one, h, Option.toList, List.filter_append, List.map_append, List.filter_cons_of_neg (by rw [hc]; exact Bool.false_ne_true)]; simp
theorem dress_len {br : PySem.Str} {bs : List PySem.Str} (h1 : br.length = 6) (h2 : bs.length = 6) : (dress br bs).length = 6 := by
  unfold dress
  rw [List.length_zipWith, Array.length_toList, h2]
  show min br.length 6 = 6
  rw [h1]; rfl
noncomputable def RotOf {α : Type} (k : Nat) (l : List α) : List α := l.drop k ++ l.take k
section
variable {w : World} {mean : ExcName → Option Value} {mg mb : PySem.Str → Option Value} {base h₀ : Heap} {L fa : Addr} {cd : Value} {m : PySem.Str → Option Value} {s : Shared} {Q : Flow → Shared → Prop} {E : Value → Shared → Prop}
  (B : Below callerA base [] h₀) (F : Fr h₀ L s.heap m) (X : (hd.heap_39 w.params).In h₀) (T : Top hd.view_39 LO mean mg mb h₀)
include B F X T
set_option maxRecDepth 100000 in
set_option maxHeartbeats 8000000 in
set_option pp.deepTerms false in
set_option pp.deepTerms.threshold 8 in
theorem stH {dT dR dB dM : Addr} {rv bv nmv : List Value} {nF : Nat} {rs bs ns : List PySem.Str} {tt : Tok} {turn : Nat} {oN oT : Obj} {rest : List (Addr × Obj)} (N : News h₀ L s.heap ((dT, listOf #[] 0) :: (L + 1 + 1 + 1 + 1 + 1, oT) :: (dR, listOf rv.toArray nF) :: (dB, LCg.lst bv) :: (dM, LCg.lst nmv) :: (L + 1 + 1 + 1 + 1, oN) :: rest))
    (hoT : oT.data = .cell (some (.ref dT))) (hoN : oN.data = .cell (some (.ref dM))) (hrv : StrsAre rv rs) (hbv : StrsAre bv bs) (hnv : StrsAre nmv ns) (hrl : rs.length = 20) (hbl : bs.length = 6) (hnl : ns.length = 6) (ht : turn < 20)
    (hm1 : m (PySem.Str.ofString "rows") = some (.ref dR)) (hm2 : m (PySem.Str.ofString "turn") = some (.int (turn : Int) tt)) (hm3 : m (PySem.Str.ofString "behind") = some (.ref dB))
    (hoff : ∀ p ∈ (L + 1 + 1 + 1 + 1 + 1, oT) :: (dR, listOf rv.toArray nF) :: (dB, LCg.lst bv) :: (dM, LCg.lst nmv) :: (L + 1 + 1 + 1 + 1, oN) :: rest, p.1 ≠ dT)
    (hbs : ∀ b ∈ bs, b.length < 100) (hrow : ∀ br ∈ rs, RowOK bs ns br) (hnm : NamesOK ns) (hbare : Bare s.gens)
    (hnext : ∀ h' tk' gs' tv nT r1 (u : PySem.Str → Option Value), Fr h₀ L h' (fun y => if [PySem.Str.ofString "brackets", PySem.Str.ofString "dressed"].contains y = true then u y else m y) → 
      News h₀ L h' ((dT, listOf tv.toArray nT) :: (L + 1 + 1 + 1 + 1 + 1, oT) :: (dM, LCg.lst nmv) :: (L + 1 + 1 + 1 + 1, oN) :: (dB, LCg.lst bv) :: (r1 ++ rest)) → TabsAre w r1 tv (keptOf bs ns (RotOf turn rs)) → Bare gs' → (∀ p ∈ r1, ∀ q ∈ (dT, listOf #[] 0) :: (L + 1 + 1 + 1 + 1 + 1, oT) :: (dM, LCg.lst nmv) :: (L + 1 + 1 + 1 + 1, oN) :: (dB, LCg.lst bv) :: rest, p.1 ≠ q.1) →
      wpAny (model PySem.Challenge.rw_wa0038_01.row.prog w) (lawA L fa cd) (execs (lawBody.drop 10) (lawEnv L fa cd)) Q E { s with heap := h', toks := tk', gens := gs' }) :
    wpAny (model PySem.Challenge.rw_wa0038_01.row.prog w) (lawA L fa cd) (execs (lawBody.drop 9) (lawEnv L fa cd)) Q E s := by
  have F1 := fr_track F hm1
  have F2 := fr_track F1 (x := PySem.Str.ofString "turn") (v := .int (turn : Int) tt) (by rw [if_neg (by decide)]; exact hm2)
  have F3 := fr_track F2 (x := PySem.Str.ofString "behind") (v := .ref dB) (by rw [if_neg (by decide), if_neg (by decide)]; exact hm3)
  clear F F1 F2
  revert X; k_fill; intro X
  show wpAny _ (callerA.deeper (envOfC _ ⟨_, _, _, _, _⟩ _ _ _)) (execs (_ :: _) (envOfC _ ⟨_, _, _, _, _⟩ _ _ _)) _ _ _
  (repeat' (first | (k_unfold; (try dsimp only)) | (k_end; wrow_close) | ((((fail_if_success (with_reducible show wpAny _ _ (call (Value.builtin "dict.items") _ _) _ _ _)); (fail_if_success (with_reducible show wpAny _ _ (call (Value.type "range") _ _) _ _ _)); (fail_if_success (with_reducible show wpAny _ _ (call (Value.ref 112) _ _) _ _ _)); (fail_if_success (with_reducible show wpAny _ _ (eval (Expr.ListComp _ _ _ _) _) _ _ _)); (fail_if_success (with_reducible show wpAny _ _ (exec (Stmt.For _ _ _ _ _) _) _ _ _)); (fail_if_success (with_reducible show wpAny _ _ (exec (Stmt.While _ _ _ _) _) _ _ _)); (fail_if_success (with_reducible show wpAny _ _ (exec (Stmt.Assign [Expr.Name _ _] (Expr.ListComp _ _ _ _) _) _) _ _ _)))); first | (first | with_reducible (k_here; (with_reducible show wpAny _ _ (call (Value.ref 210) _ _) _ _ _); k_dflt (refine' pairs ?Bqz ?Fqz ?Xqz ?Nqz ?Tqz ?hkqz ?hbrqz ?hldqz ?hlnqz ?hdsqz ?hnsqz ?hdlqz ?hnlqz ?hsumqz ?hokqz ?hclqz ?hmtqz ?hdqz ?huqz ?hbqz ?_; (case Bqz => k_asm); (case Fqz => k_asm); (case Xqz => k_asm); (case Nqz => k_asm); (case Tqz => k_asm); (case hkqz => first | exact rfl | assumption); (case hbrqz => assumption); (case hldqz => k_mem); (case hlnqz => k_mem); (case hdsqz => exact hdv); (case hnsqz => exact hnv); (case hdlqz => assumption); (case hnlqz => assumption); (case hsumqz => assumption); (case hokqz => assumption); (case hclqz => assumption); (case hmtqz => exact hmat (by assumption)); (case hdqz => ktr_room); (case huqz => ktr_units); (case hbqz => assumption); intro x9 h9 tk9 gs9 r9 F9 N9 q91 T9 hb9; (try dsimp only))) | with_reducible (k_here; (with_reducible show wpAny _ _ (subscriptTail _ _ (Value.ref _) (Value.int _ _)) _ _ _); refine' item_strsA ?lqz ?iqz ?aqz ?bqz ?cqz ?_; (case lqz => exact News.isList (by k_asm) (by first | k_mem | exact .tail _ (.tail _ (by assumption)) | exact .tail _ (.tail _ (.tail _ (by assumption))))); (case iqz => assumption); (case aqz => omega); (case bqz => omega); (case cqz => omega); intro _; (try simp only [Int.toNat_natCast])) | with_reducible (k_here; (with_reducible show wpAny _ _ (call (Value.ref 59) _ _) _ _ _); k_dflt (refine' check ?Bqz ?Fqz ?Xqz ?Nqz ?Tqz ?hkqz ?hqqz ?haqz ?hlqz ?hdqz ?huqz ?hbqz ?_; (case Bqz => k_asm); (case Fqz => k_asm); (case Xqz => k_asm); (case Nqz => k_asm); (case Tqz => k_asm); (case hkqz => first | exact rfl | assumption); (case hqqz => assumption); (case haqz => assumption); (case hlqz => assumption); (case hdqz => ktr_room); (case huqz => ktr_units); (case hbqz => assumption); intro h12 tk12 gs12 F12 N12 hb12; (try dsimp only))) | with_reducible (k_here; (with_reducible show wpAny _ _ (call (Value.ref 199) _ _) _ _ _); k_dflt (refine' made ?Bqz ?Fqz ?Xqz ?Nqz ?Tqz ?hkqz ?hdqz ?_; (case Bqz => k_asm); (case Fqz => k_asm); (case Xqz => k_asm); (case Nqz => k_asm); (case Tqz => k_asm); (case hkqz => first | exact rfl | assumption); (case hdqz => ktr_room); intro x9 d9 l9 h9 tk9 tkk9 F9 N9 q91 q92 q93; (try dsimp only))) | walk1 | (k_here; (with_reducible show wpAny _ _ (subscriptTail _ _ (Value.ref _) (Value.int _ _)) _ _ _); refine' item_strsA ?lqz ?iqz ?aqz ?bqz ?cqz ?_; (case lqz => exact News.isList (by k_asm) (by first | k_mem | exact .tail _ (.tail _ (by assumption)) | exact .tail _ (.tail _ (.tail _ (by assumption))))); (case iqz => assumption); (case aqz => omega); (case bqz => omega); (case cqz => omega); intro _; (try simp only [Int.toNat_natCast]))) | (dsimp only; ((((fail_if_success (with_reducible show wpAny _ _ (call (Value.builtin "dict.items") _ _) _ _ _)); (fail_if_success (with_reducible show wpAny _ _ (call (Value.type "range") _ _) _ _ _)); (fail_if_success (with_reducible show wpAny _ _ (call (Value.ref 112) _ _) _ _ _)); (fail_if_success (with_reducible show wpAny _ _ (eval (Expr.ListComp _ _ _ _) _) _ _ _)); (fail_if_success (with_reducible show wpAny _ _ (exec (Stmt.For _ _ _ _ _) _) _ _ _)); (fail_if_success (with_reducible show wpAny _ _ (exec (Stmt.While _ _ _ _) _) _ _ _)); (fail_if_success (with_reducible show wpAny _ _ (exec (Stmt.Assign [Expr.Name _ _] (Expr.ListComp _ _ _ _) _) _) _ _ _))))); (first | with_reducible (k_here; (with_reducible show wpAny _ _ (call (Value.ref 210) _ _) _ _ _); k_dflt (refine' pairs ?Bqz ?Fqz ?Xqz ?Nqz ?Tqz ?hkqz ?hbrqz ?hldqz ?hlnqz ?hdsqz ?hnsqz ?hdlqz ?hnlqz ?hsumqz ?hokqz ?hclqz ?hmtqz ?hdqz ?huqz ?hbqz ?_; (case Bqz => k_asm); (case Fqz => k_asm); (case Xqz => k_asm); (case Nqz => k_asm); (case Tqz => k_asm); (case hkqz => first | exact rfl | assumption); (case hbrqz => assumption); (case hldqz => k_mem); (case hlnqz => k_mem); (case hdsqz => exact hdv); (case hnsqz => exact hnv); (case hdlqz => assumption); (case hnlqz => assumption); (case hsumqz => assumption); (case hokqz => assumption); (case hclqz => assumption); (case hmtqz => exact hmat (by assumption)); (case hdqz => ktr_room); (case huqz => ktr_units); (case hbqz => assumption); intro x9 h9 tk9 gs9 r9 F9 N9 q91 T9 hb9; (try dsimp only))) | with_reducible (k_here; (with_reducible show wpAny _ _ (subscriptTail _ _ (Value.ref _) (Value.int _ _)) _ _ _); refine' item_strsA ?lqz ?iqz ?aqz ?bqz ?cqz ?_; (case lqz => exact News.isList (by k_asm) (by first | k_mem | exact .tail _ (.tail _ (by assumption)) | exact .tail _ (.tail _ (.tail _ (by assumption))))); (case iqz => assumption); (case aqz => omega); (case bqz => omega); (case cqz => omega); intro _; (try simp only [Int.toNat_natCast])) | with_reducible (k_here; (with_reducible show wpAny _ _ (call (Value.ref 59) _ _) _ _ _); k_dflt (refine' check ?Bqz ?Fqz ?Xqz ?Nqz ?Tqz ?hkqz ?hqqz ?haqz ?hlqz ?hdqz ?huqz ?hbqz ?_; (case Bqz => k_asm); (case Fqz => k_asm); (case Xqz => k_asm); (case Nqz => k_asm); (case Tqz => k_asm); (case hkqz => first | exact rfl | assumption); (case hqqz => assumption); (case haqz => assumption); (case hlqz => assumption); (case hdqz => ktr_room); (case huqz => ktr_units); (case hbqz => assumption); intro h12 tk12 gs12 F12 N12 hb12; (try dsimp only))) | with_reducible (k_here; (with_reducible show wpAny _ _ (call (Value.ref 199) _ _) _ _ _); k_dflt (refine' made ?Bqz ?Fqz ?Xqz ?Nqz ?Tqz ?hkqz ?hdqz ?_; (case Bqz => k_asm); (case Fqz => k_asm); (case Xqz => k_asm); (case Nqz => k_asm); (case Tqz => k_asm); (case hkqz => first | exact rfl | assumption); (case hdqz => ktr_room); intro x9 d9 l9 h9 tk9 tkk9 F9 N9 q91 q92 q93; (try dsimp only))) | walk1 | (k_here; (with_reducible show wpAny _ _ (subscriptTail _ _ (Value.ref _) (Value.int _ _)) _ _ _); refine' item_strsA ?lqz ?iqz ?aqz ?bqz ?cqz ?_; (case lqz => exact News.isList (by k_asm) (by first | k_mem | exact .tail _ (.tail _ (by assumption)) | exact .tail _ (.tail _ (.tail _ (by assumption))))); (case iqz => assumption); (case aqz => omega); (case bqz => omega); (case cqz => omega); intro _; (try simp only [Int.toNat_natCast]))))) | (leave1; walk_say "STEP leave1"; try dsimp only) | fail "no step"))
  refine for_any ?_
  (repeat' (first | (k_unfold; (try dsimp only)) | (k_end; wrow_close) | ((((fail_if_success (with_reducible show wpAny _ _ (call (Value.builtin "dict.items") _ _) _ _ _)); (fail_if_success (with_reducible show wpAny _ _ (call (Value.type "range") _ _) _ _ _)); (fail_if_success (with_reducible show wpAny _ _ (call (Value.ref 112) _ _) _ _ _)); (fail_if_success (with_reducible show wpAny _ _ (eval (Expr.ListComp _ _ _ _) _) _ _ _)); (fail_if_success (with_reducible show wpAny _ _ (exec (Stmt.For _ _ _ _ _) _) _ _ _)); (fail_if_success (with_reducible show wpAny _ _ (exec (Stmt.While _ _ _ _) _) _ _ _)); (fail_if_success (with_reducible show wpAny _ _ (exec (Stmt.Assign [Expr.Name _ _] (Expr.ListComp _ _ _ _) _) _) _ _ _)))); first | (first | with_reducible (k_here; (with_reducible show wpAny _ _ (call (Value.ref 210) _ _) _ _ _); k_dflt (refine' pairs ?Bqz ?Fqz ?Xqz ?Nqz ?Tqz ?hkqz ?hbrqz ?hldqz ?hlnqz ?hdsqz ?hnsqz ?hdlqz ?hnlqz ?hsumqz ?hokqz ?hclqz ?hmtqz ?hdqz ?huqz ?hbqz ?_; (case Bqz => k_asm); (case Fqz => k_asm); (case Xqz => k_asm); (case Nqz => k_asm); (case Tqz => k_asm); (case hkqz => first | exact rfl | assumption); (case hbrqz => assumption); (case hldqz => k_mem); (case hlnqz => k_mem); (case hdsqz => exact hdv); (case hnsqz => exact hnv); (case hdlqz => assumption); (case hnlqz => assumption); (case hsumqz => assumption); (case hokqz => assumption); (case hclqz => assumption); (case hmtqz => exact hmat (by assumption)); (case hdqz => ktr_room); (case huqz => ktr_units); (case hbqz => assumption); intro x9 h9 tk9 gs9 r9 F9 N9 q91 T9 hb9; (try dsimp only))) | with_reducible (k_here; (with_reducible show wpAny _ _ (subscriptTail _ _ (Value.ref _) (Value.int _ _)) _ _ _); refine' item_strsA ?lqz ?iqz ?aqz ?bqz ?cqz ?_; (case lqz => exact News.isList (by k_asm) (by first | k_mem | exact .tail _ (.tail _ (by assumption)) | exact .tail _ (.tail _ (.tail _ (by assumption))))); (case iqz => assumption); (case aqz => omega); (case bqz => omega); (case cqz => omega); intro _; (try simp only [Int.toNat_natCast])) | with_reducible (k_here; (with_reducible show wpAny _ _ (call (Value.ref 59) _ _) _ _ _); k_dflt (refine' check ?Bqz ?Fqz ?Xqz ?Nqz ?Tqz ?hkqz ?hqqz ?haqz ?hlqz ?hdqz ?huqz ?hbqz ?_; (case Bqz => k_asm); (case Fqz => k_asm); (case Xqz => k_asm); (case Nqz => k_asm); (case Tqz => k_asm); (case hkqz => first | exact rfl | assumption); (case hqqz => assumption); (case haqz => assumption); (case hlqz => assumption); (case hdqz => ktr_room); (case huqz => ktr_units); (case hbqz => assumption); intro h12 tk12 gs12 F12 N12 hb12; (try dsimp only))) | with_reducible (k_here; (with_reducible show wpAny _ _ (call (Value.ref 199) _ _) _ _ _); k_dflt (refine' made ?Bqz ?Fqz ?Xqz ?Nqz ?Tqz ?hkqz ?hdqz ?_; (case Bqz => k_asm); (case Fqz => k_asm); (case Xqz => k_asm); (case Nqz => k_asm); (case Tqz => k_asm); (case hkqz => first | exact rfl | assumption); (case hdqz => ktr_room); intro x9 d9 l9 h9 tk9 tkk9 F9 N9 q91 q92 q93; (try dsimp only))) | walk1 | (k_here; (with_reducible show wpAny _ _ (subscriptTail _ _ (Value.ref _) (Value.int _ _)) _ _ _); refine' item_strsA ?lqz ?iqz ?aqz ?bqz ?cqz ?_; (case lqz => exact News.isList (by k_asm) (by first | k_mem | exact .tail _ (.tail _ (by assumption)) | exact .tail _ (.tail _ (.tail _ (by assumption))))); (case iqz => assumption); (case aqz => omega); (case bqz => omega); (case cqz => omega); intro _; (try simp only [Int.toNat_natCast]))) | (dsimp only; ((((fail_if_success (with_reducible show wpAny _ _ (call (Value.builtin "dict.items") _ _) _ _ _)); (fail_if_success (with_reducible show wpAny _ _ (call (Value.type "range") _ _) _ _ _)); (fail_if_success (with_reducible show wpAny _ _ (call (Value.ref 112) _ _) _ _ _)); (fail_if_success (with_reducible show wpAny _ _ (eval (Expr.ListComp _ _ _ _) _) _ _ _)); (fail_if_success (with_reducible show wpAny _ _ (exec (Stmt.For _ _ _ _ _) _) _ _ _)); (fail_if_success (with_reducible show wpAny _ _ (exec (Stmt.While _ _ _ _) _) _ _ _)); (fail_if_success (with_reducible show wpAny _ _ (exec (Stmt.Assign [Expr.Name _ _] (Expr.ListComp _ _ _ _) _) _) _ _ _))))); (first | with_reducible (k_here; (with_reducible show wpAny _ _ (call (Value.ref 210) _ _) _ _ _); k_dflt (refine' pairs ?Bqz ?Fqz ?Xqz ?Nqz ?Tqz ?hkqz ?hbrqz ?hldqz ?hlnqz ?hdsqz ?hnsqz ?hdlqz ?hnlqz ?hsumqz ?hokqz ?hclqz ?hmtqz ?hdqz ?huqz ?hbqz ?_; (case Bqz => k_asm); (case Fqz => k_asm); (case Xqz => k_asm); (case Nqz => k_asm); (case Tqz => k_asm); (case hkqz => first | exact rfl | assumption); (case hbrqz => assumption); (case hldqz => k_mem); (case hlnqz => k_mem); (case hdsqz => exact hdv); (case hnsqz => exact hnv); (case hdlqz => assumption); (case hnlqz => assumption); (case hsumqz => assumption); (case hokqz => assumption); (case hclqz => assumption); (case hmtqz => exact hmat (by assumption)); (case hdqz => ktr_room); (case huqz => ktr_units); (case hbqz => assumption); intro x9 h9 tk9 gs9 r9 F9 N9 q91 T9 hb9; (try dsimp only))) | with_reducible (k_here; (with_reducible show wpAny _ _ (subscriptTail _ _ (Value.ref _) (Value.int _ _)) _ _ _); refine' item_strsA ?lqz ?iqz ?aqz ?bqz ?cqz ?_; (case lqz => exact News.isList (by k_asm) (by first | k_mem | exact .tail _ (.tail _ (by assumption)) | exact .tail _ (.tail _ (.tail _ (by assumption))))); (case iqz => assumption); (case aqz => omega); (case bqz => omega); (case cqz => omega); intro _; (try simp only [Int.toNat_natCast])) | with_reducible (k_here; (with_reducible show wpAny _ _ (call (Value.ref 59) _ _) _ _ _); k_dflt (refine' check ?Bqz ?Fqz ?Xqz ?Nqz ?Tqz ?hkqz ?hqqz ?haqz ?hlqz ?hdqz ?huqz ?hbqz ?_; (case Bqz => k_asm); (case Fqz => k_asm); (case Xqz => k_asm); (case Nqz => k_asm); (case Tqz => k_asm); (case hkqz => first | exact rfl | assumption); (case hqqz => assumption); (case haqz => assumption); (case hlqz => assumption); (case hdqz => ktr_room); (case huqz => ktr_units); (case hbqz => assumption); intro h12 tk12 gs12 F12 N12 hb12; (try dsimp only))) | with_reducible (k_here; (with_reducible show wpAny _ _ (call (Value.ref 199) _ _) _ _ _); k_dflt (refine' made ?Bqz ?Fqz ?Xqz ?Nqz ?Tqz ?hkqz ?hdqz ?_; (case Bqz => k_asm); (case Fqz => k_asm); (case Xqz => k_asm); (case Nqz => k_asm); (case Tqz => k_asm); (case hkqz => first | exact rfl | assumption); (case hdqz => ktr_room); intro x9 d9 l9 h9 tk9 tkk9 F9 N9 q91 q92 q93; (try dsimp only))) | walk1 | (k_here; (with_reducible show wpAny _ _ (subscriptTail _ _ (Value.ref _) (Value.int _ _)) _ _ _); refine' item_strsA ?lqz ?iqz ?aqz ?bqz ?cqz ?_; (case lqz => exact News.isList (by k_asm) (by first | k_mem | exact .tail _ (.tail _ (by assumption)) | exact .tail _ (.tail _ (.tail _ (by assumption))))); (case iqz => assumption); (case aqz => omega); (case bqz => omega); (case cqz => omega); intro _; (try simp only [Int.toNat_natCast]))))) | (leave1; walk_say "STEP leave1"; try dsimp only) | fail "no step"))
  have e1 : slicePick rv.toArray (some (turn : Int)) none none = (rv.drop turn).toArray := slicePick_from' rv.toArray turn
  have e2 : slicePick rv.toArray none (some (turn : Int)) none = (rv.take turn).toArray := slicePick_upto' rv.toArray turn
  rename_i h1 Fa Na h2 Fb Nb
  rw [e1, e2] at Nb
  refine add_lists Fb Nb (News.isList Nb (.tail _ (.head _))) (News.isList Nb (.head _)) ?_ (by rw [sizeLine_eq]; simp [hrv.length, hrl]; omega)
  intro h3 Fc Nc
  (repeat' (first | (k_unfold; (try dsimp only)) | (k_end; wrow_close) | ((((fail_if_success (with_reducible show wpAny _ _ (call (Value.builtin "dict.items") _ _) _ _ _)); (fail_if_success (with_reducible show wpAny _ _ (call (Value.type "range") _ _) _ _ _)); (fail_if_success (with_reducible show wpAny _ _ (call (Value.ref 112) _ _) _ _ _)); (fail_if_success (with_reducible show wpAny _ _ (eval (Expr.ListComp _ _ _ _) _) _ _ _)); (fail_if_success (with_reducible show wpAny _ _ (exec (Stmt.For _ _ _ _ _) _) _ _ _)); (fail_if_success (with_reducible show wpAny _ _ (exec (Stmt.While _ _ _ _) _) _ _ _)); (fail_if_success (with_reducible show wpAny _ _ (exec (Stmt.Assign [Expr.Name _ _] (Expr.ListComp _ _ _ _) _) _) _ _ _)))); first | (first | with_reducible (k_here; (with_reducible show wpAny _ _ (call (Value.ref 210) _ _) _ _ _); k_dflt (refine' pairs ?Bqz ?Fqz ?Xqz ?Nqz ?Tqz ?hkqz ?hbrqz ?hldqz ?hlnqz ?hdsqz ?hnsqz ?hdlqz ?hnlqz ?hsumqz ?hokqz ?hclqz ?hmtqz ?hdqz ?huqz ?hbqz ?_; (case Bqz => k_asm); (case Fqz => k_asm); (case Xqz => k_asm); (case Nqz => k_asm); (case Tqz => k_asm); (case hkqz => first | exact rfl | assumption); (case hbrqz => assumption); (case hldqz => k_mem); (case hlnqz => k_mem); (case hdsqz => exact hdv); (case hnsqz => exact hnv); (case hdlqz => assumption); (case hnlqz => assumption); (case hsumqz => assumption); (case hokqz => assumption); (case hclqz => assumption); (case hmtqz => exact hmat (by assumption)); (case hdqz => ktr_room); (case huqz => ktr_units); (case hbqz => assumption); intro x9 h9 tk9 gs9 r9 F9 N9 q91 T9 hb9; (try dsimp only))) | with_reducible (k_here; (with_reducible show wpAny _ _ (subscriptTail _ _ (Value.ref _) (Value.int _ _)) _ _ _); refine' item_strsA ?lqz ?iqz ?aqz ?bqz ?cqz ?_; (case lqz => exact News.isList (by k_asm) (by first | k_mem | exact .tail _ (.tail _ (by assumption)) | exact .tail _ (.tail _ (.tail _ (by assumption))))); (case iqz => assumption); (case aqz => omega); (case bqz => omega); (case cqz => omega); intro _; (try simp only [Int.toNat_natCast])) | with_reducible (k_here; (with_reducible show wpAny _ _ (call (Value.ref 59) _ _) _ _ _); k_dflt (refine' check ?Bqz ?Fqz ?Xqz ?Nqz ?Tqz ?hkqz ?hqqz ?haqz ?hlqz ?hdqz ?huqz ?hbqz ?_; (case Bqz => k_asm); (case Fqz => k_asm); (case Xqz => k_asm); (case Nqz => k_asm); (case Tqz => k_asm); (case hkqz => first | exact rfl | assumption); (case hqqz => assumption); (case haqz => assumption); (case hlqz => assumption); (case hdqz => ktr_room); (case huqz => ktr_units); (case hbqz => assumption); intro h12 tk12 gs12 F12 N12 hb12; (try dsimp only))) | with_reducible (k_here; (with_reducible show wpAny _ _ (call (Value.ref 199) _ _) _ _ _); k_dflt (refine' made ?Bqz ?Fqz ?Xqz ?Nqz ?Tqz ?hkqz ?hdqz ?_; (case Bqz => k_asm); (case Fqz => k_asm); (case Xqz => k_asm); (case Nqz => k_asm); (case Tqz => k_asm); (case hkqz => first | exact rfl | assumption); (case hdqz => ktr_room); intro x9 d9 l9 h9 tk9 tkk9 F9 N9 q91 q92 q93; (try dsimp only))) | walk1 | (k_here; (with_reducible show wpAny _ _ (subscriptTail _ _ (Value.ref _) (Value.int _ _)) _ _ _); refine' item_strsA ?lqz ?iqz ?aqz ?bqz ?cqz ?_; (case lqz => exact News.isList (by k_asm) (by first | k_mem | exact .tail _ (.tail _ (by assumption)) | exact .tail _ (.tail _ (.tail _ (by assumption))))); (case iqz => assumption); (case aqz => omega); (case bqz => omega); (case cqz => omega); intro _; (try simp only [Int.toNat_natCast]))) | (dsimp only; ((((fail_if_success (with_reducible show wpAny _ _ (call (Value.builtin "dict.items") _ _) _ _ _)); (fail_if_success (with_reducible show wpAny _ _ (call (Value.type "range") _ _) _ _ _)); (fail_if_success (with_reducible show wpAny _ _ (call (Value.ref 112) _ _) _ _ _)); (fail_if_success (with_reducible show wpAny _ _ (eval (Expr.ListComp _ _ _ _) _) _ _ _)); (fail_if_success (with_reducible show wpAny _ _ (exec (Stmt.For _ _ _ _ _) _) _ _ _)); (fail_if_success (with_reducible show wpAny _ _ (exec (Stmt.While _ _ _ _) _) _ _ _)); (fail_if_success (with_reducible show wpAny _ _ (exec (Stmt.Assign [Expr.Name _ _] (Expr.ListComp _ _ _ _) _) _) _ _ _))))); (first | with_reducible (k_here; (with_reducible show wpAny _ _ (call (Value.ref 210) _ _) _ _ _); k_dflt (refine' pairs ?Bqz ?Fqz ?Xqz ?Nqz ?Tqz ?hkqz ?hbrqz ?hldqz ?hlnqz ?hdsqz ?hnsqz ?hdlqz ?hnlqz ?hsumqz ?hokqz ?hclqz ?hmtqz ?hdqz ?huqz ?hbqz ?_; (case Bqz => k_asm); (case Fqz => k_asm); (case Xqz => k_asm); (case Nqz => k_asm); (case Tqz => k_asm); (case hkqz => first | exact rfl | assumption); (case hbrqz => assumption); (case hldqz => k_mem); (case hlnqz => k_mem); (case hdsqz => exact hdv); (case hnsqz => exact hnv); (case hdlqz => assumption); (case hnlqz => assumption); (case hsumqz => assumption); (case hokqz => assumption); (case hclqz => assumption); (case hmtqz => exact hmat (by assumption)); (case hdqz => ktr_room); (case huqz => ktr_units); (case hbqz => assumption); intro x9 h9 tk9 gs9 r9 F9 N9 q91 T9 hb9; (try dsimp only))) | with_reducible (k_here; (with_reducible show wpAny _ _ (subscriptTail _ _ (Value.ref _) (Value.int _ _)) _ _ _); refine' item_strsA ?lqz ?iqz ?aqz ?bqz ?cqz ?_; (case lqz => exact News.isList (by k_asm) (by first | k_mem | exact .tail _ (.tail _ (by assumption)) | exact .tail _ (.tail _ (.tail _ (by assumption))))); (case iqz => assumption); (case aqz => omega); (case bqz => omega); (case cqz => omega); intro _; (try simp only [Int.toNat_natCast])) | with_reducible (k_here; (with_reducible show wpAny _ _ (call (Value.ref 59) _ _) _ _ _); k_dflt (refine' check ?Bqz ?Fqz ?Xqz ?Nqz ?Tqz ?hkqz ?hqqz ?haqz ?hlqz ?hdqz ?huqz ?hbqz ?_; (case Bqz => k_asm); (case Fqz => k_asm); (case Xqz => k_asm); (case Nqz => k_asm); (case Tqz => k_asm); (case hkqz => first | exact rfl | assumption); (case hqqz => assumption); (case haqz => assumption); (case hlqz => assumption); (case hdqz => ktr_room); (case huqz => ktr_units); (case hbqz => assumption); intro h12 tk12 gs12 F12 N12 hb12; (try dsimp only))) | with_reducible (k_here; (with_reducible show wpAny _ _ (call (Value.ref 199) _ _) _ _ _); k_dflt (refine' made ?Bqz ?Fqz ?Xqz ?Nqz ?Tqz ?hkqz ?hdqz ?_; (case Bqz => k_asm); (case Fqz => k_asm); (case Xqz => k_asm); (case Nqz => k_asm); (case Tqz => k_asm); (case hkqz => first | exact rfl | assumption); (case hdqz => ktr_room); intro x9 d9 l9 h9 tk9 tkk9 F9 N9 q91 q92 q93; (try dsimp only))) | walk1 | (k_here; (with_reducible show wpAny _ _ (subscriptTail _ _ (Value.ref _) (Value.int _ _)) _ _ _); refine' item_strsA ?lqz ?iqz ?aqz ?bqz ?cqz ?_; (case lqz => exact News.isList (by k_asm) (by first | k_mem | exact .tail _ (.tail _ (by assumption)) | exact .tail _ (.tail _ (.tail _ (by assumption))))); (case iqz => assumption); (case aqz => omega); (case bqz => omega); (case cqz => omega); intro _; (try simp only [Int.toNat_natCast]))))) | (leave1; walk_say "STEP leave1"; try dsimp only) | fail "no step"))
  obtain ⟨dC, hdC⟩ : ∃ dC : Addr, h2.objs.size = dC := ⟨_, rfl⟩
  simp only [hdC] at Nc ⊢
  have hTC : dT ≠ dC := by rw [← hdC]; exact Nat.ne_of_lt (Heap.lt_size (Nb _ (.tail _ (.tail _ (.head _)))).1)
  have hrvL : rv.length = 20 := by rw [hrv.len_eq]; exact hrl
  have hcat : StrsAre (rv.drop turn ++ rv.take turn) (RotOf turn rs) := strs_app2 (hrv.drop' turn) (hrv.take' turn)
  have hcl : (RotOf turn rs).length = 20 := by rw [← hcat.len_eq]; simp [hrvL]; omega
  have hsub : ∀ br ∈ RotOf turn rs, br ∈ rs := fun br h => by
    rcases List.mem_append.mp h with h | h
    · exact List.mem_of_mem_drop h
    · exact List.mem_of_mem_take h
  generalize hcv : rv.drop turn ++ rv.take turn = cv at *
  have Nd : News h₀ L h3 ((dT, listOf #[] 0) :: (L + 1 + 1 + 1 + 1 + 1, oT) :: (dM, LCg.lst nmv) :: (L + 1 + 1 + 1 + 1, oN) :: (dB, LCg.lst bv) :: (dC, listOf cv.toArray 0) :: ([] ++ rest)) := fun p hp => Nc p (by
    simp only [List.mem_cons, List.nil_append] at hp ⊢
    rcases hp with h | h | h | h | h | h | h
    · exact .inr (.inr (.inr (.inl h)))
    · exact .inr (.inr (.inr (.inr (.inl h))))
    · exact .inr (.inr (.inr (.inr (.inr (.inr (.inr (.inl h)))))))
    · exact .inr (.inr (.inr (.inr (.inr (.inr (.inr (.inr (.inl h))))))))
    · exact .inr (.inr (.inr (.inr (.inr (.inr (.inl h))))))
    · exact .inl h
    · exact .inr (.inr (.inr (.inr (.inr (.inr (.inr (.inr (.inr h)))))))))
  have hFC : ∀ q ∈ (dT, listOf #[] 0) :: (L + 1 + 1 + 1 + 1 + 1, oT) :: (dM, LCg.lst nmv) :: (L + 1 + 1 + 1 + 1, oN) :: (dB, LCg.lst bv) :: rest, dC ≠ q.1 := fun q hq e => by
    have : q ∈ (dT, listOf #[] 0) :: (L + 1 + 1 + 1 + 1 + 1, oT) :: (dR, listOf rv.toArray nF) :: (dB, LCg.lst bv) :: (dM, LCg.lst nmv) :: (L + 1 + 1 + 1 + 1, oN) :: rest := by
      simp only [List.mem_cons] at hq ⊢
      rcases hq with h | h | h | h | h | h
      all_goals simp only [h, true_or, or_true]
    have := Heap.lt_size (Nb q (.tail _ (.tail _ this))).1
    rw [hdC, ← e] at this
    exact Nat.lt_irrefl _ this
  clear Na Nb Nc Fa Fb N
  have o5 := hoff _ (.head _)
  have oM := hoff _ (.tail _ (.tail _ (.tail _ (.head _))))
  have o4 := hoff _ (.tail _ (.tail _ (.tail _ (.tail _ (.head _)))))
  have oB := hoff _ (.tail _ (.tail _ (.head _)))
  have oR : ∀ p ∈ rest, p.1 ≠ dT := fun p hp => hoff p (.tail _ (.tail _ (.tail _ (.tail _ (.tail _ hp)))))
  clear hoff
  refine iter_listO (items := cv.toArray) (n := 0) [PySem.Str.ofString "brackets", PySem.Str.ofString "dressed"]
    (fun i m' nw gs => Bare gs ∧ ∃ (tv : List Value) (nT : Nat) (r1 : List (Addr × Obj)), nw = (dT, listOf tv.toArray nT) :: (L + 1 + 1 + 1 + 1 + 1, oT) :: (dM, LCg.lst nmv) :: (L + 1 + 1 + 1 + 1, oN) :: (dB, LCg.lst bv) :: (dC, listOf cv.toArray 0) :: (r1 ++ rest) ∧ TabsAre w r1 tv (keptOf bs ns ((RotOf turn rs).take i)) ∧ (∀ p ∈ r1, ∀ q ∈ (dT, listOf #[] 0) :: (L + 1 + 1 + 1 + 1 + 1, oT) :: (dM, LCg.lst nmv) :: (L + 1 + 1 + 1 + 1, oN) :: (dB, LCg.lst bv) :: rest, p.1 ≠ q.1) ∧ tv.length ≤ i)
    (by rfl) Fc Nd ⟨hbare, [], 0, [], rfl, ⟨rfl, fun i ps e => by simp [keptOf] at e⟩, fun p hp => by simp at hp, Nat.le_refl _⟩ ?_ ?_ ?_
  · rintro i m' nw gs ⟨_, tv, nT, r1, rfl, _⟩
    exact .tail _ (.tail _ (.tail _ (.tail _ (.tail _ (.head _)))))
  · rintro i v u nw h tk gs I oI hv ⟨hba, tv, nT, r1, rfl, htabs, hfr1, htl⟩ off F6 N6
    refine cutT fun Rk hR => ?_
    have hr1 : ∀ p ∈ r1, p.1 ≠ dT := fun p hp => hfr1 p hp _ (.head _)
    have hled : ∀ q ∈ (dT, listOf #[] 0) :: (L + 1 + 1 + 1 + 1 + 1, oT) :: (dM, LCg.lst nmv) :: (L + 1 + 1 + 1 + 1, oN) :: (dB, LCg.lst bv) :: rest, ∃ o, (q.1, o) ∈ (I, oI) :: (dT, listOf tv.toArray nT) :: (L + 1 + 1 + 1 + 1 + 1, oT) :: (dM, LCg.lst nmv) :: (L + 1 + 1 + 1 + 1, oN) :: (dB, LCg.lst bv) :: (dC, listOf cv.toArray 0) :: (r1 ++ rest) := fun q hq => by
      simp only [List.mem_cons] at hq
      rcases hq with h | h | h | h | h | h
      · rw [h]; exact ⟨_, .tail _ (.head _)⟩
      · rw [h]; exact ⟨_, .tail _ (.tail _ (.head _))⟩
      · rw [h]; exact ⟨_, .tail _ (.tail _ (.tail _ (.head _)))⟩
      · rw [h]; exact ⟨_, .tail _ (.tail _ (.tail _ (.tail _ (.head _))))⟩
      · rw [h]; exact ⟨_, .tail _ (.tail _ (.tail _ (.tail _ (.tail _ (.head _)))))⟩
      · exact ⟨q.2, .tail _ (.tail _ (.tail _ (.tail _ (.tail _ (.tail _ (.tail _ (List.mem_append_right _ h)))))))⟩
    have hil : i < cv.length := by
      have := (Array.getElem?_eq_some_iff.mp hv).1
      simpa using this
    have hin : i < (RotOf turn rs).length := by rw [← hcat.len_eq]; exact hil
    obtain ⟨br, hbr⟩ : ∃ br, (RotOf turn rs)[i]? = some br := ⟨_, List.getElem?_eq_getElem hin⟩
    obtain ⟨tb, hbv'⟩ := hcat.at hbr
    have ev : v = .str br tb := by
      have : cv[i]? = some v := by simpa using hv
      rw [hbv'] at this
      exact (Option.some.inj this).symm
    subst ev
    obtain ⟨hbl6, hbas, hokj, hsum, hokt, hmat⟩ := hrow br (hsub br (List.mem_of_getElem? hbr))
    (repeat' (first | (k_unfold; (try dsimp only)) | (k_end; wrow_close) | ((((fail_if_success (with_reducible show wpAny _ _ (call (Value.builtin "dict.items") _ _) _ _ _)); (fail_if_success (with_reducible show wpAny _ _ (call (Value.type "range") _ _) _ _ _)); (fail_if_success (with_reducible show wpAny _ _ (call (Value.ref 112) _ _) _ _ _)); (fail_if_success (with_reducible show wpAny _ _ (eval (Expr.ListComp _ _ _ _) _) _ _ _)); (fail_if_success (with_reducible show wpAny _ _ (exec (Stmt.For _ _ _ _ _) _) _ _ _)); (fail_if_success (with_reducible show wpAny _ _ (exec (Stmt.While _ _ _ _) _) _ _ _)); (fail_if_success (with_reducible show wpAny _ _ (exec (Stmt.Assign [Expr.Name _ _] (Expr.ListComp _ _ _ _) _) _) _ _ _)))); first | (first | with_reducible (k_here; (with_reducible show wpAny _ _ (call (Value.ref 210) _ _) _ _ _); k_dflt (refine' pairs ?Bqz ?Fqz ?Xqz ?Nqz ?Tqz ?hkqz ?hbrqz ?hldqz ?hlnqz ?hdsqz ?hnsqz ?hdlqz ?hnlqz ?hsumqz ?hokqz ?hclqz ?hmtqz ?hdqz ?huqz ?hbqz ?_; (case Bqz => k_asm); (case Fqz => k_asm); (case Xqz => k_asm); (case Nqz => k_asm); (case Tqz => k_asm); (case hkqz => first | exact rfl | assumption); (case hbrqz => assumption); (case hldqz => k_mem); (case hlnqz => k_mem); (case hdsqz => exact hdv); (case hnsqz => exact hnv); (case hdlqz => assumption); (case hnlqz => assumption); (case hsumqz => assumption); (case hokqz => assumption); (case hclqz => assumption); (case hmtqz => exact hmat (by assumption)); (case hdqz => ktr_room); (case huqz => ktr_units); (case hbqz => assumption); intro x9 h9 tk9 gs9 r9 F9 N9 q91 T9 hb9; (try dsimp only))) | with_reducible (k_here; (with_reducible show wpAny _ _ (subscriptTail _ _ (Value.ref _) (Value.int _ _)) _ _ _); refine' item_strsA ?lqz ?iqz ?aqz ?bqz ?cqz ?_; (case lqz => exact News.isList (by k_asm) (by first | k_mem | exact .tail _ (.tail _ (by assumption)) | exact .tail _ (.tail _ (.tail _ (by assumption))))); (case iqz => assumption); (case aqz => omega); (case bqz => omega); (case cqz => omega); intro _; (try simp only [Int.toNat_natCast])) | with_reducible (k_here; (with_reducible show wpAny _ _ (call (Value.ref 59) _ _) _ _ _); k_dflt (refine' check ?Bqz ?Fqz ?Xqz ?Nqz ?Tqz ?hkqz ?hqqz ?haqz ?hlqz ?hdqz ?huqz ?hbqz ?_; (case Bqz => k_asm); (case Fqz => k_asm); (case Xqz => k_asm); (case Nqz => k_asm); (case Tqz => k_asm); (case hkqz => first | exact rfl | assumption); (case hqqz => assumption); (case haqz => assumption); (case hlqz => assumption); (case hdqz => ktr_room); (case huqz => ktr_units); (case hbqz => assumption); intro h12 tk12 gs12 F12 N12 hb12; (try dsimp only))) | with_reducible (k_here; (with_reducible show wpAny _ _ (call (Value.ref 199) _ _) _ _ _); k_dflt (refine' made ?Bqz ?Fqz ?Xqz ?Nqz ?Tqz ?hkqz ?hdqz ?_; (case Bqz => k_asm); (case Fqz => k_asm); (case Xqz => k_asm); (case Nqz => k_asm); (case Tqz => k_asm); (case hkqz => first | exact rfl | assumption); (case hdqz => ktr_room); intro x9 d9 l9 h9 tk9 tkk9 F9 N9 q91 q92 q93; (try dsimp only))) | walk1 | (k_here; (with_reducible show wpAny _ _ (subscriptTail _ _ (Value.ref _) (Value.int _ _)) _ _ _); refine' item_strsA ?lqz ?iqz ?aqz ?bqz ?cqz ?_; (case lqz => exact News.isList (by k_asm) (by first | k_mem | exact .tail _ (.tail _ (by assumption)) | exact .tail _ (.tail _ (.tail _ (by assumption))))); (case iqz => assumption); (case aqz => omega); (case bqz => omega); (case cqz => omega); intro _; (try simp only [Int.toNat_natCast]))) | (dsimp only; ((((fail_if_success (with_reducible show wpAny _ _ (call (Value.builtin "dict.items") _ _) _ _ _)); (fail_if_success (with_reducible show wpAny _ _ (call (Value.type "range") _ _) _ _ _)); (fail_if_success (with_reducible show wpAny _ _ (call (Value.ref 112) _ _) _ _ _)); (fail_if_success (with_reducible show wpAny _ _ (eval (Expr.ListComp _ _ _ _) _) _ _ _)); (fail_if_success (with_reducible show wpAny _ _ (exec (Stmt.For _ _ _ _ _) _) _ _ _)); (fail_if_success (with_reducible show wpAny _ _ (exec (Stmt.While _ _ _ _) _) _ _ _)); (fail_if_success (with_reducible show wpAny _ _ (exec (Stmt.Assign [Expr.Name _ _] (Expr.ListComp _ _ _ _) _) _) _ _ _))))); (first | with_reducible (k_here; (with_reducible show wpAny _ _ (call (Value.ref 210) _ _) _ _ _); k_dflt (refine' pairs ?Bqz ?Fqz ?Xqz ?Nqz ?Tqz ?hkqz ?hbrqz ?hldqz ?hlnqz ?hdsqz ?hnsqz ?hdlqz ?hnlqz ?hsumqz ?hokqz ?hclqz ?hmtqz ?hdqz ?huqz ?hbqz ?_; (case Bqz => k_asm); (case Fqz => k_asm); (case Xqz => k_asm); (case Nqz => k_asm); (case Tqz => k_asm); (case hkqz => first | exact rfl | assumption); (case hbrqz => assumption); (case hldqz => k_mem); (case hlnqz => k_mem); (case hdsqz => exact hdv); (case hnsqz => exact hnv); (case hdlqz => assumption); (case hnlqz => assumption); (case hsumqz => assumption); (case hokqz => assumption); (case hclqz => assumption); (case hmtqz => exact hmat (by assumption)); (case hdqz => ktr_room); (case huqz => ktr_units); (case hbqz => assumption); intro x9 h9 tk9 gs9 r9 F9 N9 q91 T9 hb9; (try dsimp only))) | with_reducible (k_here; (with_reducible show wpAny _ _ (subscriptTail _ _ (Value.ref _) (Value.int _ _)) _ _ _); refine' item_strsA ?lqz ?iqz ?aqz ?bqz ?cqz ?_; (case lqz => exact News.isList (by k_asm) (by first | k_mem | exact .tail _ (.tail _ (by assumption)) | exact .tail _ (.tail _ (.tail _ (by assumption))))); (case iqz => assumption); (case aqz => omega); (case bqz => omega); (case cqz => omega); intro _; (try simp only [Int.toNat_natCast])) | with_reducible (k_here; (with_reducible show wpAny _ _ (call (Value.ref 59) _ _) _ _ _); k_dflt (refine' check ?Bqz ?Fqz ?Xqz ?Nqz ?Tqz ?hkqz ?hqqz ?haqz ?hlqz ?hdqz ?huqz ?hbqz ?_; (case Bqz => k_asm); (case Fqz => k_asm); (case Xqz => k_asm); (case Nqz => k_asm); (case Tqz => k_asm); (case hkqz => first | exact rfl | assumption); (case hqqz => assumption); (case haqz => assumption); (case hlqz => assumption); (case hdqz => ktr_room); (case huqz => ktr_units); (case hbqz => assumption); intro h12 tk12 gs12 F12 N12 hb12; (try dsimp only))) | with_reducible (k_here; (with_reducible show wpAny _ _ (call (Value.ref 199) _ _) _ _ _); k_dflt (refine' made ?Bqz ?Fqz ?Xqz ?Nqz ?Tqz ?hkqz ?hdqz ?_; (case Bqz => k_asm); (case Fqz => k_asm); (case Xqz => k_asm); (case Nqz => k_asm); (case Tqz => k_asm); (case hkqz => first | exact rfl | assumption); (case hdqz => ktr_room); intro x9 d9 l9 h9 tk9 tkk9 F9 N9 q91 q92 q93; (try dsimp only))) | walk1 | (k_here; (with_reducible show wpAny _ _ (subscriptTail _ _ (Value.ref _) (Value.int _ _)) _ _ _); refine' item_strsA ?lqz ?iqz ?aqz ?bqz ?cqz ?_; (case lqz => exact News.isList (by k_asm) (by first | k_mem | exact .tail _ (.tail _ (by assumption)) | exact .tail _ (.tail _ (.tail _ (by assumption))))); (case iqz => assumption); (case aqz => omega); (case bqz => omega); (case cqz => omega); intro _; (try simp only [Int.toNat_natCast]))))) | (leave1; walk_say "STEP leave1"; try dsimp only) | fail "no step"))
    refine Assign_CZ (by k_asm) (by rfl) (by with_unfolding_all rfl) (by with_unfolding_all rfl) (by decide) (by rfl) (by decide) (by rfl) (by rfl) (by decide) (by rfl) (by rfl) ?_
    (repeat' (first | (k_unfold; (try dsimp only)) | (k_end; wrow_close) | ((((fail_if_success (with_reducible show wpAny _ _ (call (Value.builtin "dict.items") _ _) _ _ _)); (fail_if_success (with_reducible show wpAny _ _ (call (Value.type "range") _ _) _ _ _)); (fail_if_success (with_reducible show wpAny _ _ (call (Value.ref 112) _ _) _ _ _)); (fail_if_success (with_reducible show wpAny _ _ (eval (Expr.ListComp _ _ _ _) _) _ _ _)); (fail_if_success (with_reducible show wpAny _ _ (exec (Stmt.For _ _ _ _ _) _) _ _ _)); (fail_if_success (with_reducible show wpAny _ _ (exec (Stmt.While _ _ _ _) _) _ _ _)); (fail_if_success (with_reducible show wpAny _ _ (exec (Stmt.Assign [Expr.Name _ _] (Expr.ListComp _ _ _ _) _) _) _ _ _)))); first | (first | with_reducible (k_here; (with_reducible show wpAny _ _ (call (Value.ref 210) _ _) _ _ _); k_dflt (refine' pairs ?Bqz ?Fqz ?Xqz ?Nqz ?Tqz ?hkqz ?hbrqz ?hldqz ?hlnqz ?hdsqz ?hnsqz ?hdlqz ?hnlqz ?hsumqz ?hokqz ?hclqz ?hmtqz ?hdqz ?huqz ?hbqz ?_; (case Bqz => k_asm); (case Fqz => k_asm); (case Xqz => k_asm); (case Nqz => k_asm); (case Tqz => k_asm); (case hkqz => first | exact rfl | assumption); (case hbrqz => assumption); (case hldqz => k_mem); (case hlnqz => k_mem); (case hdsqz => exact hdv); (case hnsqz => exact hnv); (case hdlqz => assumption); (case hnlqz => assumption); (case hsumqz => assumption); (case hokqz => assumption); (case hclqz => assumption); (case hmtqz => exact hmat (by assumption)); (case hdqz => ktr_room); (case huqz => ktr_units); (case hbqz => assumption); intro x9 h9 tk9 gs9 r9 F9 N9 q91 T9 hb9; (try dsimp only))) | with_reducible (k_here; (with_reducible show wpAny _ _ (subscriptTail _ _ (Value.ref _) (Value.int _ _)) _ _ _); refine' item_strsA ?lqz ?iqz ?aqz ?bqz ?cqz ?_; (case lqz => exact News.isList (by k_asm) (by first | k_mem | exact .tail _ (.tail _ (by assumption)) | exact .tail _ (.tail _ (.tail _ (by assumption))))); (case iqz => assumption); (case aqz => omega); (case bqz => omega); (case cqz => omega); intro _; (try simp only [Int.toNat_natCast])) | with_reducible (k_here; (with_reducible show wpAny _ _ (call (Value.ref 59) _ _) _ _ _); k_dflt (refine' check ?Bqz ?Fqz ?Xqz ?Nqz ?Tqz ?hkqz ?hqqz ?haqz ?hlqz ?hdqz ?huqz ?hbqz ?_; (case Bqz => k_asm); (case Fqz => k_asm); (case Xqz => k_asm); (case Nqz => k_asm); (case Tqz => k_asm); (case hkqz => first | exact rfl | assumption); (case hqqz => assumption); (case haqz => assumption); (case hlqz => assumption); (case hdqz => ktr_room); (case huqz => ktr_units); (case hbqz => assumption); intro h12 tk12 gs12 F12 N12 hb12; (try dsimp only))) | with_reducible (k_here; (with_reducible show wpAny _ _ (call (Value.ref 199) _ _) _ _ _); k_dflt (refine' made ?Bqz ?Fqz ?Xqz ?Nqz ?Tqz ?hkqz ?hdqz ?_; (case Bqz => k_asm); (case Fqz => k_asm); (case Xqz => k_asm); (case Nqz => k_asm); (case Tqz => k_asm); (case hkqz => first | exact rfl | assumption); (case hdqz => ktr_room); intro x9 d9 l9 h9 tk9 tkk9 F9 N9 q91 q92 q93; (try dsimp only))) | walk1 | (k_here; (with_reducible show wpAny _ _ (subscriptTail _ _ (Value.ref _) (Value.int _ _)) _ _ _); refine' item_strsA ?lqz ?iqz ?aqz ?bqz ?cqz ?_; (case lqz => exact News.isList (by k_asm) (by first | k_mem | exact .tail _ (.tail _ (by assumption)) | exact .tail _ (.tail _ (.tail _ (by assumption))))); (case iqz => assumption); (case aqz => omega); (case bqz => omega); (case cqz => omega); intro _; (try simp only [Int.toNat_natCast]))) | (dsimp only; ((((fail_if_success (with_reducible show wpAny _ _ (call (Value.builtin "dict.items") _ _) _ _ _)); (fail_if_success (with_reducible show wpAny _ _ (call (Value.type "range") _ _) _ _ _)); (fail_if_success (with_reducible show wpAny _ _ (call (Value.ref 112) _ _) _ _ _)); (fail_if_success (with_reducible show wpAny _ _ (eval (Expr.ListComp _ _ _ _) _) _ _ _)); (fail_if_success (with_reducible show wpAny _ _ (exec (Stmt.For _ _ _ _ _) _) _ _ _)); (fail_if_success (with_reducible show wpAny _ _ (exec (Stmt.While _ _ _ _) _) _ _ _)); (fail_if_success (with_reducible show wpAny _ _ (exec (Stmt.Assign [Expr.Name _ _] (Expr.ListComp _ _ _ _) _) _) _ _ _))))); (first | with_reducible (k_here; (with_reducible show wpAny _ _ (call (Value.ref 210) _ _) _ _ _); k_dflt (refine' pairs ?Bqz ?Fqz ?Xqz ?Nqz ?Tqz ?hkqz ?hbrqz ?hldqz ?hlnqz ?hdsqz ?hnsqz ?hdlqz ?hnlqz ?hsumqz ?hokqz ?hclqz ?hmtqz ?hdqz ?huqz ?hbqz ?_; (case Bqz => k_asm); (case Fqz => k_asm); (case Xqz => k_asm); (case Nqz => k_asm); (case Tqz => k_asm); (case hkqz => first | exact rfl | assumption); (case hbrqz => assumption); (case hldqz => k_mem); (case hlnqz => k_mem); (case hdsqz => exact hdv); (case hnsqz => exact hnv); (case hdlqz => assumption); (case hnlqz => assumption); (case hsumqz => assumption); (case hokqz => assumption); (case hclqz => assumption); (case hmtqz => exact hmat (by assumption)); (case hdqz => ktr_room); (case huqz => ktr_units); (case hbqz => assumption); intro x9 h9 tk9 gs9 r9 F9 N9 q91 T9 hb9; (try dsimp only))) | with_reducible (k_here; (with_reducible show wpAny _ _ (subscriptTail _ _ (Value.ref _) (Value.int _ _)) _ _ _); refine' item_strsA ?lqz ?iqz ?aqz ?bqz ?cqz ?_; (case lqz => exact News.isList (by k_asm) (by first | k_mem | exact .tail _ (.tail _ (by assumption)) | exact .tail _ (.tail _ (.tail _ (by assumption))))); (case iqz => assumption); (case aqz => omega); (case bqz => omega); (case cqz => omega); intro _; (try simp only [Int.toNat_natCast])) | with_reducible (k_here; (with_reducible show wpAny _ _ (call (Value.ref 59) _ _) _ _ _); k_dflt (refine' check ?Bqz ?Fqz ?Xqz ?Nqz ?Tqz ?hkqz ?hqqz ?haqz ?hlqz ?hdqz ?huqz ?hbqz ?_; (case Bqz => k_asm); (case Fqz => k_asm); (case Xqz => k_asm); (case Nqz => k_asm); (case Tqz => k_asm); (case hkqz => first | exact rfl | assumption); (case hqqz => assumption); (case haqz => assumption); (case hlqz => assumption); (case hdqz => ktr_room); (case huqz => ktr_units); (case hbqz => assumption); intro h12 tk12 gs12 F12 N12 hb12; (try dsimp only))) | with_reducible (k_here; (with_reducible show wpAny _ _ (call (Value.ref 199) _ _) _ _ _); k_dflt (refine' made ?Bqz ?Fqz ?Xqz ?Nqz ?Tqz ?hkqz ?hdqz ?_; (case Bqz => k_asm); (case Fqz => k_asm); (case Xqz => k_asm); (case Nqz => k_asm); (case Tqz => k_asm); (case hkqz => first | exact rfl | assumption); (case hdqz => ktr_room); intro x9 d9 l9 h9 tk9 tkk9 F9 N9 q91 q92 q93; (try dsimp only))) | walk1 | (k_here; (with_reducible show wpAny _ _ (subscriptTail _ _ (Value.ref _) (Value.int _ _)) _ _ _); refine' item_strsA ?lqz ?iqz ?aqz ?bqz ?cqz ?_; (case lqz => exact News.isList (by k_asm) (by first | k_mem | exact .tail _ (.tail _ (by assumption)) | exact .tail _ (.tail _ (.tail _ (by assumption))))); (case iqz => assumption); (case aqz => omega); (case bqz => omega); (case cqz => omega); intro _; (try simp only [Int.toNat_natCast]))))) | (leave1; walk_say "STEP leave1"; try dsimp only) | fail "no step"))
    rename Fr _ _ _ _ => F6a
    rename News _ _ _ _ => N6a
    refine zip_src (L := L) (by rfl) F6a N6a (bv := bv) (nb := bv.length) (.tail _ (.tail _ (.tail _ (.tail _ (.tail _ (.head _)))))) hbv hbl hbs hbl6 hbas (by rfl) (by rfl) (by rfl) ?_
    intro dv D h7 tk7 hdv F7 N7 oD
    have hds : StrsAre (dv.toArray.toList) (dress br bs) := hdv
    have hdl6 := dress_len hbl6 hbl
    (repeat' (first | (k_unfold; (try dsimp only)) | (k_end; wrow_close) | ((((fail_if_success (with_reducible show wpAny _ _ (call (Value.builtin "dict.items") _ _) _ _ _)); (fail_if_success (with_reducible show wpAny _ _ (call (Value.type "range") _ _) _ _ _)); (fail_if_success (with_reducible show wpAny _ _ (call (Value.ref 112) _ _) _ _ _)); (fail_if_success (with_reducible show wpAny _ _ (eval (Expr.ListComp _ _ _ _) _) _ _ _)); (fail_if_success (with_reducible show wpAny _ _ (exec (Stmt.For _ _ _ _ _) _) _ _ _)); (fail_if_success (with_reducible show wpAny _ _ (exec (Stmt.While _ _ _ _) _) _ _ _)); (fail_if_success (with_reducible show wpAny _ _ (exec (Stmt.Assign [Expr.Name _ _] (Expr.ListComp _ _ _ _) _) _) _ _ _)))); first | (first | with_reducible (k_here; (with_reducible show wpAny _ _ (call (Value.ref 210) _ _) _ _ _); k_dflt (refine' pairs ?Bqz ?Fqz ?Xqz ?Nqz ?Tqz ?hkqz ?hbrqz ?hldqz ?hlnqz ?hdsqz ?hnsqz ?hdlqz ?hnlqz ?hsumqz ?hokqz ?hclqz ?hmtqz ?hdqz ?huqz ?hbqz ?_; (case Bqz => k_asm); (case Fqz => k_asm); (case Xqz => k_asm); (case Nqz => k_asm); (case Tqz => k_asm); (case hkqz => first | exact rfl | assumption); (case hbrqz => assumption); (case hldqz => k_mem); (case hlnqz => k_mem); (case hdsqz => exact hdv); (case hnsqz => exact hnv); (case hdlqz => assumption); (case hnlqz => assumption); (case hsumqz => assumption); (case hokqz => assumption); (case hclqz => assumption); (case hmtqz => exact hmat (by assumption)); (case hdqz => ktr_room); (case huqz => ktr_units); (case hbqz => assumption); intro x9 h9 tk9 gs9 r9 F9 N9 q91 T9 hb9; (try dsimp only))) | with_reducible (k_here; (with_reducible show wpAny _ _ (subscriptTail _ _ (Value.ref _) (Value.int _ _)) _ _ _); refine' item_strsA ?lqz ?iqz ?aqz ?bqz ?cqz ?_; (case lqz => exact News.isList (by k_asm) (by first | k_mem | exact .tail _ (.tail _ (by assumption)) | exact .tail _ (.tail _ (.tail _ (by assumption))))); (case iqz => assumption); (case aqz => omega); (case bqz => omega); (case cqz => omega); intro _; (try simp only [Int.toNat_natCast])) | with_reducible (k_here; (with_reducible show wpAny _ _ (call (Value.ref 59) _ _) _ _ _); k_dflt (refine' check ?Bqz ?Fqz ?Xqz ?Nqz ?Tqz ?hkqz ?hqqz ?haqz ?hlqz ?hdqz ?huqz ?hbqz ?_; (case Bqz => k_asm); (case Fqz => k_asm); (case Xqz => k_asm); (case Nqz => k_asm); (case Tqz => k_asm); (case hkqz => first | exact rfl | assumption); (case hqqz => assumption); (case haqz => assumption); (case hlqz => assumption); (case hdqz => ktr_room); (case huqz => ktr_units); (case hbqz => assumption); intro h12 tk12 gs12 F12 N12 hb12; (try dsimp only))) | with_reducible (k_here; (with_reducible show wpAny _ _ (call (Value.ref 199) _ _) _ _ _); k_dflt (refine' made ?Bqz ?Fqz ?Xqz ?Nqz ?Tqz ?hkqz ?hdqz ?_; (case Bqz => k_asm); (case Fqz => k_asm); (case Xqz => k_asm); (case Nqz => k_asm); (case Tqz => k_asm); (case hkqz => first | exact rfl | assumption); (case hdqz => ktr_room); intro x9 d9 l9 h9 tk9 tkk9 F9 N9 q91 q92 q93; (try dsimp only))) | walk1 | (k_here; (with_reducible show wpAny _ _ (subscriptTail _ _ (Value.ref _) (Value.int _ _)) _ _ _); refine' item_strsA ?lqz ?iqz ?aqz ?bqz ?cqz ?_; (case lqz => exact News.isList (by k_asm) (by first | k_mem | exact .tail _ (.tail _ (by assumption)) | exact .tail _ (.tail _ (.tail _ (by assumption))))); (case iqz => assumption); (case aqz => omega); (case bqz => omega); (case cqz => omega); intro _; (try simp only [Int.toNat_natCast]))) | (dsimp only; ((((fail_if_success (with_reducible show wpAny _ _ (call (Value.builtin "dict.items") _ _) _ _ _)); (fail_if_success (with_reducible show wpAny _ _ (call (Value.type "range") _ _) _ _ _)); (fail_if_success (with_reducible show wpAny _ _ (call (Value.ref 112) _ _) _ _ _)); (fail_if_success (with_reducible show wpAny _ _ (eval (Expr.ListComp _ _ _ _) _) _ _ _)); (fail_if_success (with_reducible show wpAny _ _ (exec (Stmt.For _ _ _ _ _) _) _ _ _)); (fail_if_success (with_reducible show wpAny _ _ (exec (Stmt.While _ _ _ _) _) _ _ _)); (fail_if_success (with_reducible show wpAny _ _ (exec (Stmt.Assign [Expr.Name _ _] (Expr.ListComp _ _ _ _) _) _) _ _ _))))); (first | with_reducible (k_here; (with_reducible show wpAny _ _ (call (Value.ref 210) _ _) _ _ _); k_dflt (refine' pairs ?Bqz ?Fqz ?Xqz ?Nqz ?Tqz ?hkqz ?hbrqz ?hldqz ?hlnqz ?hdsqz ?hnsqz ?hdlqz ?hnlqz ?hsumqz ?hokqz ?hclqz ?hmtqz ?hdqz ?huqz ?hbqz ?_; (case Bqz => k_asm); (case Fqz => k_asm); (case Xqz => k_asm); (case Nqz => k_asm); (case Tqz => k_asm); (case hkqz => first | exact rfl | assumption); (case hbrqz => assumption); (case hldqz => k_mem); (case hlnqz => k_mem); (case hdsqz => exact hdv); (case hnsqz => exact hnv); (case hdlqz => assumption); (case hnlqz => assumption); (case hsumqz => assumption); (case hokqz => assumption); (case hclqz => assumption); (case hmtqz => exact hmat (by assumption)); (case hdqz => ktr_room); (case huqz => ktr_units); (case hbqz => assumption); intro x9 h9 tk9 gs9 r9 F9 N9 q91 T9 hb9; (try dsimp only))) | with_reducible (k_here; (with_reducible show wpAny _ _ (subscriptTail _ _ (Value.ref _) (Value.int _ _)) _ _ _); refine' item_strsA ?lqz ?iqz ?aqz ?bqz ?cqz ?_; (case lqz => exact News.isList (by k_asm) (by first | k_mem | exact .tail _ (.tail _ (by assumption)) | exact .tail _ (.tail _ (.tail _ (by assumption))))); (case iqz => assumption); (case aqz => omega); (case bqz => omega); (case cqz => omega); intro _; (try simp only [Int.toNat_natCast])) | with_reducible (k_here; (with_reducible show wpAny _ _ (call (Value.ref 59) _ _) _ _ _); k_dflt (refine' check ?Bqz ?Fqz ?Xqz ?Nqz ?Tqz ?hkqz ?hqqz ?haqz ?hlqz ?hdqz ?huqz ?hbqz ?_; (case Bqz => k_asm); (case Fqz => k_asm); (case Xqz => k_asm); (case Nqz => k_asm); (case Tqz => k_asm); (case hkqz => first | exact rfl | assumption); (case hqqz => assumption); (case haqz => assumption); (case hlqz => assumption); (case hdqz => ktr_room); (case huqz => ktr_units); (case hbqz => assumption); intro h12 tk12 gs12 F12 N12 hb12; (try dsimp only))) | with_reducible (k_here; (with_reducible show wpAny _ _ (call (Value.ref 199) _ _) _ _ _); k_dflt (refine' made ?Bqz ?Fqz ?Xqz ?Nqz ?Tqz ?hkqz ?hdqz ?_; (case Bqz => k_asm); (case Fqz => k_asm); (case Xqz => k_asm); (case Nqz => k_asm); (case Tqz => k_asm); (case hkqz => first | exact rfl | assumption); (case hdqz => ktr_room); intro x9 d9 l9 h9 tk9 tkk9 F9 N9 q91 q92 q93; (try dsimp only))) | walk1 | (k_here; (with_reducible show wpAny _ _ (subscriptTail _ _ (Value.ref _) (Value.int _ _)) _ _ _); refine' item_strsA ?lqz ?iqz ?aqz ?bqz ?cqz ?_; (case lqz => exact News.isList (by k_asm) (by first | k_mem | exact .tail _ (.tail _ (by assumption)) | exact .tail _ (.tail _ (.tail _ (by assumption))))); (case iqz => assumption); (case aqz => omega); (case bqz => omega); (case cqz => omega); intro _; (try simp only [Int.toNat_natCast]))))) | (leave1; walk_say "STEP leave1"; try dsimp only) | fail "no step"))
    refine join_listC (News.isList N7 (.head _)) hds (by decide) (by have := hsum 0 6; rw [List.drop_zero, List.take_of_length_le (Nat.le_of_eq hdl6)] at this; omega) ?_
    intro t8 k8
    obtain ⟨hqt, hat, hlt⟩ := hokj
    (repeat' (first | (k_unfold; (try dsimp only)) | (k_end; wrow_close) | ((((fail_if_success (with_reducible show wpAny _ _ (call (Value.builtin "dict.items") _ _) _ _ _)); (fail_if_success (with_reducible show wpAny _ _ (call (Value.type "range") _ _) _ _ _)); (fail_if_success (with_reducible show wpAny _ _ (call (Value.ref 112) _ _) _ _ _)); (fail_if_success (with_reducible show wpAny _ _ (eval (Expr.ListComp _ _ _ _) _) _ _ _)); (fail_if_success (with_reducible show wpAny _ _ (exec (Stmt.For _ _ _ _ _) _) _ _ _)); (fail_if_success (with_reducible show wpAny _ _ (exec (Stmt.While _ _ _ _) _) _ _ _)); (fail_if_success (with_reducible show wpAny _ _ (exec (Stmt.Assign [Expr.Name _ _] (Expr.ListComp _ _ _ _) _) _) _ _ _)))); first | (first | with_reducible (k_here; (with_reducible show wpAny _ _ (call (Value.ref 210) _ _) _ _ _); k_dflt (refine' pairs ?Bqz ?Fqz ?Xqz ?Nqz ?Tqz ?hkqz ?hbrqz ?hldqz ?hlnqz ?hdsqz ?hnsqz ?hdlqz ?hnlqz ?hsumqz ?hokqz ?hclqz ?hmtqz ?hdqz ?huqz ?hbqz ?_; (case Bqz => k_asm); (case Fqz => k_asm); (case Xqz => k_asm); (case Nqz => k_asm); (case Tqz => k_asm); (case hkqz => first | exact rfl | assumption); (case hbrqz => assumption); (case hldqz => k_mem); (case hlnqz => k_mem); (case hdsqz => exact hdv); (case hnsqz => exact hnv); (case hdlqz => assumption); (case hnlqz => assumption); (case hsumqz => assumption); (case hokqz => assumption); (case hclqz => assumption); (case hmtqz => exact hmat (by assumption)); (case hdqz => ktr_room); (case huqz => ktr_units); (case hbqz => assumption); intro x9 h9 tk9 gs9 r9 F9 N9 q91 T9 hb9; (try dsimp only))) | with_reducible (k_here; (with_reducible show wpAny _ _ (subscriptTail _ _ (Value.ref _) (Value.int _ _)) _ _ _); refine' item_strsA ?lqz ?iqz ?aqz ?bqz ?cqz ?_; (case lqz => exact News.isList (by k_asm) (by first | k_mem | exact .tail _ (.tail _ (by assumption)) | exact .tail _ (.tail _ (.tail _ (by assumption))))); (case iqz => assumption); (case aqz => omega); (case bqz => omega); (case cqz => omega); intro _; (try simp only [Int.toNat_natCast])) | with_reducible (k_here; (with_reducible show wpAny _ _ (call (Value.ref 59) _ _) _ _ _); k_dflt (refine' check ?Bqz ?Fqz ?Xqz ?Nqz ?Tqz ?hkqz ?hqqz ?haqz ?hlqz ?hdqz ?huqz ?hbqz ?_; (case Bqz => k_asm); (case Fqz => k_asm); (case Xqz => k_asm); (case Nqz => k_asm); (case Tqz => k_asm); (case hkqz => first | exact rfl | assumption); (case hqqz => assumption); (case haqz => assumption); (case hlqz => assumption); (case hdqz => ktr_room); (case huqz => ktr_units); (case hbqz => assumption); intro h12 tk12 gs12 F12 N12 hb12; (try dsimp only))) | with_reducible (k_here; (with_reducible show wpAny _ _ (call (Value.ref 199) _ _) _ _ _); k_dflt (refine' made ?Bqz ?Fqz ?Xqz ?Nqz ?Tqz ?hkqz ?hdqz ?_; (case Bqz => k_asm); (case Fqz => k_asm); (case Xqz => k_asm); (case Nqz => k_asm); (case Tqz => k_asm); (case hkqz => first | exact rfl | assumption); (case hdqz => ktr_room); intro x9 d9 l9 h9 tk9 tkk9 F9 N9 q91 q92 q93; (try dsimp only))) | walk1 | (k_here; (with_reducible show wpAny _ _ (subscriptTail _ _ (Value.ref _) (Value.int _ _)) _ _ _); refine' item_strsA ?lqz ?iqz ?aqz ?bqz ?cqz ?_; (case lqz => exact News.isList (by k_asm) (by first | k_mem | exact .tail _ (.tail _ (by assumption)) | exact .tail _ (.tail _ (.tail _ (by assumption))))); (case iqz => assumption); (case aqz => omega); (case bqz => omega); (case cqz => omega); intro _; (try simp only [Int.toNat_natCast]))) | (dsimp only; ((((fail_if_success (with_reducible show wpAny _ _ (call (Value.builtin "dict.items") _ _) _ _ _)); (fail_if_success (with_reducible show wpAny _ _ (call (Value.type "range") _ _) _ _ _)); (fail_if_success (with_reducible show wpAny _ _ (call (Value.ref 112) _ _) _ _ _)); (fail_if_success (with_reducible show wpAny _ _ (eval (Expr.ListComp _ _ _ _) _) _ _ _)); (fail_if_success (with_reducible show wpAny _ _ (exec (Stmt.For _ _ _ _ _) _) _ _ _)); (fail_if_success (with_reducible show wpAny _ _ (exec (Stmt.While _ _ _ _) _) _ _ _)); (fail_if_success (with_reducible show wpAny _ _ (exec (Stmt.Assign [Expr.Name _ _] (Expr.ListComp _ _ _ _) _) _) _ _ _))))); (first | with_reducible (k_here; (with_reducible show wpAny _ _ (call (Value.ref 210) _ _) _ _ _); k_dflt (refine' pairs ?Bqz ?Fqz ?Xqz ?Nqz ?Tqz ?hkqz ?hbrqz ?hldqz ?hlnqz ?hdsqz ?hnsqz ?hdlqz ?hnlqz ?hsumqz ?hokqz ?hclqz ?hmtqz ?hdqz ?huqz ?hbqz ?_; (case Bqz => k_asm); (case Fqz => k_asm); (case Xqz => k_asm); (case Nqz => k_asm); (case Tqz => k_asm); (case hkqz => first | exact rfl | assumption); (case hbrqz => assumption); (case hldqz => k_mem); (case hlnqz => k_mem); (case hdsqz => exact hdv); (case hnsqz => exact hnv); (case hdlqz => assumption); (case hnlqz => assumption); (case hsumqz => assumption); (case hokqz => assumption); (case hclqz => assumption); (case hmtqz => exact hmat (by assumption)); (case hdqz => ktr_room); (case huqz => ktr_units); (case hbqz => assumption); intro x9 h9 tk9 gs9 r9 F9 N9 q91 T9 hb9; (try dsimp only))) | with_reducible (k_here; (with_reducible show wpAny _ _ (subscriptTail _ _ (Value.ref _) (Value.int _ _)) _ _ _); refine' item_strsA ?lqz ?iqz ?aqz ?bqz ?cqz ?_; (case lqz => exact News.isList (by k_asm) (by first | k_mem | exact .tail _ (.tail _ (by assumption)) | exact .tail _ (.tail _ (.tail _ (by assumption))))); (case iqz => assumption); (case aqz => omega); (case bqz => omega); (case cqz => omega); intro _; (try simp only [Int.toNat_natCast])) | with_reducible (k_here; (with_reducible show wpAny _ _ (call (Value.ref 59) _ _) _ _ _); k_dflt (refine' check ?Bqz ?Fqz ?Xqz ?Nqz ?Tqz ?hkqz ?hqqz ?haqz ?hlqz ?hdqz ?huqz ?hbqz ?_; (case Bqz => k_asm); (case Fqz => k_asm); (case Xqz => k_asm); (case Nqz => k_asm); (case Tqz => k_asm); (case hkqz => first | exact rfl | assumption); (case hqqz => assumption); (case haqz => assumption); (case hlqz => assumption); (case hdqz => ktr_room); (case huqz => ktr_units); (case hbqz => assumption); intro h12 tk12 gs12 F12 N12 hb12; (try dsimp only))) | with_reducible (k_here; (with_reducible show wpAny _ _ (call (Value.ref 199) _ _) _ _ _); k_dflt (refine' made ?Bqz ?Fqz ?Xqz ?Nqz ?Tqz ?hkqz ?hdqz ?_; (case Bqz => k_asm); (case Fqz => k_asm); (case Xqz => k_asm); (case Nqz => k_asm); (case Tqz => k_asm); (case hkqz => first | exact rfl | assumption); (case hdqz => ktr_room); intro x9 d9 l9 h9 tk9 tkk9 F9 N9 q91 q92 q93; (try dsimp only))) | walk1 | (k_here; (with_reducible show wpAny _ _ (subscriptTail _ _ (Value.ref _) (Value.int _ _)) _ _ _); refine' item_strsA ?lqz ?iqz ?aqz ?bqz ?cqz ?_; (case lqz => exact News.isList (by k_asm) (by first | k_mem | exact .tail _ (.tail _ (by assumption)) | exact .tail _ (.tail _ (.tail _ (by assumption))))); (case iqz => assumption); (case aqz => omega); (case bqz => omega); (case cqz => omega); intro _; (try simp only [Int.toNat_natCast]))))) | (leave1; walk_say "STEP leave1"; try dsimp only) | fail "no step"))
    · rename chk _ = true => hc
      have hIT : I ≠ dT := fun e => off _ (.head _) e.symm
      have q9 : ∀ p ∈ r9, p.1 ≠ dT := fun p hp => Nat.ne_of_gt (q91 p hp _ (.tail _ (.tail _ (.head _))))
      have q9I : ∀ p ∈ r9, p.1 ≠ I := fun p hp => Nat.ne_of_gt (q91 p hp _ (.tail _ (.head _)))
      have hDT : D ≠ dT := fun e => oD (dT, listOf tv.toArray nT) (.tail _ (.head _)) e.symm
      have hDI : D ≠ I := fun e => oD (I, oI) (.head _) e.symm
      have N10 : News h₀ L h9 ((dT, listOf tv.toArray nT) :: (I, oI) :: (L + 1 + 1 + 1 + 1 + 1, oT) :: (dM, LCg.lst nmv) :: (L + 1 + 1 + 1 + 1, oN) :: (dB, LCg.lst bv) :: (dC, listOf cv.toArray 0) :: ((r9 ++ (D, LCg.lst dv) :: r1) ++ rest)) := fun p hp => N9 p (by
        simp only [List.mem_cons, List.mem_append] at hp ⊢
        rcases hp with h | h | h | h | h | h | h | (h | h | h) | h
        all_goals simp only [h, true_or, or_true])
      have offT : ∀ p ∈ (I, oI) :: (L + 1 + 1 + 1 + 1 + 1, oT) :: (dM, LCg.lst nmv) :: (L + 1 + 1 + 1 + 1, oN) :: (dB, LCg.lst bv) :: (dC, listOf cv.toArray 0) :: ((r9 ++ (D, LCg.lst dv) :: r1) ++ rest), p.1 ≠ dT := fun p hp => by
        simp only [List.mem_cons, List.mem_append] at hp
        rcases hp with h | h | h | h | h | h | (h | h | h) | h
        · rw [h]; exact hIT
        · rw [h]; exact o5
        · rw [h]; exact oM
        · rw [h]; exact o4
        · rw [h]; exact oB
        · rw [h]; exact hTC.symm
        · exact q9 p h
        · rw [h]; exact hDT
        · exact hr1 p h
        · exact oR p h
      clear N9
      (repeat' (first | (k_unfold; (try dsimp only)) | (k_end; wrow_close) | ((((fail_if_success (with_reducible show wpAny _ _ (call (Value.builtin "dict.items") _ _) _ _ _)); (fail_if_success (with_reducible show wpAny _ _ (call (Value.type "range") _ _) _ _ _)); (fail_if_success (with_reducible show wpAny _ _ (call (Value.ref 112) _ _) _ _ _)); (fail_if_success (with_reducible show wpAny _ _ (eval (Expr.ListComp _ _ _ _) _) _ _ _)); (fail_if_success (with_reducible show wpAny _ _ (exec (Stmt.For _ _ _ _ _) _) _ _ _)); (fail_if_success (with_reducible show wpAny _ _ (exec (Stmt.While _ _ _ _) _) _ _ _)); (fail_if_success (with_reducible show wpAny _ _ (exec (Stmt.Assign [Expr.Name _ _] (Expr.ListComp _ _ _ _) _) _) _ _ _)))); first | (first | with_reducible (k_here; (with_reducible show wpAny _ _ (call (Value.ref 210) _ _) _ _ _); k_dflt (refine' pairs ?Bqz ?Fqz ?Xqz ?Nqz ?Tqz ?hkqz ?hbrqz ?hldqz ?hlnqz ?hdsqz ?hnsqz ?hdlqz ?hnlqz ?hsumqz ?hokqz ?hclqz ?hmtqz ?hdqz ?huqz ?hbqz ?_; (case Bqz => k_asm); (case Fqz => k_asm); (case Xqz => k_asm); (case Nqz => k_asm); (case Tqz => k_asm); (case hkqz => first | exact rfl | assumption); (case hbrqz => assumption); (case hldqz => k_mem); (case hlnqz => k_mem); (case hdsqz => exact hdv); (case hnsqz => exact hnv); (case hdlqz => assumption); (case hnlqz => assumption); (case hsumqz => assumption); (case hokqz => assumption); (case hclqz => assumption); (case hmtqz => exact hmat (by assumption)); (case hdqz => ktr_room); (case huqz => ktr_units); (case hbqz => assumption); intro x9 h9 tk9 gs9 r9 F9 N9 q91 T9 hb9; (try dsimp only))) | with_reducible (k_here; (with_reducible show wpAny _ _ (subscriptTail _ _ (Value.ref _) (Value.int _ _)) _ _ _); refine' item_strsA ?lqz ?iqz ?aqz ?bqz ?cqz ?_; (case lqz => exact News.isList (by k_asm) (by first | k_mem | exact .tail _ (.tail _ (by assumption)) | exact .tail _ (.tail _ (.tail _ (by assumption))))); (case iqz => assumption); (case aqz => omega); (case bqz => omega); (case cqz => omega); intro _; (try simp only [Int.toNat_natCast])) | with_reducible (k_here; (with_reducible show wpAny _ _ (call (Value.ref 59) _ _) _ _ _); k_dflt (refine' check ?Bqz ?Fqz ?Xqz ?Nqz ?Tqz ?hkqz ?hqqz ?haqz ?hlqz ?hdqz ?huqz ?hbqz ?_; (case Bqz => k_asm); (case Fqz => k_asm); (case Xqz => k_asm); (case Nqz => k_asm); (case Tqz => k_asm); (case hkqz => first | exact rfl | assumption); (case hqqz => assumption); (case haqz => assumption); (case hlqz => assumption); (case hdqz => ktr_room); (case huqz => ktr_units); (case hbqz => assumption); intro h12 tk12 gs12 F12 N12 hb12; (try dsimp only))) | with_reducible (k_here; (with_reducible show wpAny _ _ (call (Value.ref 199) _ _) _ _ _); k_dflt (refine' made ?Bqz ?Fqz ?Xqz ?Nqz ?Tqz ?hkqz ?hdqz ?_; (case Bqz => k_asm); (case Fqz => k_asm); (case Xqz => k_asm); (case Nqz => k_asm); (case Tqz => k_asm); (case hkqz => first | exact rfl | assumption); (case hdqz => ktr_room); intro x9 d9 l9 h9 tk9 tkk9 F9 N9 q91 q92 q93; (try dsimp only))) | walk1 | (k_here; (with_reducible show wpAny _ _ (subscriptTail _ _ (Value.ref _) (Value.int _ _)) _ _ _); refine' item_strsA ?lqz ?iqz ?aqz ?bqz ?cqz ?_; (case lqz => exact News.isList (by k_asm) (by first | k_mem | exact .tail _ (.tail _ (by assumption)) | exact .tail _ (.tail _ (.tail _ (by assumption))))); (case iqz => assumption); (case aqz => omega); (case bqz => omega); (case cqz => omega); intro _; (try simp only [Int.toNat_natCast]))) | (dsimp only; ((((fail_if_success (with_reducible show wpAny _ _ (call (Value.builtin "dict.items") _ _) _ _ _)); (fail_if_success (with_reducible show wpAny _ _ (call (Value.type "range") _ _) _ _ _)); (fail_if_success (with_reducible show wpAny _ _ (call (Value.ref 112) _ _) _ _ _)); (fail_if_success (with_reducible show wpAny _ _ (eval (Expr.ListComp _ _ _ _) _) _ _ _)); (fail_if_success (with_reducible show wpAny _ _ (exec (Stmt.For _ _ _ _ _) _) _ _ _)); (fail_if_success (with_reducible show wpAny _ _ (exec (Stmt.While _ _ _ _) _) _ _ _)); (fail_if_success (with_reducible show wpAny _ _ (exec (Stmt.Assign [Expr.Name _ _] (Expr.ListComp _ _ _ _) _) _) _ _ _))))); (first | with_reducible (k_here; (with_reducible show wpAny _ _ (call (Value.ref 210) _ _) _ _ _); k_dflt (refine' pairs ?Bqz ?Fqz ?Xqz ?Nqz ?Tqz ?hkqz ?hbrqz ?hldqz ?hlnqz ?hdsqz ?hnsqz ?hdlqz ?hnlqz ?hsumqz ?hokqz ?hclqz ?hmtqz ?hdqz ?huqz ?hbqz ?_; (case Bqz => k_asm); (case Fqz => k_asm); (case Xqz => k_asm); (case Nqz => k_asm); (case Tqz => k_asm); (case hkqz => first | exact rfl | assumption); (case hbrqz => assumption); (case hldqz => k_mem); (case hlnqz => k_mem); (case hdsqz => exact hdv); (case hnsqz => exact hnv); (case hdlqz => assumption); (case hnlqz => assumption); (case hsumqz => assumption); (case hokqz => assumption); (case hclqz => assumption); (case hmtqz => exact hmat (by assumption)); (case hdqz => ktr_room); (case huqz => ktr_units); (case hbqz => assumption); intro x9 h9 tk9 gs9 r9 F9 N9 q91 T9 hb9; (try dsimp only))) | with_reducible (k_here; (with_reducible show wpAny _ _ (subscriptTail _ _ (Value.ref _) (Value.int _ _)) _ _ _); refine' item_strsA ?lqz ?iqz ?aqz ?bqz ?cqz ?_; (case lqz => exact News.isList (by k_asm) (by first | k_mem | exact .tail _ (.tail _ (by assumption)) | exact .tail _ (.tail _ (.tail _ (by assumption))))); (case iqz => assumption); (case aqz => omega); (case bqz => omega); (case cqz => omega); intro _; (try simp only [Int.toNat_natCast])) | with_reducible (k_here; (with_reducible show wpAny _ _ (call (Value.ref 59) _ _) _ _ _); k_dflt (refine' check ?Bqz ?Fqz ?Xqz ?Nqz ?Tqz ?hkqz ?hqqz ?haqz ?hlqz ?hdqz ?huqz ?hbqz ?_; (case Bqz => k_asm); (case Fqz => k_asm); (case Xqz => k_asm); (case Nqz => k_asm); (case Tqz => k_asm); (case hkqz => first | exact rfl | assumption); (case hqqz => assumption); (case haqz => assumption); (case hlqz => assumption); (case hdqz => ktr_room); (case huqz => ktr_units); (case hbqz => assumption); intro h12 tk12 gs12 F12 N12 hb12; (try dsimp only))) | with_reducible (k_here; (with_reducible show wpAny _ _ (call (Value.ref 199) _ _) _ _ _); k_dflt (refine' made ?Bqz ?Fqz ?Xqz ?Nqz ?Tqz ?hkqz ?hdqz ?_; (case Bqz => k_asm); (case Fqz => k_asm); (case Xqz => k_asm); (case Nqz => k_asm); (case Tqz => k_asm); (case hkqz => first | exact rfl | assumption); (case hdqz => ktr_room); intro x9 d9 l9 h9 tk9 tkk9 F9 N9 q91 q92 q93; (try dsimp only))) | walk1 | (k_here; (with_reducible show wpAny _ _ (subscriptTail _ _ (Value.ref _) (Value.int _ _)) _ _ _); refine' item_strsA ?lqz ?iqz ?aqz ?bqz ?cqz ?_; (case lqz => exact News.isList (by k_asm) (by first | k_mem | exact .tail _ (.tail _ (by assumption)) | exact .tail _ (.tail _ (.tail _ (by assumption))))); (case iqz => assumption); (case aqz => omega); (case bqz => omega); (case cqz => omega); intro _; (try simp only [Int.toNat_natCast]))))) | (leave1; walk_say "STEP leave1"; try dsimp only) | fail "no step"))
      rename News h₀ L _ _ => N11
      rw [List.push_toArray] at N11
      refine hR _ _ ?_
      refine ⟨_, _, _, _, (dT, listOf (tv ++ [Value.ref x9]).toArray (nT + 1)) :: (L + 1 + 1 + 1 + 1 + 1, oT) :: (dM, LCg.lst nmv) :: (L + 1 + 1 + 1 + 1, oN) :: (dB, LCg.lst bv) :: (dC, listOf cv.toArray 0) :: ((r9 ++ (D, LCg.lst dv) :: r1) ++ rest), rfl, by k_asm, news_swap N11, ?_, ?_, hb9, tv ++ [Value.ref x9], nT + 1, r9 ++ (D, LCg.lst dv) :: r1, rfl, ?_, ?_, by simp; omega⟩
      · intro p hp
        simp only [List.mem_cons, List.mem_append] at hp
        rcases hp with h | h | h | h | h | h | (h | h | h) | h
        · rw [h]; exact hIT.symm
        · rw [h]; exact off (L + 1 + 1 + 1 + 1 + 1, oT) (.tail _ (.head _))
        · rw [h]; exact off (dM, LCg.lst nmv) (.tail _ (.tail _ (.head _)))
        · rw [h]; exact off (L + 1 + 1 + 1 + 1, oN) (.tail _ (.tail _ (.tail _ (.head _))))
        · rw [h]; exact off (dB, LCg.lst bv) (.tail _ (.tail _ (.tail _ (.tail _ (.head _)))))
        · rw [h]; exact off (dC, listOf cv.toArray 0) (.tail _ (.tail _ (.tail _ (.tail _ (.tail _ (.head _))))))
        · exact q9I p h
        · rw [h]; exact hDI
        · exact off p (.tail _ (.tail _ (.tail _ (.tail _ (.tail _ (.tail _ (List.mem_append_left _ h)))))))
        · exact off p (.tail _ (.tail _ (.tail _ (.tail _ (.tail _ (.tail _ (List.mem_append_right _ h)))))))
      · intro y hy
        simp only [off_ne hy (x := PySem.Str.ofString "dressed") (by rfl), off_ne hy (x := PySem.Str.ofString "brackets") (by rfl), hy, Bool.false_eq_true, if_false]
      · rw [keptOf_take_true hbr hc]
        exact (htabs.mono fun p hp => List.mem_append_right _ (.tail _ hp)).snoc (T9.mono fun p hp => List.mem_append_left _ hp)
      · intro p hp q hq
        obtain ⟨oq, hoq⟩ := hled q hq
        rcases List.mem_append.mp hp with h | h
        · exact Nat.ne_of_gt (q91 p h (q.1, oq) (.tail _ hoq))
        · rcases List.mem_cons.mp h with h | h
          · rw [h]; exact (oD (q.1, oq) hoq).symm
          · exact hfr1 p h q hq
    · rename chk _ = false => hc
      have hDT : D ≠ dT := fun e => oD (dT, listOf tv.toArray nT) (.tail _ (.head _)) e.symm
      have hDI : D ≠ I := fun e => oD (I, oI) (.head _) e.symm
      rename News h₀ L _ _ => N11
      refine hR _ _ ?_
      refine ⟨_, _, _, _, (dT, listOf tv.toArray nT) :: (L + 1 + 1 + 1 + 1 + 1, oT) :: (dM, LCg.lst nmv) :: (L + 1 + 1 + 1 + 1, oN) :: (dB, LCg.lst bv) :: (dC, listOf cv.toArray 0) :: (((D, LCg.lst dv) :: r1) ++ rest), rfl, by k_asm, fun p hp => N11 p ?_, ?_, ?_, by assumption, tv, nT, (D, LCg.lst dv) :: r1, rfl, ?_, ?_, by omega⟩
      · simp only [List.mem_cons, List.mem_append] at hp ⊢
        rcases hp with h | h | h | h | h | h | h | (h | h) | h
        all_goals simp only [h, true_or, or_true]
      · intro p hp
        simp only [List.mem_cons, List.mem_append] at hp
        rcases hp with h | h | h | h | h | h | (h | h) | h
        · rw [h]; exact off (dT, listOf tv.toArray nT) (.head _)
        · rw [h]; exact off (L + 1 + 1 + 1 + 1 + 1, oT) (.tail _ (.head _))
        · rw [h]; exact off (dM, LCg.lst nmv) (.tail _ (.tail _ (.head _)))
        · rw [h]; exact off (L + 1 + 1 + 1 + 1, oN) (.tail _ (.tail _ (.tail _ (.head _))))
        · rw [h]; exact off (dB, LCg.lst bv) (.tail _ (.tail _ (.tail _ (.tail _ (.head _)))))
        · rw [h]; exact off (dC, listOf cv.toArray 0) (.tail _ (.tail _ (.tail _ (.tail _ (.tail _ (.head _))))))
        · rw [h]; exact hDI
        · exact off p (.tail _ (.tail _ (.tail _ (.tail _ (.tail _ (.tail _ (List.mem_append_left _ h)))))))
        · exact off p (.tail _ (.tail _ (.tail _ (.tail _ (.tail _ (.tail _ (List.mem_append_right _ h)))))))
      · intro y hy
        simp only [off_ne hy (x := PySem.Str.ofString "dressed") (by rfl), off_ne hy (x := PySem.Str.ofString "brackets") (by rfl), hy, Bool.false_eq_true, if_false]
      · rw [keptOf_take_false hbr hc]
        exact htabs.mono fun p hp => .tail _ hp
      · intro p hp q hq
        obtain ⟨oq, hoq⟩ := hled q hq
        rcases List.mem_cons.mp hp with h | h
        · rw [h]; exact (oD (q.1, oq) hoq).symm
        · exact hfr1 p h q hq
  · rintro u nw h tk gs ⟨hba, tv, nT, r1, rfl, htabs, hr1, htl⟩ F6 N6
    have e20 : (RotOf turn rs).take cv.toArray.size = RotOf turn rs := List.take_of_length_le (by rw [List.size_toArray, hcat.len_eq]; exact Nat.le_refl _)
    rw [e20] at htabs
    refine hnext h tk gs tv nT ((dC, listOf cv.toArray 0) :: r1) u ?_ N6 (htabs.mono fun p hp => .tail _ hp) hba ?_
    · refine cast (congrArg (Fr h₀ L h) (funext fun y => ?_)) F6
      split
      · rfl
      · split
        · rename_i e; rw [e, hm3]
        · split
          · rename_i e; rw [e, hm2]
          · split
            · rename_i e; rw [e, hm1]
            · rfl
    · intro p hp q hq
      rcases List.mem_cons.mp hp with h | h
      · rw [h]; exact hFC q hq
      · exact hr1 p h q hq
end
end
section
noncomputable def beS (v : Int) : PySem.Str := [PySem.Str.ofString "", PySem.Str.ofString "a", PySem.Str.ofString "\\(", PySem.Str.ofString "\\)"].getD (v.fmod 4).toNat PySem.Str.empty
section
variable {w : World} {mean : ExcName → Option Value} {mg mb : PySem.Str → Option Value} {base h₀ : Heap} {L fa : Addr} {cd : Value} {m : PySem.Str → Option Value} {s : Shared} {Q : Flow → Shared → Prop} {E : Value → Shared → Prop}
  (B : Below callerA base [] h₀) (F : Fr h₀ L s.heap m) (X : (hd.heap_39 w.params).In h₀) (T : Top hd.view_39 LO mean mg mb h₀)
include B F X T
set_option maxRecDepth 100000 in
set_option maxHeartbeats 8000000 in
set_option pp.deepTerms false in
set_option pp.deepTerms.threshold 10 in
theorem stB {dd : Addr} {drv : List Value} {draws : List Int} {oD : Obj} {rest : List (Addr × Obj)} (N : News h₀ L s.heap ((dd, LCg.lst drv) :: (L + 1 + 1 + 1, oD) :: rest)) (hoD : oD.data = .cell (some (.ref dd))) (hdr : IntsAre drv draws) (hdl : draws.length = 6)
    (hnext : ∀ h' tk' dB bv, Fr h₀ L h' (fun z => if z = PySem.Str.ofString "behind" then some (.ref dB) else m z) → News h₀ L h' ((dB, LCg.lst bv) :: (dd, LCg.lst drv) :: (L + 1 + 1 + 1, oD) :: rest) → StrsAre bv (draws.map beS) → (∀ p ∈ (dd, LCg.lst drv) :: (L + 1 + 1 + 1, oD) :: rest, p.1 ≠ dB) →
      wpAny (model PySem.Challenge.rw_wa0038_01.row.prog w) (lawA L fa cd) (execs (lawBody.drop 5) (lawEnv L fa cd)) Q E { s with heap := h', toks := tk' }) :
    wpAny (model PySem.Challenge.rw_wa0038_01.row.prog w) (lawA L fa cd) (execs (lawBody.drop 4) (lawEnv L fa cd)) Q E s := by
  revert X; k_fill; intro X
  show wpAny _ (callerA.deeper (envOfC _ ⟨_, _, _, _, _⟩ _ _ _)) (execs (_ :: _) (envOfC _ ⟨_, _, _, _, _⟩ _ _ _)) _ _ _
  (repeat' (first | (k_unfold; (try dsimp only)) | (k_end; wrow_close) | ((((fail_if_success (with_reducible show wpAny _ _ (call (Value.builtin "dict.items") _ _) _ _ _)); (fail_if_success (with_reducible show wpAny _ _ (call (Value.type "range") _ _) _ _ _)); (fail_if_success (with_reducible show wpAny _ _ (call (Value.ref 112) _ _) _ _ _)); (fail_if_success (with_reducible show wpAny _ _ (eval (Expr.ListComp _ _ _ _) _) _ _ _)); (fail_if_success (with_reducible show wpAny _ _ (exec (Stmt.For _ _ _ _ _) _) _ _ _)); (fail_if_success (with_reducible show wpAny _ _ (exec (Stmt.While _ _ _ _) _) _ _ _)); (fail_if_success (with_reducible show wpAny _ _ (exec (Stmt.Assign [Expr.Name _ _] (Expr.ListComp _ _ _ _) _) _) _ _ _)))); first | walk1 | (dsimp only; ((((fail_if_success (with_reducible show wpAny _ _ (call (Value.builtin "dict.items") _ _) _ _ _)); (fail_if_success (with_reducible show wpAny _ _ (call (Value.type "range") _ _) _ _ _)); (fail_if_success (with_reducible show wpAny _ _ (call (Value.ref 112) _ _) _ _ _)); (fail_if_success (with_reducible show wpAny _ _ (eval (Expr.ListComp _ _ _ _) _) _ _ _)); (fail_if_success (with_reducible show wpAny _ _ (exec (Stmt.For _ _ _ _ _) _) _ _ _)); (fail_if_success (with_reducible show wpAny _ _ (exec (Stmt.While _ _ _ _) _) _ _ _)); (fail_if_success (with_reducible show wpAny _ _ (exec (Stmt.Assign [Expr.Name _ _] (Expr.ListComp _ _ _ _) _) _) _ _ _))))); walk1)) | (leave1; walk_say "STEP leave1"; try dsimp only) | fail "no step"))
  refine LCg.Assign_ListComp_U (F₀ := by k_asm) (by rfl) (by with_unfolding_all rfl) (by with_unfolding_all rfl) (by decide) (by rfl) (by decide) (by rfl) (by rfl) (by rfl) ?_
  walk1
  refine LCg.CompSrc.ledger (by rfl) (by k_asm) (by k_asm) (.head _) (by rw [sizeLine_eq, List.size_toArray, hdr.length, hdl]; decide) ?_
  intro g
  refine rest_inv (fun i ys nw => nw = (dd, LCg.lst drv) :: (L + 1 + 1 + 1, oD) :: rest ∧ StrsAre ys ((draws.take i).map beS)) ⟨rfl, .nil⟩ ?_ ?_
  · rintro i v ys nw I oI C oC D m₂ h tk hi hv ⟨rfl, hys⟩ hC hx F2 N2 off hne3
    have hv' : drv[i]? = some v := by simpa using hv
    obtain ⟨k, t, rfl, hk⟩ := hdr.at i v hv'
    (repeat' (first | (k_unfold; (try dsimp only)) | (k_end; wrow_close) | ((((fail_if_success (with_reducible show wpAny _ _ (call (Value.builtin "dict.items") _ _) _ _ _)); (fail_if_success (with_reducible show wpAny _ _ (call (Value.type "range") _ _) _ _ _)); (fail_if_success (with_reducible show wpAny _ _ (call (Value.ref 112) _ _) _ _ _)); (fail_if_success (with_reducible show wpAny _ _ (eval (Expr.ListComp _ _ _ _) _) _ _ _)); (fail_if_success (with_reducible show wpAny _ _ (exec (Stmt.For _ _ _ _ _) _) _ _ _)); (fail_if_success (with_reducible show wpAny _ _ (exec (Stmt.While _ _ _ _) _) _ _ _)); (fail_if_success (with_reducible show wpAny _ _ (exec (Stmt.Assign [Expr.Name _ _] (Expr.ListComp _ _ _ _) _) _) _ _ _)))); first | walk1 | (dsimp only; ((((fail_if_success (with_reducible show wpAny _ _ (call (Value.builtin "dict.items") _ _) _ _ _)); (fail_if_success (with_reducible show wpAny _ _ (call (Value.type "range") _ _) _ _ _)); (fail_if_success (with_reducible show wpAny _ _ (call (Value.ref 112) _ _) _ _ _)); (fail_if_success (with_reducible show wpAny _ _ (eval (Expr.ListComp _ _ _ _) _) _ _ _)); (fail_if_success (with_reducible show wpAny _ _ (exec (Stmt.For _ _ _ _ _) _) _ _ _)); (fail_if_success (with_reducible show wpAny _ _ (exec (Stmt.While _ _ _ _) _) _ _ _)); (fail_if_success (with_reducible show wpAny _ _ (exec (Stmt.Assign [Expr.Name _ _] (Expr.ListComp _ _ _ _) _) _) _ _ _))))); walk1)) | (leave1; walk_say "STEP leave1"; try dsimp only) | fail "no step"))
    have h4 : k.fmod 4 = 0 ∨ k.fmod 4 = 1 ∨ k.fmod 4 = 2 ∨ k.fmod 4 = 3 := by
      rw [Int.fmod_eq_emod_of_nonneg _ (by decide)]; omega
    rcases h4 with e | e | e | e
    all_goals (
      rw [e]
      (repeat' (first | (k_unfold; (try dsimp only)) | (k_end; wrow_close) | ((((fail_if_success (with_reducible show wpAny _ _ (call (Value.builtin "dict.items") _ _) _ _ _)); (fail_if_success (with_reducible show wpAny _ _ (call (Value.type "range") _ _) _ _ _)); (fail_if_success (with_reducible show wpAny _ _ (call (Value.ref 112) _ _) _ _ _)); (fail_if_success (with_reducible show wpAny _ _ (eval (Expr.ListComp _ _ _ _) _) _ _ _)); (fail_if_success (with_reducible show wpAny _ _ (exec (Stmt.For _ _ _ _ _) _) _ _ _)); (fail_if_success (with_reducible show wpAny _ _ (exec (Stmt.While _ _ _ _) _) _ _ _)); (fail_if_success (with_reducible show wpAny _ _ (exec (Stmt.Assign [Expr.Name _ _] (Expr.ListComp _ _ _ _) _) _) _ _ _)))); first | walk1 | (dsimp only; ((((fail_if_success (with_reducible show wpAny _ _ (call (Value.builtin "dict.items") _ _) _ _ _)); (fail_if_success (with_reducible show wpAny _ _ (call (Value.type "range") _ _) _ _ _)); (fail_if_success (with_reducible show wpAny _ _ (call (Value.ref 112) _ _) _ _ _)); (fail_if_success (with_reducible show wpAny _ _ (eval (Expr.ListComp _ _ _ _) _) _ _ _)); (fail_if_success (with_reducible show wpAny _ _ (exec (Stmt.For _ _ _ _ _) _) _ _ _)); (fail_if_success (with_reducible show wpAny _ _ (exec (Stmt.While _ _ _ _) _) _ _ _)); (fail_if_success (with_reducible show wpAny _ _ (exec (Stmt.Assign [Expr.Name _ _] (Expr.ListComp _ _ _ _) _) _) _ _ _))))); walk1)) | (leave1; walk_say "STEP leave1"; try dsimp only) | fail "no step"))
      rename News _ _ _ _ => N9
      exact LCg.CompEnd.intro (by k_asm) N9 _ (fun p hp => .tail _ hp) off (.inr ⟨_, .head _, rfl, _, rfl⟩) ⟨rfl, by
        rw [List.take_succ, hk, Option.toList, List.map_append]
        have eb : beS k = [PySem.Str.ofString "", PySem.Str.ofString "a", PySem.Str.ofString "\\(", PySem.Str.ofString "\\)"].getD (k.fmod 4).toNat PySem.Str.empty := rfl
        rw [e] at eb
        refine strs_app2 hys ?_
        show StrsAre _ [beS k]
        rw [eb]
        exact .cons _ _ .nil⟩)
  · rintro ys nw ⟨rfl, hys⟩
    intro D h tk F2 N2 off
    have e6 : draws.take drv.toArray.size = draws := by rw [List.size_toArray, hdr.length]; exact List.take_length
    rw [e6] at hys
    exact hnext _ _ D ys (by k_asm) N2 hys (off1_mem off)
end
end
section
noncomputable abbrev emptyC : Obj := { cls := .type "cell", data := .cell none }
section
variable {M : Model} {A : Around} {E : Value → Shared → Prop} {s : Shared}
/-- the frame of a comprehension whose one cell is its loop variable -/
theorem newEnv_C {scope : Scope} {env : Env} {cl : List (PySem.Str × Addr)} {x : PySem.Str} {Q : Env → Shared → Prop} (hpush : ∀ h, pushCells h scope.names = h.push emptyC) (hcells : ∀ n, cellsFrom n scope.names cl = (x, n) :: cl)
    (hQ : ∀ cenv, cenv = newEnv scope s.heap.objs.size env.globals ((x, s.heap.objs.size + 1) :: cl) env.qual none .none (some env) builtinsNs →
      Q cenv { s with heap := (s.heap.push { cls := .type "dict", data := .dict #[] }).push emptyC }) :
    wpAny M A (newFunctionEnv scope env.globals cl [] env.qual none .none (some env)) Q E s := by
  simp only [newFunctionEnv, Option.isSome_some, if_true]
  refine wpAny_bind (wpAny_alloc ?_)
  refine wpAny_bind (wpAny_layCells _ (fun name kind cells => by cases hkc : kind == NameKind.cell <;> simp [hkc]) _ _ _ _ ?_)
  rw [hcells, hpush]
  refine wpAny_pure ?_
  have := hQ _ rfl
  rw [show ({ s with heap := s.heap.push { cls := .type "dict", data := .dict #[] } } : Shared).heap.objs.size = s.heap.objs.size + 1 from Heap.size_push ..]
  exact this
end
noncomputable def Off4 (I C X D : Addr) (nw : List (Addr × Obj)) : Prop := ∀ p ∈ nw, p.1 ≠ I ∧ p.1 ≠ C ∧ p.1 ≠ X ∧ p.1 ≠ D
noncomputable def TurnX (h₀ : Heap) (L : Addr) (m : PySem.Str → Option Value) (s₁ : Shared) (I : Addr) (oI : Obj) (C : Addr) (oC : Obj) (X : Addr) (oX : Obj) (D : Addr) (oD : Obj) (S : List (Addr × Obj) → Prop) (rest : Value → List (Addr × Obj) → Prop) (y : Value) (s₂ : Shared) : Prop :=
  ∃ h' tk nw, s₂ = { s₁ with heap := h', toks := tk } ∧ Fr h₀ L h' m ∧ News h₀ L h' ((I, oI) :: (C, oC) :: (X, oX) :: (D, oD) :: nw) ∧ Off4 I C X D nw ∧ S nw ∧ rest y nw
section
variable {prog : Program} {w : World} {A : Around} {E : Value → Shared → Prop} {h₀ : Heap} {L : Addr} {m : PySem.Str → Option Value} {env : Env}
theorem block_C {elt iter : Expr} {x : PySem.Str} {px : Pos} {scope : Scope} {cl : List (PySem.Str × Addr)} {pos : Pos} {s₂ : Shared} {I : Addr} {fp : List Addr} {n : Nat} {P : Nat → Value → Prop} {St : Nat → Heap → Prop} {S : List (Addr × Obj) → Prop} {news : List (Addr × Obj)}
    {RR : Value → Addr → Result → Shared → Prop} (K : Nat → List Value → List (Addr × Obj) → Prop)
    (W : Walks prog w A I fp [I] n P St) (hsz : n ≤ sizeLine) (hIo : ∀ i h, St i h → ∃ o, h.get? I = some o)
    (hSt : ∀ i h h' o nw, St i h → h.get? I = some o → h'.get? I = some o → (∀ b o, h₀.get? b = some o → h'.get? b = some o) → News h₀ L h' nw → S nw → St i h')
    (hpush : ∀ h, pushCells h scope.names = h.push emptyC) (hcells : ∀ n, cellsFrom n scope.names cl = (x, n) :: cl)
    (hkind : scope.kind = .function) (hx : ∀ C X, (compEnvC scope ((x, X) :: cl) C env).kindOf x = some .cell) (hst : St 0 s₂.heap) (hfp : ∀ b ∈ fp, b < s₂.heap.objs.size)
    (F : Fr h₀ L s₂.heap m) (N : News h₀ L s₂.heap news) (hIL : L ≠ I) (hI₀ : h₀.get? I = none) (off : ∀ p ∈ news, p.1 ≠ I) (hS : S news) (hK : K 0 [] news)
    (turn : ∀ i v ys nw (C X D : Addr) oI oC oX h tk, i < n → P i v → K i ys nw → LCg.NsObj oC (fun _ => none) → oX.data = .cell (some v) → Fr h₀ L h m → News h₀ L h ((I, oI) :: (C, oC) :: (X, oX) :: (D, LCg.lst ys) :: nw) → Off4 I C X D nw →
      wpAny (model prog w) A (eval elt (compEnvC scope ((x, X) :: cl) C env)) (TurnX h₀ L m { s₂ with heap := h, toks := tk } I oI C oC X oX D (LCg.lst ys) S (fun y nw' => K (i + 1) (ys ++ [y]) nw')) NoE { s₂ with heap := h, toks := tk })
    (hRR : ∀ D C h tk m' ys news', Fr h₀ L h m → News h₀ L h ((D, LCg.lst ys) :: news') → (∀ p ∈ news', p.1 ≠ D) → h.Ns C m' → h₀.get? C = none → C ≠ L → C ≠ D → (∀ p ∈ news', p.1 ≠ C) → K n ys news' → RR (.ref D) C (.ok .next) { s₂ with heap := h, toks := tk }) :
    wpAny (model prog w) A (newList []) (fun acc s₃ => wpAny (model prog w) A (newFunctionEnv scope env.globals cl [] env.qual none .none (some env)) (fun cenv s₄ =>
      codeAny (model prog w) A (.compStart (.ListComp elt [⟨.Name x px, iter, [], 0⟩] scope pos) 0 (.ref I) acc { cenv with scope := relabel scope env }) (RR acc cenv.locals) s₄) E s₃) E s₂ := by
  refine wpAny_newObj_type (newEnv_C hpush hcells fun cenv he => ?_)
  subst he
  dsimp only
  generalize hD : s₂.heap.objs.size = D
  have e1 : (s₂.heap.push { cls := .type "list", dict := none, data := .seq ([] : List Value).toArray }).objs.size = D + 1 := by rw [Heap.size_push, hD]
  rw [e1]
  generalize hH1 : ((s₂.heap.push { cls := .type "list", dict := none, data := .seq ([] : List Value).toArray }).push { cls := .type "dict", data := .dict #[] }).push emptyC = h₁
  have gD : h₁.get? D = some (LCg.lst []) := by
    rw [← hH1, ← hD]; exact Heap.get?_push_of_some _ (Heap.get?_push_of_some _ (Heap.get?_push_size _ rfl))
  have gC : h₁.get? (D + 1) = some { cls := .type "dict", data := .dict #[] } := by
    rw [← hH1, ← e1]; exact Heap.get?_push_of_some _ (Heap.get?_push_size _ rfl)
  have gX : h₁.get? (D + 1 + 1) = some emptyC := by
    rw [← hH1, ← e1, ← Heap.size_push]; exact Heap.get?_push_size _ rfl
  have old : ∀ b o, s₂.heap.get? b = some o → h₁.get? b = some o := fun b o e => by
    rw [← hH1]; exact Heap.get?_push_of_some _ (Heap.get?_push_of_some _ (Heap.get?_push_of_some _ e))
  have fresh₀ : ∀ a, D ≤ a → h₀.get? a = none := fun a ha => by
    cases e : h₀.get? a with
    | none => rfl
    | some o' =>
      have := Heap.lt_size (F.keep a o' e)
      rw [hD] at this
      exact absurd this (Nat.not_lt.mpr ha)
  have hLlt : L < D := hD ▸ F.ns.lt
  have fplt : ∀ b ∈ fp, b < D := hD ▸ hfp
  have hIlt : I < D := fplt I (W.sub I (List.mem_singleton.mpr rfl))
  have nlt : ∀ p ∈ news, p.1 < D := fun p hp => hD ▸ Heap.lt_size (N p hp).1
  have hst₁ : St 0 h₁ := W.frame _ _ _ hst fun b _ o e => old b o e
  have hns₁ : h₁.Ns (D + 1) (fun _ => none) := by
    have := (Heap.Ns.new (s₂.heap.push { cls := .type "list", dict := none, data := .seq ([] : List Value).toArray }) (.type "dict")).keeps (h' := h₁) (fun b o e => by rw [← hH1]; exact Heap.get?_push_of_some _ e)
    rw [e1] at this
    exact this
  have hCD : D + 1 ≠ D := Nat.succ_ne_self _
  have hXD : D + 1 + 1 ≠ D := Nat.ne_of_gt (Nat.lt_succ_of_lt (Nat.lt_succ_self _))
  have hXC : D + 1 + 1 ≠ D + 1 := Nat.succ_ne_self _
  have lt2 : ∀ {b : Nat}, b < D → b ≠ D ∧ b ≠ D + 1 ∧ b ≠ D + 1 + 1 := fun {b} h => by omega
  have off₀ : Off4 I (D + 1) (D + 1 + 1) D news := fun p hp => ⟨off p hp, (lt2 (nlt p hp)).2.1, (lt2 (nlt p hp)).2.2, (lt2 (nlt p hp)).1⟩
  have gone : ∀ {a : Nat}, D ≤ a → a ≠ L := fun {a} h e => by subst e; exact absurd hLlt (Nat.not_lt.mpr h)
  have loop : ∀ s₃ : Shared, s₃ = { s₂ with heap := h₁ } →
      codeAny (model prog w) A (.compLoop (.ListComp elt [⟨.Name x px, iter, [], 0⟩] scope pos) 0 (.ref I) (.ref D) (compEnvC scope ((x, D + 1 + 1) :: cl) (D + 1) env)) (RR (.ref D) (D + 1)) s₃ := by
    rintro s₃ rfl
    refine codeAny_compLoop_tests
      (fun k s' => ∃ h' tk i ys oX news', s' = { s₂ with heap := h', toks := tk } ∧ i ≤ n ∧ k = n + 1 - i ∧ ys.length = i ∧ St i h' ∧ Fr h₀ L h' m ∧ h'.Ns (D + 1) (fun _ => none) ∧ News h₀ L h' ((D + 1 + 1, oX) :: (D, LCg.lst ys) :: news') ∧
        (∃ vX, oX.data = .cell vX) ∧ Off4 I (D + 1) (D + 1 + 1) D news' ∧ S news' ∧ K i ys news') ?_ (n + 1)
      ⟨h₁, _, 0, [], emptyC, news, rfl, Nat.zero_le _, rfl, rfl, hst₁, F.keeps old, hns₁, fun p hp => ?_, ⟨none, rfl⟩, off₀, hS, hK⟩
    · rintro k s' ⟨h', tk, i, ys, oX, news', rfl, hi, rfl, hyl, hst', F', hn', N', ⟨vX, hvX⟩, off', hS', hK'⟩
      by_cases hlt : i < n
      · refine W.item i _ _ _ hlt hst' fun v h₂ tk₂ hPv hst₂ hk₂ => ?_
        have zX := N' (D + 1 + 1, oX) (.head _)
        have hIX : D + 1 + 1 ≠ I := fun e => (lt2 hIlt).2.2 e.symm
        refine wpAny_assign_Name (wpAny_storeName_cell (c := D + 1 + 1) (v₀ := vX) (by show (relabel scope env).kind = _; exact hkind) (hx _ _) (by simp [compEnvC]) ⟨oX, hk₂ _ _ (by simpa using hIX) zX.1, hvX⟩ fun h₃ hc₃ hs₃ => ?_)
        refine wpAny_tests_nil ?_
        simp only [if_true]
        have hst₃ : St (i + 1) h₃ := W.frame _ _ _ hst₂ fun b hb o e => hs₃.extBut b o (lt2 (fplt b hb)).2.2 e
        obtain ⟨oI, heI⟩ := hIo _ _ hst₃
        obtain ⟨oX₃, heX, hdX⟩ := hc₃
        have hn₃ : h₃.Ns (D + 1) (fun _ => none) := (hn'.at' fun o e => hk₂ _ o (by simpa using fun e => (lt2 hIlt).2.1 e.symm) e).at' fun o e => hs₃.extBut _ o (Ne.symm hXC) e
        obtain ⟨oC, heC, hoC⟩ := LCg.ns_obj hn₃
        have F₃ : Fr h₀ L h₃ m := (LCg.fr_but F' hk₂ hIL hI₀).change hs₃ (gone (by omega)) (fresh₀ _ (by omega))
        have N₂ : News h₀ L h₂ ((D, LCg.lst ys) :: news') := LCg.news_but (fun p hp => N' p (.tail _ hp)) hk₂ fun p hp => by
          rcases List.mem_cons.mp hp with rfl | hp
          · exact fun e => (lt2 hIlt).1 e.symm
          · exact (off' p hp).1
        have N₃ : News h₀ L h₃ ((I, oI) :: (D + 1, oC) :: (D + 1 + 1, oX₃) :: (D, LCg.lst ys) :: news') := fun p hp => by
          rcases List.mem_cons.mp hp with rfl | hp
          · exact ⟨heI, Ne.symm hIL, hI₀⟩
          · rcases List.mem_cons.mp hp with rfl | hp
            · exact ⟨heC, gone (by omega), fresh₀ _ (by omega)⟩
            · rcases List.mem_cons.mp hp with rfl | hp
              · exact ⟨heX, gone (by omega), fresh₀ _ (by omega)⟩
              · have z := N₂ p hp
                refine ⟨hs₃.extBut _ _ ?_ z.1, z.2⟩
                rcases List.mem_cons.mp hp with rfl | hp
                · exact Ne.symm hXD
                · exact (off' p hp).2.2.1
        refine wpAny_mono (turn i v ys news' (D + 1) (D + 1 + 1) D oI oC oX₃ h₃ _ hlt hPv hK' hoC hdX F₃ N₃ off') (fun y s₄ h₄ => ?_) fun _ _ e => e.elim
        obtain ⟨h₄, tk₄, news₄, rfl, F₄, N₄, off₄, hS₄, K₄⟩ := h₄
        have zI := (N₄ (I, oI) (.head _)).1
        have zC := (N₄ (D + 1, oC) (.tail _ (.head _))).1
        have zX₄ := N₄ (D + 1 + 1, oX₃) (.tail _ (.tail _ (.head _)))
        have zD := (N₄ (D, LCg.lst ys) (.tail _ (.tail _ (.tail _ (.head _))))).1
        have N₄' : News h₀ L h₄ news₄ := fun p hp => N₄ p (.tail _ (.tail _ (.tail _ (.tail _ hp))))
        have hst₄ : St (i + 1) h₄ := hSt _ _ _ _ _ hst₃ heI zI F₄.keep N₄' hS₄
        refine append_at (hsz := by show ys.toArray.size ≤ sizeLine; rw [List.size_toArray, hyl]; exact Nat.le_trans hi hsz) zD fun h₅ hs₅ hD₅ => ?_
        refine ⟨n + 1 - (i + 1), by omega, h₅, tk₄, i + 1, ys ++ [y], oX₃, news₄, rfl, hlt, rfl, by rw [List.length_append, List.length_singleton, hyl], W.frame _ _ _ hst₄ fun b hb o e => hs₅.extBut b o (lt2 (fplt b hb)).1 e, F₄.change hs₅ (gone (Nat.le_refl _)) (fresh₀ _ (Nat.le_refl _)),
          (hoC.ns zC).sameBut hs₅ hCD, fun p hp => ?_, ⟨_, hdX⟩, off₄, hS₄, K₄⟩
        rcases List.mem_cons.mp hp with rfl | hp
        · exact ⟨hs₅.extBut _ _ hXD zX₄.1, zX₄.2⟩
        · rcases List.mem_cons.mp hp with rfl | hp
          · exact ⟨hD₅.trans (congrArg some (LCg.lst_snoc ys y)), gone (Nat.le_refl _), fresh₀ _ (Nat.le_refl _)⟩
          · exact ⟨hs₅.extBut _ _ (off₄ p hp).2.2.2 (N₄' p hp).1, (N₄' p hp).2⟩
      · obtain rfl : i = n := Nat.le_antisymm hi (Nat.not_lt.mp hlt)
        refine W.done _ _ _ hst' fun h₂ tk₂ hk₂ => ?_
        exact hRR _ _ h₂ tk₂ _ ys news' (LCg.fr_but F' hk₂ hIL hI₀) (LCg.news_but (fun p hp => N' p (.tail _ hp)) hk₂ fun p hp => by
          rcases List.mem_cons.mp hp with rfl | hp
          · exact fun e => (lt2 hIlt).1 e.symm
          · exact (off' p hp).1) (fun p hp => (off' p hp).2.2.2) (hn'.at' fun o e => hk₂ _ o (by simpa using fun e => (lt2 hIlt).2.1 e.symm) e) (fresh₀ _ (by omega)) (gone (by omega)) hCD (fun p hp => (off' p hp).2.1) hK'
    · rcases List.mem_cons.mp hp with rfl | hp
      · exact ⟨gX, gone (by omega), fresh₀ _ (by omega)⟩
      · rcases List.mem_cons.mp hp with rfl | hp
        · exact ⟨gD, gone (Nat.le_refl _), fresh₀ _ (Nat.le_refl _)⟩
        · exact ⟨old _ _ (N p hp).1, (N p hp).2⟩
  exact codeAny_compStart_list (loop _ rfl) (W.self 0 _ _ _ hst₁ (loop _ rfl))
noncomputable def SrcRC (prog : Program) (w : World) (A : Around) (h₀ : Heap) (L : Addr) (m : PySem.Str → Option Value) (env : Env) (elt : Expr) (x : PySem.Str) (scope : Scope) (cl : List (PySem.Str × Addr)) (Q : Value → Shared → Prop) (xv : Value) (s₁ : Shared) : Prop :=
  ∃ (r : Addr) (a b : Int) (t u v : Tok) (n : Nat) (news : List (Addr × Obj)) (K : Nat → List Value → List (Addr × Obj) → Prop), xv = .ref r ∧ A.handled = none ∧ Fr h₀ L s₁.heap m ∧ News h₀ L s₁.heap news ∧ IsRange s₁.heap r a b 1 t u v ∧ Builtin.Range.small a b 1 = true ∧ Builtin.Range.rangeSize a b 1 = ((n : Nat) : Int) ∧ n ≤ sizeLine ∧ K 0 [] news ∧
    (∀ g : Heap, ∀ i tv ys nw (I C X D : Addr) oI oC oX h tk, i < n → K i ys nw → LCg.NsObj oC (fun _ => none) → oX.data = .cell (some (.int (a + (i : Int)) tv)) → Fr h₀ L h m → News h₀ L h ((I, oI) :: (C, oC) :: (X, oX) :: (D, LCg.lst ys) :: nw) → Off4 I C X D nw →
      wpAny (model prog w) A (eval elt (compEnvC scope ((x, X) :: cl) C env)) (TurnX h₀ L m { s₁ with heap := h, toks := tk } I oI C oC X oX D (LCg.lst ys) (fun _ => True) (fun y nw' => K (i + 1) (ys ++ [y]) nw')) NoE { s₁ with heap := h, toks := tk }) ∧
    (∀ ys nw, K n ys nw → ∀ (D : Addr) h tk, Fr h₀ L h m → News h₀ L h ((D, LCg.lst ys) :: nw) → (∀ p ∈ nw, p.1 ≠ D) → Q (.ref D) { s₁ with heap := h, toks := tk })
theorem ListComp_CR {elt iter : Expr} {x : PySem.Str} {px : Pos} {scope : Scope} {cl : List (PySem.Str × Addr)} {pos : Pos} {s : Shared} {Q : Value → Shared → Prop} (_F₀ : Fr h₀ L s.heap m)
    (hclos : closureFor scope env = pure cl) (hkind : scope.kind = .function) (hnames : ∀ y ∈ scope.names, y.2 = .local → scope.names.lookup y.1 = some .local)
    (hpush : ∀ h, pushCells h scope.names = h.push emptyC) (hcells : ∀ n, cellsFrom n scope.names cl = (x, n) :: cl) (hx : ∀ C X, (compEnvC scope ((x, X) :: cl) C env).kindOf x = some .cell)
    (h : wpAny (model prog w) A (eval iter env) (SrcRC prog w A h₀ L m env elt x scope cl Q) E s)
    (hs : ∀ x, foldedSetIterable iter env x = pure x := by intro _; rfl) :
    wpAny (model prog w) A (eval (.ListComp elt [⟨.Name x px, iter, [], 0⟩] scope pos) env) Q E s := by
  rw [eval_ListComp]
  refine wpAny_comprehension_free (use := none) rfl hs hclos hkind hnames (wpAny_mono h (fun xv s₁ h₁ => ?_) fun _ _ e => e)
  obtain ⟨r, a, b, t, u, v, n, news, K, rfl, hh, F, N, hr, hsm, hn, hsz, hK, turn, fin⟩ := h₁
  refine wpAny_pyIter_range hr hsm ?_
  refine block_C K (LCg.range_walks hh a n) hsz (fun i h st => ⟨_, st⟩) LCg.range_st hpush hcells hkind hx (by show IsRangeIter _ _ _ _ _; rw [hn]; simpa using Heap.get?_push_size _ rfl) (fun b hb => ?_)
    (F.keeps fun _ _ e => Heap.get?_push_of_some _ e) (N.grown fun _ _ e => Heap.get?_push_of_some _ e) (Nat.ne_of_lt F.ns.lt) (next_is_new F) (fun p hp => Nat.ne_of_lt (Heap.lt_size (N p hp).1)) trivial hK ?_ ?_
  · rw [List.mem_singleton.mp hb]
    show s₁.heap.objs.size < (s₁.heap.push _).objs.size
    rw [Heap.size_push]; exact Nat.lt_succ_self _
  · rintro i v ys nw C X D oI oC oX h tk hi ⟨tv, rfl⟩ hK' hC hX F' N' off
    exact turn s₁.heap i tv ys nw _ C X D oI oC oX h tk hi hK' hC hX F' N' off
  · intro D C h tk m' ys news' F' N' o1 hn' hC₀ hCL hCD offC hK'
    refine ⟨m', hn', fun h'' hs'' => fin ys news' hK' D h'' tk (F'.change hs'' hCL hC₀) (fun p hp => ?_) o1⟩
    refine ⟨hs''.extBut _ _ ?_ (N' p hp).1, (N' p hp).2⟩
    rcases List.mem_cons.mp hp with rfl | hp
    · exact Ne.symm hCD
    · exact offC p hp
end
end
section
section
variable {prog : Program} {w : World} {A : Around} {E : Value → Shared → Prop} {h₀ : Heap} {L : Addr} {m : PySem.Str → Option Value} {env : Env}
noncomputable def SrcRCA (prog : Program) (w : World) (A : Around) (h₀ : Heap) (L : Addr) (m : PySem.Str → Option Value) (env : Env) (elt : Expr) (x : PySem.Str) (scope : Scope) (cl : List (PySem.Str × Addr)) (yn : PySem.Str) (Q : Flow → Shared → Prop) (xv : Value) (s₁ : Shared) : Prop :=
  ∃ (r : Addr) (a b : Int) (t u v : Tok) (n : Nat) (news : List (Addr × Obj)) (K : Nat → List Value → List (Addr × Obj) → Prop), xv = .ref r ∧ A.handled = none ∧ Fr h₀ L s₁.heap m ∧ News h₀ L s₁.heap news ∧ IsRange s₁.heap r a b 1 t u v ∧ Builtin.Range.small a b 1 = true ∧ Builtin.Range.rangeSize a b 1 = ((n : Nat) : Int) ∧ n ≤ sizeLine ∧ K 0 [] news ∧
    (∀ g : Heap, ∀ i tv ys nw (I C X D : Addr) oI oC oX h tk, i < n → K i ys nw → LCg.NsObj oC (fun _ => none) → oX.data = .cell (some (.int (a + (i : Int)) tv)) → Fr h₀ L h m → News h₀ L h ((I, oI) :: (C, oC) :: (X, oX) :: (D, LCg.lst ys) :: nw) → Off4 I C X D nw →
      wpAny (model prog w) A (eval elt (compEnvC scope ((x, X) :: cl) C env)) (TurnX h₀ L m { s₁ with heap := h, toks := tk } I oI C oC X oX D (LCg.lst ys) (fun _ => True) (fun y nw' => K (i + 1) (ys ++ [y]) nw')) NoE { s₁ with heap := h, toks := tk }) ∧
    (∀ ys nw, K n ys nw → ∀ (D : Addr) h tk, Fr h₀ L h (fun z => if z = yn then some (.ref D) else m z) → News h₀ L h ((D, LCg.lst ys) :: nw) → (∀ p ∈ nw, p.1 ≠ D) → Q .next { s₁ with heap := h, toks := tk })
noncomputable def SrcLCA (prog : Program) (w : World) (A : Around) (h₀ : Heap) (L : Addr) (m : PySem.Str → Option Value) (env : Env) (elt : Expr) (x : PySem.Str) (scope : Scope) (cl : List (PySem.Str × Addr)) (yn : PySem.Str) (Q : Flow → Shared → Prop) (xv : Value) (s₁ : Shared) : Prop :=
  ∃ (ax : Addr) (its : Array Value) (k₀ : Nat) (news : List (Addr × Obj)) (K : Nat → List Value → List (Addr × Obj) → Prop), xv = .ref ax ∧ A.handled = none ∧ Fr h₀ L s₁.heap m ∧ News h₀ L s₁.heap news ∧ (ax, ({ cls := .type "list", data := .seq its k₀ } : Obj)) ∈ news ∧ its.size ≤ sizeLine ∧ K 0 [] news ∧
    (∀ i v ys nw (I C X D : Addr) oI oC oX h tk, i < its.size → its[i]? = some v → K i ys nw → LCg.NsObj oC (fun _ => none) → oX.data = .cell (some v) → Fr h₀ L h m → News h₀ L h ((I, oI) :: (C, oC) :: (X, oX) :: (D, LCg.lst ys) :: nw) → Off4 I C X D nw →
      wpAny (model prog w) A (eval elt (compEnvC scope ((x, X) :: cl) C env)) (TurnX h₀ L m { s₁ with heap := h, toks := tk } I oI C oC X oX D (LCg.lst ys) (LCg.SrcAt h₀ ax its) (fun y nw' => K (i + 1) (ys ++ [y]) nw')) NoE { s₁ with heap := h, toks := tk }) ∧
    (∀ ys nw, K its.size ys nw → ∀ (D : Addr) h tk, Fr h₀ L h (fun z => if z = yn then some (.ref D) else m z) → News h₀ L h ((D, LCg.lst ys) :: nw) → (∀ p ∈ nw, p.1 ≠ D) → Q .next { s₁ with heap := h, toks := tk })
theorem Assign_CR {elt iter : Expr} {x y : PySem.Str} {px py : Pos} {scope : Scope} {cl : List (PySem.Str × Addr)} {pos spos : Pos} {s : Shared} {Q : Flow → Shared → Prop} (_F₀ : Fr h₀ L s.heap m) (hLe : env.locals = L)
    (hsw : swapsWith (.ListComp elt [⟨.Name x px, iter, [], 0⟩] scope pos) (some (.Name y py)) spos.line env = pure true)
    (hclos : closureFor scope env = pure cl) (hkind : scope.kind = .function) (hnames : ∀ y ∈ scope.names, y.2 = .local → scope.names.lookup y.1 = some .local)
    (hpush : ∀ h, pushCells h scope.names = h.push emptyC) (hcells : ∀ n, cellsFrom n scope.names cl = (x, n) :: cl) (hx : ∀ C X, (compEnvC scope ((x, X) :: cl) C env).kindOf x = some .cell)
    (hy : env.kindOf y = some .local) (hp : (env.scope.kind == .class || (env.scope.kind == .module && env.locals != env.globals)) = false)
    (h : wpAny (model prog w) A (eval iter env) (SrcRCA prog w A h₀ L m env elt x scope cl y Q) E s)
    (hs : ∀ x, foldedSetIterable iter env x = pure x := by intro _; rfl) :
    wpAny (model prog w) A (exec (.Assign [.Name y py] (.ListComp elt [⟨.Name x px, iter, [], 0⟩] scope pos) spos) env) Q E s := by
  subst hLe
  rw [exec_Assign_Name_used _ _ _ _ hsw]
  refine wpAny_bind (wpAny_standAt (wpAny_bind ?_))
  show wpAny _ A (do let _ ← comprehension (.ListComp elt [⟨.Name x px, iter, [], 0⟩] scope pos) scope env _ (newList []) false (eval iter env) (some (assign (.Name y py) env))) _ _ s
  refine wpAny_bind (wpAny_mono (wpAny_comprehension_free (use := some (assign (.Name y py) env)) (Q := fun _ s' => Q .next s') rfl hs hclos hkind hnames
    (wpAny_mono h (fun xv s₁ h₁ => ?_) fun _ _ e => e)) (fun _ s' hq => wpAny_pure (wpAny_pure hq)) fun _ _ e => e)
  obtain ⟨r, a, b, t, u, v, n, news, K, rfl, hh, F, N, hr, hsm, hn, hsz, hK, turn, fin⟩ := h₁
  refine wpAny_pyIter_range hr hsm ?_
  refine block_C K (LCg.range_walks hh a n) hsz (fun i h st => ⟨_, st⟩) LCg.range_st hpush hcells hkind hx (by show IsRangeIter _ _ _ _ _; rw [hn]; simpa using Heap.get?_push_size _ rfl) (fun b hb => ?_)
    (F.keeps fun _ _ e => Heap.get?_push_of_some _ e) (N.grown fun _ _ e => Heap.get?_push_of_some _ e) (Nat.ne_of_lt F.ns.lt) (next_is_new F) (fun p hp => Nat.ne_of_lt (Heap.lt_size (N p hp).1)) trivial hK ?_ ?_
  · rw [List.mem_singleton.mp hb]
    show s₁.heap.objs.size < (s₁.heap.push _).objs.size
    rw [Heap.size_push]; exact Nat.lt_succ_self _
  · rintro i v ys nw C X D oI oC oX h tk hi ⟨tv, rfl⟩ hK' hC hX F' N' off
    exact turn s₁.heap i tv ys nw _ C X D oI oC oX h tk hi hK' hC hX F' N' off
  · intro D C h' tk m' ys news' F' N' o1 hn' hC₀ hCL hCD offC hK'
    show wpAny _ A (assign (.Name y py) env (.ref D)) _ _ _
    refine wpAny_assign_Name (wpAny_storeName_local hy F'.ns (fun h₂ hn₂ hs₂ => ?_) hp)
    have hL₀ : h₀.get? env.locals = none := Heap.get?_none_of_le F'.above
    have F₂ : Fr h₀ env.locals h₂ (fun z => if z = y then some (.ref D) else m z) := ⟨hn₂, fun b o e => hs₂.extBut b o (fun q => by rw [q, hL₀] at e; cases e) (F'.keep b o e), F'.above⟩
    refine ⟨m', hn'.sameBut hs₂ hCL, fun h'' hs'' => fin ys news' hK' D h'' _ (F₂.change hs'' hCL hC₀) (fun p hp => ?_) o1⟩
    have z : h₂.get? p.1 = some p.2 := hs₂.extBut _ _ (N' p hp).2.1 (N' p hp).1
    refine ⟨hs''.extBut _ _ ?_ z, (N' p hp).2⟩
    rcases List.mem_cons.mp hp with rfl | hp
    · exact Ne.symm hCD
    · exact offC p hp
theorem Assign_CL {elt iter : Expr} {x y : PySem.Str} {px py : Pos} {scope : Scope} {cl : List (PySem.Str × Addr)} {pos spos : Pos} {s : Shared} {Q : Flow → Shared → Prop} (_F₀ : Fr h₀ L s.heap m) (hLe : env.locals = L)
    (hsw : swapsWith (.ListComp elt [⟨.Name x px, iter, [], 0⟩] scope pos) (some (.Name y py)) spos.line env = pure true)
    (hclos : closureFor scope env = pure cl) (hkind : scope.kind = .function) (hnames : ∀ y ∈ scope.names, y.2 = .local → scope.names.lookup y.1 = some .local)
    (hpush : ∀ h, pushCells h scope.names = h.push emptyC) (hcells : ∀ n, cellsFrom n scope.names cl = (x, n) :: cl) (hx : ∀ C X, (compEnvC scope ((x, X) :: cl) C env).kindOf x = some .cell)
    (hy : env.kindOf y = some .local) (hp : (env.scope.kind == .class || (env.scope.kind == .module && env.locals != env.globals)) = false)
    (h : wpAny (model prog w) A (eval iter env) (SrcLCA prog w A h₀ L m env elt x scope cl y Q) E s)
    (hs : ∀ x, foldedSetIterable iter env x = pure x := by intro _; rfl) :
    wpAny (model prog w) A (exec (.Assign [.Name y py] (.ListComp elt [⟨.Name x px, iter, [], 0⟩] scope pos) spos) env) Q E s := by
  subst hLe
  rw [exec_Assign_Name_used _ _ _ _ hsw]
  refine wpAny_bind (wpAny_standAt (wpAny_bind ?_))
  show wpAny _ A (do let _ ← comprehension (.ListComp elt [⟨.Name x px, iter, [], 0⟩] scope pos) scope env _ (newList []) false (eval iter env) (some (assign (.Name y py) env))) _ _ s
  refine wpAny_bind (wpAny_mono (wpAny_comprehension_free (use := some (assign (.Name y py) env)) (Q := fun _ s' => Q .next s') rfl hs hclos hkind hnames
    (wpAny_mono h (fun xv s₁ h₁ => ?_) fun _ _ e => e)) (fun _ s' hq => wpAny_pure (wpAny_pure hq)) fun _ _ e => e)
  obtain ⟨ax, its, k₀, news, K, rfl, hh, F, N, hm, hsz, hK, turn, fin⟩ := h₁
  have S : LCg.SrcAt h₀ ax its news := .inr ⟨_, hm, rfl, _, rfl⟩
  have hl := S.list F.keep N
  have hlt : ax < s₁.heap.objs.size := by obtain ⟨_, e, _⟩ := hl; exact Heap.lt_size e
  refine wpAny_pyIter_list hl ?_
  have up : ∀ b o, s₁.heap.get? b = some o → (s₁.heap.push { cls := .type "list_iterator", data := .fields #[.ref ax, .int 0 0] }).get? b = some o := fun b o e => Heap.get?_push_of_some _ e
  refine block_C K (Walks.list hh s₁.heap.objs.size ax (Nat.ne_of_lt hlt) its) hsz (fun i h st => by obtain ⟨o, e, _⟩ := st.1; exact ⟨o, e⟩) LCg.list_st hpush hcells hkind hx ⟨⟨_, Heap.get?_push_size _ rfl, rfl, rfl⟩, hl.push _⟩ (fun b hb => ?_)
    (F.keeps up) (N.grown up) (Nat.ne_of_lt F.ns.lt) (next_is_new F) (fun p hp => Nat.ne_of_lt (Heap.lt_size (N p hp).1)) S hK ?_ ?_
  · show b < (s₁.heap.push _).objs.size
    rw [Heap.size_push]
    rcases List.mem_cons.mp hb with rfl | hb
    · exact Nat.lt_succ_self _
    · rw [List.mem_singleton.mp hb]; exact Nat.lt_succ_of_lt hlt
  · intro i v ys nw C X D oI oC oX h tk hi hP hK' hC hX F' N' off
    exact turn i v ys nw _ C X D oI oC oX h tk hi hP hK' hC hX F' N' off
  · intro D C h' tk m' ys news' F' N' o1 hn' hC₀ hCL hCD offC hK'
    show wpAny _ A (assign (.Name y py) env (.ref D)) _ _ _
    refine wpAny_assign_Name (wpAny_storeName_local hy F'.ns (fun h₂ hn₂ hs₂ => ?_) hp)
    have hL₀ : h₀.get? env.locals = none := Heap.get?_none_of_le F'.above
    have F₂ : Fr h₀ env.locals h₂ (fun z => if z = y then some (.ref D) else m z) := ⟨hn₂, fun b o e => hs₂.extBut b o (fun q => by rw [q, hL₀] at e; cases e) (F'.keep b o e), F'.above⟩
    refine ⟨m', hn'.sameBut hs₂ hCL, fun h'' hs'' => fin ys news' hK' D h'' _ (F₂.change hs'' hCL hC₀) (fun p hp => ?_) o1⟩
    have z : h₂.get? p.1 = some p.2 := hs₂.extBut _ _ (N' p hp).2.1 (N' p hp).1
    refine ⟨hs''.extBut _ _ ?_ z, (N' p hp).2⟩
    rcases List.mem_cons.mp hp with rfl | hp
    · exact Ne.symm hCD
    · exact offC p hp
end
end
section
noncomputable def bitS (n k : Nat) : PySem.Str := Txt.item (PySem.Str.ofString "()") ((((0 : Int) + (n : Int)).fdiv (2 ^ ((0 : Int) + (k : Int)).toNat)).fmod 2)
noncomputable def rowS (n : Nat) : PySem.Str := Txt.join (PySem.Str.ofString "") ((List.range 6).map (bitS n))
theorem bitS_len (n k : Nat) : (bitS n k).length = 1 := by
  have h2 : ((((0 : Int) + (n : Int)).fdiv (2 ^ ((0 : Int) + (k : Int)).toNat)).fmod 2) = 0 ∨ ((((0 : Int) + (n : Int)).fdiv (2 ^ ((0 : Int) + (k : Int)).toNat)).fmod 2) = 1 := by
    generalize ((0 : Int) + (n : Int)).fdiv (2 ^ ((0 : Int) + (k : Int)).toNat) = a
    rw [Int.fmod_eq_emod_of_nonneg _ (by decide)]; omega
  unfold bitS
  rcases h2 with e | e <;> rw [e] <;> rfl
theorem rowsum (n : Nat) : (List.map (fun x => x.length) (List.map (bitS n) (List.range 6))).sum + (List.map (bitS n) (List.range 6)).length * 64 = 390 := by
  rw [List.map_map]
  have : (fun x : PySem.Str => x.length) ∘ bitS n = fun _ => 1 := by funext k; exact bitS_len n k
  rw [this, List.length_map, List.length_range]; rfl
section
variable {w : World} {mean : ExcName → Option Value} {mg mb : PySem.Str → Option Value} {base h₀ : Heap} {L fa : Addr} {cd : Value} {m : PySem.Str → Option Value} {s : Shared} {Q : Flow → Shared → Prop} {E : Value → Shared → Prop}
  (B : Below callerA base [] h₀) (F : Fr h₀ L s.heap m) (X : (hd.heap_39 w.params).In h₀) (T : Top hd.view_39 LO mean mg mb h₀)
include B F X T
set_option maxRecDepth 100000 in
set_option maxHeartbeats 8000000 in
set_option pp.deepTerms false in
set_option pp.deepTerms.threshold 8 in
theorem stR {news : List (Addr × Obj)} (N : News h₀ L s.heap news)
    (hnext : ∀ h' tk' dR rv, Fr h₀ L h' (fun z => if z = PySem.Str.ofString "rows" then some (.ref dR) else m z) → News h₀ L h' ((dR, LCg.lst rv) :: news) → StrsAre rv ((List.range 64).map rowS) → (∀ p ∈ news, p.1 ≠ dR) →
      wpAny (model PySem.Challenge.rw_wa0038_01.row.prog w) (lawA L fa cd) (execs (lawBody.drop 6) (lawEnv L fa cd)) Q E { s with heap := h', toks := tk' }) :
    wpAny (model PySem.Challenge.rw_wa0038_01.row.prog w) (lawA L fa cd) (execs (lawBody.drop 5) (lawEnv L fa cd)) Q E s := by
  revert X; k_fill; intro X
  show wpAny _ (callerA.deeper (envOfC _ ⟨_, _, _, _, _⟩ _ _ _)) (execs (_ :: _) (envOfC _ ⟨_, _, _, _, _⟩ _ _ _)) _ _ _
  (repeat' (first | (k_unfold; (try dsimp only)) | (k_end; wrow_close) | ((((fail_if_success (with_reducible show wpAny _ _ (call (Value.builtin "dict.items") _ _) _ _ _)); (fail_if_success (with_reducible show wpAny _ _ (call (Value.type "range") _ _) _ _ _)); (fail_if_success (with_reducible show wpAny _ _ (call (Value.ref 112) _ _) _ _ _)); (fail_if_success (with_reducible show wpAny _ _ (eval (Expr.ListComp _ _ _ _) _) _ _ _)); (fail_if_success (with_reducible show wpAny _ _ (exec (Stmt.For _ _ _ _ _) _) _ _ _)); (fail_if_success (with_reducible show wpAny _ _ (exec (Stmt.While _ _ _ _) _) _ _ _)); (fail_if_success (with_reducible show wpAny _ _ (exec (Stmt.Assign [Expr.Name _ _] (Expr.ListComp _ _ _ _) _) _) _ _ _)))); first | walk1 | (dsimp only; ((((fail_if_success (with_reducible show wpAny _ _ (call (Value.builtin "dict.items") _ _) _ _ _)); (fail_if_success (with_reducible show wpAny _ _ (call (Value.type "range") _ _) _ _ _)); (fail_if_success (with_reducible show wpAny _ _ (call (Value.ref 112) _ _) _ _ _)); (fail_if_success (with_reducible show wpAny _ _ (eval (Expr.ListComp _ _ _ _) _) _ _ _)); (fail_if_success (with_reducible show wpAny _ _ (exec (Stmt.For _ _ _ _ _) _) _ _ _)); (fail_if_success (with_reducible show wpAny _ _ (exec (Stmt.While _ _ _ _) _) _ _ _)); (fail_if_success (with_reducible show wpAny _ _ (exec (Stmt.Assign [Expr.Name _ _] (Expr.ListComp _ _ _ _) _) _) _ _ _))))); walk1)) | (leave1; walk_say "STEP leave1"; try dsimp only) | fail "no step"))
  refine Assign_CR (by k_asm) (by rfl) (by with_unfolding_all rfl) (by with_unfolding_all rfl) (by rfl) (by decide) (fun _ => by rfl) (fun _ => by rfl) (fun _ _ => by rfl) (by rfl) (by rfl) ?_
  (repeat' (first | (k_unfold; (try dsimp only)) | (k_end; wrow_close) | ((((fail_if_success (with_reducible show wpAny _ _ (call (Value.builtin "dict.items") _ _) _ _ _)); (fail_if_success (with_reducible show wpAny _ _ (call (Value.type "range") _ _) _ _ _)); (fail_if_success (with_reducible show wpAny _ _ (call (Value.ref 112) _ _) _ _ _)); (fail_if_success (with_reducible show wpAny _ _ (eval (Expr.ListComp _ _ _ _) _) _ _ _)); (fail_if_success (with_reducible show wpAny _ _ (exec (Stmt.For _ _ _ _ _) _) _ _ _)); (fail_if_success (with_reducible show wpAny _ _ (exec (Stmt.While _ _ _ _) _) _ _ _)); (fail_if_success (with_reducible show wpAny _ _ (exec (Stmt.Assign [Expr.Name _ _] (Expr.ListComp _ _ _ _) _) _) _ _ _)))); first | walk1 | (dsimp only; ((((fail_if_success (with_reducible show wpAny _ _ (call (Value.builtin "dict.items") _ _) _ _ _)); (fail_if_success (with_reducible show wpAny _ _ (call (Value.type "range") _ _) _ _ _)); (fail_if_success (with_reducible show wpAny _ _ (call (Value.ref 112) _ _) _ _ _)); (fail_if_success (with_reducible show wpAny _ _ (eval (Expr.ListComp _ _ _ _) _) _ _ _)); (fail_if_success (with_reducible show wpAny _ _ (exec (Stmt.For _ _ _ _ _) _) _ _ _)); (fail_if_success (with_reducible show wpAny _ _ (exec (Stmt.While _ _ _ _) _) _ _ _)); (fail_if_success (with_reducible show wpAny _ _ (exec (Stmt.Assign [Expr.Name _ _] (Expr.ListComp _ _ _ _) _) _) _ _ _))))); walk1)) | (leave1; walk_say "STEP leave1"; try dsimp only) | fail "no step"))
  refine call_range_1 ?_
  refine ⟨_, 0, 64, _, _, _, 64, news, fun i ys nw => nw = news ∧ StrsAre ys ((List.range i).map rowS), rfl, by rfl, F.push _, N.pushKeep _, IsRange.new .., small_one (by decide) (by decide) (by decide) (by decide), by decide, by decide, ⟨rfl, .nil⟩, ?_, ?_⟩
  · rintro g i tv ys nw I C X D oI oC oX h tk hi ⟨rfl, hys⟩ hC hX F2 N2 off
    (repeat' (first | (k_unfold; (try dsimp only)) | (k_end; wrow_close) | ((((fail_if_success (with_reducible show wpAny _ _ (call (Value.builtin "dict.items") _ _) _ _ _)); (fail_if_success (with_reducible show wpAny _ _ (call (Value.type "range") _ _) _ _ _)); (fail_if_success (with_reducible show wpAny _ _ (call (Value.ref 112) _ _) _ _ _)); (fail_if_success (with_reducible show wpAny _ _ (eval (Expr.ListComp _ _ _ _) _) _ _ _)); (fail_if_success (with_reducible show wpAny _ _ (exec (Stmt.For _ _ _ _ _) _) _ _ _)); (fail_if_success (with_reducible show wpAny _ _ (exec (Stmt.While _ _ _ _) _) _ _ _)); (fail_if_success (with_reducible show wpAny _ _ (exec (Stmt.Assign [Expr.Name _ _] (Expr.ListComp _ _ _ _) _) _) _ _ _)))); first | walk1 | (dsimp only; ((((fail_if_success (with_reducible show wpAny _ _ (call (Value.builtin "dict.items") _ _) _ _ _)); (fail_if_success (with_reducible show wpAny _ _ (call (Value.type "range") _ _) _ _ _)); (fail_if_success (with_reducible show wpAny _ _ (call (Value.ref 112) _ _) _ _ _)); (fail_if_success (with_reducible show wpAny _ _ (eval (Expr.ListComp _ _ _ _) _) _ _ _)); (fail_if_success (with_reducible show wpAny _ _ (exec (Stmt.For _ _ _ _ _) _) _ _ _)); (fail_if_success (with_reducible show wpAny _ _ (exec (Stmt.While _ _ _ _) _) _ _ _)); (fail_if_success (with_reducible show wpAny _ _ (exec (Stmt.Assign [Expr.Name _ _] (Expr.ListComp _ _ _ _) _) _) _ _ _))))); walk1)) | (leave1; walk_say "STEP leave1"; try dsimp only) | fail "no step"))
    refine LCg.ListComp_U F2 (by with_unfolding_all rfl) (by decide) (by rfl) (by decide) (by rfl) ?_
    (repeat' (first | (k_unfold; (try dsimp only)) | (k_end; wrow_close) | ((((fail_if_success (with_reducible show wpAny _ _ (call (Value.builtin "dict.items") _ _) _ _ _)); (fail_if_success (with_reducible show wpAny _ _ (call (Value.type "range") _ _) _ _ _)); (fail_if_success (with_reducible show wpAny _ _ (call (Value.ref 112) _ _) _ _ _)); (fail_if_success (with_reducible show wpAny _ _ (eval (Expr.ListComp _ _ _ _) _) _ _ _)); (fail_if_success (with_reducible show wpAny _ _ (exec (Stmt.For _ _ _ _ _) _) _ _ _)); (fail_if_success (with_reducible show wpAny _ _ (exec (Stmt.While _ _ _ _) _) _ _ _)); (fail_if_success (with_reducible show wpAny _ _ (exec (Stmt.Assign [Expr.Name _ _] (Expr.ListComp _ _ _ _) _) _) _ _ _)))); first | walk1 | (dsimp only; ((((fail_if_success (with_reducible show wpAny _ _ (call (Value.builtin "dict.items") _ _) _ _ _)); (fail_if_success (with_reducible show wpAny _ _ (call (Value.type "range") _ _) _ _ _)); (fail_if_success (with_reducible show wpAny _ _ (call (Value.ref 112) _ _) _ _ _)); (fail_if_success (with_reducible show wpAny _ _ (eval (Expr.ListComp _ _ _ _) _) _ _ _)); (fail_if_success (with_reducible show wpAny _ _ (exec (Stmt.For _ _ _ _ _) _) _ _ _)); (fail_if_success (with_reducible show wpAny _ _ (exec (Stmt.While _ _ _ _) _) _ _ _)); (fail_if_success (with_reducible show wpAny _ _ (exec (Stmt.Assign [Expr.Name _ _] (Expr.ListComp _ _ _ _) _) _) _ _ _))))); walk1)) | (leave1; walk_say "STEP leave1"; try dsimp only) | fail "no step"))
    refine call_range_1 ?_
    refine LCg.CompSrc.range (a := 0) (n := 6) (by rfl) (F2.push _) (N2.pushKeep _) (IsRange.new ..) (small_one (by decide) (by decide) (by decide) (by decide)) (by decide) (by decide) ?_
    intro g2
    refine rest_inv (fun k ys' nw' => nw' = (I, oI) :: (C, oC) :: (X, oX) :: (D, LCg.lst ys) :: nw ∧ StrsAre ys' ((List.range k).map (bitS i))) ⟨rfl, .nil⟩ ?_ ?_
    · rintro k v' ys' nw' I' oI' C' oC' D' m₃ h3 tk3 hk ⟨tk', rfl⟩ ⟨rfl, hys'⟩ hC' hx' F3 N3 off3 hne3
      (repeat' (first | (k_unfold; (try dsimp only)) | (k_end; wrow_close) | ((((fail_if_success (with_reducible show wpAny _ _ (call (Value.builtin "dict.items") _ _) _ _ _)); (fail_if_success (with_reducible show wpAny _ _ (call (Value.type "range") _ _) _ _ _)); (fail_if_success (with_reducible show wpAny _ _ (call (Value.ref 112) _ _) _ _ _)); (fail_if_success (with_reducible show wpAny _ _ (eval (Expr.ListComp _ _ _ _) _) _ _ _)); (fail_if_success (with_reducible show wpAny _ _ (exec (Stmt.For _ _ _ _ _) _) _ _ _)); (fail_if_success (with_reducible show wpAny _ _ (exec (Stmt.While _ _ _ _) _) _ _ _)); (fail_if_success (with_reducible show wpAny _ _ (exec (Stmt.Assign [Expr.Name _ _] (Expr.ListComp _ _ _ _) _) _) _ _ _)))); first | walk1 | (dsimp only; ((((fail_if_success (with_reducible show wpAny _ _ (call (Value.builtin "dict.items") _ _) _ _ _)); (fail_if_success (with_reducible show wpAny _ _ (call (Value.type "range") _ _) _ _ _)); (fail_if_success (with_reducible show wpAny _ _ (call (Value.ref 112) _ _) _ _ _)); (fail_if_success (with_reducible show wpAny _ _ (eval (Expr.ListComp _ _ _ _) _) _ _ _)); (fail_if_success (with_reducible show wpAny _ _ (exec (Stmt.For _ _ _ _ _) _) _ _ _)); (fail_if_success (with_reducible show wpAny _ _ (exec (Stmt.While _ _ _ _) _) _ _ _)); (fail_if_success (with_reducible show wpAny _ _ (exec (Stmt.Assign [Expr.Name _ _] (Expr.ListComp _ _ _ _) _) _) _ _ _))))); walk1)) | (leave1; walk_say "STEP leave1"; try dsimp only) | fail "no step"))
      exact LCg.CompEnd.intro F3 N3 _ (fun p hp => hp) off3 trivial ⟨rfl, by
        rw [List.range_succ, List.map_append]
        exact strs_app2 hys' (.cons _ _ .nil)⟩
    · rintro ys' nw' ⟨rfl, hys'⟩
      intro D' h3 tk3 F3 N3 off3
      (repeat' (first | (k_unfold; (try dsimp only)) | (k_end; wrow_close) | ((((fail_if_success (with_reducible show wpAny _ _ (call (Value.builtin "dict.items") _ _) _ _ _)); (fail_if_success (with_reducible show wpAny _ _ (call (Value.type "range") _ _) _ _ _)); (fail_if_success (with_reducible show wpAny _ _ (call (Value.ref 112) _ _) _ _ _)); (fail_if_success (with_reducible show wpAny _ _ (eval (Expr.ListComp _ _ _ _) _) _ _ _)); (fail_if_success (with_reducible show wpAny _ _ (exec (Stmt.For _ _ _ _ _) _) _ _ _)); (fail_if_success (with_reducible show wpAny _ _ (exec (Stmt.While _ _ _ _) _) _ _ _)); (fail_if_success (with_reducible show wpAny _ _ (exec (Stmt.Assign [Expr.Name _ _] (Expr.ListComp _ _ _ _) _) _) _ _ _)))); first | walk1 | (dsimp only; ((((fail_if_success (with_reducible show wpAny _ _ (call (Value.builtin "dict.items") _ _) _ _ _)); (fail_if_success (with_reducible show wpAny _ _ (call (Value.type "range") _ _) _ _ _)); (fail_if_success (with_reducible show wpAny _ _ (call (Value.ref 112) _ _) _ _ _)); (fail_if_success (with_reducible show wpAny _ _ (eval (Expr.ListComp _ _ _ _) _) _ _ _)); (fail_if_success (with_reducible show wpAny _ _ (exec (Stmt.For _ _ _ _ _) _) _ _ _)); (fail_if_success (with_reducible show wpAny _ _ (exec (Stmt.While _ _ _ _) _) _ _ _)); (fail_if_success (with_reducible show wpAny _ _ (exec (Stmt.Assign [Expr.Name _ _] (Expr.ListComp _ _ _ _) _) _) _ _ _))))); walk1)) | (leave1; walk_say "STEP leave1"; try dsimp only) | fail "no step"))
      refine join_listC (News.isList N3 (.head _)) hys' (by decide) ?_ ?_
      · rw [rowsum]; decide
      intro t9 k9
      (repeat' (first | (k_unfold; (try dsimp only)) | (k_end; wrow_close) | ((((fail_if_success (with_reducible show wpAny _ _ (call (Value.builtin "dict.items") _ _) _ _ _)); (fail_if_success (with_reducible show wpAny _ _ (call (Value.type "range") _ _) _ _ _)); (fail_if_success (with_reducible show wpAny _ _ (call (Value.ref 112) _ _) _ _ _)); (fail_if_success (with_reducible show wpAny _ _ (eval (Expr.ListComp _ _ _ _) _) _ _ _)); (fail_if_success (with_reducible show wpAny _ _ (exec (Stmt.For _ _ _ _ _) _) _ _ _)); (fail_if_success (with_reducible show wpAny _ _ (exec (Stmt.While _ _ _ _) _) _ _ _)); (fail_if_success (with_reducible show wpAny _ _ (exec (Stmt.Assign [Expr.Name _ _] (Expr.ListComp _ _ _ _) _) _) _ _ _)))); first | walk1 | (dsimp only; ((((fail_if_success (with_reducible show wpAny _ _ (call (Value.builtin "dict.items") _ _) _ _ _)); (fail_if_success (with_reducible show wpAny _ _ (call (Value.type "range") _ _) _ _ _)); (fail_if_success (with_reducible show wpAny _ _ (call (Value.ref 112) _ _) _ _ _)); (fail_if_success (with_reducible show wpAny _ _ (eval (Expr.ListComp _ _ _ _) _) _ _ _)); (fail_if_success (with_reducible show wpAny _ _ (exec (Stmt.For _ _ _ _ _) _) _ _ _)); (fail_if_success (with_reducible show wpAny _ _ (exec (Stmt.While _ _ _ _) _) _ _ _)); (fail_if_success (with_reducible show wpAny _ _ (exec (Stmt.Assign [Expr.Name _ _] (Expr.ListComp _ _ _ _) _) _) _ _ _))))); walk1)) | (leave1; walk_say "STEP leave1"; try dsimp only) | fail "no step"))
      exact ⟨h3, _, nw, rfl, F3, fun p hp => N3 p (.tail _ hp), off, trivial, rfl, by
        rw [show (List.range (i + 1)).map rowS = (List.range i).map rowS ++ [rowS i] by rw [List.range_succ, List.map_append]; rfl]
        exact strs_app2 hys (.cons _ _ .nil)⟩
  · rintro ys nw ⟨rfl, hys⟩ D h tk F2 N2 off
    exact hnext _ _ D ys (by k_asm) N2 hys off
end
end
section
section
variable {prog : Program} {w : World} {A : Around} {E : Value → Shared → Prop} {s : Shared} {env : Env} {h₀ : Heap} {L : Addr} {m : PySem.Str → Option Value}
/-- what is wanted of the source of a comprehension that keeps those items that pass a test -/
noncomputable def FiltSrcA (prog : Program) (w : World) (A : Around) (env : Env) (h₀ : Heap) (L : Addr) (m : PySem.Str → Option Value) (x : PySem.Str) (test : Expr) (scope : Scope) (cl : List (PySem.Str × Addr)) (p : Value → Bool) (yn : PySem.Str) (Q : Flow → Shared → Prop) (xv : Value) (s₁ : Shared) : Prop :=
  ∃ (l : Addr) (items : Array Value) (n : Nat) (news : List (Addr × Obj)), xv = .ref l ∧ Fr h₀ L s₁.heap m ∧ News h₀ L s₁.heap news ∧ (l, listOf items n) ∈ news ∧ items.size ≤ sizeLine ∧
    (∀ (v : Value) (C : Addr) (oC : Obj) (m₃ : PySem.Str → Option Value) (s₃ : Shared), v ∈ items.toList → Fr h₀ L s₃.heap m → News h₀ L s₃.heap ((C, oC) :: news) → LCg.NsObj oC m₃ → m₃ x = some v →
      wpAny (model prog w) A (isTrue test (compEnvC scope cl C env) (eval test (compEnvC scope cl C env))) (fun ok s₄ => ok = p v ∧ Keeps s₃ s₄) NoE s₃) ∧
    (∀ (D : Addr) (h : Heap) (tk nD : Nat), Fr h₀ L h (fun z => if z = yn then some (.ref D) else m z) → News h₀ L h ((D, listOf (items.toList.filter p).toArray nD) :: news) → (∀ q ∈ news, q.1 ≠ D) → Q .next { s₁ with heap := h, toks := tk })

theorem assign_filter {x y : PySem.Str} {px ep py : Pos} {iter test : Expr} {scope : Scope} {cl : List (PySem.Str × Addr)} {pos spos : Pos} {Q : Flow → Shared → Prop} (_F₀ : Fr h₀ L s.heap m) (hLe : env.locals = L) (p : Value → Bool)
    (hsw : swapsWith (.ListComp (.Name x ep) [⟨.Name x px, iter, [test], 0⟩] scope pos) (some (.Name y py)) spos.line env = pure true)
    (hy : env.kindOf y = some .local) (hp : (env.scope.kind == .class || (env.scope.kind == .module && env.locals != env.globals)) = false)
    (hh : A.handled = none) (hclos : closureFor scope env = pure cl) (hcell : ∀ y ∈ scope.names, y.2 ≠ .cell) (hkind : scope.kind = .function)
    (hnames : ∀ y ∈ scope.names, y.2 = .local → scope.names.lookup y.1 = some .local) (hx : scope.names.lookup x = some .local)
    (h : wpAny (model prog w) A (eval iter env) (FiltSrcA prog w A env h₀ L m x test scope cl p y Q) E s)
    (hs : ∀ x, foldedSetIterable iter env x = pure x := by intro _; rfl) (hdb : (x == (PySem.Str.ofString "__debug__")) = false := by decide) :
    wpAny (model prog w) A (exec (.Assign [.Name y py] (.ListComp (.Name x ep) [⟨.Name x px, iter, [test], 0⟩] scope pos) spos) env) Q E s := by
  subst hLe
  refine wpAny_Assign_ListComp_free p (fun a b => b = a) hsw hclos hcell hkind hnames hx hy hp (wpAny_mono h (fun xv s₁ h₁ => ?_) fun _ _ e => e) hs
  obtain ⟨l, items, n, news, rfl, F, N, hl, hsz, htest, hfin⟩ := h₁
  have hls : s₁.heap.IsList l items := ⟨_, (N _ hl).1, rfl, n, rfl⟩
  have hlt : l < s₁.heap.objs.size := Heap.lt_size (N _ hl).1
  have up : ∀ (h' : Heap), (∀ b o, b ∉ [s₁.heap.objs.size] → (s₁.heap.push { cls := .type "list_iterator", data := .fields #[.ref l, .int 0 0] }).get? b = some o → h'.get? b = some o) → ∀ b o, s₁.heap.get? b = some o → h'.get? b = some o :=
    fun h' hk b o e => hk b o (fun hm => by rw [List.mem_singleton.mp hm] at e; exact Nat.lt_irrefl _ (Heap.lt_size e)) (Heap.get?_push_of_some _ e)
  refine wpAny_pyIter_list hls ⟨s₁.heap.objs.size, [s₁.heap.objs.size, l], [s₁.heap.objs.size], items.size, _, _, m, rfl, Walks.list hh _ _ (Nat.ne_of_lt hlt) items, hsz, ⟨⟨_, Heap.get?_push_size _ rfl, rfl, rfl⟩, hls.push _⟩, ?_, ?_, ?_, ⟨?_, ?_⟩, ?_⟩
  · intro b hb
    show b < (s₁.heap.push _).objs.size
    rw [Heap.size_push]
    rcases List.mem_cons.mp hb with rfl | hb
    · exact Nat.lt_succ_self _
    · rcases List.mem_cons.mp hb with rfl | hb
      · exact Nat.lt_succ_of_lt hlt
      · cases hb
  · show env.locals ∉ [s₁.heap.objs.size]
    rw [List.mem_singleton]
    exact Nat.ne_of_lt F.ns.lt
  · exact F.ns.keeps fun _ _ e => Heap.get?_push_of_some _ e
  · intro C i v s₃ m₃ E' hC hP hn hm hk htk
    have keep := up s₃.heap hk
    obtain ⟨oC, eC, hoC⟩ := LCg.ns_obj hn
    have hC' : s₁.heap.objs.size < C := Nat.lt_of_lt_of_le (by rw [Heap.size_push]; exact Nat.lt_succ_self _) hC
    have hCL : C ≠ env.locals := Nat.ne_of_gt (Nat.lt_trans F.ns.lt hC')
    have hC0 : h₀.get? C = none := by
      cases e : h₀.get? C with
      | none => rfl
      | some o => exact absurd (Nat.lt_trans (Heap.lt_size (F.keep _ _ e)) hC') (Nat.lt_irrefl _)
    refine wpAny_tests_one (wpAny_mono (htest v C oC m₃ s₃ ?_ (F.keeps keep) ?_ hoC hm) (fun _ _ x => x) fun _ _ x => x.elim)
    · exact Array.mem_toList_iff.mpr (Array.mem_of_getElem? hP)
    · intro q hq
      rcases List.mem_cons.mp hq with rfl | hq
      · exact ⟨eC, hCL, hC0⟩
      · exact N.grown keep q hq
  · intro C i v s₃ m₃ E' hC hP hp hn hm hk htk
    exact loadOwn hn hm ⟨rfl, _, _, rfl, fun _ _ e => e⟩ hkind hx hdb
  · intro D h' tk ys vs' hnew hlD hplD hlen hP hF hns hk
    have e : vs' = items.toList := by simpa using list_of_places (items := items) hlen hP
    subst e
    have hkk : ∀ b o, b ≠ env.locals → s₁.heap.get? b = some o → h'.get? b = some o :=
      fun b o hb e => hk b o hb (fun hm => by rw [List.mem_singleton.mp hm] at e; exact Nat.lt_irrefl _ (Heap.lt_size e)) (Heap.get?_push_of_some _ e)
    obtain ⟨nD, eD⟩ := hplD
    have e2 : ys = (items.toList.filter p).toArray := by
      have := paired_id (p := p) hF
      rw [← this]
    subst e2
    have hne : ∀ q ∈ news, q.1 ≠ D := fun q hq e => by rw [← e, Heap.get?_push_of_some _ (N q hq).1] at hnew; cases hnew
    have hDL : D ≠ env.locals := fun e => by
      obtain ⟨oL, _, _, hL, _⟩ := F.ns
      rw [e, Heap.get?_push_of_some _ hL] at hnew; cases hnew
    have hD0 : h₀.get? D = none := by
      cases e : h₀.get? D with
      | none => rfl
      | some o' => rw [Heap.get?_push_of_some _ (F.keep _ _ e)] at hnew; cases hnew
    have hL₀ : h₀.get? env.locals = none := Heap.get?_none_of_le F.above
    refine hfin D h' tk nD ⟨hns, fun b o e => hkk b o (fun q => by rw [q, hL₀] at e; cases e) (F.keep b o e), F.above⟩ ?_ hne
    intro q hq
    rcases List.mem_cons.mp hq with rfl | hq
    · exact ⟨eD, hDL, hD0⟩
    · exact ⟨hkk _ _ (N q hq).2.1 (N q hq).1, (N q hq).2⟩
end
end
section
noncomputable def openP (x : PySem.Str) : Bool := Txt.count x (PySem.Str.ofString "(") == 3
noncomputable def openV (v : Value) : Bool := match v with | .str x _ => openP x | _ => false
theorem strs_filter : ∀ {vs : List Value} {xs : List PySem.Str}, StrsAre vs xs → StrsAre (vs.filter openV) (xs.filter openP)
  | _, _, .nil => .nil
  | _, _, .cons y t h => by
    rename_i vs xs
    have ih := strs_filter h
    have e : openV (.str y t) = openP y := rfl
    cases hc : openP y with
    | true => rw [List.filter_cons_of_pos (by rw [e, hc]), List.filter_cons_of_pos hc]; exact .cons y t ih
    | false => rw [List.filter_cons_of_neg (by rw [e, hc]; exact Bool.false_ne_true), List.filter_cons_of_neg (by rw [hc]; exact Bool.false_ne_true)]; exact ih
theorem strs_mem : ∀ {vs : List Value} {xs : List PySem.Str}, StrsAre vs xs → ∀ v ∈ vs, ∃ x t, v = .str x t
  | _, _, .nil, _, h => nomatch h
  | _, _, .cons y t h, v, hv => by
    rcases List.mem_cons.mp hv with rfl | hv
    · exact ⟨y, t, rfl⟩
    · exact strs_mem h v hv
section
variable {w : World} {mean : ExcName → Option Value} {mg mb : PySem.Str → Option Value} {base h₀ : Heap} {L fa : Addr} {cd : Value} {m : PySem.Str → Option Value} {s : Shared} {Q : Flow → Shared → Prop} {E : Value → Shared → Prop}
  (B : Below callerA base [] h₀) (F : Fr h₀ L s.heap m) (X : (hd.heap_39 w.params).In h₀) (T : Top hd.view_39 LO mean mg mb h₀)
include B F X T
set_option maxRecDepth 100000 in
set_option maxHeartbeats 8000000 in
set_option pp.deepTerms false in
set_option pp.deepTerms.threshold 8 in
theorem stF {dR : Addr} {rv : List Value} {rest : List (Addr × Obj)} (N : News h₀ L s.heap ((dR, LCg.lst rv) :: rest)) (hm : m (PySem.Str.ofString "rows") = some (.ref dR)) (hrv : StrsAre rv ((List.range 64).map rowS))
    (hnext : ∀ h' tk' dF fv nF, Fr h₀ L h' (fun z => if z = PySem.Str.ofString "rows" then some (.ref dF) else m z) → News h₀ L h' ((dF, listOf fv.toArray nF) :: (dR, LCg.lst rv) :: rest) → StrsAre fv (((List.range 64).map rowS).filter openP) → (∀ p ∈ (dR, LCg.lst rv) :: rest, p.1 ≠ dF) →
      wpAny (model PySem.Challenge.rw_wa0038_01.row.prog w) (lawA L fa cd) (execs (lawBody.drop 7) (lawEnv L fa cd)) Q E { s with heap := h', toks := tk' }) :
    wpAny (model PySem.Challenge.rw_wa0038_01.row.prog w) (lawA L fa cd) (execs (lawBody.drop 6) (lawEnv L fa cd)) Q E s := by
  revert X; k_fill; intro X
  have F1 := fr_track F hm
  clear F
  show wpAny _ (callerA.deeper (envOfC _ ⟨_, _, _, _, _⟩ _ _ _)) (execs (_ :: _) (envOfC _ ⟨_, _, _, _, _⟩ _ _ _)) _ _ _
  (repeat' (first | (k_unfold; (try dsimp only)) | (k_end; wrow_close) | ((((fail_if_success (with_reducible show wpAny _ _ (call (Value.builtin "dict.items") _ _) _ _ _)); (fail_if_success (with_reducible show wpAny _ _ (call (Value.type "range") _ _) _ _ _)); (fail_if_success (with_reducible show wpAny _ _ (call (Value.ref 112) _ _) _ _ _)); (fail_if_success (with_reducible show wpAny _ _ (eval (Expr.ListComp _ _ _ _) _) _ _ _)); (fail_if_success (with_reducible show wpAny _ _ (exec (Stmt.For _ _ _ _ _) _) _ _ _)); (fail_if_success (with_reducible show wpAny _ _ (exec (Stmt.While _ _ _ _) _) _ _ _)); (fail_if_success (with_reducible show wpAny _ _ (exec (Stmt.Assign [Expr.Name _ _] (Expr.ListComp _ _ _ _) _) _) _ _ _)))); first | walk1 | (dsimp only; ((((fail_if_success (with_reducible show wpAny _ _ (call (Value.builtin "dict.items") _ _) _ _ _)); (fail_if_success (with_reducible show wpAny _ _ (call (Value.type "range") _ _) _ _ _)); (fail_if_success (with_reducible show wpAny _ _ (call (Value.ref 112) _ _) _ _ _)); (fail_if_success (with_reducible show wpAny _ _ (eval (Expr.ListComp _ _ _ _) _) _ _ _)); (fail_if_success (with_reducible show wpAny _ _ (exec (Stmt.For _ _ _ _ _) _) _ _ _)); (fail_if_success (with_reducible show wpAny _ _ (exec (Stmt.While _ _ _ _) _) _ _ _)); (fail_if_success (with_reducible show wpAny _ _ (exec (Stmt.Assign [Expr.Name _ _] (Expr.ListComp _ _ _ _) _) _) _ _ _))))); walk1)) | (leave1; walk_say "STEP leave1"; try dsimp only) | fail "no step"))
  refine assign_filter (by k_asm) (by rfl) openV (by with_unfolding_all rfl) (by rfl) (by rfl) (by rfl) (by with_unfolding_all rfl) (by decide) (by rfl) (by decide) (by rfl) ?_
  walk1
  refine ⟨dR, rv.toArray, _, _, rfl, by k_asm, by k_asm, .head _, by rw [sizeLine_eq, List.size_toArray, hrv.length]; decide, ?_, ?_⟩
  · intro v C oC m₃ s₃ hv F3 N3 hC hx
    obtain ⟨x, t, rfl⟩ : ∃ x t, v = .str x t := strs_mem hrv v (by simpa using hv)
    (repeat' (first | (k_unfold; (try dsimp only)) | (k_end; wrow_close) | ((((fail_if_success (with_reducible show wpAny _ _ (call (Value.builtin "dict.items") _ _) _ _ _)); (fail_if_success (with_reducible show wpAny _ _ (call (Value.type "range") _ _) _ _ _)); (fail_if_success (with_reducible show wpAny _ _ (call (Value.ref 112) _ _) _ _ _)); (fail_if_success (with_reducible show wpAny _ _ (eval (Expr.ListComp _ _ _ _) _) _ _ _)); (fail_if_success (with_reducible show wpAny _ _ (exec (Stmt.For _ _ _ _ _) _) _ _ _)); (fail_if_success (with_reducible show wpAny _ _ (exec (Stmt.While _ _ _ _) _) _ _ _)); (fail_if_success (with_reducible show wpAny _ _ (exec (Stmt.Assign [Expr.Name _ _] (Expr.ListComp _ _ _ _) _) _) _ _ _)))); first | walk1 | (dsimp only; ((((fail_if_success (with_reducible show wpAny _ _ (call (Value.builtin "dict.items") _ _) _ _ _)); (fail_if_success (with_reducible show wpAny _ _ (call (Value.type "range") _ _) _ _ _)); (fail_if_success (with_reducible show wpAny _ _ (call (Value.ref 112) _ _) _ _ _)); (fail_if_success (with_reducible show wpAny _ _ (eval (Expr.ListComp _ _ _ _) _) _ _ _)); (fail_if_success (with_reducible show wpAny _ _ (exec (Stmt.For _ _ _ _ _) _) _ _ _)); (fail_if_success (with_reducible show wpAny _ _ (exec (Stmt.While _ _ _ _) _) _ _ _)); (fail_if_success (with_reducible show wpAny _ _ (exec (Stmt.Assign [Expr.Name _ _] (Expr.ListComp _ _ _ _) _) _) _ _ _))))); walk1)) | (leave1; walk_say "STEP leave1"; try dsimp only) | fail "no step"))
    exact ⟨_, _, rfl, fun _ _ e => e⟩
  · intro D h tk nD F3 N3 hne
    have N4 : News h₀ L h ((D, listOf (rv.filter openV).toArray nD) :: (dR, LCg.lst rv) :: rest) := N3
    have F4 : Fr h₀ L h (fun z => if z = PySem.Str.ofString "rows" then some (.ref D) else m z) := by
      refine cast (congrArg (Fr h₀ L h) ?_) F3
      funext z
      by_cases hz : z = PySem.Str.ofString "rows"
      · rw [if_pos hz, if_pos hz]
      · rw [if_neg hz, if_neg hz]; exact if_neg hz
    exact hnext _ _ D _ nD F4 N4 (strs_filter hrv) hne
end
end
section
noncomputable def balGo : Int → List Nat → Bool
  | o, [] => decide (o = 0)
  | o, c :: r => if c = 40 then balGo (o + 1) r else if c = 41 then (if o - 1 < 0 then false else balGo (o - 1) r) else balGo o r
noncomputable def BS : List PySem.Str := [PySem.Str.ofString "", PySem.Str.ofString "a", PySem.Str.ofString "\\(", PySem.Str.ofString "\\)"]
noncomputable def BL : List (List Nat) := [[], [97], [92, 40], [92, 41]]
theorem bs_cps : ∀ b ∈ BS, b.cps.toList ∈ BL := by decide +kernel
theorem beS_mem (v : Int) : beS v ∈ BS := by
  have h4 : v.fmod 4 = 0 ∨ v.fmod 4 = 1 ∨ v.fmod 4 = 2 ∨ v.fmod 4 = 3 := by
    rw [Int.fmod_eq_emod_of_nonneg _ (by decide)]; omega
  unfold beS BS
  rcases h4 with e | e | e | e <;> rw [e] <;> simp
theorem foldl_cps : ∀ (ps : List PySem.Str) (a : Array Nat), (ps.foldl (fun acc p => acc ++ (PySem.Str.ofString "").cps ++ p.cps) a).toList = a.toList ++ (ps.map fun p => p.cps.toList).flatten
  | [], a => by simp
  | p :: r, a => by
    rw [List.foldl_cons, foldl_cps r]
    have e : (PySem.Str.ofString "").cps = #[] := by decide +kernel
    simp [e]
theorem join_cps (ps : List PySem.Str) : (Txt.join (PySem.Str.ofString "") ps).cps.toList = (ps.map fun p => p.cps.toList).flatten := by
  show ((ps.drop 1).foldl (fun acc p => acc ++ (PySem.Str.ofString "").cps ++ p.cps) (ps.headD PySem.Str.empty).cps).toList = _
  rw [foldl_cps]
  cases ps with
  | nil => simp [PySem.Str.empty]
  | cons p r => simp
noncomputable def pieces (cs : List Nat) (bs : List PySem.Str) : List PySem.Str := List.zipWith (fun c b => (⟨#[c]⟩ : PySem.Str) ++ b) cs bs
theorem piece_cps (c : Nat) (b : PySem.Str) : ((⟨#[c]⟩ : PySem.Str) ++ b).cps.toList = c :: b.cps.toList := by
  show (#[c] ++ b.cps).toList = _
  simp
theorem esc_step {c : Nat} (hc : c = 40 ∨ c = 41) {l : List Nat} (hl : l ∈ BL) (o : Int) (rest : List Nat) :
    chkOuts o (escOuts false (c :: l ++ rest)) = (if c = 40 then chkOuts (o + 1) (escOuts false rest) else if o - 1 < 0 then false else chkOuts (o - 1) (escOuts false rest)) := by
  have e1 : ((⟨#[40]⟩ : PySem.Str) == PySem.Str.ofString "(") = true := by decide +kernel
  have e2 : ((⟨#[41]⟩ : PySem.Str) == PySem.Str.ofString "(") = false := by decide +kernel
  have e3 : ((⟨#[41]⟩ : PySem.Str) == PySem.Str.ofString ")") = true := by decide +kernel
  have e4 : ((⟨#[97]⟩ : PySem.Str) == PySem.Str.ofString "(") = false := by decide +kernel
  have e5 : ((⟨#[97]⟩ : PySem.Str) == PySem.Str.ofString ")") = false := by decide +kernel
  have e6 : ((PySem.Str.ofString "\\" ++ ⟨#[40]⟩ : PySem.Str) == PySem.Str.ofString "(") = false := by decide +kernel
  have e7 : ((PySem.Str.ofString "\\" ++ ⟨#[40]⟩ : PySem.Str) == PySem.Str.ofString ")") = false := by decide +kernel
  have e8 : ((PySem.Str.ofString "\\" ++ ⟨#[41]⟩ : PySem.Str) == PySem.Str.ofString "(") = false := by decide +kernel
  have e9 : ((PySem.Str.ofString "\\" ++ ⟨#[41]⟩ : PySem.Str) == PySem.Str.ofString ")") = false := by decide +kernel
  unfold BL at hl
  simp only [List.mem_cons, List.not_mem_nil, or_false] at hl
  rcases hc with rfl | rfl <;> rcases hl with rfl | rfl | rfl | rfl <;>
    simp [escOuts, chkOuts, e1, e2, e3, e4, e5, e6, e7, e8, e9]
theorem chk_pieces : ∀ (cs : List Nat) (bs : List PySem.Str) (o : Int), cs.length = bs.length → (∀ c ∈ cs, c = 40 ∨ c = 41) → (∀ b ∈ bs, b ∈ BS) → chkOuts o (escOuts false ((pieces cs bs).map fun p => p.cps.toList).flatten) = balGo o cs
  | [], [], o, _, _, _ => by simp [pieces, escOuts, chkOuts, balGo]
  | c :: cs, b :: bs, o, hl, hc, hb => by
    have ih := fun o => chk_pieces cs bs o (by simpa using hl) (fun x hx => hc x (.tail _ hx)) (fun x hx => hb x (.tail _ hx))
    have h1 : ((pieces (c :: cs) (b :: bs)).map fun p => p.cps.toList).flatten = c :: b.cps.toList ++ ((pieces cs bs).map fun p => p.cps.toList).flatten := by
      simp only [pieces, List.zipWith_cons_cons, List.map_cons, List.flatten_cons, piece_cps]
    rw [h1, esc_step (hc c (.head _)) (bs_cps b (hb b (.head _))), ih, ih, balGo]
    rcases hc c (.head _) with rfl | rfl <;> simp
theorem chk_join {cs : List Nat} {bs : List PySem.Str} (hl : cs.length = bs.length) (hc : ∀ c ∈ cs, c = 40 ∨ c = 41) (hb : ∀ b ∈ bs, b ∈ BS) : chk (Txt.join (PySem.Str.ofString "") (pieces cs bs)) = balGo 0 cs := by
  unfold chk
  rw [join_cps]
  exact chk_pieces cs bs 0 hl hc hb
theorem codes_pieces : ∀ (cs : List Nat) (bs : List PySem.Str), (∀ c ∈ cs, c = 40 ∨ c = 41) → (∀ b ∈ bs, b ∈ BS) → ∀ x ∈ ((pieces cs bs).map fun p => p.cps.toList).flatten, x = 40 ∨ x = 41 ∨ x = 92 ∨ x = 97
  | [], _, _, _, x, hx => by simp [pieces] at hx
  | _ :: _, [], _, _, x, hx => by simp [pieces] at hx
  | c :: cs, b :: bs, hc, hb, x, hx => by
    have h1 : ((pieces (c :: cs) (b :: bs)).map fun p => p.cps.toList).flatten = c :: b.cps.toList ++ ((pieces cs bs).map fun p => p.cps.toList).flatten := by
      simp only [pieces, List.zipWith_cons_cons, List.map_cons, List.flatten_cons, piece_cps]
    rw [h1] at hx
    rcases List.mem_append.mp hx with h | h
    · rcases List.mem_cons.mp h with rfl | h
      · rcases hc _ (.head _) with e | e
        · exact .inl e
        · exact .inr (.inl e)
      · have hm := bs_cps b (hb b (.head _))
        unfold BL at hm
        simp only [List.mem_cons, List.not_mem_nil, or_false] at hm
        rcases hm with e | e | e | e <;> rw [e] at h <;> simp at h
        · exact .inr (.inr (.inr h))
        · rcases h with h | h
          · exact .inr (.inr (.inl h))
          · exact .inl h
        · rcases h with h | h
          · exact .inr (.inr (.inl h))
          · exact .inr (.inl h)
    · exact codes_pieces cs bs (fun x hx => hc x (.tail _ hx)) (fun x hx => hb x (.tail _ hx)) x h
theorem len_piece {c : Nat} {b : PySem.Str} (hb : b ∈ BS) : ((⟨#[c]⟩ : PySem.Str) ++ b).length ≤ 3 := by
  have e : ((⟨#[c]⟩ : PySem.Str) ++ b).length = 1 + b.cps.toList.length := by
    show (#[c] ++ b.cps).size = _
    simp
  rw [e]
  have hm := bs_cps b hb
  unfold BL at hm
  simp only [List.mem_cons, List.not_mem_nil, or_false] at hm
  rcases hm with e | e | e | e <;> rw [e] <;> simp
theorem lens_pieces : ∀ (cs : List Nat) (bs : List PySem.Str), (∀ b ∈ bs, b ∈ BS) → ((pieces cs bs).map (·.length)).sum ≤ 3 * cs.length
  | [], _, _ => by simp [pieces]
  | _ :: _, [], _ => by simp [pieces]
  | c :: cs, b :: bs, hb => by
    have ih := lens_pieces cs bs (fun x hx => hb x (.tail _ hx))
    have h1 := len_piece (c := c) (hb b (.head _))
    simp only [pieces, List.zipWith_cons_cons, List.map_cons, List.sum_cons, List.length_cons] at ih ⊢
    omega
theorem join_len (ps : List PySem.Str) : (Txt.join (PySem.Str.ofString "") ps).length = (ps.map (·.length)).sum := by
  have h : (Txt.join (PySem.Str.ofString "") ps).length = (Txt.join (PySem.Str.ofString "") ps).cps.toList.length := by
    show _ = _; rw [Array.length_toList]; rfl
  rw [h, join_cps, List.length_flatten, List.map_map]
  congr 1
theorem ok_join {cs : List Nat} {bs : List PySem.Str} (h6 : cs.length ≤ 6) (hc : ∀ c ∈ cs, c = 40 ∨ c = 41) (hb : ∀ b ∈ bs, b ∈ BS) : okText (Txt.join (PySem.Str.ofString "") (pieces cs bs)) := by
  have codes : ∀ x ∈ (Txt.join (PySem.Str.ofString "") (pieces cs bs)).cps.toList, x = 40 ∨ x = 41 ∨ x = 92 ∨ x = 97 := by
    rw [join_cps]; exact codes_pieces cs bs hc hb
  refine ⟨?_, ?_, ?_⟩
  · have e : PySem.Str.ofString "\"" = ⟨#[34]⟩ := by decide +kernel
    have := StrLaws.found_one (Txt.join (PySem.Str.ofString "") (pieces cs bs)) 34
    rw [e]
    have h34 : ¬ (34 ∈ (Txt.join (PySem.Str.ofString "") (pieces cs bs)).cps.toList) := fun h => by
      have := codes 34 h; omega
    rw [decide_eq_false h34] at this
    simpa using this
  · rw [← Array.all_toList, List.all_eq_true]
    intro x hx
    have := codes x hx
    exact decide_eq_true (by omega)
  · rw [join_len]
    have := lens_pieces cs bs hb
    omega
end
section
section
variable {w : World} {mean : ExcName → Option Value} {mg mb : PySem.Str → Option Value} {dp un : Nat} {gd : Option (List Code)} {cn : PySem.Str} {cs : Scope} {a : Addr} {ccd : Value} {cl : List (PySem.Str × Addr)} {outer : List Env} {A₀ : Around} {base h₀ : Heap} {L : Addr} {m : PySem.Str → Option Value} {news : List (Addr × Obj)} {s : Shared} {Q E : Value → Shared → Prop}
  (B : Below A₀ base outer h₀) (F : Fr h₀ L s.heap m) (X : (hd.heap_39 w.params).In h₀) (N : News h₀ L s.heap news) (T : Top hd.view_39 LO mean mg mb h₀) (hk : cs.kind = .function)
include B F X N T hk

set_option maxRecDepth 100000 in
set_option maxHeartbeats 8000000 in
set_option pp.deepTerms false in
set_option pp.deepTerms.threshold 10 in
theorem get_ {t : Addr} {x : PySem.Str} {tk : Tok} {ps : List (PySem.Str × PySem.Str)} (hT : IsTab w news t ps) (hx : Clean (Txt.lower x)) (hlen : x.length < 100) (hks : ∀ p ∈ ps, p.1.length < 100) (hdp : dp + 20 < recursionLimit) 
    (hret : ∀ v h' tk', Fr h₀ L h' m → News h₀ L h' news → (match ps.find? (fun p => Txt.lower p.1 == Txt.lower x) with | some p => ∃ t, v = .str p.2 t | none => v = .none) → Q v { s with heap := h', toks := tk' }) :
    wpAny (model PySem.Challenge.rw_wa0038_01.row.prog w) (ktrTop dp un gd cn cs L a ccd cl outer) (call (.ref 146) [.ref t, .str x tk] []) Q E s := by
  revert X; k_fill; intro X
  obtain ⟨d, l, its, tkk, n, h1, h2, h3, h4⟩ := hT
  refine wpAny_call ?_
  k_dflt (((refine' code_def ?k1 ?k2 ?k3 ?k4 ?k5 ?kA ?kF ?kK ?k6 ?k7 ?k8 ?k9 ?kB ?_ ?c2 ?c3 ?c4 ?c5; (case kA => exact rfl); (case kF => exact rfl); (case kK => first | exact rfl | assumption); (case k1 => k_asm); (case k2 => k_asm); (case k3 => k_asm); (case k4 => k_asm); (case k5 => k_asm); (case k6 => k_is); (case k7 => k_is); (case k8 => ktr_room); (case k9 => first | exact BindsTo.of_eq rfl | exact binds_K (by k_in) rfl (by k_is) rfl rfl rfl | fail "no rule for these arguments"); (case c5 => decide); (case kB => exact locs rfl); (case c2 => exact rfl); (case c3 => exact rfl); (case c4 => exact rfl); k_whole; intro g' L' h' FG' F' N' B' X' T'; (try dsimp only); (try k_lift B'); (try k_fold))))
  (repeat' (first | (k_unfold; (try dsimp only)) | (k_end; wrow_close) | ((((fail_if_success (with_reducible show wpAny _ _ (call (Value.builtin "dict.items") _ _) _ _ _)); (fail_if_success (with_reducible show wpAny _ _ (call (Value.type "range") _ _) _ _ _)); (fail_if_success (with_reducible show wpAny _ _ (call (Value.ref 112) _ _) _ _ _)); (fail_if_success (with_reducible show wpAny _ _ (eval (Expr.ListComp _ _ _ _) _) _ _ _)); (fail_if_success (with_reducible show wpAny _ _ (exec (Stmt.For _ _ _ _ _) _) _ _ _)); (fail_if_success (with_reducible show wpAny _ _ (exec (Stmt.While _ _ _ _) _) _ _ _)); (fail_if_success (with_reducible show wpAny _ _ (exec (Stmt.Assign [Expr.Name _ _] (Expr.ListComp _ _ _ _) _) _) _ _ _)))); first | (first | with_reducible (k_here; (with_reducible show wpAny _ _ (call (Value.ref 98) _ _) _ _ _); k_dflt (refine' conv ?Bqz ?Fqz ?Xqz ?Nqz ?Tqz ?hkqz ?hxqz ?hdqz ?_; (case Bqz => k_asm); (case Fqz => k_asm); (case Xqz => k_asm); (case Nqz => k_asm); (case Tqz => k_asm); (case hkqz => first | exact rfl | assumption); (case hxqz => assumption); (case hdqz => ktr_room); intro t h' tk' F' N'; (try dsimp only))) | walk1) | (dsimp only; ((((fail_if_success (with_reducible show wpAny _ _ (call (Value.builtin "dict.items") _ _) _ _ _)); (fail_if_success (with_reducible show wpAny _ _ (call (Value.type "range") _ _) _ _ _)); (fail_if_success (with_reducible show wpAny _ _ (call (Value.ref 112) _ _) _ _ _)); (fail_if_success (with_reducible show wpAny _ _ (eval (Expr.ListComp _ _ _ _) _) _ _ _)); (fail_if_success (with_reducible show wpAny _ _ (exec (Stmt.For _ _ _ _ _) _) _ _ _)); (fail_if_success (with_reducible show wpAny _ _ (exec (Stmt.While _ _ _ _) _) _ _ _)); (fail_if_success (with_reducible show wpAny _ _ (exec (Stmt.Assign [Expr.Name _ _] (Expr.ListComp _ _ _ _) _) _) _ _ _))))); (first | with_reducible (k_here; (with_reducible show wpAny _ _ (call (Value.ref 98) _ _) _ _ _); k_dflt (refine' conv ?Bqz ?Fqz ?Xqz ?Nqz ?Tqz ?hkqz ?hxqz ?hdqz ?_; (case Bqz => k_asm); (case Fqz => k_asm); (case Xqz => k_asm); (case Nqz => k_asm); (case Tqz => k_asm); (case hkqz => first | exact rfl | assumption); (case hxqz => assumption); (case hdqz => ktr_room); intro t h' tk' F' N'; (try dsimp only))) | walk1))) | (leave1; walk_say "STEP leave1"; try dsimp only) | fail "no step"))
  refine for_any ?_
  (repeat' (first | (k_unfold; (try dsimp only)) | (k_end; wrow_close) | ((((fail_if_success (with_reducible show wpAny _ _ (call (Value.builtin "dict.items") _ _) _ _ _)); (fail_if_success (with_reducible show wpAny _ _ (call (Value.type "range") _ _) _ _ _)); (fail_if_success (with_reducible show wpAny _ _ (call (Value.ref 112) _ _) _ _ _)); (fail_if_success (with_reducible show wpAny _ _ (eval (Expr.ListComp _ _ _ _) _) _ _ _)); (fail_if_success (with_reducible show wpAny _ _ (exec (Stmt.For _ _ _ _ _) _) _ _ _)); (fail_if_success (with_reducible show wpAny _ _ (exec (Stmt.While _ _ _ _) _) _ _ _)); (fail_if_success (with_reducible show wpAny _ _ (exec (Stmt.Assign [Expr.Name _ _] (Expr.ListComp _ _ _ _) _) _) _ _ _)))); first | (first | with_reducible (k_here; (with_reducible show wpAny _ _ (call (Value.ref 98) _ _) _ _ _); k_dflt (refine' conv ?Bqz ?Fqz ?Xqz ?Nqz ?Tqz ?hkqz ?hxqz ?hdqz ?_; (case Bqz => k_asm); (case Fqz => k_asm); (case Xqz => k_asm); (case Nqz => k_asm); (case Tqz => k_asm); (case hkqz => first | exact rfl | assumption); (case hxqz => assumption); (case hdqz => ktr_room); intro t h' tk' F' N'; (try dsimp only))) | walk1) | (dsimp only; ((((fail_if_success (with_reducible show wpAny _ _ (call (Value.builtin "dict.items") _ _) _ _ _)); (fail_if_success (with_reducible show wpAny _ _ (call (Value.type "range") _ _) _ _ _)); (fail_if_success (with_reducible show wpAny _ _ (call (Value.ref 112) _ _) _ _ _)); (fail_if_success (with_reducible show wpAny _ _ (eval (Expr.ListComp _ _ _ _) _) _ _ _)); (fail_if_success (with_reducible show wpAny _ _ (exec (Stmt.For _ _ _ _ _) _) _ _ _)); (fail_if_success (with_reducible show wpAny _ _ (exec (Stmt.While _ _ _ _) _) _ _ _)); (fail_if_success (with_reducible show wpAny _ _ (exec (Stmt.Assign [Expr.Name _ _] (Expr.ListComp _ _ _ _) _) _) _ _ _))))); (first | with_reducible (k_here; (with_reducible show wpAny _ _ (call (Value.ref 98) _ _) _ _ _); k_dflt (refine' conv ?Bqz ?Fqz ?Xqz ?Nqz ?Tqz ?hkqz ?hxqz ?hdqz ?_; (case Bqz => k_asm); (case Fqz => k_asm); (case Xqz => k_asm); (case Nqz => k_asm); (case Tqz => k_asm); (case hkqz => first | exact rfl | assumption); (case hxqz => assumption); (case hdqz => ktr_room); intro t h' tk' F' N'; (try dsimp only))) | walk1))) | (leave1; walk_say "STEP leave1"; try dsimp only) | fail "no step"))
  rename Fr _ _ _ _ => lF
  rename News _ _ _ _ => lN
  refine iter_listO (items := its.toArray) (n := n) [PySem.Str.ofString "k", PySem.Str.ofString "v"] (fun i m' nw gs => nw = news ∧ gs = s.gens ∧ ∀ (j : Nat) k v, j < i → ps[j]? = some (k, v) → (Txt.lower k == Txt.lower x) = false) (by rfl) lF lN 
    ⟨rfl, rfl, fun _ _ _ hj => absurd hj (Nat.not_lt_zero _)⟩ ?_ ?_ ?_
  · rintro i m' nw gs ⟨rfl, _⟩; exact h3
  · rintro i v u nw h tk gs I oI hv ⟨rfl, rfl, hj⟩ off F₁ N₁
    clear lF lN
    obtain ⟨kk, vv, ta, t1, t2, hps, rfl, e2⟩ := h4.at hv
    have hkl : kk.length < 100 := hks _ (List.mem_of_getElem? hps)
    (repeat' (first | (k_unfold; (try dsimp only)) | (k_end; wrow_close) | ((((fail_if_success (with_reducible show wpAny _ _ (call (Value.builtin "dict.items") _ _) _ _ _)); (fail_if_success (with_reducible show wpAny _ _ (call (Value.type "range") _ _) _ _ _)); (fail_if_success (with_reducible show wpAny _ _ (call (Value.ref 112) _ _) _ _ _)); (fail_if_success (with_reducible show wpAny _ _ (eval (Expr.ListComp _ _ _ _) _) _ _ _)); (fail_if_success (with_reducible show wpAny _ _ (exec (Stmt.For _ _ _ _ _) _) _ _ _)); (fail_if_success (with_reducible show wpAny _ _ (exec (Stmt.While _ _ _ _) _) _ _ _)); (fail_if_success (with_reducible show wpAny _ _ (exec (Stmt.Assign [Expr.Name _ _] (Expr.ListComp _ _ _ _) _) _) _ _ _)))); first | (first | with_reducible (k_here; (with_reducible show wpAny _ _ (call (Value.ref 98) _ _) _ _ _); k_dflt (refine' conv ?Bqz ?Fqz ?Xqz ?Nqz ?Tqz ?hkqz ?hxqz ?hdqz ?_; (case Bqz => k_asm); (case Fqz => k_asm); (case Xqz => k_asm); (case Nqz => k_asm); (case Tqz => k_asm); (case hkqz => first | exact rfl | assumption); (case hxqz => assumption); (case hdqz => ktr_room); intro t h' tk' F' N'; (try dsimp only))) | walk1) | (dsimp only; ((((fail_if_success (with_reducible show wpAny _ _ (call (Value.builtin "dict.items") _ _) _ _ _)); (fail_if_success (with_reducible show wpAny _ _ (call (Value.type "range") _ _) _ _ _)); (fail_if_success (with_reducible show wpAny _ _ (call (Value.ref 112) _ _) _ _ _)); (fail_if_success (with_reducible show wpAny _ _ (eval (Expr.ListComp _ _ _ _) _) _ _ _)); (fail_if_success (with_reducible show wpAny _ _ (exec (Stmt.For _ _ _ _ _) _) _ _ _)); (fail_if_success (with_reducible show wpAny _ _ (exec (Stmt.While _ _ _ _) _) _ _ _)); (fail_if_success (with_reducible show wpAny _ _ (exec (Stmt.Assign [Expr.Name _ _] (Expr.ListComp _ _ _ _) _) _) _ _ _))))); (first | with_reducible (k_here; (with_reducible show wpAny _ _ (call (Value.ref 98) _ _) _ _ _); k_dflt (refine' conv ?Bqz ?Fqz ?Xqz ?Nqz ?Tqz ?hkqz ?hxqz ?hdqz ?_; (case Bqz => k_asm); (case Fqz => k_asm); (case Xqz => k_asm); (case Nqz => k_asm); (case Tqz => k_asm); (case hkqz => first | exact rfl | assumption); (case hxqz => assumption); (case hdqz => ktr_room); intro t h' tk' F' N'; (try dsimp only))) | walk1))) | (leave1; walk_say "STEP leave1"; try dsimp only) | fail "no step"))
    · rename News _ _ _ _ => kN'
      refine hret _ _ _ (by k_asm) (fun p hp => kN' p (List.mem_cons_of_mem _ hp)) ?_
      rw [find_at (f := fun p : PySem.Str × PySem.Str => Txt.lower p.1 == Txt.lower x) hps (by assumption) (fun j q hlt e => hj j q.1 q.2 hlt e)]
      exact ⟨_, rfl⟩
    · refine ⟨_, _, _, _, nw, rfl, by assumption, by assumption, off, ?_, rfl, rfl, ?_⟩
      · intro y hy
        simp only [off_ne hy (x := PySem.Str.ofString "k") (by rfl), off_ne hy (x := PySem.Str.ofString "v") (by rfl), hy, Bool.false_eq_true, if_false]
      · intro j k v hlt e
        rcases Nat.lt_succ_iff_lt_or_eq.mp hlt with h | h
        · exact hj j k v h e
        · subst h
          rw [hps] at e; cases e; assumption
  · rintro u nw h tk gs ⟨rfl, rfl, hj⟩ F₁ N₁
    clear lF lN
    (repeat' (first | (k_unfold; (try dsimp only)) | (k_end; wrow_close) | ((((fail_if_success (with_reducible show wpAny _ _ (call (Value.builtin "dict.items") _ _) _ _ _)); (fail_if_success (with_reducible show wpAny _ _ (call (Value.type "range") _ _) _ _ _)); (fail_if_success (with_reducible show wpAny _ _ (call (Value.ref 112) _ _) _ _ _)); (fail_if_success (with_reducible show wpAny _ _ (eval (Expr.ListComp _ _ _ _) _) _ _ _)); (fail_if_success (with_reducible show wpAny _ _ (exec (Stmt.For _ _ _ _ _) _) _ _ _)); (fail_if_success (with_reducible show wpAny _ _ (exec (Stmt.While _ _ _ _) _) _ _ _)); (fail_if_success (with_reducible show wpAny _ _ (exec (Stmt.Assign [Expr.Name _ _] (Expr.ListComp _ _ _ _) _) _) _ _ _)))); first | (first | with_reducible (k_here; (with_reducible show wpAny _ _ (call (Value.ref 98) _ _) _ _ _); k_dflt (refine' conv ?Bqz ?Fqz ?Xqz ?Nqz ?Tqz ?hkqz ?hxqz ?hdqz ?_; (case Bqz => k_asm); (case Fqz => k_asm); (case Xqz => k_asm); (case Nqz => k_asm); (case Tqz => k_asm); (case hkqz => first | exact rfl | assumption); (case hxqz => assumption); (case hdqz => ktr_room); intro t h' tk' F' N'; (try dsimp only))) | walk1) | (dsimp only; ((((fail_if_success (with_reducible show wpAny _ _ (call (Value.builtin "dict.items") _ _) _ _ _)); (fail_if_success (with_reducible show wpAny _ _ (call (Value.type "range") _ _) _ _ _)); (fail_if_success (with_reducible show wpAny _ _ (call (Value.ref 112) _ _) _ _ _)); (fail_if_success (with_reducible show wpAny _ _ (eval (Expr.ListComp _ _ _ _) _) _ _ _)); (fail_if_success (with_reducible show wpAny _ _ (exec (Stmt.For _ _ _ _ _) _) _ _ _)); (fail_if_success (with_reducible show wpAny _ _ (exec (Stmt.While _ _ _ _) _) _ _ _)); (fail_if_success (with_reducible show wpAny _ _ (exec (Stmt.Assign [Expr.Name _ _] (Expr.ListComp _ _ _ _) _) _) _ _ _))))); (first | with_reducible (k_here; (with_reducible show wpAny _ _ (call (Value.ref 98) _ _) _ _ _); k_dflt (refine' conv ?Bqz ?Fqz ?Xqz ?Nqz ?Tqz ?hkqz ?hxqz ?hdqz ?_; (case Bqz => k_asm); (case Fqz => k_asm); (case Xqz => k_asm); (case Nqz => k_asm); (case Tqz => k_asm); (case hkqz => first | exact rfl | assumption); (case hxqz => assumption); (case hdqz => ktr_room); intro t h' tk' F' N'; (try dsimp only))) | walk1))) | (leave1; walk_say "STEP leave1"; try dsimp only) | fail "no step"))
    refine hret _ _ _ (by k_asm) (by k_asm) ?_
    rw [find_none (f := fun p : PySem.Str × PySem.Str => Txt.lower p.1 == Txt.lower x) (ps := ps) (fun j (q : PySem.Str × PySem.Str) e => hj j q.1 q.2 (by have := (List.getElem?_eq_some_iff.mp e).1; rw [← h4.1] at this; simpa using this) e)]
end
end
section
section
variable {prog : Program} {w : World} {A : Around} {E : Value → Shared → Prop} {s : Shared}
theorem iadd_list {l D : Addr} {its ys : Array Value} {n k : Nat} {Q : Value → Shared → Prop} (ho : s.heap.get? l = some (listOf its n)) (hD : s.heap.get? D = some (listOf ys k)) (hne : l ≠ D) (hsz : its.size + ys.size ≤ sizeLine)
    (h : ∀ h' n', Heap.SameBut l s.heap h' → h'.get? l = some (listOf (its ++ ys) n') → Q (.ref l) { s with heap := h' }) :
    wpAny (model prog w) A (inplaceOp .Add (.ref l) (.ref D)) Q E s := by
  have hTl : s.TypeIs (.ref l) "list" := ⟨_, ho, rfl⟩
  have hTD : s.TypeIs (.ref D) "list" := ⟨_, hD, rfl⟩
  unfold inplaceOp
  refine wpAny_holding ?_
  have hsl : isSeqSlot (some (.builtin "list.__iadd__")) = true := by decide +kernel
  have hfi : fillsInplaceSlot (.type "list") "add" (Operator.Add == .Add) = pure false := by
    unfold fillsInplaceSlot
    show (typeLookup (.type "list") (dunderI "add") >>= fun fi => pure (fi.isSome && !isSeqSlot fi)) = pure false
    rw [PySem.F.slot_list_iadd.lookup]
    show (pure (true && !isSeqSlot (some (.builtin "list.__iadd__"))) : Sem Bool) = _
    rw [hsl]; rfl
  have hsi : seqSlot? (.type "list") (dunderI "add") = pure (some (.builtin "list.__iadd__")) := PySem.seqSlot_of PySem.F.slot_list_iadd.lookup hsl
  refine wpAny_bind (wpAny_typeOf hTl (wpAny_bind (wpAny_of_eq hfi ?_)))
  show wpAny _ _ (if false = true then _ else _) Q E s
  rw [if_neg Bool.false_ne_true]
  refine wpAny_bind (wpAny_binaryOp1_none (nm := "add") hTl hTD noFill_list_add ?_)
  refine wpAny_bind (wpAny_of_eq hsi ?_)
  refine wpAny_bind (wpAny_rule ?_)
  refine wpAny_call_entry PySem.F.slot_list_iadd hTl F.entry_list_iadd ?_ (PySem.F.args_list_iadd_2 _ _)
  show wpAny _ _ (Builtin.List.listExtendWith (.ref l) (.ref D) (.ref l)) _ _ s
  unfold Builtin.List.listExtendWith
  refine wpAny_bind (wpAny_typeOf hTD ?_)
  rw [if_pos (by simp)]
  refine wpAny_bind (wpAny_listItems hD rfl ?_)
  refine wpAny_bind (wpAny_listItems ho rfl ?_)
  have e4 : (!its.isEmpty && Builtin.List.listTooLong (its.size + ys.size)) = false := by
    have : Builtin.List.listTooLong (its.size + ys.size) = false := by
      simp only [Builtin.List.listTooLong, decide_eq_false_iff_not]; omega
    rw [this, Bool.and_false]
  rw [e4]
  show wpAny _ _ (if false = true then _ else _) _ _ s
  rw [if_neg Bool.false_ne_true]
  show wpAny _ _ (updateSeq l (· ++ ys) >>= fun _ => ret (.ref l)) _ _ s
  refine wpAny_bind (wpAny_updateSeq ho rfl (wpAny_pure ⟨.ref l, rfl, ?_⟩))
  have hm : Obj.mapSeq (· ++ ys) (listOf its n) = listOf (its ++ ys) (if (its ++ ys).size == its.size then n else n + 1) := by
    simp only [Obj.mapSeq]
  refine h _ _ (Heap.SameBut.update ..) (by rw [Heap.get?_update_self _ ho (by rw [hm]; rfl), hm])

theorem iadd_K4 {h₀ : Heap} {L : Addr} {m : PySem.Str → Option Value} {rest : List (Addr × Obj)} {l D I : Addr} {oI : Obj} {its ys : List Value} {n k : Nat} {Q : Value → Shared → Prop} (F : Fr h₀ L s.heap m)
    (N : News h₀ L s.heap ((D, listOf ys.toArray k) :: (I, oI) :: (l, listOf its.toArray n) :: rest)) (hDl : l ≠ D) (hIl : I ≠ l) (hlr : ∀ p ∈ rest, p.1 ≠ l) (hsz : its.length + ys.length ≤ 1000)
    (h : ∀ h' n', Fr h₀ L h' m → News h₀ L h' ((I, oI) :: (l, listOf (its ++ ys).toArray n') :: rest) → Q (.ref l) { s with heap := h' }) :
    wpAny (model prog w) A (inplaceOp .Add (.ref l) (.ref D)) Q E s := by
  have zl := N (l, _) (.tail _ (.tail _ (.head _)))
  refine iadd_list zl.1 (N (D, _) (.head _)).1 hDl (by rw [sizeLine_eq]; simp; omega) fun h' n' hs hl => ?_
  have N' : News h₀ L s.heap ([(I, oI)] ++ (l, listOf its.toArray n) :: rest) := fun p hp => N p (.tail _ hp)
  have N₂ := N'.setAt (o' := listOf (its ++ ys).toArray n') (by
    intro p hp
    rw [List.mem_singleton.mp hp]
    exact hIl) hlr hs (by rw [hl]; simp)
  exact h h' n' (F.change hs zl.2.1 zl.2.2) N₂
end
end
section
noncomputable def getP (ps : List (PySem.Str × PySem.Str)) (x : PySem.Str) : Option PySem.Str := (ps.find? (fun p => Txt.lower p.1 == Txt.lower x)).map (·.2)
theorem get_str {ps : List (PySem.Str × PySem.Str)} {x b : PySem.Str} {v : Value} (q : match ps.find? (fun p => Txt.lower p.1 == Txt.lower x) with | some p => ∃ t, v = .str p.2 t | none => v = .none) (h : getP ps x = some b) : ∃ t, v = .str b t := by
  unfold getP at h
  cases e : ps.find? (fun p => Txt.lower p.1 == Txt.lower x) with
  | none => rw [e] at h; cases h
  | some p => rw [e] at h q; cases h; exact q
theorem getP_mem {ps : List (PySem.Str × PySem.Str)} {x b : PySem.Str} (h : getP ps x = some b) : ∃ p ∈ ps, p.2 = b := by
  unfold getP at h
  cases e : ps.find? (fun p => Txt.lower p.1 == Txt.lower x) with
  | none => rw [e] at h; cases h
  | some p => rw [e] at h; cases h; exact ⟨p, List.mem_of_find?_eq_some e, rfl⟩
theorem strs_app : ∀ {vs ws : List Value} {xs ys : List PySem.Str}, StrsAre vs xs → StrsAre ws ys → StrsAre (vs ++ ws) (xs ++ ys)
  | _, _, _, _, .nil, h => h
  | _, _, _, _, .cons y t h', h => .cons y t (strs_app h' h)
noncomputable def ringWalk (ps1 ps2 : List (PySem.Str × PySem.Str)) : Nat → List PySem.Str → PySem.Str → Option (List PySem.Str)
  | 0, met, nm => if met.any (· == nm) = true then some met else none
  | f + 1, met, nm => if met.any (· == nm) = true then some met else (getP ps1 (Txt.lower nm)).bind fun a => (getP ps2 (Txt.lower a)).bind fun b => ringWalk ps1 ps2 f (met ++ [nm, a]) b
noncomputable def ringsGo (ps1 ps2 : List (PySem.Str × PySem.Str)) : List PySem.Str → Nat → List PySem.Str → Option Nat
  | [], r, _ => some r
  | nm :: rest, r, met => (ringWalk ps1 ps2 4 met nm).bind fun met' => ringsGo ps1 ps2 rest (if met.any (· == nm) = true then r else r + 1) met'
noncomputable def GoodN (x : PySem.Str) : Prop := Clean (Txt.lower (Txt.lower x)) ∧ (Txt.lower x).length < 100 ∧ x.length < 100
section
variable {w : World} {mean : ExcName → Option Value} {mg mb : PySem.Str → Option Value} {dp un : Nat} {gd : Option (List Code)} {cn : PySem.Str} {cs : Scope} {a : Addr} {ccd : Value} {cl : List (PySem.Str × Addr)} {outer : List Env} {A₀ : Around} {base h₀ : Heap} {L : Addr} {m : PySem.Str → Option Value} {news : List (Addr × Obj)} {s : Shared} {Q E : Value → Shared → Prop}
  (B : Below A₀ base outer h₀) (F : Fr h₀ L s.heap m) (X : (hd.heap_39 w.params).In h₀) (N : News h₀ L s.heap news) (T : Top hd.view_39 LO mean mg mb h₀) (hk : cs.kind = .function)
include B F X N T hk
set_option maxRecDepth 100000 in
set_option maxHeartbeats 8000000 in
set_option pp.deepTerms false in
set_option pp.deepTerms.threshold 10 in
theorem rings {x1 x2 ln : Addr} {ps1 ps2 : List (PySem.Str × PySem.Str)} {nv : List Value} {nn : Nat} {ns : List PySem.Str} {R : Nat} (hT1 : IsTab w news x1 ps1) (hT2 : IsTab w news x2 ps2) (hln : (ln, listOf nv.toArray nn) ∈ news) (hns : StrsAre nv ns) (hnl : ns.length ≤ 6)
    (hg : ∀ x ∈ ns, GoodN x) (hg1 : ∀ p ∈ ps1, GoodN p.2) (hg2 : ∀ p ∈ ps2, GoodN p.2) (hk1 : ∀ p ∈ ps1, p.1.length < 100) (hk2 : ∀ p ∈ ps2, p.1.length < 100) (hR : ringsGo ps1 ps2 ns 0 [] = some R) (hdp : dp + 60 < recursionLimit) (hun : un + 80 < cLine)
    (hret : ∀ h' tk' t', Fr h₀ L h' m → News h₀ L h' news → Q (.int (R : Int) t') { s with heap := h', toks := tk' }) :
    wpAny (model PySem.Challenge.rw_wa0038_01.row.prog w) (ktrTop dp un gd cn cs L a ccd cl outer) (call (.ref 217) [.ref x1, .ref x2, .ref ln] []) Q E s := by
  obtain ⟨d1, l1a, its1, tkk1, n1, i11, i12, _⟩ := id hT1
  obtain ⟨d2, l2a, its2, tkk2, n2, i21, i22, _⟩ := id hT2
  revert X; k_fill; intro X
  refine wpAny_call ?_
  k_dflt (((refine' code_def ?k1 ?k2 ?k3 ?k4 ?k5 ?kA ?kF ?kK ?k6 ?k7 ?k8 ?k9 ?kB ?_ ?c2 ?c3 ?c4 ?c5; (case kA => exact rfl); (case kF => exact rfl); (case kK => first | exact rfl | assumption); (case k1 => k_asm); (case k2 => k_asm); (case k3 => k_asm); (case k4 => k_asm); (case k5 => k_asm); (case k6 => k_is); (case k7 => k_is); (case k8 => ktr_room); (case k9 => first | exact BindsTo.of_eq rfl | exact binds_K (by k_in) rfl (by k_is) rfl rfl rfl | fail "no rule for these arguments"); (case c5 => decide); (case kB => exact locs rfl); (case c2 => exact rfl); (case c3 => exact rfl); (case c4 => exact rfl); k_whole; intro g' L' h' FG' F' N' B' X' T'; (try dsimp only); (try k_lift B'); (try k_fold))))
  (repeat' (first | (k_unfold; (try dsimp only)) | (k_end; wrow_close) | ((((fail_if_success (with_reducible show wpAny _ _ (call (Value.builtin "dict.items") _ _) _ _ _)); (fail_if_success (with_reducible show wpAny _ _ (call (Value.type "range") _ _) _ _ _)); (fail_if_success (with_reducible show wpAny _ _ (call (Value.ref 112) _ _) _ _ _)); (fail_if_success (with_reducible show wpAny _ _ (eval (Expr.ListComp _ _ _ _) _) _ _ _)); (fail_if_success (with_reducible show wpAny _ _ (exec (Stmt.For _ _ _ _ _) _) _ _ _)); (fail_if_success (with_reducible show wpAny _ _ (exec (Stmt.While _ _ _ _) _) _ _ _)); (fail_if_success (with_reducible show wpAny _ _ (exec (Stmt.Assign [Expr.Name _ _] (Expr.ListComp _ _ _ _) _) _) _ _ _)))); first | (first | with_reducible (k_here; (with_reducible show wpAny _ _ (compareOp CmpOp.NotIn (Value.str _ _) (Value.ref _)) _ _ _); refine' notin_list_strs ?lqz ?iqz ?_; (case lqz => exact News.isList (by k_asm) (by k_mem)); (case iqz => assumption)) | with_reducible (k_here; (with_reducible show wpAny _ _ (call (Value.ref 146) _ _) _ _ _); k_dflt (refine' get_ ?Bqz ?Fqz ?Xqz ?Nqz ?Tqz ?hkqz ?hTqz ?hxqz ?hlqz ?hksqz ?hdqz ?_; (case Bqz => k_asm); (case Fqz => k_asm); (case Xqz => k_asm); (case Nqz => k_asm); (case Tqz => k_asm); (case hkqz => first | exact rfl | assumption); (case hTqz => refine IsTab.mono (by assumption) ?_; first | exact fun p hp => .tail _ (.tail _ hp) | exact fun p hp => .tail _ hp | exact fun p hp => hp); (case hxqz => assumption); (case hlqz => assumption); (case hksqz => assumption); (case hdqz => ktr_room); intro v9 h9 tk9 F9 N9 q9; (obtain ⟨t9, e9⟩ := get_str q9 (by assumption)); subst e9; clear q9; (try dsimp only))) | walk1) | (dsimp only; ((((fail_if_success (with_reducible show wpAny _ _ (call (Value.builtin "dict.items") _ _) _ _ _)); (fail_if_success (with_reducible show wpAny _ _ (call (Value.type "range") _ _) _ _ _)); (fail_if_success (with_reducible show wpAny _ _ (call (Value.ref 112) _ _) _ _ _)); (fail_if_success (with_reducible show wpAny _ _ (eval (Expr.ListComp _ _ _ _) _) _ _ _)); (fail_if_success (with_reducible show wpAny _ _ (exec (Stmt.For _ _ _ _ _) _) _ _ _)); (fail_if_success (with_reducible show wpAny _ _ (exec (Stmt.While _ _ _ _) _) _ _ _)); (fail_if_success (with_reducible show wpAny _ _ (exec (Stmt.Assign [Expr.Name _ _] (Expr.ListComp _ _ _ _) _) _) _ _ _))))); (first | with_reducible (k_here; (with_reducible show wpAny _ _ (compareOp CmpOp.NotIn (Value.str _ _) (Value.ref _)) _ _ _); refine' notin_list_strs ?lqz ?iqz ?_; (case lqz => exact News.isList (by k_asm) (by k_mem)); (case iqz => assumption)) | with_reducible (k_here; (with_reducible show wpAny _ _ (call (Value.ref 146) _ _) _ _ _); k_dflt (refine' get_ ?Bqz ?Fqz ?Xqz ?Nqz ?Tqz ?hkqz ?hTqz ?hxqz ?hlqz ?hksqz ?hdqz ?_; (case Bqz => k_asm); (case Fqz => k_asm); (case Xqz => k_asm); (case Nqz => k_asm); (case Tqz => k_asm); (case hkqz => first | exact rfl | assumption); (case hTqz => refine IsTab.mono (by assumption) ?_; first | exact fun p hp => .tail _ (.tail _ hp) | exact fun p hp => .tail _ hp | exact fun p hp => hp); (case hxqz => assumption); (case hlqz => assumption); (case hksqz => assumption); (case hdqz => ktr_room); intro v9 h9 tk9 F9 N9 q9; (obtain ⟨t9, e9⟩ := get_str q9 (by assumption)); subst e9; clear q9; (try dsimp only))) | walk1))) | (leave1; walk_say "STEP leave1"; try dsimp only) | fail "no step"))
  refine for_any ?_
  (repeat' (first | (k_unfold; (try dsimp only)) | (k_end; wrow_close) | ((((fail_if_success (with_reducible show wpAny _ _ (call (Value.builtin "dict.items") _ _) _ _ _)); (fail_if_success (with_reducible show wpAny _ _ (call (Value.type "range") _ _) _ _ _)); (fail_if_success (with_reducible show wpAny _ _ (call (Value.ref 112) _ _) _ _ _)); (fail_if_success (with_reducible show wpAny _ _ (eval (Expr.ListComp _ _ _ _) _) _ _ _)); (fail_if_success (with_reducible show wpAny _ _ (exec (Stmt.For _ _ _ _ _) _) _ _ _)); (fail_if_success (with_reducible show wpAny _ _ (exec (Stmt.While _ _ _ _) _) _ _ _)); (fail_if_success (with_reducible show wpAny _ _ (exec (Stmt.Assign [Expr.Name _ _] (Expr.ListComp _ _ _ _) _) _) _ _ _)))); first | (first | with_reducible (k_here; (with_reducible show wpAny _ _ (compareOp CmpOp.NotIn (Value.str _ _) (Value.ref _)) _ _ _); refine' notin_list_strs ?lqz ?iqz ?_; (case lqz => exact News.isList (by k_asm) (by k_mem)); (case iqz => assumption)) | with_reducible (k_here; (with_reducible show wpAny _ _ (call (Value.ref 146) _ _) _ _ _); k_dflt (refine' get_ ?Bqz ?Fqz ?Xqz ?Nqz ?Tqz ?hkqz ?hTqz ?hxqz ?hlqz ?hksqz ?hdqz ?_; (case Bqz => k_asm); (case Fqz => k_asm); (case Xqz => k_asm); (case Nqz => k_asm); (case Tqz => k_asm); (case hkqz => first | exact rfl | assumption); (case hTqz => refine IsTab.mono (by assumption) ?_; first | exact fun p hp => .tail _ (.tail _ hp) | exact fun p hp => .tail _ hp | exact fun p hp => hp); (case hxqz => assumption); (case hlqz => assumption); (case hksqz => assumption); (case hdqz => ktr_room); intro v9 h9 tk9 F9 N9 q9; (obtain ⟨t9, e9⟩ := get_str q9 (by assumption)); subst e9; clear q9; (try dsimp only))) | walk1) | (dsimp only; ((((fail_if_success (with_reducible show wpAny _ _ (call (Value.builtin "dict.items") _ _) _ _ _)); (fail_if_success (with_reducible show wpAny _ _ (call (Value.type "range") _ _) _ _ _)); (fail_if_success (with_reducible show wpAny _ _ (call (Value.ref 112) _ _) _ _ _)); (fail_if_success (with_reducible show wpAny _ _ (eval (Expr.ListComp _ _ _ _) _) _ _ _)); (fail_if_success (with_reducible show wpAny _ _ (exec (Stmt.For _ _ _ _ _) _) _ _ _)); (fail_if_success (with_reducible show wpAny _ _ (exec (Stmt.While _ _ _ _) _) _ _ _)); (fail_if_success (with_reducible show wpAny _ _ (exec (Stmt.Assign [Expr.Name _ _] (Expr.ListComp _ _ _ _) _) _) _ _ _))))); (first | with_reducible (k_here; (with_reducible show wpAny _ _ (compareOp CmpOp.NotIn (Value.str _ _) (Value.ref _)) _ _ _); refine' notin_list_strs ?lqz ?iqz ?_; (case lqz => exact News.isList (by k_asm) (by k_mem)); (case iqz => assumption)) | with_reducible (k_here; (with_reducible show wpAny _ _ (call (Value.ref 146) _ _) _ _ _); k_dflt (refine' get_ ?Bqz ?Fqz ?Xqz ?Nqz ?Tqz ?hkqz ?hTqz ?hxqz ?hlqz ?hksqz ?hdqz ?_; (case Bqz => k_asm); (case Fqz => k_asm); (case Xqz => k_asm); (case Nqz => k_asm); (case Tqz => k_asm); (case hkqz => first | exact rfl | assumption); (case hTqz => refine IsTab.mono (by assumption) ?_; first | exact fun p hp => .tail _ (.tail _ hp) | exact fun p hp => .tail _ hp | exact fun p hp => hp); (case hxqz => assumption); (case hlqz => assumption); (case hksqz => assumption); (case hdqz => ktr_room); intro v9 h9 tk9 F9 N9 q9; (obtain ⟨t9, e9⟩ := get_str q9 (by assumption)); subst e9; clear q9; (try dsimp only))) | walk1))) | (leave1; walk_say "STEP leave1"; try dsimp only) | fail "no step"))
  rename_i lm _ l1 _ F5 N5
  refine iter_listO (items := nv.toArray) (n := nn) [PySem.Str.ofString "name", PySem.Str.ofString "rings", PySem.Str.ofString "across", PySem.Str.ofString "met"]
    (fun i m' nw gs => gs = s.gens ∧ ∃ (mv : List Value) (n : Nat) (met : List PySem.Str) (r : Nat) (t : Tok), nw = (lm, listOf mv.toArray n) :: news ∧ StrsAre mv met ∧ met.length ≤ 8 * i ∧ m' (PySem.Str.ofString "rings") = some (.int (r : Int) t) ∧ m' (PySem.Str.ofString "met") = some (.ref lm) ∧ ringsGo ps1 ps2 (ns.drop i) r met = some R)
    (by rfl) F5 N5 ⟨rfl, [], 0, [], 0, _, rfl, .nil, Nat.le_refl _, rfl, rfl, hR⟩ ?_ ?_ ?_
  · rintro i m' nw gs ⟨_, mv, n, met, r, t, rfl, _⟩
    exact .tail _ hln
  · rintro i v u nw h tk gs I oI hv ⟨rfl, mv, n, met, r, t, rfl, hsm, hml, hr, hmt, hgo⟩ off F6 N6
    refine cutT fun Rk hR => ?_
    have hil : i < nv.length := by
      have := (Array.getElem?_eq_some_iff.mp hv).1
      simpa using this
    have hin : i < ns.length := by rw [← hns.len_eq]; exact hil
    obtain ⟨nm, hnm⟩ : ∃ nm, ns[i]? = some nm := ⟨_, List.getElem?_eq_getElem hin⟩
    obtain ⟨tn, hnv⟩ := hns.at hnm
    have ev : v = .str nm tn := by
      have : nv[i]? = some v := by simpa using hv
      rw [hnv] at this
      exact (Option.some.inj this).symm
    subst ev
    obtain ⟨hlt, hnm2⟩ := List.getElem?_eq_some_iff.mp hnm
    rw [List.drop_eq_getElem_cons hlt, hnm2, ringsGo] at hgo
    obtain ⟨met', hw, hgo'⟩ := Option.bind_eq_some_iff.mp hgo
    have hgn : GoodN nm := hg _ (List.mem_of_getElem? hnm)
    have hIl : I ≠ lm := fun e => off _ (.head _) e.symm
    have off' : ∀ (mv7 : List Value) (n7 : Nat), ∀ p ∈ (lm, listOf mv7.toArray n7) :: news, p.1 ≠ I := fun mv7 n7 p hp => by
      rcases List.mem_cons.mp hp with rfl | hp
      · exact hIl.symm
      · exact off p (.tail _ hp)
    have hlr : ∀ p ∈ news, p.1 ≠ lm := fun p hp => Nat.ne_of_lt (l1 p hp)
    have F7 := fr_track (x := PySem.Str.ofString "met") (fr_track F6 hr) (by show (if _ then _ else _) = _; rw [if_neg (by decide)]; exact hmt)
    clear F6
    (repeat' (first | (k_unfold; (try dsimp only)) | (k_end; wrow_close) | ((((fail_if_success (with_reducible show wpAny _ _ (call (Value.builtin "dict.items") _ _) _ _ _)); (fail_if_success (with_reducible show wpAny _ _ (call (Value.type "range") _ _) _ _ _)); (fail_if_success (with_reducible show wpAny _ _ (call (Value.ref 112) _ _) _ _ _)); (fail_if_success (with_reducible show wpAny _ _ (eval (Expr.ListComp _ _ _ _) _) _ _ _)); (fail_if_success (with_reducible show wpAny _ _ (exec (Stmt.For _ _ _ _ _) _) _ _ _)); (fail_if_success (with_reducible show wpAny _ _ (exec (Stmt.While _ _ _ _) _) _ _ _)); (fail_if_success (with_reducible show wpAny _ _ (exec (Stmt.Assign [Expr.Name _ _] (Expr.ListComp _ _ _ _) _) _) _ _ _)))); first | (first | with_reducible (k_here; (with_reducible show wpAny _ _ (compareOp CmpOp.NotIn (Value.str _ _) (Value.ref _)) _ _ _); refine' notin_list_strs ?lqz ?iqz ?_; (case lqz => exact News.isList (by k_asm) (by k_mem)); (case iqz => assumption)) | with_reducible (k_here; (with_reducible show wpAny _ _ (call (Value.ref 146) _ _) _ _ _); k_dflt (refine' get_ ?Bqz ?Fqz ?Xqz ?Nqz ?Tqz ?hkqz ?hTqz ?hxqz ?hlqz ?hksqz ?hdqz ?_; (case Bqz => k_asm); (case Fqz => k_asm); (case Xqz => k_asm); (case Nqz => k_asm); (case Tqz => k_asm); (case hkqz => first | exact rfl | assumption); (case hTqz => refine IsTab.mono (by assumption) ?_; first | exact fun p hp => .tail _ (.tail _ hp) | exact fun p hp => .tail _ hp | exact fun p hp => hp); (case hxqz => assumption); (case hlqz => assumption); (case hksqz => assumption); (case hdqz => ktr_room); intro v9 h9 tk9 F9 N9 q9; (obtain ⟨t9, e9⟩ := get_str q9 (by assumption)); subst e9; clear q9; (try dsimp only))) | walk1) | (dsimp only; ((((fail_if_success (with_reducible show wpAny _ _ (call (Value.builtin "dict.items") _ _) _ _ _)); (fail_if_success (with_reducible show wpAny _ _ (call (Value.type "range") _ _) _ _ _)); (fail_if_success (with_reducible show wpAny _ _ (call (Value.ref 112) _ _) _ _ _)); (fail_if_success (with_reducible show wpAny _ _ (eval (Expr.ListComp _ _ _ _) _) _ _ _)); (fail_if_success (with_reducible show wpAny _ _ (exec (Stmt.For _ _ _ _ _) _) _ _ _)); (fail_if_success (with_reducible show wpAny _ _ (exec (Stmt.While _ _ _ _) _) _ _ _)); (fail_if_success (with_reducible show wpAny _ _ (exec (Stmt.Assign [Expr.Name _ _] (Expr.ListComp _ _ _ _) _) _) _ _ _))))); (first | with_reducible (k_here; (with_reducible show wpAny _ _ (compareOp CmpOp.NotIn (Value.str _ _) (Value.ref _)) _ _ _); refine' notin_list_strs ?lqz ?iqz ?_; (case lqz => exact News.isList (by k_asm) (by k_mem)); (case iqz => assumption)) | with_reducible (k_here; (with_reducible show wpAny _ _ (call (Value.ref 146) _ _) _ _ _); k_dflt (refine' get_ ?Bqz ?Fqz ?Xqz ?Nqz ?Tqz ?hkqz ?hTqz ?hxqz ?hlqz ?hksqz ?hdqz ?_; (case Bqz => k_asm); (case Fqz => k_asm); (case Xqz => k_asm); (case Nqz => k_asm); (case Tqz => k_asm); (case hkqz => first | exact rfl | assumption); (case hTqz => refine IsTab.mono (by assumption) ?_; first | exact fun p hp => .tail _ (.tail _ hp) | exact fun p hp => .tail _ hp | exact fun p hp => hp); (case hxqz => assumption); (case hlqz => assumption); (case hksqz => assumption); (case hdqz => ktr_room); intro v9 h9 tk9 F9 N9 q9; (obtain ⟨t9, e9⟩ := get_str q9 (by assumption)); subst e9; clear q9; (try dsimp only))) | walk1))) | (leave1; walk_say "STEP leave1"; try dsimp only) | fail "no step"))
    · rename (List.any _ _) = true => hany0
      rw [hany0] at hgo'
      rename Fr _ _ _ _ => F8
      rename News _ _ _ _ => N8
      refine while_P (names := [PySem.Str.ofString "name", PySem.Str.ofString "across", PySem.Str.ofString "met"]) (fun f m' nw gs => gs = s.gens ∧ ∃ (mv : List Value) (n : Nat) (met2 : List PySem.Str) (x : PySem.Str) (tx : Tok), nw = (I, oI) :: (lm, listOf mv.toArray n) :: news ∧ StrsAre mv met2 ∧ m' (PySem.Str.ofString "name") = some (.str x tx) ∧ m' (PySem.Str.ofString "met") = some (.ref lm) ∧ GoodN x ∧ ringWalk ps1 ps2 f met2 x = some met' ∧ met2.length + 2 * f ≤ 8 * i + 8)
        (fun m' nw gs => gs = s.gens ∧ ∃ (mv : List Value) (n : Nat), nw = (I, oI) :: (lm, listOf mv.toArray n) :: news ∧ StrsAre mv met' ∧ met'.length ≤ 8 * i + 8 ∧ m' (PySem.Str.ofString "met") = some (.ref lm)) 4 F8 N8 ⟨rfl, mv, n, met, nm, tn, rfl, hsm, rfl, rfl, hgn, hw, by omega⟩ ?_ ?_
      · rintro f u7 nw7 h7 tk7 gs7 ⟨rfl, mv7, n7, met7, x7, tx7, rfl, hsm7, hnx, hmx, hgx, hw7, hl7⟩ F9 N9
        refine cutW fun Rk Sk hR hS => ?_
        have F10 := fr_track (x := PySem.Str.ofString "met") (fr_track F9 hnx) (by show (if _ then _ else _) = _; rw [if_neg (by decide)]; exact hmx)
        clear F9
        have hgx1 := hgx.1
        have hgx2 := hgx.2.1
        have hgx3 := hgx.2.2
        cases hany : met7.any (· == x7) with
        | true =>
          (repeat' (first | (k_unfold; (try dsimp only)) | (k_end; wrow_close) | ((((fail_if_success (with_reducible show wpAny _ _ (call (Value.builtin "dict.items") _ _) _ _ _)); (fail_if_success (with_reducible show wpAny _ _ (call (Value.type "range") _ _) _ _ _)); (fail_if_success (with_reducible show wpAny _ _ (call (Value.ref 112) _ _) _ _ _)); (fail_if_success (with_reducible show wpAny _ _ (eval (Expr.ListComp _ _ _ _) _) _ _ _)); (fail_if_success (with_reducible show wpAny _ _ (exec (Stmt.For _ _ _ _ _) _) _ _ _)); (fail_if_success (with_reducible show wpAny _ _ (exec (Stmt.While _ _ _ _) _) _ _ _)); (fail_if_success (with_reducible show wpAny _ _ (exec (Stmt.Assign [Expr.Name _ _] (Expr.ListComp _ _ _ _) _) _) _ _ _)))); first | (first | with_reducible (k_here; (with_reducible show wpAny _ _ (compareOp CmpOp.NotIn (Value.str _ _) (Value.ref _)) _ _ _); refine' notin_list_strs ?lqz ?iqz ?_; (case lqz => exact News.isList (by k_asm) (by k_mem)); (case iqz => assumption)) | with_reducible (k_here; (with_reducible show wpAny _ _ (call (Value.ref 146) _ _) _ _ _); k_dflt (refine' get_ ?Bqz ?Fqz ?Xqz ?Nqz ?Tqz ?hkqz ?hTqz ?hxqz ?hlqz ?hksqz ?hdqz ?_; (case Bqz => k_asm); (case Fqz => k_asm); (case Xqz => k_asm); (case Nqz => k_asm); (case Tqz => k_asm); (case hkqz => first | exact rfl | assumption); (case hTqz => refine IsTab.mono (by assumption) ?_; first | exact fun p hp => .tail _ (.tail _ hp) | exact fun p hp => .tail _ hp | exact fun p hp => hp); (case hxqz => assumption); (case hlqz => assumption); (case hksqz => assumption); (case hdqz => ktr_room); intro v9 h9 tk9 F9 N9 q9; (obtain ⟨t9, e9⟩ := get_str q9 (by assumption)); subst e9; clear q9; (try dsimp only))) | walk1) | (dsimp only; ((((fail_if_success (with_reducible show wpAny _ _ (call (Value.builtin "dict.items") _ _) _ _ _)); (fail_if_success (with_reducible show wpAny _ _ (call (Value.type "range") _ _) _ _ _)); (fail_if_success (with_reducible show wpAny _ _ (call (Value.ref 112) _ _) _ _ _)); (fail_if_success (with_reducible show wpAny _ _ (eval (Expr.ListComp _ _ _ _) _) _ _ _)); (fail_if_success (with_reducible show wpAny _ _ (exec (Stmt.For _ _ _ _ _) _) _ _ _)); (fail_if_success (with_reducible show wpAny _ _ (exec (Stmt.While _ _ _ _) _) _ _ _)); (fail_if_success (with_reducible show wpAny _ _ (exec (Stmt.Assign [Expr.Name _ _] (Expr.ListComp _ _ _ _) _) _) _ _ _))))); (first | with_reducible (k_here; (with_reducible show wpAny _ _ (compareOp CmpOp.NotIn (Value.str _ _) (Value.ref _)) _ _ _); refine' notin_list_strs ?lqz ?iqz ?_; (case lqz => exact News.isList (by k_asm) (by k_mem)); (case iqz => assumption)) | with_reducible (k_here; (with_reducible show wpAny _ _ (call (Value.ref 146) _ _) _ _ _); k_dflt (refine' get_ ?Bqz ?Fqz ?Xqz ?Nqz ?Tqz ?hkqz ?hTqz ?hxqz ?hlqz ?hksqz ?hdqz ?_; (case Bqz => k_asm); (case Fqz => k_asm); (case Xqz => k_asm); (case Nqz => k_asm); (case Tqz => k_asm); (case hkqz => first | exact rfl | assumption); (case hTqz => refine IsTab.mono (by assumption) ?_; first | exact fun p hp => .tail _ (.tail _ hp) | exact fun p hp => .tail _ hp | exact fun p hp => hp); (case hxqz => assumption); (case hlqz => assumption); (case hksqz => assumption); (case hdqz => ktr_room); intro v9 h9 tk9 F9 N9 q9; (obtain ⟨t9, e9⟩ := get_str q9 (by assumption)); subst e9; clear q9; (try dsimp only))) | walk1))) | (leave1; walk_say "STEP leave1"; try dsimp only) | fail "no step"))
          have e7 : met7 = met' := by
            cases f with
            | zero => rw [ringWalk, if_pos hany] at hw7; exact Option.some.inj hw7
            | succ f => rw [ringWalk, if_pos hany] at hw7; exact Option.some.inj hw7
          subst e7
          refine hS _ ?_
          exact ⟨_, _, _, _, _, rfl, by k_asm, by k_asm, by
              intro y hy
              simp only [off_ne hy (x := PySem.Str.ofString "name") (by rfl), off_ne hy (x := PySem.Str.ofString "across") (by rfl), off_ne hy (x := PySem.Str.ofString "met") (by rfl), hy, Bool.false_eq_true, if_false], rfl, mv7, n7, rfl, hsm7, by omega, rfl⟩
        | false =>
          cases f with
          | zero =>
            rw [ringWalk, if_neg (by rw [hany]; decide)] at hw7
            cases hw7
          | succ f =>
            rw [ringWalk, if_neg (by rw [hany]; decide)] at hw7
            obtain ⟨a7, ha7, hw8⟩ := Option.bind_eq_some_iff.mp hw7
            obtain ⟨b7, hb7, hw9⟩ := Option.bind_eq_some_iff.mp hw8
            have hga : GoodN a7 := let ⟨p, hp, e⟩ := getP_mem ha7; e ▸ hg1 p hp
            have hgb : GoodN b7 := let ⟨p, hp, e⟩ := getP_mem hb7; e ▸ hg2 p hp
            have hga1 := hga.1
            have hga2 := hga.2.1
            have hga3 := hga.2.2
            (repeat' (first | (k_unfold; (try dsimp only)) | (k_end; wrow_close) | ((((fail_if_success (with_reducible show wpAny _ _ (call (Value.builtin "dict.items") _ _) _ _ _)); (fail_if_success (with_reducible show wpAny _ _ (call (Value.type "range") _ _) _ _ _)); (fail_if_success (with_reducible show wpAny _ _ (call (Value.ref 112) _ _) _ _ _)); (fail_if_success (with_reducible show wpAny _ _ (eval (Expr.ListComp _ _ _ _) _) _ _ _)); (fail_if_success (with_reducible show wpAny _ _ (exec (Stmt.For _ _ _ _ _) _) _ _ _)); (fail_if_success (with_reducible show wpAny _ _ (exec (Stmt.While _ _ _ _) _) _ _ _)); (fail_if_success (with_reducible show wpAny _ _ (exec (Stmt.Assign [Expr.Name _ _] (Expr.ListComp _ _ _ _) _) _) _ _ _)))); first | (first | with_reducible (k_here; (with_reducible show wpAny _ _ (compareOp CmpOp.NotIn (Value.str _ _) (Value.ref _)) _ _ _); refine' notin_list_strs ?lqz ?iqz ?_; (case lqz => exact News.isList (by k_asm) (by k_mem)); (case iqz => assumption)) | with_reducible (k_here; (with_reducible show wpAny _ _ (call (Value.ref 146) _ _) _ _ _); k_dflt (refine' get_ ?Bqz ?Fqz ?Xqz ?Nqz ?Tqz ?hkqz ?hTqz ?hxqz ?hlqz ?hksqz ?hdqz ?_; (case Bqz => k_asm); (case Fqz => k_asm); (case Xqz => k_asm); (case Nqz => k_asm); (case Tqz => k_asm); (case hkqz => first | exact rfl | assumption); (case hTqz => refine IsTab.mono (by assumption) ?_; first | exact fun p hp => .tail _ (.tail _ hp) | exact fun p hp => .tail _ hp | exact fun p hp => hp); (case hxqz => assumption); (case hlqz => assumption); (case hksqz => assumption); (case hdqz => ktr_room); intro v9 h9 tk9 F9 N9 q9; (obtain ⟨t9, e9⟩ := get_str q9 (by assumption)); subst e9; clear q9; (try dsimp only))) | walk1) | (dsimp only; ((((fail_if_success (with_reducible show wpAny _ _ (call (Value.builtin "dict.items") _ _) _ _ _)); (fail_if_success (with_reducible show wpAny _ _ (call (Value.type "range") _ _) _ _ _)); (fail_if_success (with_reducible show wpAny _ _ (call (Value.ref 112) _ _) _ _ _)); (fail_if_success (with_reducible show wpAny _ _ (eval (Expr.ListComp _ _ _ _) _) _ _ _)); (fail_if_success (with_reducible show wpAny _ _ (exec (Stmt.For _ _ _ _ _) _) _ _ _)); (fail_if_success (with_reducible show wpAny _ _ (exec (Stmt.While _ _ _ _) _) _ _ _)); (fail_if_success (with_reducible show wpAny _ _ (exec (Stmt.Assign [Expr.Name _ _] (Expr.ListComp _ _ _ _) _) _) _ _ _))))); (first | with_reducible (k_here; (with_reducible show wpAny _ _ (compareOp CmpOp.NotIn (Value.str _ _) (Value.ref _)) _ _ _); refine' notin_list_strs ?lqz ?iqz ?_; (case lqz => exact News.isList (by k_asm) (by k_mem)); (case iqz => assumption)) | with_reducible (k_here; (with_reducible show wpAny _ _ (call (Value.ref 146) _ _) _ _ _); k_dflt (refine' get_ ?Bqz ?Fqz ?Xqz ?Nqz ?Tqz ?hkqz ?hTqz ?hxqz ?hlqz ?hksqz ?hdqz ?_; (case Bqz => k_asm); (case Fqz => k_asm); (case Xqz => k_asm); (case Nqz => k_asm); (case Tqz => k_asm); (case hkqz => first | exact rfl | assumption); (case hTqz => refine IsTab.mono (by assumption) ?_; first | exact fun p hp => .tail _ (.tail _ hp) | exact fun p hp => .tail _ hp | exact fun p hp => hp); (case hxqz => assumption); (case hlqz => assumption); (case hksqz => assumption); (case hdqz => ktr_room); intro v9 h9 tk9 F9 N9 q9; (obtain ⟨t9, e9⟩ := get_str q9 (by assumption)); subst e9; clear q9; (try dsimp only))) | walk1))) | (leave1; walk_say "STEP leave1"; try dsimp only) | fail "no step"))
            rename I < _ ∧ lm < _ ∧ AllLt _ _ => l11
            refine iadd_K4 (by k_asm) (by k_asm) (Nat.ne_of_lt l11.2.1) hIl hlr (by simp only [List.length_cons, List.length_nil, hsm7.len_eq]; omega) ?_
            intro h12 n12 F12 N12
            (repeat' (first | (k_unfold; (try dsimp only)) | (k_end; wrow_close) | ((((fail_if_success (with_reducible show wpAny _ _ (call (Value.builtin "dict.items") _ _) _ _ _)); (fail_if_success (with_reducible show wpAny _ _ (call (Value.type "range") _ _) _ _ _)); (fail_if_success (with_reducible show wpAny _ _ (call (Value.ref 112) _ _) _ _ _)); (fail_if_success (with_reducible show wpAny _ _ (eval (Expr.ListComp _ _ _ _) _) _ _ _)); (fail_if_success (with_reducible show wpAny _ _ (exec (Stmt.For _ _ _ _ _) _) _ _ _)); (fail_if_success (with_reducible show wpAny _ _ (exec (Stmt.While _ _ _ _) _) _ _ _)); (fail_if_success (with_reducible show wpAny _ _ (exec (Stmt.Assign [Expr.Name _ _] (Expr.ListComp _ _ _ _) _) _) _ _ _)))); first | (first | with_reducible (k_here; (with_reducible show wpAny _ _ (compareOp CmpOp.NotIn (Value.str _ _) (Value.ref _)) _ _ _); refine' notin_list_strs ?lqz ?iqz ?_; (case lqz => exact News.isList (by k_asm) (by k_mem)); (case iqz => assumption)) | with_reducible (k_here; (with_reducible show wpAny _ _ (call (Value.ref 146) _ _) _ _ _); k_dflt (refine' get_ ?Bqz ?Fqz ?Xqz ?Nqz ?Tqz ?hkqz ?hTqz ?hxqz ?hlqz ?hksqz ?hdqz ?_; (case Bqz => k_asm); (case Fqz => k_asm); (case Xqz => k_asm); (case Nqz => k_asm); (case Tqz => k_asm); (case hkqz => first | exact rfl | assumption); (case hTqz => refine IsTab.mono (by assumption) ?_; first | exact fun p hp => .tail _ (.tail _ hp) | exact fun p hp => .tail _ hp | exact fun p hp => hp); (case hxqz => assumption); (case hlqz => assumption); (case hksqz => assumption); (case hdqz => ktr_room); intro v9 h9 tk9 F9 N9 q9; (obtain ⟨t9, e9⟩ := get_str q9 (by assumption)); subst e9; clear q9; (try dsimp only))) | walk1) | (dsimp only; ((((fail_if_success (with_reducible show wpAny _ _ (call (Value.builtin "dict.items") _ _) _ _ _)); (fail_if_success (with_reducible show wpAny _ _ (call (Value.type "range") _ _) _ _ _)); (fail_if_success (with_reducible show wpAny _ _ (call (Value.ref 112) _ _) _ _ _)); (fail_if_success (with_reducible show wpAny _ _ (eval (Expr.ListComp _ _ _ _) _) _ _ _)); (fail_if_success (with_reducible show wpAny _ _ (exec (Stmt.For _ _ _ _ _) _) _ _ _)); (fail_if_success (with_reducible show wpAny _ _ (exec (Stmt.While _ _ _ _) _) _ _ _)); (fail_if_success (with_reducible show wpAny _ _ (exec (Stmt.Assign [Expr.Name _ _] (Expr.ListComp _ _ _ _) _) _) _ _ _))))); (first | with_reducible (k_here; (with_reducible show wpAny _ _ (compareOp CmpOp.NotIn (Value.str _ _) (Value.ref _)) _ _ _); refine' notin_list_strs ?lqz ?iqz ?_; (case lqz => exact News.isList (by k_asm) (by k_mem)); (case iqz => assumption)) | with_reducible (k_here; (with_reducible show wpAny _ _ (call (Value.ref 146) _ _) _ _ _); k_dflt (refine' get_ ?Bqz ?Fqz ?Xqz ?Nqz ?Tqz ?hkqz ?hTqz ?hxqz ?hlqz ?hksqz ?hdqz ?_; (case Bqz => k_asm); (case Fqz => k_asm); (case Xqz => k_asm); (case Nqz => k_asm); (case Tqz => k_asm); (case hkqz => first | exact rfl | assumption); (case hTqz => refine IsTab.mono (by assumption) ?_; first | exact fun p hp => .tail _ (.tail _ hp) | exact fun p hp => .tail _ hp | exact fun p hp => hp); (case hxqz => assumption); (case hlqz => assumption); (case hksqz => assumption); (case hdqz => ktr_room); intro v9 h9 tk9 F9 N9 q9; (obtain ⟨t9, e9⟩ := get_str q9 (by assumption)); subst e9; clear q9; (try dsimp only))) | walk1))) | (leave1; walk_say "STEP leave1"; try dsimp only) | fail "no step"))
            refine hR _ _ ?_
            exact ⟨_, _, _, _, _, rfl, by k_asm, by k_asm, by
                intro y hy
                simp only [off_ne hy (x := PySem.Str.ofString "name") (by rfl), off_ne hy (x := PySem.Str.ofString "across") (by rfl), off_ne hy (x := PySem.Str.ofString "met") (by rfl), hy, Bool.false_eq_true, if_false], f, Nat.lt_succ_self _, rfl, mv7 ++ [_, _], n12, met7 ++ [x7, a7], b7, _, rfl, strs_app hsm7 (.cons _ _ (.cons _ _ .nil)), rfl, rfl, hgb, hw9, by simp; omega⟩
      · rintro u7 nw7 h7 tk7 gs7 ⟨rfl, mv7, n7, rfl, hsm7, hl7, hmx⟩ F9 N9
        have F10 := fr_track F9 hmx
        clear F9
        dsimp only
        (repeat' (first | (k_unfold; (try dsimp only)) | (k_end; wrow_close) | ((((fail_if_success (with_reducible show wpAny _ _ (call (Value.builtin "dict.items") _ _) _ _ _)); (fail_if_success (with_reducible show wpAny _ _ (call (Value.type "range") _ _) _ _ _)); (fail_if_success (with_reducible show wpAny _ _ (call (Value.ref 112) _ _) _ _ _)); (fail_if_success (with_reducible show wpAny _ _ (eval (Expr.ListComp _ _ _ _) _) _ _ _)); (fail_if_success (with_reducible show wpAny _ _ (exec (Stmt.For _ _ _ _ _) _) _ _ _)); (fail_if_success (with_reducible show wpAny _ _ (exec (Stmt.While _ _ _ _) _) _ _ _)); (fail_if_success (with_reducible show wpAny _ _ (exec (Stmt.Assign [Expr.Name _ _] (Expr.ListComp _ _ _ _) _) _) _ _ _)))); first | (first | with_reducible (k_here; (with_reducible show wpAny _ _ (compareOp CmpOp.NotIn (Value.str _ _) (Value.ref _)) _ _ _); refine' notin_list_strs ?lqz ?iqz ?_; (case lqz => exact News.isList (by k_asm) (by k_mem)); (case iqz => assumption)) | with_reducible (k_here; (with_reducible show wpAny _ _ (call (Value.ref 146) _ _) _ _ _); k_dflt (refine' get_ ?Bqz ?Fqz ?Xqz ?Nqz ?Tqz ?hkqz ?hTqz ?hxqz ?hlqz ?hksqz ?hdqz ?_; (case Bqz => k_asm); (case Fqz => k_asm); (case Xqz => k_asm); (case Nqz => k_asm); (case Tqz => k_asm); (case hkqz => first | exact rfl | assumption); (case hTqz => refine IsTab.mono (by assumption) ?_; first | exact fun p hp => .tail _ (.tail _ hp) | exact fun p hp => .tail _ hp | exact fun p hp => hp); (case hxqz => assumption); (case hlqz => assumption); (case hksqz => assumption); (case hdqz => ktr_room); intro v9 h9 tk9 F9 N9 q9; (obtain ⟨t9, e9⟩ := get_str q9 (by assumption)); subst e9; clear q9; (try dsimp only))) | walk1) | (dsimp only; ((((fail_if_success (with_reducible show wpAny _ _ (call (Value.builtin "dict.items") _ _) _ _ _)); (fail_if_success (with_reducible show wpAny _ _ (call (Value.type "range") _ _) _ _ _)); (fail_if_success (with_reducible show wpAny _ _ (call (Value.ref 112) _ _) _ _ _)); (fail_if_success (with_reducible show wpAny _ _ (eval (Expr.ListComp _ _ _ _) _) _ _ _)); (fail_if_success (with_reducible show wpAny _ _ (exec (Stmt.For _ _ _ _ _) _) _ _ _)); (fail_if_success (with_reducible show wpAny _ _ (exec (Stmt.While _ _ _ _) _) _ _ _)); (fail_if_success (with_reducible show wpAny _ _ (exec (Stmt.Assign [Expr.Name _ _] (Expr.ListComp _ _ _ _) _) _) _ _ _))))); (first | with_reducible (k_here; (with_reducible show wpAny _ _ (compareOp CmpOp.NotIn (Value.str _ _) (Value.ref _)) _ _ _); refine' notin_list_strs ?lqz ?iqz ?_; (case lqz => exact News.isList (by k_asm) (by k_mem)); (case iqz => assumption)) | with_reducible (k_here; (with_reducible show wpAny _ _ (call (Value.ref 146) _ _) _ _ _); k_dflt (refine' get_ ?Bqz ?Fqz ?Xqz ?Nqz ?Tqz ?hkqz ?hTqz ?hxqz ?hlqz ?hksqz ?hdqz ?_; (case Bqz => k_asm); (case Fqz => k_asm); (case Xqz => k_asm); (case Nqz => k_asm); (case Tqz => k_asm); (case hkqz => first | exact rfl | assumption); (case hTqz => refine IsTab.mono (by assumption) ?_; first | exact fun p hp => .tail _ (.tail _ hp) | exact fun p hp => .tail _ hp | exact fun p hp => hp); (case hxqz => assumption); (case hlqz => assumption); (case hksqz => assumption); (case hdqz => ktr_room); intro v9 h9 tk9 F9 N9 q9; (obtain ⟨t9, e9⟩ := get_str q9 (by assumption)); subst e9; clear q9; (try dsimp only))) | walk1))) | (leave1; walk_say "STEP leave1"; try dsimp only) | fail "no step"))
        refine hR _ _ ?_
        exact ⟨_, _, _, _, _, rfl, by k_asm, by k_asm, off' _ _, by
            intro y hy
            have hyj : [PySem.Str.ofString "name", PySem.Str.ofString "across", PySem.Str.ofString "met"].contains y = false := by
              simp only [List.contains_cons, Bool.or_eq_false_iff] at hy ⊢
              exact ⟨hy.1, hy.2.2⟩
            simp only [off_ne hy (x := PySem.Str.ofString "name") (by rfl), off_ne hy (x := PySem.Str.ofString "rings") (by rfl), off_ne hy (x := PySem.Str.ofString "across") (by rfl), off_ne hy (x := PySem.Str.ofString "met") (by rfl), hy, hyj, Bool.false_eq_true, if_false], rfl, mv7, n7, met', r, _, rfl, hsm7, by omega, rfl, rfl, hgo'⟩
    · rename (List.any _ _) = false => hany0
      rw [hany0] at hgo'
      rename Fr _ _ _ _ => F8
      rename News _ _ _ _ => N8
      refine while_P (names := [PySem.Str.ofString "name", PySem.Str.ofString "across", PySem.Str.ofString "met"]) (fun f m' nw gs => gs = s.gens ∧ ∃ (mv : List Value) (n : Nat) (met2 : List PySem.Str) (x : PySem.Str) (tx : Tok), nw = (I, oI) :: (lm, listOf mv.toArray n) :: news ∧ StrsAre mv met2 ∧ m' (PySem.Str.ofString "name") = some (.str x tx) ∧ m' (PySem.Str.ofString "met") = some (.ref lm) ∧ GoodN x ∧ ringWalk ps1 ps2 f met2 x = some met' ∧ met2.length + 2 * f ≤ 8 * i + 8)
        (fun m' nw gs => gs = s.gens ∧ ∃ (mv : List Value) (n : Nat), nw = (I, oI) :: (lm, listOf mv.toArray n) :: news ∧ StrsAre mv met' ∧ met'.length ≤ 8 * i + 8 ∧ m' (PySem.Str.ofString "met") = some (.ref lm)) 4 F8 N8 ⟨rfl, mv, n, met, nm, tn, rfl, hsm, rfl, rfl, hgn, hw, by omega⟩ ?_ ?_
      · rintro f u7 nw7 h7 tk7 gs7 ⟨rfl, mv7, n7, met7, x7, tx7, rfl, hsm7, hnx, hmx, hgx, hw7, hl7⟩ F9 N9
        refine cutW fun Rk Sk hR hS => ?_
        have F10 := fr_track (x := PySem.Str.ofString "met") (fr_track F9 hnx) (by show (if _ then _ else _) = _; rw [if_neg (by decide)]; exact hmx)
        clear F9
        have hgx1 := hgx.1
        have hgx2 := hgx.2.1
        have hgx3 := hgx.2.2
        cases hany : met7.any (· == x7) with
        | true =>
          (repeat' (first | (k_unfold; (try dsimp only)) | (k_end; wrow_close) | ((((fail_if_success (with_reducible show wpAny _ _ (call (Value.builtin "dict.items") _ _) _ _ _)); (fail_if_success (with_reducible show wpAny _ _ (call (Value.type "range") _ _) _ _ _)); (fail_if_success (with_reducible show wpAny _ _ (call (Value.ref 112) _ _) _ _ _)); (fail_if_success (with_reducible show wpAny _ _ (eval (Expr.ListComp _ _ _ _) _) _ _ _)); (fail_if_success (with_reducible show wpAny _ _ (exec (Stmt.For _ _ _ _ _) _) _ _ _)); (fail_if_success (with_reducible show wpAny _ _ (exec (Stmt.While _ _ _ _) _) _ _ _)); (fail_if_success (with_reducible show wpAny _ _ (exec (Stmt.Assign [Expr.Name _ _] (Expr.ListComp _ _ _ _) _) _) _ _ _)))); first | (first | with_reducible (k_here; (with_reducible show wpAny _ _ (compareOp CmpOp.NotIn (Value.str _ _) (Value.ref _)) _ _ _); refine' notin_list_strs ?lqz ?iqz ?_; (case lqz => exact News.isList (by k_asm) (by k_mem)); (case iqz => assumption)) | with_reducible (k_here; (with_reducible show wpAny _ _ (call (Value.ref 146) _ _) _ _ _); k_dflt (refine' get_ ?Bqz ?Fqz ?Xqz ?Nqz ?Tqz ?hkqz ?hTqz ?hxqz ?hlqz ?hksqz ?hdqz ?_; (case Bqz => k_asm); (case Fqz => k_asm); (case Xqz => k_asm); (case Nqz => k_asm); (case Tqz => k_asm); (case hkqz => first | exact rfl | assumption); (case hTqz => refine IsTab.mono (by assumption) ?_; first | exact fun p hp => .tail _ (.tail _ hp) | exact fun p hp => .tail _ hp | exact fun p hp => hp); (case hxqz => assumption); (case hlqz => assumption); (case hksqz => assumption); (case hdqz => ktr_room); intro v9 h9 tk9 F9 N9 q9; (obtain ⟨t9, e9⟩ := get_str q9 (by assumption)); subst e9; clear q9; (try dsimp only))) | walk1) | (dsimp only; ((((fail_if_success (with_reducible show wpAny _ _ (call (Value.builtin "dict.items") _ _) _ _ _)); (fail_if_success (with_reducible show wpAny _ _ (call (Value.type "range") _ _) _ _ _)); (fail_if_success (with_reducible show wpAny _ _ (call (Value.ref 112) _ _) _ _ _)); (fail_if_success (with_reducible show wpAny _ _ (eval (Expr.ListComp _ _ _ _) _) _ _ _)); (fail_if_success (with_reducible show wpAny _ _ (exec (Stmt.For _ _ _ _ _) _) _ _ _)); (fail_if_success (with_reducible show wpAny _ _ (exec (Stmt.While _ _ _ _) _) _ _ _)); (fail_if_success (with_reducible show wpAny _ _ (exec (Stmt.Assign [Expr.Name _ _] (Expr.ListComp _ _ _ _) _) _) _ _ _))))); (first | with_reducible (k_here; (with_reducible show wpAny _ _ (compareOp CmpOp.NotIn (Value.str _ _) (Value.ref _)) _ _ _); refine' notin_list_strs ?lqz ?iqz ?_; (case lqz => exact News.isList (by k_asm) (by k_mem)); (case iqz => assumption)) | with_reducible (k_here; (with_reducible show wpAny _ _ (call (Value.ref 146) _ _) _ _ _); k_dflt (refine' get_ ?Bqz ?Fqz ?Xqz ?Nqz ?Tqz ?hkqz ?hTqz ?hxqz ?hlqz ?hksqz ?hdqz ?_; (case Bqz => k_asm); (case Fqz => k_asm); (case Xqz => k_asm); (case Nqz => k_asm); (case Tqz => k_asm); (case hkqz => first | exact rfl | assumption); (case hTqz => refine IsTab.mono (by assumption) ?_; first | exact fun p hp => .tail _ (.tail _ hp) | exact fun p hp => .tail _ hp | exact fun p hp => hp); (case hxqz => assumption); (case hlqz => assumption); (case hksqz => assumption); (case hdqz => ktr_room); intro v9 h9 tk9 F9 N9 q9; (obtain ⟨t9, e9⟩ := get_str q9 (by assumption)); subst e9; clear q9; (try dsimp only))) | walk1))) | (leave1; walk_say "STEP leave1"; try dsimp only) | fail "no step"))
          have e7 : met7 = met' := by
            cases f with
            | zero => rw [ringWalk, if_pos hany] at hw7; exact Option.some.inj hw7
            | succ f => rw [ringWalk, if_pos hany] at hw7; exact Option.some.inj hw7
          subst e7
          refine hS _ ?_
          exact ⟨_, _, _, _, _, rfl, by k_asm, by k_asm, by
              intro y hy
              simp only [off_ne hy (x := PySem.Str.ofString "name") (by rfl), off_ne hy (x := PySem.Str.ofString "across") (by rfl), off_ne hy (x := PySem.Str.ofString "met") (by rfl), hy, Bool.false_eq_true, if_false], rfl, mv7, n7, rfl, hsm7, by omega, rfl⟩
        | false =>
          cases f with
          | zero =>
            rw [ringWalk, if_neg (by rw [hany]; decide)] at hw7
            cases hw7
          | succ f =>
            rw [ringWalk, if_neg (by rw [hany]; decide)] at hw7
            obtain ⟨a7, ha7, hw8⟩ := Option.bind_eq_some_iff.mp hw7
            obtain ⟨b7, hb7, hw9⟩ := Option.bind_eq_some_iff.mp hw8
            have hga : GoodN a7 := let ⟨p, hp, e⟩ := getP_mem ha7; e ▸ hg1 p hp
            have hgb : GoodN b7 := let ⟨p, hp, e⟩ := getP_mem hb7; e ▸ hg2 p hp
            have hga1 := hga.1
            have hga2 := hga.2.1
            have hga3 := hga.2.2
            (repeat' (first | (k_unfold; (try dsimp only)) | (k_end; wrow_close) | ((((fail_if_success (with_reducible show wpAny _ _ (call (Value.builtin "dict.items") _ _) _ _ _)); (fail_if_success (with_reducible show wpAny _ _ (call (Value.type "range") _ _) _ _ _)); (fail_if_success (with_reducible show wpAny _ _ (call (Value.ref 112) _ _) _ _ _)); (fail_if_success (with_reducible show wpAny _ _ (eval (Expr.ListComp _ _ _ _) _) _ _ _)); (fail_if_success (with_reducible show wpAny _ _ (exec (Stmt.For _ _ _ _ _) _) _ _ _)); (fail_if_success (with_reducible show wpAny _ _ (exec (Stmt.While _ _ _ _) _) _ _ _)); (fail_if_success (with_reducible show wpAny _ _ (exec (Stmt.Assign [Expr.Name _ _] (Expr.ListComp _ _ _ _) _) _) _ _ _)))); first | (first | with_reducible (k_here; (with_reducible show wpAny _ _ (compareOp CmpOp.NotIn (Value.str _ _) (Value.ref _)) _ _ _); refine' notin_list_strs ?lqz ?iqz ?_; (case lqz => exact News.isList (by k_asm) (by k_mem)); (case iqz => assumption)) | with_reducible (k_here; (with_reducible show wpAny _ _ (call (Value.ref 146) _ _) _ _ _); k_dflt (refine' get_ ?Bqz ?Fqz ?Xqz ?Nqz ?Tqz ?hkqz ?hTqz ?hxqz ?hlqz ?hksqz ?hdqz ?_; (case Bqz => k_asm); (case Fqz => k_asm); (case Xqz => k_asm); (case Nqz => k_asm); (case Tqz => k_asm); (case hkqz => first | exact rfl | assumption); (case hTqz => refine IsTab.mono (by assumption) ?_; first | exact fun p hp => .tail _ (.tail _ hp) | exact fun p hp => .tail _ hp | exact fun p hp => hp); (case hxqz => assumption); (case hlqz => assumption); (case hksqz => assumption); (case hdqz => ktr_room); intro v9 h9 tk9 F9 N9 q9; (obtain ⟨t9, e9⟩ := get_str q9 (by assumption)); subst e9; clear q9; (try dsimp only))) | walk1) | (dsimp only; ((((fail_if_success (with_reducible show wpAny _ _ (call (Value.builtin "dict.items") _ _) _ _ _)); (fail_if_success (with_reducible show wpAny _ _ (call (Value.type "range") _ _) _ _ _)); (fail_if_success (with_reducible show wpAny _ _ (call (Value.ref 112) _ _) _ _ _)); (fail_if_success (with_reducible show wpAny _ _ (eval (Expr.ListComp _ _ _ _) _) _ _ _)); (fail_if_success (with_reducible show wpAny _ _ (exec (Stmt.For _ _ _ _ _) _) _ _ _)); (fail_if_success (with_reducible show wpAny _ _ (exec (Stmt.While _ _ _ _) _) _ _ _)); (fail_if_success (with_reducible show wpAny _ _ (exec (Stmt.Assign [Expr.Name _ _] (Expr.ListComp _ _ _ _) _) _) _ _ _))))); (first | with_reducible (k_here; (with_reducible show wpAny _ _ (compareOp CmpOp.NotIn (Value.str _ _) (Value.ref _)) _ _ _); refine' notin_list_strs ?lqz ?iqz ?_; (case lqz => exact News.isList (by k_asm) (by k_mem)); (case iqz => assumption)) | with_reducible (k_here; (with_reducible show wpAny _ _ (call (Value.ref 146) _ _) _ _ _); k_dflt (refine' get_ ?Bqz ?Fqz ?Xqz ?Nqz ?Tqz ?hkqz ?hTqz ?hxqz ?hlqz ?hksqz ?hdqz ?_; (case Bqz => k_asm); (case Fqz => k_asm); (case Xqz => k_asm); (case Nqz => k_asm); (case Tqz => k_asm); (case hkqz => first | exact rfl | assumption); (case hTqz => refine IsTab.mono (by assumption) ?_; first | exact fun p hp => .tail _ (.tail _ hp) | exact fun p hp => .tail _ hp | exact fun p hp => hp); (case hxqz => assumption); (case hlqz => assumption); (case hksqz => assumption); (case hdqz => ktr_room); intro v9 h9 tk9 F9 N9 q9; (obtain ⟨t9, e9⟩ := get_str q9 (by assumption)); subst e9; clear q9; (try dsimp only))) | walk1))) | (leave1; walk_say "STEP leave1"; try dsimp only) | fail "no step"))
            rename I < _ ∧ lm < _ ∧ AllLt _ _ => l11
            refine iadd_K4 (by k_asm) (by k_asm) (Nat.ne_of_lt l11.2.1) hIl hlr (by simp only [List.length_cons, List.length_nil, hsm7.len_eq]; omega) ?_
            intro h12 n12 F12 N12
            (repeat' (first | (k_unfold; (try dsimp only)) | (k_end; wrow_close) | ((((fail_if_success (with_reducible show wpAny _ _ (call (Value.builtin "dict.items") _ _) _ _ _)); (fail_if_success (with_reducible show wpAny _ _ (call (Value.type "range") _ _) _ _ _)); (fail_if_success (with_reducible show wpAny _ _ (call (Value.ref 112) _ _) _ _ _)); (fail_if_success (with_reducible show wpAny _ _ (eval (Expr.ListComp _ _ _ _) _) _ _ _)); (fail_if_success (with_reducible show wpAny _ _ (exec (Stmt.For _ _ _ _ _) _) _ _ _)); (fail_if_success (with_reducible show wpAny _ _ (exec (Stmt.While _ _ _ _) _) _ _ _)); (fail_if_success (with_reducible show wpAny _ _ (exec (Stmt.Assign [Expr.Name _ _] (Expr.ListComp _ _ _ _) _) _) _ _ _)))); first | (first | with_reducible (k_here; (with_reducible show wpAny _ _ (compareOp CmpOp.NotIn (Value.str _ _) (Value.ref _)) _ _ _); refine' notin_list_strs ?lqz ?iqz ?_; (case lqz => exact News.isList (by k_asm) (by k_mem)); (case iqz => assumption)) | with_reducible (k_here; (with_reducible show wpAny _ _ (call (Value.ref 146) _ _) _ _ _); k_dflt (refine' get_ ?Bqz ?Fqz ?Xqz ?Nqz ?Tqz ?hkqz ?hTqz ?hxqz ?hlqz ?hksqz ?hdqz ?_; (case Bqz => k_asm); (case Fqz => k_asm); (case Xqz => k_asm); (case Nqz => k_asm); (case Tqz => k_asm); (case hkqz => first | exact rfl | assumption); (case hTqz => refine IsTab.mono (by assumption) ?_; first | exact fun p hp => .tail _ (.tail _ hp) | exact fun p hp => .tail _ hp | exact fun p hp => hp); (case hxqz => assumption); (case hlqz => assumption); (case hksqz => assumption); (case hdqz => ktr_room); intro v9 h9 tk9 F9 N9 q9; (obtain ⟨t9, e9⟩ := get_str q9 (by assumption)); subst e9; clear q9; (try dsimp only))) | walk1) | (dsimp only; ((((fail_if_success (with_reducible show wpAny _ _ (call (Value.builtin "dict.items") _ _) _ _ _)); (fail_if_success (with_reducible show wpAny _ _ (call (Value.type "range") _ _) _ _ _)); (fail_if_success (with_reducible show wpAny _ _ (call (Value.ref 112) _ _) _ _ _)); (fail_if_success (with_reducible show wpAny _ _ (eval (Expr.ListComp _ _ _ _) _) _ _ _)); (fail_if_success (with_reducible show wpAny _ _ (exec (Stmt.For _ _ _ _ _) _) _ _ _)); (fail_if_success (with_reducible show wpAny _ _ (exec (Stmt.While _ _ _ _) _) _ _ _)); (fail_if_success (with_reducible show wpAny _ _ (exec (Stmt.Assign [Expr.Name _ _] (Expr.ListComp _ _ _ _) _) _) _ _ _))))); (first | with_reducible (k_here; (with_reducible show wpAny _ _ (compareOp CmpOp.NotIn (Value.str _ _) (Value.ref _)) _ _ _); refine' notin_list_strs ?lqz ?iqz ?_; (case lqz => exact News.isList (by k_asm) (by k_mem)); (case iqz => assumption)) | with_reducible (k_here; (with_reducible show wpAny _ _ (call (Value.ref 146) _ _) _ _ _); k_dflt (refine' get_ ?Bqz ?Fqz ?Xqz ?Nqz ?Tqz ?hkqz ?hTqz ?hxqz ?hlqz ?hksqz ?hdqz ?_; (case Bqz => k_asm); (case Fqz => k_asm); (case Xqz => k_asm); (case Nqz => k_asm); (case Tqz => k_asm); (case hkqz => first | exact rfl | assumption); (case hTqz => refine IsTab.mono (by assumption) ?_; first | exact fun p hp => .tail _ (.tail _ hp) | exact fun p hp => .tail _ hp | exact fun p hp => hp); (case hxqz => assumption); (case hlqz => assumption); (case hksqz => assumption); (case hdqz => ktr_room); intro v9 h9 tk9 F9 N9 q9; (obtain ⟨t9, e9⟩ := get_str q9 (by assumption)); subst e9; clear q9; (try dsimp only))) | walk1))) | (leave1; walk_say "STEP leave1"; try dsimp only) | fail "no step"))
            refine hR _ _ ?_
            exact ⟨_, _, _, _, _, rfl, by k_asm, by k_asm, by
                intro y hy
                simp only [off_ne hy (x := PySem.Str.ofString "name") (by rfl), off_ne hy (x := PySem.Str.ofString "across") (by rfl), off_ne hy (x := PySem.Str.ofString "met") (by rfl), hy, Bool.false_eq_true, if_false], f, Nat.lt_succ_self _, rfl, mv7 ++ [_, _], n12, met7 ++ [x7, a7], b7, _, rfl, strs_app hsm7 (.cons _ _ (.cons _ _ .nil)), rfl, rfl, hgb, hw9, by simp; omega⟩
      · rintro u7 nw7 h7 tk7 gs7 ⟨rfl, mv7, n7, rfl, hsm7, hl7, hmx⟩ F9 N9
        have F10 := fr_track F9 hmx
        clear F9
        dsimp only
        (repeat' (first | (k_unfold; (try dsimp only)) | (k_end; wrow_close) | ((((fail_if_success (with_reducible show wpAny _ _ (call (Value.builtin "dict.items") _ _) _ _ _)); (fail_if_success (with_reducible show wpAny _ _ (call (Value.type "range") _ _) _ _ _)); (fail_if_success (with_reducible show wpAny _ _ (call (Value.ref 112) _ _) _ _ _)); (fail_if_success (with_reducible show wpAny _ _ (eval (Expr.ListComp _ _ _ _) _) _ _ _)); (fail_if_success (with_reducible show wpAny _ _ (exec (Stmt.For _ _ _ _ _) _) _ _ _)); (fail_if_success (with_reducible show wpAny _ _ (exec (Stmt.While _ _ _ _) _) _ _ _)); (fail_if_success (with_reducible show wpAny _ _ (exec (Stmt.Assign [Expr.Name _ _] (Expr.ListComp _ _ _ _) _) _) _ _ _)))); first | (first | with_reducible (k_here; (with_reducible show wpAny _ _ (compareOp CmpOp.NotIn (Value.str _ _) (Value.ref _)) _ _ _); refine' notin_list_strs ?lqz ?iqz ?_; (case lqz => exact News.isList (by k_asm) (by k_mem)); (case iqz => assumption)) | with_reducible (k_here; (with_reducible show wpAny _ _ (call (Value.ref 146) _ _) _ _ _); k_dflt (refine' get_ ?Bqz ?Fqz ?Xqz ?Nqz ?Tqz ?hkqz ?hTqz ?hxqz ?hlqz ?hksqz ?hdqz ?_; (case Bqz => k_asm); (case Fqz => k_asm); (case Xqz => k_asm); (case Nqz => k_asm); (case Tqz => k_asm); (case hkqz => first | exact rfl | assumption); (case hTqz => refine IsTab.mono (by assumption) ?_; first | exact fun p hp => .tail _ (.tail _ hp) | exact fun p hp => .tail _ hp | exact fun p hp => hp); (case hxqz => assumption); (case hlqz => assumption); (case hksqz => assumption); (case hdqz => ktr_room); intro v9 h9 tk9 F9 N9 q9; (obtain ⟨t9, e9⟩ := get_str q9 (by assumption)); subst e9; clear q9; (try dsimp only))) | walk1) | (dsimp only; ((((fail_if_success (with_reducible show wpAny _ _ (call (Value.builtin "dict.items") _ _) _ _ _)); (fail_if_success (with_reducible show wpAny _ _ (call (Value.type "range") _ _) _ _ _)); (fail_if_success (with_reducible show wpAny _ _ (call (Value.ref 112) _ _) _ _ _)); (fail_if_success (with_reducible show wpAny _ _ (eval (Expr.ListComp _ _ _ _) _) _ _ _)); (fail_if_success (with_reducible show wpAny _ _ (exec (Stmt.For _ _ _ _ _) _) _ _ _)); (fail_if_success (with_reducible show wpAny _ _ (exec (Stmt.While _ _ _ _) _) _ _ _)); (fail_if_success (with_reducible show wpAny _ _ (exec (Stmt.Assign [Expr.Name _ _] (Expr.ListComp _ _ _ _) _) _) _ _ _))))); (first | with_reducible (k_here; (with_reducible show wpAny _ _ (compareOp CmpOp.NotIn (Value.str _ _) (Value.ref _)) _ _ _); refine' notin_list_strs ?lqz ?iqz ?_; (case lqz => exact News.isList (by k_asm) (by k_mem)); (case iqz => assumption)) | with_reducible (k_here; (with_reducible show wpAny _ _ (call (Value.ref 146) _ _) _ _ _); k_dflt (refine' get_ ?Bqz ?Fqz ?Xqz ?Nqz ?Tqz ?hkqz ?hTqz ?hxqz ?hlqz ?hksqz ?hdqz ?_; (case Bqz => k_asm); (case Fqz => k_asm); (case Xqz => k_asm); (case Nqz => k_asm); (case Tqz => k_asm); (case hkqz => first | exact rfl | assumption); (case hTqz => refine IsTab.mono (by assumption) ?_; first | exact fun p hp => .tail _ (.tail _ hp) | exact fun p hp => .tail _ hp | exact fun p hp => hp); (case hxqz => assumption); (case hlqz => assumption); (case hksqz => assumption); (case hdqz => ktr_room); intro v9 h9 tk9 F9 N9 q9; (obtain ⟨t9, e9⟩ := get_str q9 (by assumption)); subst e9; clear q9; (try dsimp only))) | walk1))) | (leave1; walk_say "STEP leave1"; try dsimp only) | fail "no step"))
        refine hR _ _ ?_
        exact ⟨_, _, _, _, _, rfl, by k_asm, by k_asm, off' _ _, by
            intro y hy
            have hyj : [PySem.Str.ofString "name", PySem.Str.ofString "across", PySem.Str.ofString "met"].contains y = false := by
              simp only [List.contains_cons, Bool.or_eq_false_iff] at hy ⊢
              exact ⟨hy.1, hy.2.2⟩
            simp only [off_ne hy (x := PySem.Str.ofString "name") (by rfl), off_ne hy (x := PySem.Str.ofString "rings") (by rfl), off_ne hy (x := PySem.Str.ofString "across") (by rfl), off_ne hy (x := PySem.Str.ofString "met") (by rfl), hy, hyj, Bool.false_eq_true, if_false], rfl, mv7, n7, met', r + 1, _, rfl, hsm7, by omega, rfl, rfl, hgo'⟩
  · rintro u nw h tk gs ⟨rfl, mv, n, met, r, t, rfl, hsm, hml, hr, hmt, hgo⟩ F6 N6
    have F7 := fr_track (x := PySem.Str.ofString "met") (fr_track F6 hr) (by show (if _ then _ else _) = _; rw [if_neg (by decide)]; exact hmt)
    clear F6
    dsimp only
    (repeat' (first | (k_unfold; (try dsimp only)) | (k_end; wrow_close) | ((((fail_if_success (with_reducible show wpAny _ _ (call (Value.builtin "dict.items") _ _) _ _ _)); (fail_if_success (with_reducible show wpAny _ _ (call (Value.type "range") _ _) _ _ _)); (fail_if_success (with_reducible show wpAny _ _ (call (Value.ref 112) _ _) _ _ _)); (fail_if_success (with_reducible show wpAny _ _ (eval (Expr.ListComp _ _ _ _) _) _ _ _)); (fail_if_success (with_reducible show wpAny _ _ (exec (Stmt.For _ _ _ _ _) _) _ _ _)); (fail_if_success (with_reducible show wpAny _ _ (exec (Stmt.While _ _ _ _) _) _ _ _)); (fail_if_success (with_reducible show wpAny _ _ (exec (Stmt.Assign [Expr.Name _ _] (Expr.ListComp _ _ _ _) _) _) _ _ _)))); first | (first | with_reducible (k_here; (with_reducible show wpAny _ _ (compareOp CmpOp.NotIn (Value.str _ _) (Value.ref _)) _ _ _); refine' notin_list_strs ?lqz ?iqz ?_; (case lqz => exact News.isList (by k_asm) (by k_mem)); (case iqz => assumption)) | with_reducible (k_here; (with_reducible show wpAny _ _ (call (Value.ref 146) _ _) _ _ _); k_dflt (refine' get_ ?Bqz ?Fqz ?Xqz ?Nqz ?Tqz ?hkqz ?hTqz ?hxqz ?hlqz ?hksqz ?hdqz ?_; (case Bqz => k_asm); (case Fqz => k_asm); (case Xqz => k_asm); (case Nqz => k_asm); (case Tqz => k_asm); (case hkqz => first | exact rfl | assumption); (case hTqz => refine IsTab.mono (by assumption) ?_; first | exact fun p hp => .tail _ (.tail _ hp) | exact fun p hp => .tail _ hp | exact fun p hp => hp); (case hxqz => assumption); (case hlqz => assumption); (case hksqz => assumption); (case hdqz => ktr_room); intro v9 h9 tk9 F9 N9 q9; (obtain ⟨t9, e9⟩ := get_str q9 (by assumption)); subst e9; clear q9; (try dsimp only))) | walk1) | (dsimp only; ((((fail_if_success (with_reducible show wpAny _ _ (call (Value.builtin "dict.items") _ _) _ _ _)); (fail_if_success (with_reducible show wpAny _ _ (call (Value.type "range") _ _) _ _ _)); (fail_if_success (with_reducible show wpAny _ _ (call (Value.ref 112) _ _) _ _ _)); (fail_if_success (with_reducible show wpAny _ _ (eval (Expr.ListComp _ _ _ _) _) _ _ _)); (fail_if_success (with_reducible show wpAny _ _ (exec (Stmt.For _ _ _ _ _) _) _ _ _)); (fail_if_success (with_reducible show wpAny _ _ (exec (Stmt.While _ _ _ _) _) _ _ _)); (fail_if_success (with_reducible show wpAny _ _ (exec (Stmt.Assign [Expr.Name _ _] (Expr.ListComp _ _ _ _) _) _) _ _ _))))); (first | with_reducible (k_here; (with_reducible show wpAny _ _ (compareOp CmpOp.NotIn (Value.str _ _) (Value.ref _)) _ _ _); refine' notin_list_strs ?lqz ?iqz ?_; (case lqz => exact News.isList (by k_asm) (by k_mem)); (case iqz => assumption)) | with_reducible (k_here; (with_reducible show wpAny _ _ (call (Value.ref 146) _ _) _ _ _); k_dflt (refine' get_ ?Bqz ?Fqz ?Xqz ?Nqz ?Tqz ?hkqz ?hTqz ?hxqz ?hlqz ?hksqz ?hdqz ?_; (case Bqz => k_asm); (case Fqz => k_asm); (case Xqz => k_asm); (case Nqz => k_asm); (case Tqz => k_asm); (case hkqz => first | exact rfl | assumption); (case hTqz => refine IsTab.mono (by assumption) ?_; first | exact fun p hp => .tail _ (.tail _ hp) | exact fun p hp => .tail _ hp | exact fun p hp => hp); (case hxqz => assumption); (case hlqz => assumption); (case hksqz => assumption); (case hdqz => ktr_room); intro v9 h9 tk9 F9 N9 q9; (obtain ⟨t9, e9⟩ := get_str q9 (by assumption)); subst e9; clear q9; (try dsimp only))) | walk1))) | (leave1; walk_say "STEP leave1"; try dsimp only) | fail "no step"))
    have hd0 : ns.drop nv.toArray.size = [] := by rw [List.size_toArray, hns.len_eq]; exact List.drop_length
    rw [hd0, ringsGo] at hgo
    have e : r = R := Option.some.inj hgo
    subst e
    rename News h₀ L _ _ => Nz
    exact hret _ _ _ (by k_asm) fun p hp => Nz p (.tail _ hp)
end
end
section
noncomputable def csL : List (List Nat) := [[41, 41, 41, 40, 40, 40], [41, 41, 40, 41, 40, 40], [41, 40, 41, 41, 40, 40], [40, 41, 41, 41, 40, 40], [41, 41, 40, 40, 41, 40], [41, 40, 41, 40, 41, 40], [40, 41, 41, 40, 41, 40], [41, 40, 40, 41, 41, 40], [40, 41, 40, 41, 41, 40], [40, 40, 41, 41, 41, 40], [41, 41, 40, 40, 40, 41], [41, 40, 41, 40, 40, 41], [40, 41, 41, 40, 40, 41], [41, 40, 40, 41, 40, 41], [40, 41, 40, 41, 40, 41], [40, 40, 41, 41, 40, 41], [41, 40, 40, 40, 41, 41], [40, 41, 40, 40, 41, 41], [40, 40, 41, 40, 41, 41], [40, 40, 40, 41, 41, 41]]
noncomputable def mkS (l : List Nat) : PySem.Str := ⟨l.toArray⟩
theorem rs_eq : ((List.range 64).map rowS).filter openP = csL.map mkS := by decide +kernel
noncomputable def sgL (l : List Nat) (i : Nat) : Bool := l.getD i 0 == 40
noncomputable def clL (l : List Nat) (i j : Nat) : Bool := balGo 0 ((l.drop i).take (j + 1 - i))
theorem cs_facts : ∀ l ∈ csL, l.length = 6 ∧ (∀ c ∈ l, c = 40 ∨ c = 41) ∧ (∀ i, i < 6 → sgOf (mkS l) i = sgL l i) := by decide +kernel
noncomputable def mateGoL (c : Nat → Bool) : Nat → Nat → Nat
  | 0, j => j
  | f + 1, j => if j < 5 then (if c j = true then j else mateGoL c f (j + 2)) else j
noncomputable def mateL (c : Nat → Nat → Bool) (i : Nat) : Nat := mateGoL (c i) 3 (i + 1)
noncomputable def idxUp (sg : Nat → Bool) (c : Nat → Nat → Bool) : Nat → List (Nat × Nat)
  | 0 => []
  | i + 1 => if sg i = true then idxUp sg c i ++ [(i, mateL c i), (mateL c i, i)] else idxUp sg c i
theorem mateGo_eq (c : Nat → Bool) : ∀ f j, mateGo c f j = mateGoL c f j
  | 0, _ => rfl
  | f + 1, j => by simp only [mateGo, mateGoL, mateGo_eq c f (j + 2)]
theorem mate_eq (c : Nat → Nat → Bool) (i : Nat) : mate c i = mateL c i := mateGo_eq _ _ _
noncomputable def nmP (nm : Nat → PySem.Str) (p : Nat × Nat) : PySem.Str × PySem.Str := (nm p.1, nm p.2)
theorem pairs_idx (sg sg' : Nat → Bool) (c : Nat → Nat → Bool) (nm : Nat → PySem.Str) : ∀ i, (∀ k, k < i → sg k = sg' k) → pairsUp sg c nm i = (idxUp sg' c i).map (nmP nm)
  | 0, _ => rfl
  | i + 1, h => by
    rw [pairsUp, idxUp, pairs_idx sg sg' c nm i (fun k hk => h k (by omega)), h i (by omega), mate_eq]
    split
    · simp [nmP]
    · rfl
theorem dress_pieces (l : List Nat) (bs : List PySem.Str) : dress (mkS l) bs = pieces l bs := rfl
theorem seg_pieces (l : List Nat) (bs : List PySem.Str) (i k : Nat) : ((pieces l bs).drop i).take k = pieces ((l.drop i).take k) ((bs.drop i).take k) := by
  unfold pieces
  rw [List.drop_zipWith, List.take_zipWith]
theorem mem_take_drop {α : Type} {x : α} {l : List α} {i k : Nat} (h : x ∈ (l.drop i).take k) : x ∈ l := List.mem_of_mem_drop (List.mem_of_mem_take h)
theorem segC_eq {l : List Nat} {bs : List PySem.Str} (hl : l.length = bs.length) (hc : ∀ c ∈ l, c = 40 ∨ c = 41) (hb : ∀ b ∈ bs, b ∈ BS) : segC (dress (mkS l) bs) = clL l := by
  funext i j
  show chk (Txt.join (PySem.Str.ofString "") (((dress (mkS l) bs).drop i).take (j + 1 - i))) = _
  rw [dress_pieces, seg_pieces]
  exact chk_join (by simp [hl]) (fun c h => hc c (mem_take_drop h)) (fun b h => hb b (mem_take_drop h))
theorem joinD_eq {l : List Nat} {bs : List PySem.Str} (hl : l.length = bs.length) (hc : ∀ c ∈ l, c = 40 ∨ c = 41) (hb : ∀ b ∈ bs, b ∈ BS) : chk (joinD (mkS l) bs) = balGo 0 l := chk_join hl hc hb
/-- what the names must keep -/
structure Nms (ns : List PySem.Str) : Prop where
  len : ns.length = 6
  inj : ∀ a b, a < 6 → b < 6 → (Txt.lower (ns.getD a PySem.Str.empty) == Txt.lower (ns.getD b PySem.Str.empty)) = (a == b)
  inj2 : ∀ a b, a < 6 → b < 6 → (ns.getD a PySem.Str.empty == ns.getD b PySem.Str.empty) = (a == b)
  low : ∀ a, a < 6 → Txt.lower (Txt.lower (ns.getD a PySem.Str.empty)) = Txt.lower (ns.getD a PySem.Str.empty)
  cln : ∀ a, a < 6 → Clean (ns.getD a PySem.Str.empty) ∧ Clean (Txt.lower (ns.getD a PySem.Str.empty)) ∧ (ns.getD a PySem.Str.empty).length < 100 ∧ (Txt.lower (ns.getD a PySem.Str.empty)).length < 100
noncomputable def rowIdx (l : List Nat) (i : Nat) : List (Nat × Nat) := idxUp (sgL l) (clL l) i
theorem mate_chk : ∀ l ∈ csL, balGo 0 l = true → ∀ i, i < 6 → sgL l i = true → mateL (clL l) i < 6 ∧ (∀ p ∈ rowIdx l i, p.1 < 6 ∧ (p.1 == i) = false) ∧ (∀ p ∈ rowIdx l i ++ [(i, mateL (clL l) i)], p.1 < 6 ∧ (p.1 == mateL (clL l) i) = false) := by decide +kernel
theorem psOf_eq {l : List Nat} {bs ns : List PySem.Str} (hm : l ∈ csL) (hl : bs.length = 6) (hb : ∀ b ∈ bs, b ∈ BS) {i : Nat} (hi : i ≤ 6) : psOf (mkS l) (dress (mkS l) bs) ns i = (rowIdx l i).map (nmP fun k => ns.getD k PySem.Str.empty) := by
  obtain ⟨h6, hc, hsg⟩ := cs_facts l hm
  unfold psOf
  rw [segC_eq (by omega) hc hb, pairs_idx (sgOf (mkS l)) (sgL l) _ _ i fun k hk => hsg k (by omega)]
  rfl
theorem rowOK {l : List Nat} {bs ns : List PySem.Str} (hm : l ∈ csL) (hl : bs.length = 6) (hb : ∀ b ∈ bs, b ∈ BS) (hn : Nms ns) : RowOK bs ns (mkS l) := by
  obtain ⟨h6, hc, hsg⟩ := cs_facts l hm
  refine ⟨?_, ?_, ok_join (cs := l) (by omega) hc hb, fun i k => ?_, fun i j => ?_, fun hchk i hi hs => ?_⟩
  · show l.toArray.size = 6; rw [List.size_toArray]; exact h6
  · show l.toArray.all _ = true
    rw [← Array.all_toList, List.all_eq_true]
    intro x hx
    have := hc x (by simpa using hx)
    exact decide_eq_true (by omega)
  · rw [dress_pieces, seg_pieces]
    have := lens_pieces ((l.drop i).take k) ((bs.drop i).take k) (fun b h => hb b (mem_take_drop h))
    have h2 : ((l.drop i).take k).length ≤ 6 := by rw [List.length_take, List.length_drop]; omega
    omega
  · show okText (Txt.join _ (((dress (mkS l) bs).drop i).take (j + 1 - i)))
    rw [dress_pieces, seg_pieces]
    exact ok_join (by rw [List.length_take, List.length_drop]; omega) (fun c h => hc c (mem_take_drop h)) (fun b h => hb b (mem_take_drop h))
  · rw [joinD_eq (by omega) hc hb] at hchk
    rw [hsg i hi] at hs
    obtain ⟨q1, q2, q3⟩ := mate_chk l hm hchk i hi hs
    have em : mate (segC (dress (mkS l) bs)) i = mateL (clL l) i := by rw [segC_eq (by omega) hc hb, mate_eq]
    rw [em]
    refine ⟨q1, fun p hp => ?_, fun p hp => ?_⟩
    · rw [psOf_eq hm hl hb (by omega)] at hp
      obtain ⟨x, hx, rfl⟩ := List.mem_map.mp hp
      obtain ⟨x1, x2⟩ := q2 x hx
      exact (hn.inj x.1 i x1 hi).trans x2
    · rw [psOf_eq hm hl hb (by omega)] at hp
      rcases List.mem_append.mp hp with hp | hp
      · obtain ⟨x, hx, rfl⟩ := List.mem_map.mp hp
        obtain ⟨x1, x2⟩ := q3 x (List.mem_append_left _ hx)
        exact (hn.inj x.1 _ x1 q1).trans x2
      · rw [List.mem_singleton.mp hp]
        obtain ⟨x1, x2⟩ := q3 (i, mateL (clL l) i) (List.mem_append_right _ (.head _))
        exact (hn.inj i _ x1 q1).trans x2
/-- the tables, by places -/
noncomputable def tabI : List (List (Nat × Nat)) := (csL.filter (balGo 0)).map fun l => rowIdx l 6
noncomputable def kOf (t : Nat) : Nat := if t < 15 then 0 else if t = 15 then 1 else if t < 18 then 2 else if t = 18 then 3 else 4
theorem kept_rot : ∀ t, t < 20 → kOf t < 5 ∧ ((csL.drop t ++ csL.take t).filter (balGo 0)).map (fun l => rowIdx l 6) = tabI.drop (kOf t) ++ tabI.take (kOf t) := by decide +kernel
theorem kept_eq {bs ns : List PySem.Str} (hl : bs.length = 6) (hb : ∀ b ∈ bs, b ∈ BS) : ∀ (ls : List (List Nat)), (∀ l ∈ ls, l ∈ csL) → keptOf bs ns (ls.map mkS) = ((ls.filter (balGo 0)).map fun l => rowIdx l 6).map fun ps => ps.map (nmP fun k => ns.getD k PySem.Str.empty)
  | [], _ => rfl
  | l :: ls, h => by
    have ih := kept_eq (ns := ns) hl hb ls (fun x hx => h x (.tail _ hx))
    obtain ⟨h6, hc, hsg⟩ := cs_facts l (h l (.head _))
    unfold keptOf at ih ⊢
    rw [List.map_cons]
    have e := joinD_eq (bs := bs) (by omega) hc hb
    cases hq : balGo 0 l with
    | true =>
      rw [List.filter_cons_of_pos (by rw [e, hq]), List.filter_cons_of_pos hq, List.map_cons, List.map_cons, List.map_cons, ih, psOf_eq (h l (.head _)) hl hb (Nat.le_refl 6)]
    | false =>
      rw [List.filter_cons_of_neg (by rw [e, hq]; exact Bool.false_ne_true), List.filter_cons_of_neg (by rw [hq]; exact Bool.false_ne_true), ih]
end
section
noncomputable abbrev tupIV (k : Int) (t : Tok) (v : Value) : Obj := { cls := .type "tuple", data := .seq #[.int k t, v] }
section
variable {prog : Program} {w : World} {A : Around} {E : Value → Shared → Prop} {s : Shared} {env : Env}
theorem iter_items {elts : List Expr} {x1 : Nat} {tp : Pos} {body : List Stmt} {Q : Flow → Shared → Prop} {h₀ : Heap} {m : PySem.Str → Option Value} {news : List (Addr × Obj)} {d : Addr} {od : Obj} {kvs : List (Int × Value)}
    (names : List PySem.Str) (K : Nat → (PySem.Str → Option Value) → List (Addr × Obj) → Array GenState → Prop)
    (hh : A.handled = none) (F : Fr h₀ env.locals s.heap m) (N : News h₀ env.locals s.heap news) (hd : od.IsDictOf (intKind prog w) kvs) (lo : (d == sysModules) = false) (hK : K 0 m news s.gens)
    (hl : ∀ i m nw gs, K i m nw gs → (d, od) ∈ nw)
    (turn : ∀ (i : Nat) (k : Int) (v : Value) (tk' : Tok) (u : PySem.Str → Option Value) nw h tk gs (I T : Addr) oI, kvs[i]? = some (k, v) → K i (fun y => if names.contains y = true then u y else m y) nw gs → (∀ p ∈ nw, p.1 ≠ I) → (∀ p ∈ nw, p.1 ≠ T) → T ≠ I → Fr h₀ env.locals h (fun y => if names.contains y = true then u y else m y) → News h₀ env.locals h ((T, tupIV k tk' v) :: (I, oI) :: nw) → 
      wpAny (model prog w) A (assign (.Tuple elts x1 tp) env (.ref T)) (fun _ s₂ => wpAny (model prog w) A (execs body env) (fun f s₃ => match f with
        | .next | .cont => TurnL h₀ env.locals s I oI (fun m' nw gs => (∀ y, names.contains y = false → m' y = m y) ∧ K (i + 1) m' nw gs) s₃
        | .brk => Q .next s₃
        | .ret v => Q (.ret v) s₃) NoE s₂) NoE { s with heap := h, toks := tk, gens := gs })
    (done : ∀ (u : PySem.Str → Option Value) nw h tk gs, K kvs.length (fun y => if names.contains y = true then u y else m y) nw gs → Fr h₀ env.locals h (fun y => if names.contains y = true then u y else m y) → News h₀ env.locals h nw → Q .next { s with heap := h, toks := tk, gens := gs }) :
    wpAny (model prog w) A (call (.builtin "dict.items") [.ref d]) (fun xv s₁ => wpAny (model prog w) A (pyIter xv) (fun it s₂ => ForAt prog w A env (.Tuple elts x1 tp) body Q it s₂) NoE s₁) E s := by
  have hD : s.heap.DictOf (intKind prog w) d kvs := Heap.dictOf_iff.mpr ⟨od, (N _ (hl _ _ _ _ hK)).1, hd⟩
  refine call_meetsIn PySem.F.slot_dict_items hD.typeIs PySem.F.entry_dict_items (PySem.F.args_dict_items_1 _) (meets_dict_items (intKind prog w) d lo) ⟨⟨kvs, hD⟩, ?_⟩
  obtain ⟨ep, hat⟩ := hD.dictAt
  refine wpAny_pyIter_items (knd := intKind prog w) (d := d) ⟨_, Heap.get?_push_size _ rfl, rfl, rfl⟩ (hat.push _) ?_
  have F0 := F.push { cls := .type "dict_items", data := .fields #[.ref d] }
  have N0 := N.pushKeep { cls := .type "dict_items", data := .fields #[.ref d] }
  generalize hH : s.heap.push { cls := .type "dict_items", data := .fields #[.ref d] } = H at F0 N0 ⊢
  dsimp only
  generalize hI : H.objs.size = I
  have hLI : env.locals ≠ I := by rw [← hI]; exact Nat.ne_of_lt F0.ns.lt
  have h0I : h₀.get? I = none := by
    cases e : h₀.get? I with
    | none => rfl
    | some o => exact absurd (Heap.lt_size (F0.keep _ _ e)) (by rw [hI]; exact Nat.lt_irrefl _)
  have offI : ∀ p ∈ news, p.1 ≠ I := fun p hp e => absurd (Heap.lt_size (N0 p hp).1) (by rw [e, hI]; exact Nat.lt_irrefl _)
  have key : ∀ m' : PySem.Str → Option Value, (∀ y, names.contains y = false → m' y = m y) → (fun y => if names.contains y = true then m' y else m y) = m' := fun m' hm => by
    funext y
    cases hc : names.contains y with
    | true => rfl
    | false => simp only [Bool.false_eq_true, if_false]; exact (hm y hc).symm
  have epoch : ∀ h : Heap, h.get? d = some od → h.DictAt (intKind prog w) d kvs ep := fun h e => by
    obtain ⟨o, es, ho, r⟩ := hat
    have e2 : s.heap.get? d = some od := (N _ (hl _ _ _ _ hK)).1
    rw [e2] at ho
    cases ho
    exact ⟨od, es, e, r⟩
  refine ⟨fun k s' => ∃ (i : Nat) (h : Heap) (tk : Nat) (gs : Array GenState) (m' : PySem.Str → Option Value) (nw : List (Addr × Obj)) (ok ov : Value), k = kvs.length - i ∧ i ≤ kvs.length ∧ s' = { s with heap := h, toks := tk, gens := gs } ∧ Fr h₀ env.locals h m' ∧ News h₀ env.locals h ((I, { cls := .type "dict_itemiterator", data := .fields #[.none, .bool false, .ref d, .int i 0, .int kvs.length 0, .int ep 0, ok, ov] }) :: nw) ∧ (∀ p ∈ nw, p.1 ≠ I) ∧ (∀ y, names.contains y = false → m' y = m y) ∧ K i m' nw gs, kvs.length,
    ⟨0, _, s.toks, s.gens, m, news, .none, .none, by rw [Nat.sub_zero], Nat.zero_le _, rfl, F0.push _, ?_, offI, fun _ _ => rfl, hK⟩, ?_⟩
  · have := N0.push F0 { cls := .type "dict_itemiterator", data := .fields #[.none, .bool false, .ref d, .int 0 0, .int kvs.length 0, .int ep 0, .none, .none] }
    rw [hI] at this
    exact this
  · rintro k s' ⟨i, h, tk, gs, m', nw, ok, ov, rfl, hle, rfl, F', N', off, hm', hk⟩
    have hi : IsItemIter h I d i kvs.length ep ok ov := (N' _ (.head _)).1
    have hdi : h.DictAt (intKind prog w) d kvs ep := epoch h (N' _ (.tail _ (hl _ _ _ _ hk))).1
    cases hv : kvs[i]? with
    | none =>
      have hin : i = kvs.length := Nat.le_antisymm hle (by simpa using hv)
      subst hin
      refine wpAny_pyNext_items_end (knd := intKind prog w) hh hi hdi hv fun h' hx => ?_
      refine done m' nw h' tk gs (by rw [key m' hm']; exact hk) (by rw [key m' hm']; exact ⟨F'.ns.extBut hx hLI, fun b o e => hx b o (fun q => by rw [q, h0I] at e; cases e) (F'.keep b o e), F'.above⟩) ?_
      exact fun p hp => ⟨hx _ _ (off p hp) (N' p (.tail _ hp)).1, (N' p (.tail _ hp)).2⟩
    | some kv =>
      obtain ⟨kk, v⟩ := kv
      have hlt : i < kvs.length := (List.getElem?_eq_some_iff.mp hv).1
      refine wpAny_pyNext_items_item (knd := intKind prog w) hi hdi hv fun kv' h' hkey ho hT hsz hkp => ?_
      obtain ⟨t', rfl⟩ := Value.isInt_shape hkey
      have hsT : h.objs.size ≠ I := Nat.ne_of_gt (Heap.lt_size hi)
      refine wpAny_letOwnedTupleGo_items (s := { s with heap := h', toks := tk, gens := gs }) ho fun h'' he hs => ?_
      have hx : ∀ b o, b ≠ I → h.get? b = some o → h''.get? b = some o := fun b o hb e => hs.extBut b o hb (hkp b o hb e)
      have F₁ : Fr h₀ env.locals h'' m' := ⟨F'.ns.at fun o e => hx _ o hLI e, fun b o e => hx b o (fun q => by rw [q, h0I] at e; cases e) (F'.keep b o e), F'.above⟩
      have h0T : h₀.get? h.objs.size = none := Heap.get?_none_of_le (Nat.le_trans F'.above (Nat.le_of_lt F'.ns.lt))
      have N₁ : News h₀ env.locals h'' ((h.objs.size, tupIV kk t' v) :: (I, { cls := .type "dict_itemiterator", data := .fields #[.none, .bool false, .ref d, .int ((i + 1 : Nat) : Int) 0, .int kvs.length 0, .int ep 0, .int kk t', v] }) :: nw) := fun p hp => by
        rcases List.mem_cons.mp hp with rfl | hp
        · exact ⟨hs.extBut _ _ hsT hT, Nat.ne_of_gt F'.ns.lt, h0T⟩
        · rcases List.mem_cons.mp hp with rfl | hp
          · exact ⟨he, Ne.symm hLI, h0I⟩
          · exact ⟨hx _ _ (off p hp) (N' p (.tail _ hp)).1, (N' p (.tail _ hp)).2⟩
      refine wpAny_mono (turn i kk v t' m' nw h'' tk gs I h.objs.size _ hv (by rw [key m' hm']; exact hk) off (fun p hp => Nat.ne_of_lt (Heap.lt_size (N' p (.tail _ hp)).1)) hsT (by rw [key m' hm']; exact F₁) N₁) (fun _ s₂ h₂ => wpAny_mono h₂ (fun f s₃ h₃ => ?_) fun _ _ e => e) fun _ _ e => e
      have fin : TurnL h₀ env.locals s I { cls := .type "dict_itemiterator", data := .fields #[.none, .bool false, .ref d, .int ((i + 1 : Nat) : Int) 0, .int kvs.length 0, .int ep 0, .int kk t', v] } (fun m' nw gs => (∀ y, names.contains y = false → m' y = m y) ∧ K (i + 1) m' nw gs) s₃ → ∃ k, k < kvs.length - i ∧ ∃ (i : Nat) (h : Heap) (tk : Nat) (gs : Array GenState) (m' : PySem.Str → Option Value) (nw : List (Addr × Obj)) (ok ov : Value), k = kvs.length - i ∧ i ≤ kvs.length ∧ s₃ = { s with heap := h, toks := tk, gens := gs } ∧ Fr h₀ env.locals h m' ∧ News h₀ env.locals h ((I, { cls := .type "dict_itemiterator", data := .fields #[.none, .bool false, .ref d, .int i 0, .int kvs.length 0, .int ep 0, ok, ov] }) :: nw) ∧ (∀ p ∈ nw, p.1 ≠ I) ∧ (∀ y, names.contains y = false → m' y = m y) ∧ K i m' nw gs := by
        rintro ⟨h3, tk3, gs3, m3, nw3, rfl, F3, N3, off3, hm3, k3⟩
        exact ⟨kvs.length - (i + 1), by omega, i + 1, h3, tk3, gs3, m3, nw3, _, _, rfl, hlt, rfl, F3, N3, off3, hm3, k3⟩
      cases f with
      | next => exact fin h₃
      | cont => exact fin h₃
      | brk => exact h₃
      | ret v => exact h₃
end
end
section
noncomputable def getI (ps : List (Int × Int)) (k : Int) : Int := ((ps.find? fun p => p.1 = k).map (·.2)).getD 0
noncomputable def putI (ps : List (Int × Int)) (k v : Int) : List (Int × Int) := if ps.any (fun p => p.1 = k) then ps.map (fun p => if p.1 = k then (p.1, v) else p) else ps ++ [(k, v)]
noncomputable def innerGo (row : List Int) (taken : Int) : List Nat → Int → List (Int × Int) → List (Int × Int)
  | [], _, nws => nws
  | k :: r, v, nws => if (taken.fdiv (2 ^ k)).fmod 2 = 1 then innerGo row taken r (-v) nws else innerGo row taken r v (putI nws (taken + 2 ^ k) (getI nws (taken + 2 ^ k) + v * row.getD k 0))
noncomputable def itemsGo (row : List Int) : List (Int × Int) → List (Int × Int) → List (Int × Int)
  | [], nws => nws
  | (taken, v) :: r, nws => itemsGo row r (innerGo row taken [4, 3, 2, 1, 0] v nws)
noncomputable def rowsGo : List (List Int) → List (Int × Int) → List (Int × Int)
  | [], sums => sums
  | row :: r, sums => rowsGo r (itemsGo row sums [])
noncomputable def IV : List (Int × Value) → List (Int × Int) → Prop
  | [], [] => True
  | (k, v) :: r, (k', x) :: r' => k = k' ∧ (∃ t, v = .int x t) ∧ IV r r'
  | _, _ => False
theorem IV.at : ∀ {kvs : List (Int × Value)} {ps : List (Int × Int)}, IV kvs ps → ∀ {i : Nat} {k : Int} {v : Value}, kvs[i]? = some (k, v) → ∃ x t, ps[i]? = some (k, x) ∧ v = .int x t
  | [], [], _, i, k, v, e => by simp at e
  | (k0, v0) :: r, (k', x) :: r', ⟨h1, ⟨t, h2⟩, h3⟩, 0, k, v, e => by
    simp at e
    obtain ⟨rfl, rfl⟩ := e
    exact ⟨x, t, by simp [h1], h2⟩
  | (k0, v0) :: r, (k', x) :: r', ⟨h1, ⟨t, h2⟩, h3⟩, i + 1, k, v, e => by
    simp only [List.getElem?_cons_succ] at e ⊢
    exact h3.at e
  | [], _ :: _, h, _, _, _, _ => h.elim
  | _ :: _, [], h, _, _, _, _ => h.elim
theorem IV.len : ∀ {kvs : List (Int × Value)} {ps : List (Int × Int)}, IV kvs ps → kvs.length = ps.length
  | [], [], _ => rfl
  | (_, _) :: r, (_, _) :: r', ⟨_, _, h3⟩ => by simp only [List.length_cons, h3.len]
  | [], _ :: _, h => h.elim
  | _ :: _, [], h => h.elim
theorem IV.get : ∀ {kvs : List (Int × Value)} {ps : List (Int × Int)}, IV kvs ps → ∀ (k : Int) (t0 : Tok), ∃ t, (valueAt kvs k).getD (.int 0 t0) = .int (getI ps k) t
  | [], [], _, k, t0 => ⟨t0, rfl⟩
  | (k0, v0) :: r, (k', x) :: r', ⟨h1, ⟨t, h2⟩, h3⟩, k, t0 => by
    subst h1 h2
    obtain ⟨t', ih⟩ := h3.get k t0
    unfold valueAt getI at ih ⊢
    by_cases hk : k0 = k
    · simp only [List.find?_cons, hk, decide_true, Option.map_some, Option.getD_some]
      exact ⟨t, rfl⟩
    · simp only [List.find?_cons, hk, decide_false]
      exact ⟨t', ih⟩
  | [], _ :: _, h, _, _ => h.elim
  | _ :: _, [], h, _, _ => h.elim
theorem IV.find : ∀ {kvs : List (Int × Value)} {ps : List (Int × Int)}, IV kvs ps → ∀ {k k' x : Int}, ps.find? (fun p => p.1 = k) = some (k', x) → ∃ t, valueAt kvs k = some (.int x t)
  | [], [], _, k, k', x, e => by simp at e
  | (k0, v0) :: r, (k1, y) :: r', ⟨h1, ⟨t, h2⟩, h3⟩, k, k', x, e => by
    subst h1 h2
    unfold valueAt
    by_cases hk : k0 = k
    · simp only [List.find?_cons, hk, decide_true, Option.some.injEq, Prod.mk.injEq] at e
      simp only [List.find?_cons, hk, decide_true, Option.map_some]
      exact ⟨t, by rw [e.2]⟩
    · simp only [List.find?_cons, hk, decide_false] at e ⊢
      exact h3.find e
  | [], _ :: _, h, _, _, _, _ => h.elim
  | _ :: _, [], h, _, _, _, _ => h.elim
theorem IV.any : ∀ {kvs : List (Int × Value)} {ps : List (Int × Int)}, IV kvs ps → ∀ (k : Int), kvs.any (fun p => p.1 = k) = ps.any (fun p => p.1 = k)
  | [], [], _, k => rfl
  | (k0, v0) :: r, (k', x) :: r', ⟨h1, h2, h3⟩, k => by
    subst h1
    simp only [List.any_cons, h3.any k]
  | [], _ :: _, h, _ => h.elim
  | _ :: _, [], h, _ => h.elim
theorem IV.map : ∀ {kvs : List (Int × Value)} {ps : List (Int × Int)}, IV kvs ps → ∀ (k x : Int) (t : Tok), IV (kvs.map fun p => if p.1 = k then (p.1, .int x t) else p) (ps.map fun p => if p.1 = k then (p.1, x) else p)
  | [], [], _, k, x, t => True.intro
  | (k0, v0) :: r, (k', y) :: r', ⟨h1, h2, h3⟩, k, x, t => by
    subst h1
    simp only [List.map_cons]
    by_cases hk : k0 = k
    · simp only [hk, if_true]
      exact ⟨rfl, ⟨t, rfl⟩, h3.map k x t⟩
    · simp only [hk, if_false]
      exact ⟨rfl, h2, h3.map k x t⟩
  | [], _ :: _, h, _, _, _ => h.elim
  | _ :: _, [], h, _, _, _ => h.elim
theorem IV.app : ∀ {kvs : List (Int × Value)} {ps : List (Int × Int)}, IV kvs ps → ∀ (k x : Int) (t : Tok), IV (kvs ++ [(k, .int x t)]) (ps ++ [(k, x)])
  | [], [], _, k, x, t => ⟨rfl, ⟨t, rfl⟩, True.intro⟩
  | (k0, v0) :: r, (k', y) :: r', ⟨h1, h2, h3⟩, k, x, t => ⟨h1, h2, h3.app k x t⟩
  | [], _ :: _, h, _, _, _ => h.elim
  | _ :: _, [], h, _, _, _ => h.elim
theorem IV.put {kvs : List (Int × Value)} {ps : List (Int × Int)} (h : IV kvs ps) (k x : Int) (t : Tok) : IV (stored kvs k (.int x t)) (putI ps k x) := by
  unfold stored putI
  rw [h.any k]
  split
  · exact h.map k x t
  · exact h.app k x t
theorem putI_len (ps : List (Int × Int)) (k v : Int) : (putI ps k v).length ≤ ps.length + 1 := by
  unfold putI
  split
  · simp
  · simp
theorem innerGo_len (row : List Int) (taken : Int) : ∀ (ks : List Nat) (v : Int) (ps : List (Int × Int)), (innerGo row taken ks v ps).length ≤ ps.length + ks.length
  | [], v, ps => Nat.le_refl _
  | k :: r, v, ps => by
    rw [innerGo]
    split
    · have := innerGo_len row taken r (-v) ps; simp only [List.length_cons]; omega
    · have := innerGo_len row taken r v (putI ps (taken + 2 ^ k) (getI ps (taken + 2 ^ k) + v * row.getD k 0))
      have h2 := putI_len ps (taken + 2 ^ k) (getI ps (taken + 2 ^ k) + v * row.getD k 0)
      simp only [List.length_cons]; omega
noncomputable def RowsAre (news : List (Addr × Obj)) (rv : List Value) (rows : List (List Int)) : Prop :=
  rv.length = rows.length ∧ ∀ (i : Nat) row, rows[i]? = some row → row.length = 5 ∧ (∀ x ∈ row, (-1000 : Int) < x ∧ x < 1000) ∧ ∃ (a : Addr) (vs : List Value) (n : Nat), rv[i]? = some (.ref a) ∧ (a, listOf vs.toArray n) ∈ news ∧ IntsAre vs row
section
variable {prog : Program} {w : World} {A : Around} {E : Value → Shared → Prop} {s : Shared}
theorem len5 {l : Addr} {items : Array Value} {Q : Value → Shared → Prop} (hl : s.heap.IsList l items) (h5 : items.size = 5) (h : ∀ t k, Q (.int 5 t) { s with toks := k }) : wpAny (model prog w) A (call (.builtin "len") [.ref l]) Q E s :=
  len_list hl (by rw [h5]; decide) (by rw [h5]; exact h _ _)
theorem item_I {value slice : Expr} {l : Addr} {vs : List Value} {ns : List Int} {k : Nat} {u : Tok} {Q : Value → Shared → Prop} (hl : s.heap.IsList l vs.toArray) (hi : IntsAre vs ns) (hk : k < ns.length) (h5 : ns.length < 1000)
    (h : ∀ t, Q (.int (ns.getD k 0) t) s)
    (hs : subscripted slice false (.ref l) (.int (k : Int) u) = operate [.ref l, .int (k : Int) u] (getItem (.ref l) (.int (k : Int) u)) := by with_unfolding_all rfl) (hg : ∀ r, letTemporaryGo value (.ref l) r = pure () := by intro _; with_unfolding_all rfl) :
    wpAny (model prog w) A (subscriptTail value slice (.ref l) (.int (k : Int) u)) Q E s := by
  have e : ns[k]? = some (ns.getD k 0) := by simp [List.getD, hk]
  obtain ⟨t, ht⟩ := hi.get k _ e
  exact item_listL hl (by omega) (by omega) (by rw [Int.toNat_natCast]; exact ht) (h t) hs hg
theorem get2I {h₀ : Heap} {L d : Addr} {news : List (Addr × Obj)} {o : Obj} {kvs : List (Int × Value)} {ps : List (Int × Int)} {k : Int} {tk t0 : Tok} {Q : Value → Shared → Prop} (N : News h₀ L s.heap news) (hp : (d, o) ∈ news) (hd : o.IsDictOf (intKind prog w) kvs) (lo : (d == sysModules) = false) (hiv : IV kvs ps)
    (h : ∀ t k', Q (.int (getI ps k) t) { s with toks := k' }) : wpAny (model prog w) A (call (.builtin "dict.get") [.ref d, .int k tk, .int 0 t0]) Q E s := by
  refine kdg_get2 (knd := intKind prog w) N hp hd lo (intKind_is _ _ _ _) _ rfl ?_
  obtain ⟨t, e⟩ := hiv.get k t0
  rw [e]
  exact h _ _
theorem setI {h₀ : Heap} {L d : Addr} {m : PySem.Str → Option Value} {news : List (Addr × Obj)} {g : Obj → List (Addr × Obj)} {o : Obj} {kvs : List (Int × Value)} {ps : List (Int × Int)} {k x : Int} {tk tx : Tok} {Q : Unit → Shared → Prop} (F : Fr h₀ L s.heap m) (N : News h₀ L s.heap news) (U : UpdF d o news g) (hd : o.IsDictOf (intKind prog w) kvs) (hiv : IV kvs ps) (hsz : ps.length ≤ 16777216)
    (h : ∀ h' o' kvs' k', Fr h₀ L h' m → News h₀ L h' (g o') → o'.IsDictOf (intKind prog w) kvs' → IV kvs' (putI ps k x) → Q () { s with heap := h', toks := k' }) : wpAny (model prog w) A (setItem (.ref d) (.int k tk) (.int x tx)) Q E s :=
  kda_set (knd := intKind prog w) F N U hd (intKind_is _ _ _ _) (by rw [sizeLine_eq, hiv.len]; exact hsz) fun h' o' F' N' hd' => h h' o' _ _ F' N' hd' (hiv.put k x tx)
theorem getD_mem {row : List Int} {k : Nat} (h : k < row.length) : row.getD k 0 ∈ row := by
  rw [show row.getD k 0 = row[k] from by simp [List.getD, h]]
  exact List.getElem_mem _
theorem drop5 : ∀ i : Nat, i < 5 → ([4, 3, 2, 1, 0] : List Nat).drop i = (4 - i) :: ([4, 3, 2, 1, 0] : List Nat).drop (i + 1) := by decide
end
section
variable {w : World} {mean : ExcName → Option Value} {mg mb : PySem.Str → Option Value} {dp un : Nat} {gd : Option (List Code)} {cn : PySem.Str} {cs : Scope} {a : Addr} {ccd : Value} {cl : List (PySem.Str × Addr)} {outer : List Env} {A₀ : Around} {base h₀ : Heap} {L : Addr} {m : PySem.Str → Option Value} {news : List (Addr × Obj)} {s : Shared} {Q E : Value → Shared → Prop}
  (B : Below A₀ base outer h₀) (F : Fr h₀ L s.heap m) (X : (hd.heap_39 w.params).In h₀) (N : News h₀ L s.heap news) (T : Top hd.view_39 LO mean mg mb h₀) (hk : cs.kind = .function)
include B F X N T hk
set_option maxRecDepth 100000 in
set_option maxHeartbeats 8000000 in
set_option pp.deepTerms false in
set_option pp.deepTerms.threshold 10 in
theorem det {lr : Addr} {rv : List Value} {nr : Nat} {rows : List (List Int)} (hrw : RowsAre news rv rows) (hrl : rows.length = 5) (hlr : (lr, listOf rv.toArray nr) ∈ news) (hdp : dp + 60 < recursionLimit) (hun : un + 80 < cLine)
    {D : Int} (hfin : (rowsGo rows [(0, 1)]).find? (fun p => p.1 = 31) = some (31, D))
    (hret : ∀ h' tk' t', Fr h₀ L h' m → News h₀ L h' news → Q (.int D t') { s with heap := h', toks := tk' }) :
    wpAny (model PySem.Challenge.rw_wa0038_01.row.prog w) (ktrTop dp un gd cn cs L a ccd cl outer) (call (.ref 224) [.ref lr] []) Q E s := by
  revert X; k_fill; intro X
  refine wpAny_call ?_
  k_dflt (((refine' code_def ?k1 ?k2 ?k3 ?k4 ?k5 ?kA ?kF ?kK ?k6 ?k7 ?k8 ?k9 ?kB ?_ ?c2 ?c3 ?c4 ?c5; (case kA => exact rfl); (case kF => exact rfl); (case kK => first | exact rfl | assumption); (case k1 => k_asm); (case k2 => k_asm); (case k3 => k_asm); (case k4 => k_asm); (case k5 => k_asm); (case k6 => k_is); (case k7 => k_is); (case k8 => ktr_room); (case k9 => first | exact BindsTo.of_eq rfl | exact binds_K (by k_in) rfl (by k_is) rfl rfl rfl | fail "no rule for these arguments"); (case c5 => decide); (case kB => exact locs rfl); (case c2 => exact rfl); (case c3 => exact rfl); (case c4 => exact rfl); k_whole; intro g' L' h' FG' F' N' B' X' T'; (try dsimp only); (try k_lift B'); (try k_fold))))
  (repeat' (first | (k_unfold; (try dsimp only)) | (k_end; wrow_close) | ((((fail_if_success (with_reducible show wpAny _ _ (call (Value.builtin "dict.items") _ _) _ _ _)); (fail_if_success (with_reducible show wpAny _ _ (call (Value.type "range") _ _) _ _ _)); (fail_if_success (with_reducible show wpAny _ _ (call (Value.ref 112) _ _) _ _ _)); (fail_if_success (with_reducible show wpAny _ _ (eval (Expr.ListComp _ _ _ _) _) _ _ _)); (fail_if_success (with_reducible show wpAny _ _ (exec (Stmt.For _ _ _ _ _) _) _ _ _)); (fail_if_success (with_reducible show wpAny _ _ (exec (Stmt.While _ _ _ _) _) _ _ _)); (fail_if_success (with_reducible show wpAny _ _ (exec (Stmt.Assign [Expr.Name _ _] (Expr.ListComp _ _ _ _) _) _) _ _ _)))); first | (first | with_reducible (k_here; (with_reducible show wpAny _ _ (call (Value.builtin "len") [Value.ref _]) _ _ _); (refine len5 (News.isList (by k_asm) (by k_mem)) (by assumption) ?_); intro _ _) | with_reducible (k_here; (with_reducible show wpAny _ _ (subscriptTail _ _ (Value.ref _) (Value.int _ _)) _ _ _); refine' item_I ?lqz ?iqz ?bqz ?cqz ?_; (case lqz => exact News.isList (by k_asm) (by k_mem)); (case iqz => assumption); (case bqz => omega); (case cqz => omega); intro _) | walk1 | (k_here; (with_reducible show wpAny _ _ (subscriptTail _ _ (Value.ref _) (Value.int _ _)) _ _ _); refine' item_I ?lqz ?iqz ?bqz ?cqz ?_; (case lqz => exact News.isList (by k_asm) (by k_mem)); (case iqz => assumption); (case bqz => omega); (case cqz => omega); intro _)) | (dsimp only; ((((fail_if_success (with_reducible show wpAny _ _ (call (Value.builtin "dict.items") _ _) _ _ _)); (fail_if_success (with_reducible show wpAny _ _ (call (Value.type "range") _ _) _ _ _)); (fail_if_success (with_reducible show wpAny _ _ (call (Value.ref 112) _ _) _ _ _)); (fail_if_success (with_reducible show wpAny _ _ (eval (Expr.ListComp _ _ _ _) _) _ _ _)); (fail_if_success (with_reducible show wpAny _ _ (exec (Stmt.For _ _ _ _ _) _) _ _ _)); (fail_if_success (with_reducible show wpAny _ _ (exec (Stmt.While _ _ _ _) _) _ _ _)); (fail_if_success (with_reducible show wpAny _ _ (exec (Stmt.Assign [Expr.Name _ _] (Expr.ListComp _ _ _ _) _) _) _ _ _))))); (first | with_reducible (k_here; (with_reducible show wpAny _ _ (call (Value.builtin "len") [Value.ref _]) _ _ _); (refine len5 (News.isList (by k_asm) (by k_mem)) (by assumption) ?_); intro _ _) | with_reducible (k_here; (with_reducible show wpAny _ _ (subscriptTail _ _ (Value.ref _) (Value.int _ _)) _ _ _); refine' item_I ?lqz ?iqz ?bqz ?cqz ?_; (case lqz => exact News.isList (by k_asm) (by k_mem)); (case iqz => assumption); (case bqz => omega); (case cqz => omega); intro _) | walk1 | (k_here; (with_reducible show wpAny _ _ (subscriptTail _ _ (Value.ref _) (Value.int _ _)) _ _ _); refine' item_I ?lqz ?iqz ?bqz ?cqz ?_; (case lqz => exact News.isList (by k_asm) (by k_mem)); (case iqz => assumption); (case bqz => omega); (case cqz => omega); intro _)))) | (leave1; walk_say "STEP leave1"; try dsimp only) | fail "no step"))
  refine for_any ?_
  (repeat' (first | (k_unfold; (try dsimp only)) | (k_end; wrow_close) | ((((fail_if_success (with_reducible show wpAny _ _ (call (Value.builtin "dict.items") _ _) _ _ _)); (fail_if_success (with_reducible show wpAny _ _ (call (Value.type "range") _ _) _ _ _)); (fail_if_success (with_reducible show wpAny _ _ (call (Value.ref 112) _ _) _ _ _)); (fail_if_success (with_reducible show wpAny _ _ (eval (Expr.ListComp _ _ _ _) _) _ _ _)); (fail_if_success (with_reducible show wpAny _ _ (exec (Stmt.For _ _ _ _ _) _) _ _ _)); (fail_if_success (with_reducible show wpAny _ _ (exec (Stmt.While _ _ _ _) _) _ _ _)); (fail_if_success (with_reducible show wpAny _ _ (exec (Stmt.Assign [Expr.Name _ _] (Expr.ListComp _ _ _ _) _) _) _ _ _)))); first | (first | with_reducible (k_here; (with_reducible show wpAny _ _ (call (Value.builtin "len") [Value.ref _]) _ _ _); (refine len5 (News.isList (by k_asm) (by k_mem)) (by assumption) ?_); intro _ _) | with_reducible (k_here; (with_reducible show wpAny _ _ (subscriptTail _ _ (Value.ref _) (Value.int _ _)) _ _ _); refine' item_I ?lqz ?iqz ?bqz ?cqz ?_; (case lqz => exact News.isList (by k_asm) (by k_mem)); (case iqz => assumption); (case bqz => omega); (case cqz => omega); intro _) | walk1 | (k_here; (with_reducible show wpAny _ _ (subscriptTail _ _ (Value.ref _) (Value.int _ _)) _ _ _); refine' item_I ?lqz ?iqz ?bqz ?cqz ?_; (case lqz => exact News.isList (by k_asm) (by k_mem)); (case iqz => assumption); (case bqz => omega); (case cqz => omega); intro _)) | (dsimp only; ((((fail_if_success (with_reducible show wpAny _ _ (call (Value.builtin "dict.items") _ _) _ _ _)); (fail_if_success (with_reducible show wpAny _ _ (call (Value.type "range") _ _) _ _ _)); (fail_if_success (with_reducible show wpAny _ _ (call (Value.ref 112) _ _) _ _ _)); (fail_if_success (with_reducible show wpAny _ _ (eval (Expr.ListComp _ _ _ _) _) _ _ _)); (fail_if_success (with_reducible show wpAny _ _ (exec (Stmt.For _ _ _ _ _) _) _ _ _)); (fail_if_success (with_reducible show wpAny _ _ (exec (Stmt.While _ _ _ _) _) _ _ _)); (fail_if_success (with_reducible show wpAny _ _ (exec (Stmt.Assign [Expr.Name _ _] (Expr.ListComp _ _ _ _) _) _) _ _ _))))); (first | with_reducible (k_here; (with_reducible show wpAny _ _ (call (Value.builtin "len") [Value.ref _]) _ _ _); (refine len5 (News.isList (by k_asm) (by k_mem)) (by assumption) ?_); intro _ _) | with_reducible (k_here; (with_reducible show wpAny _ _ (subscriptTail _ _ (Value.ref _) (Value.int _ _)) _ _ _); refine' item_I ?lqz ?iqz ?bqz ?cqz ?_; (case lqz => exact News.isList (by k_asm) (by k_mem)); (case iqz => assumption); (case bqz => omega); (case cqz => omega); intro _) | walk1 | (k_here; (with_reducible show wpAny _ _ (subscriptTail _ _ (Value.ref _) (Value.int _ _)) _ _ _); refine' item_I ?lqz ?iqz ?bqz ?cqz ?_; (case lqz => exact News.isList (by k_asm) (by k_mem)); (case iqz => assumption); (case bqz => omega); (case cqz => omega); intro _)))) | (leave1; walk_say "STEP leave1"; try dsimp only) | fail "no step"))
  rename Fr _ _ _ _ => F5
  rename News _ _ _ _ => N5
  rename Obj.IsDictOf _ _ _ => hd5
  rename (_ == sysModules) = false => lo5
  rename ∀ p ∈ news, p.1 ≠ _ => ap5
  refine iter_listO (items := rv.toArray) (n := nr) [PySem.Str.ofString "sums", PySem.Str.ofString "row", PySem.Str.ofString "news", PySem.Str.ofString "taken", PySem.Str.ofString "value", PySem.Str.ofString "k"]
    (fun i m' nw gs => gs = s.gens ∧ ∃ (dS : Addr) (oS : Obj) (kvs : List (Int × Value)) (ps : List (Int × Int)), nw = (dS, oS) :: news ∧ (∀ p ∈ news, p.1 ≠ dS) ∧ oS.IsDictOf (intKind PySem.Challenge.rw_wa0038_01.row.prog w) kvs ∧ (dS == sysModules) = false ∧ IV kvs ps ∧ m' (PySem.Str.ofString "sums") = some (.ref dS) ∧ rowsGo (rows.drop i) ps = rowsGo rows [(0, 1)] ∧ ps.length ≤ 5 ^ i)
    (by rfl) F5 N5 ⟨rfl, _, _, _, [(0, 1)], rfl, ap5, hd5, lo5, ⟨rfl, ⟨_, rfl⟩, True.intro⟩, rfl, rfl, Nat.le_refl _⟩ ?_ ?_ ?_
  · rintro i m' nw gs ⟨_, dS, oS, kvs, ps, rfl, _⟩
    exact .tail _ hlr
  · rintro i v u nw h tk gs I oI hv ⟨rfl, dS, oS, kvs, ps, rfl, hap, hdS, loS, hiv, hsums, hgo, hpl⟩ off F6 N6
    refine cutT fun R hR => ?_
    have hil : i < rv.length := by
      have := (Array.getElem?_eq_some_iff.mp hv).1
      simpa using this
    have hin : i < rows.length := by rw [← hrw.1]; exact hil
    obtain ⟨row, hrow⟩ : ∃ row, rows[i]? = some row := ⟨_, List.getElem?_eq_getElem hin⟩
    obtain ⟨h5, hbnd, ra, vs, nra, hra, hmem, hints⟩ := hrw.2 i row hrow
    have ev : v = .ref ra := by
      have : rv[i]? = some v := by simpa using hv
      rw [hra] at this
      exact (Option.some.inj this).symm
    subst ev
    obtain ⟨hlt, hrow2⟩ := List.getElem?_eq_some_iff.mp hrow
    rw [List.drop_eq_getElem_cons hlt, hrow2, rowsGo] at hgo
    have hIS : I ≠ dS := fun e => off _ (.head _) e.symm
    have F7 := fr_track F6 hsums
    clear F6
    (repeat' (first | (k_unfold; (try dsimp only)) | (k_end; wrow_close) | ((((fail_if_success (with_reducible show wpAny _ _ (call (Value.builtin "dict.items") _ _) _ _ _)); (fail_if_success (with_reducible show wpAny _ _ (call (Value.type "range") _ _) _ _ _)); (fail_if_success (with_reducible show wpAny _ _ (call (Value.ref 112) _ _) _ _ _)); (fail_if_success (with_reducible show wpAny _ _ (eval (Expr.ListComp _ _ _ _) _) _ _ _)); (fail_if_success (with_reducible show wpAny _ _ (exec (Stmt.For _ _ _ _ _) _) _ _ _)); (fail_if_success (with_reducible show wpAny _ _ (exec (Stmt.While _ _ _ _) _) _ _ _)); (fail_if_success (with_reducible show wpAny _ _ (exec (Stmt.Assign [Expr.Name _ _] (Expr.ListComp _ _ _ _) _) _) _ _ _)))); first | (first | with_reducible (k_here; (with_reducible show wpAny _ _ (call (Value.builtin "len") [Value.ref _]) _ _ _); (refine len5 (News.isList (by k_asm) (by k_mem)) (by assumption) ?_); intro _ _) | with_reducible (k_here; (with_reducible show wpAny _ _ (subscriptTail _ _ (Value.ref _) (Value.int _ _)) _ _ _); refine' item_I ?lqz ?iqz ?bqz ?cqz ?_; (case lqz => exact News.isList (by k_asm) (by k_mem)); (case iqz => assumption); (case bqz => omega); (case cqz => omega); intro _) | walk1 | (k_here; (with_reducible show wpAny _ _ (subscriptTail _ _ (Value.ref _) (Value.int _ _)) _ _ _); refine' item_I ?lqz ?iqz ?bqz ?cqz ?_; (case lqz => exact News.isList (by k_asm) (by k_mem)); (case iqz => assumption); (case bqz => omega); (case cqz => omega); intro _)) | (dsimp only; ((((fail_if_success (with_reducible show wpAny _ _ (call (Value.builtin "dict.items") _ _) _ _ _)); (fail_if_success (with_reducible show wpAny _ _ (call (Value.type "range") _ _) _ _ _)); (fail_if_success (with_reducible show wpAny _ _ (call (Value.ref 112) _ _) _ _ _)); (fail_if_success (with_reducible show wpAny _ _ (eval (Expr.ListComp _ _ _ _) _) _ _ _)); (fail_if_success (with_reducible show wpAny _ _ (exec (Stmt.For _ _ _ _ _) _) _ _ _)); (fail_if_success (with_reducible show wpAny _ _ (exec (Stmt.While _ _ _ _) _) _ _ _)); (fail_if_success (with_reducible show wpAny _ _ (exec (Stmt.Assign [Expr.Name _ _] (Expr.ListComp _ _ _ _) _) _) _ _ _))))); (first | with_reducible (k_here; (with_reducible show wpAny _ _ (call (Value.builtin "len") [Value.ref _]) _ _ _); (refine len5 (News.isList (by k_asm) (by k_mem)) (by assumption) ?_); intro _ _) | with_reducible (k_here; (with_reducible show wpAny _ _ (subscriptTail _ _ (Value.ref _) (Value.int _ _)) _ _ _); refine' item_I ?lqz ?iqz ?bqz ?cqz ?_; (case lqz => exact News.isList (by k_asm) (by k_mem)); (case iqz => assumption); (case bqz => omega); (case cqz => omega); intro _) | walk1 | (k_here; (with_reducible show wpAny _ _ (subscriptTail _ _ (Value.ref _) (Value.int _ _)) _ _ _); refine' item_I ?lqz ?iqz ?bqz ?cqz ?_; (case lqz => exact News.isList (by k_asm) (by k_mem)); (case iqz => assumption); (case bqz => omega); (case cqz => omega); intro _)))) | (leave1; walk_say "STEP leave1"; try dsimp only) | fail "no step"))
    refine for_any ?_
    (repeat' (first | (k_unfold; (try dsimp only)) | (k_end; wrow_close) | ((((fail_if_success (with_reducible show wpAny _ _ (call (Value.builtin "dict.items") _ _) _ _ _)); (fail_if_success (with_reducible show wpAny _ _ (call (Value.type "range") _ _) _ _ _)); (fail_if_success (with_reducible show wpAny _ _ (call (Value.ref 112) _ _) _ _ _)); (fail_if_success (with_reducible show wpAny _ _ (eval (Expr.ListComp _ _ _ _) _) _ _ _)); (fail_if_success (with_reducible show wpAny _ _ (exec (Stmt.For _ _ _ _ _) _) _ _ _)); (fail_if_success (with_reducible show wpAny _ _ (exec (Stmt.While _ _ _ _) _) _ _ _)); (fail_if_success (with_reducible show wpAny _ _ (exec (Stmt.Assign [Expr.Name _ _] (Expr.ListComp _ _ _ _) _) _) _ _ _)))); first | (first | with_reducible (k_here; (with_reducible show wpAny _ _ (call (Value.builtin "len") [Value.ref _]) _ _ _); (refine len5 (News.isList (by k_asm) (by k_mem)) (by assumption) ?_); intro _ _) | with_reducible (k_here; (with_reducible show wpAny _ _ (subscriptTail _ _ (Value.ref _) (Value.int _ _)) _ _ _); refine' item_I ?lqz ?iqz ?bqz ?cqz ?_; (case lqz => exact News.isList (by k_asm) (by k_mem)); (case iqz => assumption); (case bqz => omega); (case cqz => omega); intro _) | walk1 | (k_here; (with_reducible show wpAny _ _ (subscriptTail _ _ (Value.ref _) (Value.int _ _)) _ _ _); refine' item_I ?lqz ?iqz ?bqz ?cqz ?_; (case lqz => exact News.isList (by k_asm) (by k_mem)); (case iqz => assumption); (case bqz => omega); (case cqz => omega); intro _)) | (dsimp only; ((((fail_if_success (with_reducible show wpAny _ _ (call (Value.builtin "dict.items") _ _) _ _ _)); (fail_if_success (with_reducible show wpAny _ _ (call (Value.type "range") _ _) _ _ _)); (fail_if_success (with_reducible show wpAny _ _ (call (Value.ref 112) _ _) _ _ _)); (fail_if_success (with_reducible show wpAny _ _ (eval (Expr.ListComp _ _ _ _) _) _ _ _)); (fail_if_success (with_reducible show wpAny _ _ (exec (Stmt.For _ _ _ _ _) _) _ _ _)); (fail_if_success (with_reducible show wpAny _ _ (exec (Stmt.While _ _ _ _) _) _ _ _)); (fail_if_success (with_reducible show wpAny _ _ (exec (Stmt.Assign [Expr.Name _ _] (Expr.ListComp _ _ _ _) _) _) _ _ _))))); (first | with_reducible (k_here; (with_reducible show wpAny _ _ (call (Value.builtin "len") [Value.ref _]) _ _ _); (refine len5 (News.isList (by k_asm) (by k_mem)) (by assumption) ?_); intro _ _) | with_reducible (k_here; (with_reducible show wpAny _ _ (subscriptTail _ _ (Value.ref _) (Value.int _ _)) _ _ _); refine' item_I ?lqz ?iqz ?bqz ?cqz ?_; (case lqz => exact News.isList (by k_asm) (by k_mem)); (case iqz => assumption); (case bqz => omega); (case cqz => omega); intro _) | walk1 | (k_here; (with_reducible show wpAny _ _ (subscriptTail _ _ (Value.ref _) (Value.int _ _)) _ _ _); refine' item_I ?lqz ?iqz ?bqz ?cqz ?_; (case lqz => exact News.isList (by k_asm) (by k_mem)); (case iqz => assumption); (case bqz => omega); (case cqz => omega); intro _)))) | (leave1; walk_say "STEP leave1"; try dsimp only) | fail "no step"))
    rename_i dN _ oN loN _ _ hdN _ l10 _ F8 N8
    have hvl : vs.toArray.size = 5 := by rw [List.size_toArray, hints.length]; exact h5
    refine iter_items [PySem.Str.ofString "taken", PySem.Str.ofString "value", PySem.Str.ofString "k"]
      (fun j m' nw gs => gs = s.gens ∧ ∃ (oN : Obj) (kvs2 : List (Int × Value)) (ps2 : List (Int × Int)), nw = (dN, oN) :: (I, oI) :: (dS, oS) :: news ∧ oN.IsDictOf (intKind PySem.Challenge.rw_wa0038_01.row.prog w) kvs2 ∧ IV kvs2 ps2 ∧ itemsGo row (ps.drop j) ps2 = itemsGo row ps [] ∧ ps2.length ≤ 5 * j)
      (by rfl) F8 N8 hdS loS ⟨rfl, oN, [], [], rfl, hdN, True.intro, rfl, Nat.zero_le _⟩ ?_ ?_ ?_
    · rintro j m' nw gs ⟨_, oN, kvs2, ps2, rfl, _⟩
      exact .tail _ (.tail _ (.head _))
    · rintro j kk v tkk u2 nw2 h2 tk2 gs2 I2 T2 oI2 hkv ⟨rfl, oN2, kvs2, ps2, rfl, hd2, hiv2, hgo2, hl2⟩ off2 offT hTI F9 N9
      refine cutT fun R hR => ?_
      obtain ⟨xv, tx, hps, rfl⟩ := hiv.at hkv
      obtain ⟨hltj, hps2⟩ := List.getElem?_eq_some_iff.mp hps
      rw [List.drop_eq_getElem_cons hltj, hps2, itemsGo] at hgo2
      (repeat' (first | (k_unfold; (try dsimp only)) | (k_end; wrow_close) | ((((fail_if_success (with_reducible show wpAny _ _ (call (Value.builtin "dict.items") _ _) _ _ _)); (fail_if_success (with_reducible show wpAny _ _ (call (Value.type "range") _ _) _ _ _)); (fail_if_success (with_reducible show wpAny _ _ (call (Value.ref 112) _ _) _ _ _)); (fail_if_success (with_reducible show wpAny _ _ (eval (Expr.ListComp _ _ _ _) _) _ _ _)); (fail_if_success (with_reducible show wpAny _ _ (exec (Stmt.For _ _ _ _ _) _) _ _ _)); (fail_if_success (with_reducible show wpAny _ _ (exec (Stmt.While _ _ _ _) _) _ _ _)); (fail_if_success (with_reducible show wpAny _ _ (exec (Stmt.Assign [Expr.Name _ _] (Expr.ListComp _ _ _ _) _) _) _ _ _)))); first | (first | with_reducible (k_here; (with_reducible show wpAny _ _ (call (Value.builtin "len") [Value.ref _]) _ _ _); (refine len5 (News.isList (by k_asm) (by k_mem)) (by assumption) ?_); intro _ _) | with_reducible (k_here; (with_reducible show wpAny _ _ (subscriptTail _ _ (Value.ref _) (Value.int _ _)) _ _ _); refine' item_I ?lqz ?iqz ?bqz ?cqz ?_; (case lqz => exact News.isList (by k_asm) (by k_mem)); (case iqz => assumption); (case bqz => omega); (case cqz => omega); intro _) | walk1 | (k_here; (with_reducible show wpAny _ _ (subscriptTail _ _ (Value.ref _) (Value.int _ _)) _ _ _); refine' item_I ?lqz ?iqz ?bqz ?cqz ?_; (case lqz => exact News.isList (by k_asm) (by k_mem)); (case iqz => assumption); (case bqz => omega); (case cqz => omega); intro _)) | (dsimp only; ((((fail_if_success (with_reducible show wpAny _ _ (call (Value.builtin "dict.items") _ _) _ _ _)); (fail_if_success (with_reducible show wpAny _ _ (call (Value.type "range") _ _) _ _ _)); (fail_if_success (with_reducible show wpAny _ _ (call (Value.ref 112) _ _) _ _ _)); (fail_if_success (with_reducible show wpAny _ _ (eval (Expr.ListComp _ _ _ _) _) _ _ _)); (fail_if_success (with_reducible show wpAny _ _ (exec (Stmt.For _ _ _ _ _) _) _ _ _)); (fail_if_success (with_reducible show wpAny _ _ (exec (Stmt.While _ _ _ _) _) _ _ _)); (fail_if_success (with_reducible show wpAny _ _ (exec (Stmt.Assign [Expr.Name _ _] (Expr.ListComp _ _ _ _) _) _) _ _ _))))); (first | with_reducible (k_here; (with_reducible show wpAny _ _ (call (Value.builtin "len") [Value.ref _]) _ _ _); (refine len5 (News.isList (by k_asm) (by k_mem)) (by assumption) ?_); intro _ _) | with_reducible (k_here; (with_reducible show wpAny _ _ (subscriptTail _ _ (Value.ref _) (Value.int _ _)) _ _ _); refine' item_I ?lqz ?iqz ?bqz ?cqz ?_; (case lqz => exact News.isList (by k_asm) (by k_mem)); (case iqz => assumption); (case bqz => omega); (case cqz => omega); intro _) | walk1 | (k_here; (with_reducible show wpAny _ _ (subscriptTail _ _ (Value.ref _) (Value.int _ _)) _ _ _); refine' item_I ?lqz ?iqz ?bqz ?cqz ?_; (case lqz => exact News.isList (by k_asm) (by k_mem)); (case iqz => assumption); (case bqz => omega); (case cqz => omega); intro _)))) | (leave1; walk_say "STEP leave1"; try dsimp only) | fail "no step"))
      refine for_any ?_
      (repeat' (first | (k_unfold; (try dsimp only)) | (k_end; wrow_close) | ((((fail_if_success (with_reducible show wpAny _ _ (call (Value.builtin "dict.items") _ _) _ _ _)); (fail_if_success (with_reducible show wpAny _ _ (call (Value.type "range") _ _) _ _ _)); (fail_if_success (with_reducible show wpAny _ _ (call (Value.ref 112) _ _) _ _ _)); (fail_if_success (with_reducible show wpAny _ _ (eval (Expr.ListComp _ _ _ _) _) _ _ _)); (fail_if_success (with_reducible show wpAny _ _ (exec (Stmt.For _ _ _ _ _) _) _ _ _)); (fail_if_success (with_reducible show wpAny _ _ (exec (Stmt.While _ _ _ _) _) _ _ _)); (fail_if_success (with_reducible show wpAny _ _ (exec (Stmt.Assign [Expr.Name _ _] (Expr.ListComp _ _ _ _) _) _) _ _ _)))); first | (first | with_reducible (k_here; (with_reducible show wpAny _ _ (call (Value.builtin "len") [Value.ref _]) _ _ _); (refine len5 (News.isList (by k_asm) (by k_mem)) (by assumption) ?_); intro _ _) | with_reducible (k_here; (with_reducible show wpAny _ _ (subscriptTail _ _ (Value.ref _) (Value.int _ _)) _ _ _); refine' item_I ?lqz ?iqz ?bqz ?cqz ?_; (case lqz => exact News.isList (by k_asm) (by k_mem)); (case iqz => assumption); (case bqz => omega); (case cqz => omega); intro _) | walk1 | (k_here; (with_reducible show wpAny _ _ (subscriptTail _ _ (Value.ref _) (Value.int _ _)) _ _ _); refine' item_I ?lqz ?iqz ?bqz ?cqz ?_; (case lqz => exact News.isList (by k_asm) (by k_mem)); (case iqz => assumption); (case bqz => omega); (case cqz => omega); intro _)) | (dsimp only; ((((fail_if_success (with_reducible show wpAny _ _ (call (Value.builtin "dict.items") _ _) _ _ _)); (fail_if_success (with_reducible show wpAny _ _ (call (Value.type "range") _ _) _ _ _)); (fail_if_success (with_reducible show wpAny _ _ (call (Value.ref 112) _ _) _ _ _)); (fail_if_success (with_reducible show wpAny _ _ (eval (Expr.ListComp _ _ _ _) _) _ _ _)); (fail_if_success (with_reducible show wpAny _ _ (exec (Stmt.For _ _ _ _ _) _) _ _ _)); (fail_if_success (with_reducible show wpAny _ _ (exec (Stmt.While _ _ _ _) _) _ _ _)); (fail_if_success (with_reducible show wpAny _ _ (exec (Stmt.Assign [Expr.Name _ _] (Expr.ListComp _ _ _ _) _) _) _ _ _))))); (first | with_reducible (k_here; (with_reducible show wpAny _ _ (call (Value.builtin "len") [Value.ref _]) _ _ _); (refine len5 (News.isList (by k_asm) (by k_mem)) (by assumption) ?_); intro _ _) | with_reducible (k_here; (with_reducible show wpAny _ _ (subscriptTail _ _ (Value.ref _) (Value.int _ _)) _ _ _); refine' item_I ?lqz ?iqz ?bqz ?cqz ?_; (case lqz => exact News.isList (by k_asm) (by k_mem)); (case iqz => assumption); (case bqz => omega); (case cqz => omega); intro _) | walk1 | (k_here; (with_reducible show wpAny _ _ (subscriptTail _ _ (Value.ref _) (Value.int _ _)) _ _ _); refine' item_I ?lqz ?iqz ?bqz ?cqz ?_; (case lqz => exact News.isList (by k_asm) (by k_mem)); (case iqz => assumption); (case bqz => omega); (case cqz => omega); intro _)))) | (leave1; walk_say "STEP leave1"; try dsimp only) | fail "no step"))
      rename Fr _ _ _ _ => F10
      rename News _ _ _ _ => N10
      have off2' : ∀ oX : Obj, ∀ p ∈ (dN, oX) :: (I, oI) :: (dS, oS) :: news, p.1 ≠ I2 := fun oX p hp => by
        rcases List.mem_cons.mp hp with rfl | hp
        · exact off2 (dN, oN2) (.head _)
        · exact off2 p (.tail _ hp)
      have N10b : News _ _ _ ((I2, oI2) :: (dN, oN2) :: (I, oI) :: (dS, oS) :: news) := fun p hp => N10 p (.tail _ hp)
      refine call_range_3 (by decide) ?_
      refine iter_rangeO (a := ((5 : Nat) : Int) - 1) (b := -1) (c := -1) 5 [PySem.Str.ofString "k", PySem.Str.ofString "value"]
        (fun i3 m' nw gs => gs = s.gens ∧ ∃ (oN : Obj) (kvs3 : List (Int × Value)) (ps3 : List (Int × Int)) (v3 : Int) (t3 : Tok), nw = (I2, oI2) :: (dN, oN) :: (I, oI) :: (dS, oS) :: news ∧ oN.IsDictOf (intKind PySem.Challenge.rw_wa0038_01.row.prog w) kvs3 ∧ IV kvs3 ps3 ∧ m' (PySem.Str.ofString "value") = some (.int v3 t3) ∧ innerGo row kk ([4, 3, 2, 1, 0].drop i3) v3 ps3 = innerGo row kk [4, 3, 2, 1, 0] xv ps2 ∧ ps3.length ≤ 5 * j + i3)
        (by rfl) (F10.push _) (N10b.pushKeep _) (IsRange.new _ _ _ _ _ _ _) (by decide) (by decide) ⟨rfl, oN2, kvs2, ps2, xv, _, rfl, hd2, hiv2, rfl, rfl, by omega⟩ ?_ ?_
      · rintro i3 tv u3 nw3 h3 tk3 gs3 I3 oI3 hi3 ⟨rfl, oN3, kvs3, ps3, v3, t3, rfl, hd3, hiv3, hval, hgo3, hl3⟩ off3 F11 N11
        refine cutT fun R hR => ?_
        have F12 := fr_track F11 hval
        clear F11
        obtain ⟨kI, hkI, hkE, hk4⟩ : ∃ kI : Nat, kI < 5 ∧ ((5 : Nat) : Int) - 1 + (i3 : Int) * (-1) = (kI : Int) ∧ kI = 4 - i3 := ⟨4 - i3, by omega, by omega, rfl⟩
        rw [hkE]
        have hIN : I ≠ dN := Nat.ne_of_lt l10.1
        have hSN : dS ≠ dN := Nat.ne_of_lt l10.2.1
        have hnN : ∀ p ∈ news, p.1 ≠ dN := fun p hp => Nat.ne_of_lt (ktn_ltOf l10.2.2 p hp)
        have hI2N : I2 ≠ dN := fun e => off2 _ (.head _) e.symm
        have hI3N : I3 ≠ dN := fun e => off3 _ (.tail _ (.head _)) e.symm
        rw [drop5 i3 hi3, ← hk4, innerGo] at hgo3
        (repeat' (first | (k_unfold; (try dsimp only)) | (k_end; wrow_close) | ((((fail_if_success (with_reducible show wpAny _ _ (call (Value.builtin "dict.items") _ _) _ _ _)); (fail_if_success (with_reducible show wpAny _ _ (call (Value.type "range") _ _) _ _ _)); (fail_if_success (with_reducible show wpAny _ _ (call (Value.ref 112) _ _) _ _ _)); (fail_if_success (with_reducible show wpAny _ _ (eval (Expr.ListComp _ _ _ _) _) _ _ _)); (fail_if_success (with_reducible show wpAny _ _ (exec (Stmt.For _ _ _ _ _) _) _ _ _)); (fail_if_success (with_reducible show wpAny _ _ (exec (Stmt.While _ _ _ _) _) _ _ _)); (fail_if_success (with_reducible show wpAny _ _ (exec (Stmt.Assign [Expr.Name _ _] (Expr.ListComp _ _ _ _) _) _) _ _ _)))); first | (first | with_reducible (k_here; (with_reducible show wpAny _ _ (call (Value.builtin "len") [Value.ref _]) _ _ _); (refine len5 (News.isList (by k_asm) (by k_mem)) (by assumption) ?_); intro _ _) | with_reducible (k_here; (with_reducible show wpAny _ _ (subscriptTail _ _ (Value.ref _) (Value.int _ _)) _ _ _); refine' item_I ?lqz ?iqz ?bqz ?cqz ?_; (case lqz => exact News.isList (by k_asm) (by k_mem)); (case iqz => assumption); (case bqz => omega); (case cqz => omega); intro _) | walk1 | (k_here; (with_reducible show wpAny _ _ (subscriptTail _ _ (Value.ref _) (Value.int _ _)) _ _ _); refine' item_I ?lqz ?iqz ?bqz ?cqz ?_; (case lqz => exact News.isList (by k_asm) (by k_mem)); (case iqz => assumption); (case bqz => omega); (case cqz => omega); intro _)) | (dsimp only; ((((fail_if_success (with_reducible show wpAny _ _ (call (Value.builtin "dict.items") _ _) _ _ _)); (fail_if_success (with_reducible show wpAny _ _ (call (Value.type "range") _ _) _ _ _)); (fail_if_success (with_reducible show wpAny _ _ (call (Value.ref 112) _ _) _ _ _)); (fail_if_success (with_reducible show wpAny _ _ (eval (Expr.ListComp _ _ _ _) _) _ _ _)); (fail_if_success (with_reducible show wpAny _ _ (exec (Stmt.For _ _ _ _ _) _) _ _ _)); (fail_if_success (with_reducible show wpAny _ _ (exec (Stmt.While _ _ _ _) _) _ _ _)); (fail_if_success (with_reducible show wpAny _ _ (exec (Stmt.Assign [Expr.Name _ _] (Expr.ListComp _ _ _ _) _) _) _ _ _))))); (first | with_reducible (k_here; (with_reducible show wpAny _ _ (call (Value.builtin "len") [Value.ref _]) _ _ _); (refine len5 (News.isList (by k_asm) (by k_mem)) (by assumption) ?_); intro _ _) | with_reducible (k_here; (with_reducible show wpAny _ _ (subscriptTail _ _ (Value.ref _) (Value.int _ _)) _ _ _); refine' item_I ?lqz ?iqz ?bqz ?cqz ?_; (case lqz => exact News.isList (by k_asm) (by k_mem)); (case iqz => assumption); (case bqz => omega); (case cqz => omega); intro _) | walk1 | (k_here; (with_reducible show wpAny _ _ (subscriptTail _ _ (Value.ref _) (Value.int _ _)) _ _ _); refine' item_I ?lqz ?iqz ?bqz ?cqz ?_; (case lqz => exact News.isList (by k_asm) (by k_mem)); (case iqz => assumption); (case bqz => omega); (case cqz => omega); intro _)))) | (leave1; walk_say "STEP leave1"; try dsimp only) | fail "no step"))
        · rename Int.fmod _ 2 = 1 => hc
          rw [Int.toNat_natCast] at hc
          rw [if_pos hc] at hgo3
          refine hR _ _ ?_
          exact ⟨_, _, _, _, _, rfl, by k_asm, by k_asm, off3, by
            intro y hy
            simp only [off_ne hy (x := PySem.Str.ofString "k") (by rfl), off_ne hy (x := PySem.Str.ofString "value") (by rfl), hy, Bool.false_eq_true, if_false], rfl, oN3, kvs3, ps3, -v3, _, rfl, hd3, hiv3, rfl, hgo3, by omega⟩
        · rename Int.fmod _ 2 ≠ 1 => hc
          rw [Int.toNat_natCast] at hc
          rw [if_neg hc] at hgo3
          try rw [Int.toNat_natCast]
          refine get2I (by k_asm) (.tail _ (.tail _ (.head _))) hd3 loN hiv3 ?_
          intro t15 k15
          (repeat' (first | (k_unfold; (try dsimp only)) | (k_end; wrow_close) | ((((fail_if_success (with_reducible show wpAny _ _ (call (Value.builtin "dict.items") _ _) _ _ _)); (fail_if_success (with_reducible show wpAny _ _ (call (Value.type "range") _ _) _ _ _)); (fail_if_success (with_reducible show wpAny _ _ (call (Value.ref 112) _ _) _ _ _)); (fail_if_success (with_reducible show wpAny _ _ (eval (Expr.ListComp _ _ _ _) _) _ _ _)); (fail_if_success (with_reducible show wpAny _ _ (exec (Stmt.For _ _ _ _ _) _) _ _ _)); (fail_if_success (with_reducible show wpAny _ _ (exec (Stmt.While _ _ _ _) _) _ _ _)); (fail_if_success (with_reducible show wpAny _ _ (exec (Stmt.Assign [Expr.Name _ _] (Expr.ListComp _ _ _ _) _) _) _ _ _)))); first | (first | with_reducible (k_here; (with_reducible show wpAny _ _ (call (Value.builtin "len") [Value.ref _]) _ _ _); (refine len5 (News.isList (by k_asm) (by k_mem)) (by assumption) ?_); intro _ _) | with_reducible (k_here; (with_reducible show wpAny _ _ (subscriptTail _ _ (Value.ref _) (Value.int _ _)) _ _ _); refine' item_I ?lqz ?iqz ?bqz ?cqz ?_; (case lqz => exact News.isList (by k_asm) (by k_mem)); (case iqz => assumption); (case bqz => omega); (case cqz => omega); intro _) | walk1 | (k_here; (with_reducible show wpAny _ _ (subscriptTail _ _ (Value.ref _) (Value.int _ _)) _ _ _); refine' item_I ?lqz ?iqz ?bqz ?cqz ?_; (case lqz => exact News.isList (by k_asm) (by k_mem)); (case iqz => assumption); (case bqz => omega); (case cqz => omega); intro _)) | (dsimp only; ((((fail_if_success (with_reducible show wpAny _ _ (call (Value.builtin "dict.items") _ _) _ _ _)); (fail_if_success (with_reducible show wpAny _ _ (call (Value.type "range") _ _) _ _ _)); (fail_if_success (with_reducible show wpAny _ _ (call (Value.ref 112) _ _) _ _ _)); (fail_if_success (with_reducible show wpAny _ _ (eval (Expr.ListComp _ _ _ _) _) _ _ _)); (fail_if_success (with_reducible show wpAny _ _ (exec (Stmt.For _ _ _ _ _) _) _ _ _)); (fail_if_success (with_reducible show wpAny _ _ (exec (Stmt.While _ _ _ _) _) _ _ _)); (fail_if_success (with_reducible show wpAny _ _ (exec (Stmt.Assign [Expr.Name _ _] (Expr.ListComp _ _ _ _) _) _) _ _ _))))); (first | with_reducible (k_here; (with_reducible show wpAny _ _ (call (Value.builtin "len") [Value.ref _]) _ _ _); (refine len5 (News.isList (by k_asm) (by k_mem)) (by assumption) ?_); intro _ _) | with_reducible (k_here; (with_reducible show wpAny _ _ (subscriptTail _ _ (Value.ref _) (Value.int _ _)) _ _ _); refine' item_I ?lqz ?iqz ?bqz ?cqz ?_; (case lqz => exact News.isList (by k_asm) (by k_mem)); (case iqz => assumption); (case bqz => omega); (case cqz => omega); intro _) | walk1 | (k_here; (with_reducible show wpAny _ _ (subscriptTail _ _ (Value.ref _) (Value.int _ _)) _ _ _); refine' item_I ?lqz ?iqz ?bqz ?cqz ?_; (case lqz => exact News.isList (by k_asm) (by k_mem)); (case iqz => assumption); (case bqz => omega); (case cqz => omega); intro _)))) | (leave1; walk_say "STEP leave1"; try dsimp only) | fail "no step"))
          have hbk := hbnd (row.getD kI 0) (getD_mem (by omega))
          try rw [Int.toNat_natCast]
          refine PyProof.Rows.mul_int (hm := IntMulOk.of_right (intBits_le_64 (by omega) (by omega))) ?_
          (repeat' (first | (k_unfold; (try dsimp only)) | (k_end; wrow_close) | ((((fail_if_success (with_reducible show wpAny _ _ (call (Value.builtin "dict.items") _ _) _ _ _)); (fail_if_success (with_reducible show wpAny _ _ (call (Value.type "range") _ _) _ _ _)); (fail_if_success (with_reducible show wpAny _ _ (call (Value.ref 112) _ _) _ _ _)); (fail_if_success (with_reducible show wpAny _ _ (eval (Expr.ListComp _ _ _ _) _) _ _ _)); (fail_if_success (with_reducible show wpAny _ _ (exec (Stmt.For _ _ _ _ _) _) _ _ _)); (fail_if_success (with_reducible show wpAny _ _ (exec (Stmt.While _ _ _ _) _) _ _ _)); (fail_if_success (with_reducible show wpAny _ _ (exec (Stmt.Assign [Expr.Name _ _] (Expr.ListComp _ _ _ _) _) _) _ _ _)))); first | (first | with_reducible (k_here; (with_reducible show wpAny _ _ (call (Value.builtin "len") [Value.ref _]) _ _ _); (refine len5 (News.isList (by k_asm) (by k_mem)) (by assumption) ?_); intro _ _) | with_reducible (k_here; (with_reducible show wpAny _ _ (subscriptTail _ _ (Value.ref _) (Value.int _ _)) _ _ _); refine' item_I ?lqz ?iqz ?bqz ?cqz ?_; (case lqz => exact News.isList (by k_asm) (by k_mem)); (case iqz => assumption); (case bqz => omega); (case cqz => omega); intro _) | walk1 | (k_here; (with_reducible show wpAny _ _ (subscriptTail _ _ (Value.ref _) (Value.int _ _)) _ _ _); refine' item_I ?lqz ?iqz ?bqz ?cqz ?_; (case lqz => exact News.isList (by k_asm) (by k_mem)); (case iqz => assumption); (case bqz => omega); (case cqz => omega); intro _)) | (dsimp only; ((((fail_if_success (with_reducible show wpAny _ _ (call (Value.builtin "dict.items") _ _) _ _ _)); (fail_if_success (with_reducible show wpAny _ _ (call (Value.type "range") _ _) _ _ _)); (fail_if_success (with_reducible show wpAny _ _ (call (Value.ref 112) _ _) _ _ _)); (fail_if_success (with_reducible show wpAny _ _ (eval (Expr.ListComp _ _ _ _) _) _ _ _)); (fail_if_success (with_reducible show wpAny _ _ (exec (Stmt.For _ _ _ _ _) _) _ _ _)); (fail_if_success (with_reducible show wpAny _ _ (exec (Stmt.While _ _ _ _) _) _ _ _)); (fail_if_success (with_reducible show wpAny _ _ (exec (Stmt.Assign [Expr.Name _ _] (Expr.ListComp _ _ _ _) _) _) _ _ _))))); (first | with_reducible (k_here; (with_reducible show wpAny _ _ (call (Value.builtin "len") [Value.ref _]) _ _ _); (refine len5 (News.isList (by k_asm) (by k_mem)) (by assumption) ?_); intro _ _) | with_reducible (k_here; (with_reducible show wpAny _ _ (subscriptTail _ _ (Value.ref _) (Value.int _ _)) _ _ _); refine' item_I ?lqz ?iqz ?bqz ?cqz ?_; (case lqz => exact News.isList (by k_asm) (by k_mem)); (case iqz => assumption); (case bqz => omega); (case cqz => omega); intro _) | walk1 | (k_here; (with_reducible show wpAny _ _ (subscriptTail _ _ (Value.ref _) (Value.int _ _)) _ _ _); refine' item_I ?lqz ?iqz ?bqz ?cqz ?_; (case lqz => exact News.isList (by k_asm) (by k_mem)); (case iqz => assumption); (case bqz => omega); (case cqz => omega); intro _)))) | (leave1; walk_say "STEP leave1"; try dsimp only) | fail "no step"))
          try rw [Int.toNat_natCast]
          refine setI (by k_asm) (by k_asm) (UpdF.tail hI3N (UpdF.tail hI2N (UpdF.head (by
            intro p hp
            rcases List.mem_cons.mp hp with rfl | hp
            · exact hIN
            · rcases List.mem_cons.mp hp with rfl | hp
              · exact hSN
              · exact hnN p hp)))) hd3 hiv3 (by (have h55 : 5 ^ i ≤ 5 ^ 5 := Nat.pow_le_pow_right (by decide) (by omega)); (have h56 : (5 : Nat) ^ 5 = 3125 := by decide); omega) ?_
          intro h16 o16 kvs16 k16 F16 N16 hd16 hiv16
          (repeat' (first | (k_unfold; (try dsimp only)) | (k_end; wrow_close) | ((((fail_if_success (with_reducible show wpAny _ _ (call (Value.builtin "dict.items") _ _) _ _ _)); (fail_if_success (with_reducible show wpAny _ _ (call (Value.type "range") _ _) _ _ _)); (fail_if_success (with_reducible show wpAny _ _ (call (Value.ref 112) _ _) _ _ _)); (fail_if_success (with_reducible show wpAny _ _ (eval (Expr.ListComp _ _ _ _) _) _ _ _)); (fail_if_success (with_reducible show wpAny _ _ (exec (Stmt.For _ _ _ _ _) _) _ _ _)); (fail_if_success (with_reducible show wpAny _ _ (exec (Stmt.While _ _ _ _) _) _ _ _)); (fail_if_success (with_reducible show wpAny _ _ (exec (Stmt.Assign [Expr.Name _ _] (Expr.ListComp _ _ _ _) _) _) _ _ _)))); first | (first | with_reducible (k_here; (with_reducible show wpAny _ _ (call (Value.builtin "len") [Value.ref _]) _ _ _); (refine len5 (News.isList (by k_asm) (by k_mem)) (by assumption) ?_); intro _ _) | with_reducible (k_here; (with_reducible show wpAny _ _ (subscriptTail _ _ (Value.ref _) (Value.int _ _)) _ _ _); refine' item_I ?lqz ?iqz ?bqz ?cqz ?_; (case lqz => exact News.isList (by k_asm) (by k_mem)); (case iqz => assumption); (case bqz => omega); (case cqz => omega); intro _) | walk1 | (k_here; (with_reducible show wpAny _ _ (subscriptTail _ _ (Value.ref _) (Value.int _ _)) _ _ _); refine' item_I ?lqz ?iqz ?bqz ?cqz ?_; (case lqz => exact News.isList (by k_asm) (by k_mem)); (case iqz => assumption); (case bqz => omega); (case cqz => omega); intro _)) | (dsimp only; ((((fail_if_success (with_reducible show wpAny _ _ (call (Value.builtin "dict.items") _ _) _ _ _)); (fail_if_success (with_reducible show wpAny _ _ (call (Value.type "range") _ _) _ _ _)); (fail_if_success (with_reducible show wpAny _ _ (call (Value.ref 112) _ _) _ _ _)); (fail_if_success (with_reducible show wpAny _ _ (eval (Expr.ListComp _ _ _ _) _) _ _ _)); (fail_if_success (with_reducible show wpAny _ _ (exec (Stmt.For _ _ _ _ _) _) _ _ _)); (fail_if_success (with_reducible show wpAny _ _ (exec (Stmt.While _ _ _ _) _) _ _ _)); (fail_if_success (with_reducible show wpAny _ _ (exec (Stmt.Assign [Expr.Name _ _] (Expr.ListComp _ _ _ _) _) _) _ _ _))))); (first | with_reducible (k_here; (with_reducible show wpAny _ _ (call (Value.builtin "len") [Value.ref _]) _ _ _); (refine len5 (News.isList (by k_asm) (by k_mem)) (by assumption) ?_); intro _ _) | with_reducible (k_here; (with_reducible show wpAny _ _ (subscriptTail _ _ (Value.ref _) (Value.int _ _)) _ _ _); refine' item_I ?lqz ?iqz ?bqz ?cqz ?_; (case lqz => exact News.isList (by k_asm) (by k_mem)); (case iqz => assumption); (case bqz => omega); (case cqz => omega); intro _) | walk1 | (k_here; (with_reducible show wpAny _ _ (subscriptTail _ _ (Value.ref _) (Value.int _ _)) _ _ _); refine' item_I ?lqz ?iqz ?bqz ?cqz ?_; (case lqz => exact News.isList (by k_asm) (by k_mem)); (case iqz => assumption); (case bqz => omega); (case cqz => omega); intro _)))) | (leave1; walk_say "STEP leave1"; try dsimp only) | fail "no step"))
          have hpl3 := putI_len ps3 (kk + 2 ^ kI) (getI ps3 (kk + 2 ^ kI) + v3 * row.getD kI 0)
          refine hR _ _ ?_
          exact ⟨_, _, _, _, _, rfl, by k_asm, by k_asm, by
            intro p hp
            rcases List.mem_cons.mp hp with rfl | hp
            · exact off3 _ (.head _)
            · rcases List.mem_cons.mp hp with rfl | hp
              · exact Ne.symm hI3N
              · exact off3 p (.tail _ (.tail _ hp)), by
            intro y hy
            simp only [off_ne hy (x := PySem.Str.ofString "k") (by rfl), off_ne hy (x := PySem.Str.ofString "value") (by rfl), hy, Bool.false_eq_true, if_false], rfl, o16, kvs16, _, v3, _, rfl, hd16, hiv16, rfl, hgo3, by omega⟩
      · rintro u3 nw3 h3 tk3 gs3 ⟨rfl, oN3, kvs3, ps3, v3, t3, rfl, hd3, hiv3, hval, hgo3, hl3⟩ F11 N11
        dsimp only
        (repeat' (first | (k_unfold; (try dsimp only)) | (k_end; wrow_close) | ((((fail_if_success (with_reducible show wpAny _ _ (call (Value.builtin "dict.items") _ _) _ _ _)); (fail_if_success (with_reducible show wpAny _ _ (call (Value.type "range") _ _) _ _ _)); (fail_if_success (with_reducible show wpAny _ _ (call (Value.ref 112) _ _) _ _ _)); (fail_if_success (with_reducible show wpAny _ _ (eval (Expr.ListComp _ _ _ _) _) _ _ _)); (fail_if_success (with_reducible show wpAny _ _ (exec (Stmt.For _ _ _ _ _) _) _ _ _)); (fail_if_success (with_reducible show wpAny _ _ (exec (Stmt.While _ _ _ _) _) _ _ _)); (fail_if_success (with_reducible show wpAny _ _ (exec (Stmt.Assign [Expr.Name _ _] (Expr.ListComp _ _ _ _) _) _) _ _ _)))); first | (first | with_reducible (k_here; (with_reducible show wpAny _ _ (call (Value.builtin "len") [Value.ref _]) _ _ _); (refine len5 (News.isList (by k_asm) (by k_mem)) (by assumption) ?_); intro _ _) | with_reducible (k_here; (with_reducible show wpAny _ _ (subscriptTail _ _ (Value.ref _) (Value.int _ _)) _ _ _); refine' item_I ?lqz ?iqz ?bqz ?cqz ?_; (case lqz => exact News.isList (by k_asm) (by k_mem)); (case iqz => assumption); (case bqz => omega); (case cqz => omega); intro _) | walk1 | (k_here; (with_reducible show wpAny _ _ (subscriptTail _ _ (Value.ref _) (Value.int _ _)) _ _ _); refine' item_I ?lqz ?iqz ?bqz ?cqz ?_; (case lqz => exact News.isList (by k_asm) (by k_mem)); (case iqz => assumption); (case bqz => omega); (case cqz => omega); intro _)) | (dsimp only; ((((fail_if_success (with_reducible show wpAny _ _ (call (Value.builtin "dict.items") _ _) _ _ _)); (fail_if_success (with_reducible show wpAny _ _ (call (Value.type "range") _ _) _ _ _)); (fail_if_success (with_reducible show wpAny _ _ (call (Value.ref 112) _ _) _ _ _)); (fail_if_success (with_reducible show wpAny _ _ (eval (Expr.ListComp _ _ _ _) _) _ _ _)); (fail_if_success (with_reducible show wpAny _ _ (exec (Stmt.For _ _ _ _ _) _) _ _ _)); (fail_if_success (with_reducible show wpAny _ _ (exec (Stmt.While _ _ _ _) _) _ _ _)); (fail_if_success (with_reducible show wpAny _ _ (exec (Stmt.Assign [Expr.Name _ _] (Expr.ListComp _ _ _ _) _) _) _ _ _))))); (first | with_reducible (k_here; (with_reducible show wpAny _ _ (call (Value.builtin "len") [Value.ref _]) _ _ _); (refine len5 (News.isList (by k_asm) (by k_mem)) (by assumption) ?_); intro _ _) | with_reducible (k_here; (with_reducible show wpAny _ _ (subscriptTail _ _ (Value.ref _) (Value.int _ _)) _ _ _); refine' item_I ?lqz ?iqz ?bqz ?cqz ?_; (case lqz => exact News.isList (by k_asm) (by k_mem)); (case iqz => assumption); (case bqz => omega); (case cqz => omega); intro _) | walk1 | (k_here; (with_reducible show wpAny _ _ (subscriptTail _ _ (Value.ref _) (Value.int _ _)) _ _ _); refine' item_I ?lqz ?iqz ?bqz ?cqz ?_; (case lqz => exact News.isList (by k_asm) (by k_mem)); (case iqz => assumption); (case bqz => omega); (case cqz => omega); intro _)))) | (leave1; walk_say "STEP leave1"; try dsimp only) | fail "no step"))
        have hgo4 : ps3 = innerGo row kk [4, 3, 2, 1, 0] xv ps2 := hgo3
        refine hR _ _ ?_
        exact ⟨_, _, _, _, _, rfl, by k_asm, by k_asm, off2' _, by
            intro y hy
            have hyj : [PySem.Str.ofString "k", PySem.Str.ofString "value"].contains y = false := by
              simp only [List.contains_cons, Bool.or_eq_false_iff] at hy ⊢
              exact ⟨hy.2.2.1, hy.2.1, rfl⟩
            simp only [off_ne hy (x := PySem.Str.ofString "k") (by rfl), off_ne hy (x := PySem.Str.ofString "value") (by rfl), off_ne hy (x := PySem.Str.ofString "taken") (by rfl), hy, hyj, Bool.false_eq_true, if_false], rfl, oN3, kvs3, ps3, rfl, hd3, hiv3, by rw [hgo4]; exact hgo2, by omega⟩
    · rintro u2 nw2 h2 tk2 gs2 ⟨rfl, oN2, kvs2, ps2, rfl, hd2, hiv2, hgo2, hl2⟩ F9 N9
      dsimp only
      (repeat' (first | (k_unfold; (try dsimp only)) | (k_end; wrow_close) | ((((fail_if_success (with_reducible show wpAny _ _ (call (Value.builtin "dict.items") _ _) _ _ _)); (fail_if_success (with_reducible show wpAny _ _ (call (Value.type "range") _ _) _ _ _)); (fail_if_success (with_reducible show wpAny _ _ (call (Value.ref 112) _ _) _ _ _)); (fail_if_success (with_reducible show wpAny _ _ (eval (Expr.ListComp _ _ _ _) _) _ _ _)); (fail_if_success (with_reducible show wpAny _ _ (exec (Stmt.For _ _ _ _ _) _) _ _ _)); (fail_if_success (with_reducible show wpAny _ _ (exec (Stmt.While _ _ _ _) _) _ _ _)); (fail_if_success (with_reducible show wpAny _ _ (exec (Stmt.Assign [Expr.Name _ _] (Expr.ListComp _ _ _ _) _) _) _ _ _)))); first | (first | with_reducible (k_here; (with_reducible show wpAny _ _ (call (Value.builtin "len") [Value.ref _]) _ _ _); (refine len5 (News.isList (by k_asm) (by k_mem)) (by assumption) ?_); intro _ _) | with_reducible (k_here; (with_reducible show wpAny _ _ (subscriptTail _ _ (Value.ref _) (Value.int _ _)) _ _ _); refine' item_I ?lqz ?iqz ?bqz ?cqz ?_; (case lqz => exact News.isList (by k_asm) (by k_mem)); (case iqz => assumption); (case bqz => omega); (case cqz => omega); intro _) | walk1 | (k_here; (with_reducible show wpAny _ _ (subscriptTail _ _ (Value.ref _) (Value.int _ _)) _ _ _); refine' item_I ?lqz ?iqz ?bqz ?cqz ?_; (case lqz => exact News.isList (by k_asm) (by k_mem)); (case iqz => assumption); (case bqz => omega); (case cqz => omega); intro _)) | (dsimp only; ((((fail_if_success (with_reducible show wpAny _ _ (call (Value.builtin "dict.items") _ _) _ _ _)); (fail_if_success (with_reducible show wpAny _ _ (call (Value.type "range") _ _) _ _ _)); (fail_if_success (with_reducible show wpAny _ _ (call (Value.ref 112) _ _) _ _ _)); (fail_if_success (with_reducible show wpAny _ _ (eval (Expr.ListComp _ _ _ _) _) _ _ _)); (fail_if_success (with_reducible show wpAny _ _ (exec (Stmt.For _ _ _ _ _) _) _ _ _)); (fail_if_success (with_reducible show wpAny _ _ (exec (Stmt.While _ _ _ _) _) _ _ _)); (fail_if_success (with_reducible show wpAny _ _ (exec (Stmt.Assign [Expr.Name _ _] (Expr.ListComp _ _ _ _) _) _) _ _ _))))); (first | with_reducible (k_here; (with_reducible show wpAny _ _ (call (Value.builtin "len") [Value.ref _]) _ _ _); (refine len5 (News.isList (by k_asm) (by k_mem)) (by assumption) ?_); intro _ _) | with_reducible (k_here; (with_reducible show wpAny _ _ (subscriptTail _ _ (Value.ref _) (Value.int _ _)) _ _ _); refine' item_I ?lqz ?iqz ?bqz ?cqz ?_; (case lqz => exact News.isList (by k_asm) (by k_mem)); (case iqz => assumption); (case bqz => omega); (case cqz => omega); intro _) | walk1 | (k_here; (with_reducible show wpAny _ _ (subscriptTail _ _ (Value.ref _) (Value.int _ _)) _ _ _); refine' item_I ?lqz ?iqz ?bqz ?cqz ?_; (case lqz => exact News.isList (by k_asm) (by k_mem)); (case iqz => assumption); (case bqz => omega); (case cqz => omega); intro _)))) | (leave1; walk_say "STEP leave1"; try dsimp only) | fail "no step"))
      have hdk : ps.drop kvs.length = [] := by rw [hiv.len]; exact List.drop_length
      rw [hdk, itemsGo] at hgo2
      rename News _ _ _ _ => N12
      refine hR _ _ ?_
      exact ⟨_, _, _, _, (dN, oN2) :: news, rfl, by k_asm, fun p hp => N12 p (by
          rcases List.mem_cons.mp hp with rfl | hp
          · exact .tail _ (.head _)
          · rcases List.mem_cons.mp hp with rfl | hp
            · exact .head _
            · exact .tail _ (.tail _ (.tail _ hp))), by
          intro p hp
          rcases List.mem_cons.mp hp with rfl | hp
          · exact Nat.ne_of_gt l10.1
          · exact off p (.tail _ hp), by
            intro y hy
            have hyj : [PySem.Str.ofString "taken", PySem.Str.ofString "value", PySem.Str.ofString "k"].contains y = false := by
              simp only [List.contains_cons, Bool.or_eq_false_iff] at hy ⊢
              exact ⟨hy.2.2.2.1, hy.2.2.2.2.1, hy.2.2.2.2.2.1, rfl⟩
            simp only [off_ne hy (x := PySem.Str.ofString "sums") (by rfl), off_ne hy (x := PySem.Str.ofString "row") (by rfl), off_ne hy (x := PySem.Str.ofString "news") (by rfl), hy, hyj, Bool.false_eq_true, if_false], rfl, dN, oN2, kvs2, ps2, rfl, fun p hp => Nat.ne_of_lt (ktn_ltOf l10.2.2 p hp), hd2, loN, hiv2, rfl, by rw [hgo2]; exact hgo, by
            rw [hiv.len] at hl2
            rw [Nat.pow_succ]
            omega⟩
  · rintro u nw h tk gs ⟨rfl, dS, oS, kvs, ps, rfl, hap, hdS, loS, hiv, hsums, hgo, hpl⟩ F6 N6
    have F7 := fr_track F6 hsums
    clear F6
    dsimp only
    have hvl : rv.toArray.size = 5 := by rw [List.size_toArray, hrw.1]; exact hrl
    have hd0 : rows.drop rv.toArray.size = [] := by rw [hvl, ← hrl]; exact List.drop_length
    rw [hd0, rowsGo] at hgo
    rw [← hgo] at hfin
    obtain ⟨tD, hv31⟩ := hiv.find hfin
    (repeat' (first | (k_unfold; (try dsimp only)) | (k_end; wrow_close) | ((((fail_if_success (with_reducible show wpAny _ _ (call (Value.builtin "dict.items") _ _) _ _ _)); (fail_if_success (with_reducible show wpAny _ _ (call (Value.type "range") _ _) _ _ _)); (fail_if_success (with_reducible show wpAny _ _ (call (Value.ref 112) _ _) _ _ _)); (fail_if_success (with_reducible show wpAny _ _ (eval (Expr.ListComp _ _ _ _) _) _ _ _)); (fail_if_success (with_reducible show wpAny _ _ (exec (Stmt.For _ _ _ _ _) _) _ _ _)); (fail_if_success (with_reducible show wpAny _ _ (exec (Stmt.While _ _ _ _) _) _ _ _)); (fail_if_success (with_reducible show wpAny _ _ (exec (Stmt.Assign [Expr.Name _ _] (Expr.ListComp _ _ _ _) _) _) _ _ _)))); first | (first | with_reducible (k_here; (with_reducible show wpAny _ _ (call (Value.builtin "len") [Value.ref _]) _ _ _); (refine len5 (News.isList (by k_asm) (by k_mem)) (by assumption) ?_); intro _ _) | with_reducible (k_here; (with_reducible show wpAny _ _ (subscriptTail _ _ (Value.ref _) (Value.int _ _)) _ _ _); refine' item_I ?lqz ?iqz ?bqz ?cqz ?_; (case lqz => exact News.isList (by k_asm) (by k_mem)); (case iqz => assumption); (case bqz => omega); (case cqz => omega); intro _) | walk1 | (k_here; (with_reducible show wpAny _ _ (subscriptTail _ _ (Value.ref _) (Value.int _ _)) _ _ _); refine' item_I ?lqz ?iqz ?bqz ?cqz ?_; (case lqz => exact News.isList (by k_asm) (by k_mem)); (case iqz => assumption); (case bqz => omega); (case cqz => omega); intro _)) | (dsimp only; ((((fail_if_success (with_reducible show wpAny _ _ (call (Value.builtin "dict.items") _ _) _ _ _)); (fail_if_success (with_reducible show wpAny _ _ (call (Value.type "range") _ _) _ _ _)); (fail_if_success (with_reducible show wpAny _ _ (call (Value.ref 112) _ _) _ _ _)); (fail_if_success (with_reducible show wpAny _ _ (eval (Expr.ListComp _ _ _ _) _) _ _ _)); (fail_if_success (with_reducible show wpAny _ _ (exec (Stmt.For _ _ _ _ _) _) _ _ _)); (fail_if_success (with_reducible show wpAny _ _ (exec (Stmt.While _ _ _ _) _) _ _ _)); (fail_if_success (with_reducible show wpAny _ _ (exec (Stmt.Assign [Expr.Name _ _] (Expr.ListComp _ _ _ _) _) _) _ _ _))))); (first | with_reducible (k_here; (with_reducible show wpAny _ _ (call (Value.builtin "len") [Value.ref _]) _ _ _); (refine len5 (News.isList (by k_asm) (by k_mem)) (by assumption) ?_); intro _ _) | with_reducible (k_here; (with_reducible show wpAny _ _ (subscriptTail _ _ (Value.ref _) (Value.int _ _)) _ _ _); refine' item_I ?lqz ?iqz ?bqz ?cqz ?_; (case lqz => exact News.isList (by k_asm) (by k_mem)); (case iqz => assumption); (case bqz => omega); (case cqz => omega); intro _) | walk1 | (k_here; (with_reducible show wpAny _ _ (subscriptTail _ _ (Value.ref _) (Value.int _ _)) _ _ _); refine' item_I ?lqz ?iqz ?bqz ?cqz ?_; (case lqz => exact News.isList (by k_asm) (by k_mem)); (case iqz => assumption); (case bqz => omega); (case cqz => omega); intro _)))) | (leave1; walk_say "STEP leave1"; try dsimp only) | fail "no step"))
    refine kda_item (knd := intKind PySem.Challenge.rw_wa0038_01.row.prog w) (k := 31) (by k_asm) (.head _) hdS (intKind_is _ _ _ _) hv31 ?_
    (repeat' (first | (k_unfold; (try dsimp only)) | (k_end; wrow_close) | ((((fail_if_success (with_reducible show wpAny _ _ (call (Value.builtin "dict.items") _ _) _ _ _)); (fail_if_success (with_reducible show wpAny _ _ (call (Value.type "range") _ _) _ _ _)); (fail_if_success (with_reducible show wpAny _ _ (call (Value.ref 112) _ _) _ _ _)); (fail_if_success (with_reducible show wpAny _ _ (eval (Expr.ListComp _ _ _ _) _) _ _ _)); (fail_if_success (with_reducible show wpAny _ _ (exec (Stmt.For _ _ _ _ _) _) _ _ _)); (fail_if_success (with_reducible show wpAny _ _ (exec (Stmt.While _ _ _ _) _) _ _ _)); (fail_if_success (with_reducible show wpAny _ _ (exec (Stmt.Assign [Expr.Name _ _] (Expr.ListComp _ _ _ _) _) _) _ _ _)))); first | (first | with_reducible (k_here; (with_reducible show wpAny _ _ (call (Value.builtin "len") [Value.ref _]) _ _ _); (refine len5 (News.isList (by k_asm) (by k_mem)) (by assumption) ?_); intro _ _) | with_reducible (k_here; (with_reducible show wpAny _ _ (subscriptTail _ _ (Value.ref _) (Value.int _ _)) _ _ _); refine' item_I ?lqz ?iqz ?bqz ?cqz ?_; (case lqz => exact News.isList (by k_asm) (by k_mem)); (case iqz => assumption); (case bqz => omega); (case cqz => omega); intro _) | walk1 | (k_here; (with_reducible show wpAny _ _ (subscriptTail _ _ (Value.ref _) (Value.int _ _)) _ _ _); refine' item_I ?lqz ?iqz ?bqz ?cqz ?_; (case lqz => exact News.isList (by k_asm) (by k_mem)); (case iqz => assumption); (case bqz => omega); (case cqz => omega); intro _)) | (dsimp only; ((((fail_if_success (with_reducible show wpAny _ _ (call (Value.builtin "dict.items") _ _) _ _ _)); (fail_if_success (with_reducible show wpAny _ _ (call (Value.type "range") _ _) _ _ _)); (fail_if_success (with_reducible show wpAny _ _ (call (Value.ref 112) _ _) _ _ _)); (fail_if_success (with_reducible show wpAny _ _ (eval (Expr.ListComp _ _ _ _) _) _ _ _)); (fail_if_success (with_reducible show wpAny _ _ (exec (Stmt.For _ _ _ _ _) _) _ _ _)); (fail_if_success (with_reducible show wpAny _ _ (exec (Stmt.While _ _ _ _) _) _ _ _)); (fail_if_success (with_reducible show wpAny _ _ (exec (Stmt.Assign [Expr.Name _ _] (Expr.ListComp _ _ _ _) _) _) _ _ _))))); (first | with_reducible (k_here; (with_reducible show wpAny _ _ (call (Value.builtin "len") [Value.ref _]) _ _ _); (refine len5 (News.isList (by k_asm) (by k_mem)) (by assumption) ?_); intro _ _) | with_reducible (k_here; (with_reducible show wpAny _ _ (subscriptTail _ _ (Value.ref _) (Value.int _ _)) _ _ _); refine' item_I ?lqz ?iqz ?bqz ?cqz ?_; (case lqz => exact News.isList (by k_asm) (by k_mem)); (case iqz => assumption); (case bqz => omega); (case cqz => omega); intro _) | walk1 | (k_here; (with_reducible show wpAny _ _ (subscriptTail _ _ (Value.ref _) (Value.int _ _)) _ _ _); refine' item_I ?lqz ?iqz ?bqz ?cqz ?_; (case lqz => exact News.isList (by k_asm) (by k_mem)); (case iqz => assumption); (case bqz => omega); (case cqz => omega); intro _)))) | (leave1; walk_say "STEP leave1"; try dsimp only) | fail "no step"))
    rename News h₀ L _ _ => Nz
    exact hret _ _ _ (by k_asm) fun p hp => Nz p (.tail _ hp)
end
end
section
noncomputable def RingsAre (news : List (Addr × Obj)) (gv : List Value) (n : Nat) (RR : Nat → Nat → Nat) : Prop :=
  gv.length = n ∧ ∀ k, k < n → ∃ (ra : Addr) (vs : List Value), gv[k]? = some (Value.ref ra) ∧ (ra, LCg.lst vs) ∈ news ∧ IntsAre vs ((List.range (k + 1)).map fun j => (RR k j : Int))
theorem RingsAre.snoc {news : List (Addr × Obj)} {gv : List Value} {n : Nat} {RR : Nat → Nat → Nat} {ra : Addr} {vs : List Value} (x : RingsAre news gv n RR) (hi : IntsAre vs ((List.range (n + 1)).map fun j => (RR n j : Int))) : RingsAre ((ra, LCg.lst vs) :: news) (gv ++ [Value.ref ra]) (n + 1) RR := by
  refine ⟨by simp [x.1], fun k hk => ?_⟩
  by_cases h : k < n
  · obtain ⟨ra', vs', e1, e2, e3⟩ := x.2 k h
    exact ⟨ra', vs', by rw [List.getElem?_append_left (by rw [x.1]; exact h)]; exact e1, .tail _ e2, e3⟩
  · obtain rfl : k = n := by omega
    refine ⟨ra, vs, ?_, .head _, hi⟩
    rw [List.getElem?_append_right (by rw [x.1]; exact Nat.le_refl _), x.1, Nat.sub_self]
    rfl
section
variable {w : World} {mean : ExcName → Option Value} {mg mb : PySem.Str → Option Value} {base h₀ : Heap} {L fa : Addr} {cd : Value} {m : PySem.Str → Option Value} {s : Shared} {Q : Flow → Shared → Prop} {E : Value → Shared → Prop}
  (B : Below callerA base [] h₀) (F : Fr h₀ L s.heap m) (X : (hd.heap_39 w.params).In h₀) (T : Top hd.view_39 LO mean mg mb h₀)
include B F X T
set_option maxRecDepth 100000 in
set_option maxHeartbeats 8000000 in
set_option pp.deepTerms false in
set_option pp.deepTerms.threshold 8 in
theorem stJ {dT dM : Addr} {tv nmv : List Value} {nT : Nat} {tbl : List (List (PySem.Str × PySem.Str))} {ns : List PySem.Str} {oT oN oR : Obj} {vR : Option Value} {rest : List (Addr × Obj)} (RR : Nat → Nat → Nat)
    (N : News h₀ L s.heap ((dT, listOf tv.toArray nT) :: (L + 1 + 1 + 1 + 1 + 1, oT) :: (dM, LCg.lst nmv) :: (L + 1 + 1 + 1 + 1, oN) :: (L + 1 + 1 + 1 + 1 + 1 + 1 + 1, oR) :: rest))
    (hoT : oT.data = .cell (some (.ref dT))) (hoN : oN.data = .cell (some (.ref dM))) (hoR : oR.data = .cell vR) (htabs : TabsAre w rest tv tbl) (htl : tbl.length = 5) (hnv : StrsAre nmv ns) (hnl : ns.length ≤ 6)
    (hg : ∀ x ∈ ns, GoodN x) (hgp : ∀ ps ∈ tbl, ∀ p ∈ ps, GoodN p.2 ∧ p.1.length < 100)
    (hR : ∀ (i j : Nat) ps1 ps2, j ≤ i → tbl[i]? = some ps1 → tbl[j]? = some ps2 → ringsGo ps1 ps2 ns 0 [] = some (RR i j))
    (hr : ∀ p ∈ rest, p.1 ≠ L + 1 + 1 + 1 + 1 + 1 + 1 + 1) (hd1 : @Ne Nat dT (L + 1 + 1 + 1 + 1 + 1 + 1 + 1)) (hd2 : @Ne Nat dM (L + 1 + 1 + 1 + 1 + 1 + 1 + 1))
    (hnext : ∀ h' tk' dG gv oR' r, Fr h₀ L h' m → News h₀ L h' ((dG, LCg.lst gv) :: (dT, listOf tv.toArray nT) :: (L + 1 + 1 + 1 + 1 + 1, oT) :: (dM, LCg.lst nmv) :: (L + 1 + 1 + 1 + 1, oN) :: (L + 1 + 1 + 1 + 1 + 1 + 1 + 1, oR') :: (r ++ rest)) → oR'.data = .cell (some (.ref dG)) → RingsAre r gv 5 RR → (∀ p ∈ (dG, LCg.lst gv) :: r, ∀ q ∈ (dT, listOf tv.toArray nT) :: (L + 1 + 1 + 1 + 1 + 1, oT) :: (dM, LCg.lst nmv) :: (L + 1 + 1 + 1 + 1, oN) :: (L + 1 + 1 + 1 + 1 + 1 + 1 + 1, oR) :: rest, p.1 ≠ q.1) →
      wpAny (model PySem.Challenge.rw_wa0038_01.row.prog w) (lawA L fa cd) (execs (lawBody.drop 13) (lawEnv L fa cd)) Q E { s with heap := h', toks := tk' }) :
    wpAny (model PySem.Challenge.rw_wa0038_01.row.prog w) (lawA L fa cd) (execs (lawBody.drop 12) (lawEnv L fa cd)) Q E s := by
  revert X; k_fill; intro X
  have htvl : tv.length = 5 := by rw [htabs.1, htl]
  show wpAny _ (callerA.deeper (envOfC _ ⟨_, _, _, _, _⟩ _ _ _)) (execs (_ :: _) (envOfC _ ⟨_, _, _, _, _⟩ _ _ _)) _ _ _
  (repeat' (first | (k_unfold; (try dsimp only)) | (k_end; wrow_close) | ((((fail_if_success (with_reducible show wpAny _ _ (call (Value.builtin "dict.items") _ _) _ _ _)); (fail_if_success (with_reducible show wpAny _ _ (call (Value.type "range") _ _) _ _ _)); (fail_if_success (with_reducible show wpAny _ _ (call (Value.ref 112) _ _) _ _ _)); (fail_if_success (with_reducible show wpAny _ _ (eval (Expr.ListComp _ _ _ _) _) _ _ _)); (fail_if_success (with_reducible show wpAny _ _ (exec (Stmt.For _ _ _ _ _) _) _ _ _)); (fail_if_success (with_reducible show wpAny _ _ (exec (Stmt.While _ _ _ _) _) _ _ _)); (fail_if_success (with_reducible show wpAny _ _ (exec (Stmt.Assign [Expr.Name _ _] (Expr.ListComp _ _ _ _) _) _) _ _ _)))); first | (first | with_reducible (k_here; (with_reducible show wpAny _ _ (call (Value.ref 217) _ _) _ _ _); k_dflt (refine' rings ?Bqz ?Fqz ?Xqz ?Nqz ?Tqz ?hkqz ?hT1qz ?hT2qz ?hlnqz ?hnsqz ?hnlqz ?hgqz ?hg1qz ?hg2qz ?hk1qz ?hk2qz ?hRqz ?hdqz ?huqz ?_; (case Bqz => k_asm); (case Fqz => k_asm); (case Xqz => k_asm); (case Nqz => k_asm); (case Tqz => k_asm); (case hkqz => first | exact rfl | assumption); (case hT1qz => exact IsTab.mono hTi (fun p hp => by simp only [List.mem_cons, List.mem_append]; simp only [hp, true_or, or_true])); (case hT2qz => exact IsTab.mono hTj (fun p hp => by simp only [List.mem_cons, List.mem_append]; simp only [hp, true_or, or_true])); (case hlnqz => k_mem); (case hnsqz => exact hnv); (case hnlqz => assumption); (case hgqz => assumption); (case hg1qz => exact fun p hp => (hgp _ hmi p hp).1); (case hg2qz => exact fun p hp => (hgp _ hmj p hp).1); (case hk1qz => exact fun p hp => (hgp _ hmi p hp).2); (case hk2qz => exact fun p hp => (hgp _ hmj p hp).2); (case hRqz => exact hRR); (case hdqz => ktr_room); (case huqz => ktr_units); intro h9 tk9 t9 F9 N9; (try dsimp only))) | walk1) | (dsimp only; ((((fail_if_success (with_reducible show wpAny _ _ (call (Value.builtin "dict.items") _ _) _ _ _)); (fail_if_success (with_reducible show wpAny _ _ (call (Value.type "range") _ _) _ _ _)); (fail_if_success (with_reducible show wpAny _ _ (call (Value.ref 112) _ _) _ _ _)); (fail_if_success (with_reducible show wpAny _ _ (eval (Expr.ListComp _ _ _ _) _) _ _ _)); (fail_if_success (with_reducible show wpAny _ _ (exec (Stmt.For _ _ _ _ _) _) _ _ _)); (fail_if_success (with_reducible show wpAny _ _ (exec (Stmt.While _ _ _ _) _) _ _ _)); (fail_if_success (with_reducible show wpAny _ _ (exec (Stmt.Assign [Expr.Name _ _] (Expr.ListComp _ _ _ _) _) _) _ _ _))))); (first | with_reducible (k_here; (with_reducible show wpAny _ _ (call (Value.ref 217) _ _) _ _ _); k_dflt (refine' rings ?Bqz ?Fqz ?Xqz ?Nqz ?Tqz ?hkqz ?hT1qz ?hT2qz ?hlnqz ?hnsqz ?hnlqz ?hgqz ?hg1qz ?hg2qz ?hk1qz ?hk2qz ?hRqz ?hdqz ?huqz ?_; (case Bqz => k_asm); (case Fqz => k_asm); (case Xqz => k_asm); (case Nqz => k_asm); (case Tqz => k_asm); (case hkqz => first | exact rfl | assumption); (case hT1qz => exact IsTab.mono hTi (fun p hp => by simp only [List.mem_cons, List.mem_append]; simp only [hp, true_or, or_true])); (case hT2qz => exact IsTab.mono hTj (fun p hp => by simp only [List.mem_cons, List.mem_append]; simp only [hp, true_or, or_true])); (case hlnqz => k_mem); (case hnsqz => exact hnv); (case hnlqz => assumption); (case hgqz => assumption); (case hg1qz => exact fun p hp => (hgp _ hmi p hp).1); (case hg2qz => exact fun p hp => (hgp _ hmj p hp).1); (case hk1qz => exact fun p hp => (hgp _ hmi p hp).2); (case hk2qz => exact fun p hp => (hgp _ hmj p hp).2); (case hRqz => exact hRR); (case hdqz => ktr_room); (case huqz => ktr_units); intro h9 tk9 t9 F9 N9; (try dsimp only))) | walk1))) | (leave1; walk_say "STEP leave1"; try dsimp only) | fail "no step"))
  refine wpAny_Assign_Name ?_
  refine ListComp_CR F (by with_unfolding_all rfl) (by rfl) (by decide) (fun _ => by rfl) (fun _ => by rfl) (fun _ _ => by rfl) ?_
  (repeat' (first | (k_unfold; (try dsimp only)) | (k_end; wrow_close) | ((((fail_if_success (with_reducible show wpAny _ _ (call (Value.builtin "dict.items") _ _) _ _ _)); (fail_if_success (with_reducible show wpAny _ _ (call (Value.type "range") _ _) _ _ _)); (fail_if_success (with_reducible show wpAny _ _ (call (Value.ref 112) _ _) _ _ _)); (fail_if_success (with_reducible show wpAny _ _ (eval (Expr.ListComp _ _ _ _) _) _ _ _)); (fail_if_success (with_reducible show wpAny _ _ (exec (Stmt.For _ _ _ _ _) _) _ _ _)); (fail_if_success (with_reducible show wpAny _ _ (exec (Stmt.While _ _ _ _) _) _ _ _)); (fail_if_success (with_reducible show wpAny _ _ (exec (Stmt.Assign [Expr.Name _ _] (Expr.ListComp _ _ _ _) _) _) _ _ _)))); first | (first | with_reducible (k_here; (with_reducible show wpAny _ _ (call (Value.ref 217) _ _) _ _ _); k_dflt (refine' rings ?Bqz ?Fqz ?Xqz ?Nqz ?Tqz ?hkqz ?hT1qz ?hT2qz ?hlnqz ?hnsqz ?hnlqz ?hgqz ?hg1qz ?hg2qz ?hk1qz ?hk2qz ?hRqz ?hdqz ?huqz ?_; (case Bqz => k_asm); (case Fqz => k_asm); (case Xqz => k_asm); (case Nqz => k_asm); (case Tqz => k_asm); (case hkqz => first | exact rfl | assumption); (case hT1qz => exact IsTab.mono hTi (fun p hp => by simp only [List.mem_cons, List.mem_append]; simp only [hp, true_or, or_true])); (case hT2qz => exact IsTab.mono hTj (fun p hp => by simp only [List.mem_cons, List.mem_append]; simp only [hp, true_or, or_true])); (case hlnqz => k_mem); (case hnsqz => exact hnv); (case hnlqz => assumption); (case hgqz => assumption); (case hg1qz => exact fun p hp => (hgp _ hmi p hp).1); (case hg2qz => exact fun p hp => (hgp _ hmj p hp).1); (case hk1qz => exact fun p hp => (hgp _ hmi p hp).2); (case hk2qz => exact fun p hp => (hgp _ hmj p hp).2); (case hRqz => exact hRR); (case hdqz => ktr_room); (case huqz => ktr_units); intro h9 tk9 t9 F9 N9; (try dsimp only))) | walk1) | (dsimp only; ((((fail_if_success (with_reducible show wpAny _ _ (call (Value.builtin "dict.items") _ _) _ _ _)); (fail_if_success (with_reducible show wpAny _ _ (call (Value.type "range") _ _) _ _ _)); (fail_if_success (with_reducible show wpAny _ _ (call (Value.ref 112) _ _) _ _ _)); (fail_if_success (with_reducible show wpAny _ _ (eval (Expr.ListComp _ _ _ _) _) _ _ _)); (fail_if_success (with_reducible show wpAny _ _ (exec (Stmt.For _ _ _ _ _) _) _ _ _)); (fail_if_success (with_reducible show wpAny _ _ (exec (Stmt.While _ _ _ _) _) _ _ _)); (fail_if_success (with_reducible show wpAny _ _ (exec (Stmt.Assign [Expr.Name _ _] (Expr.ListComp _ _ _ _) _) _) _ _ _))))); (first | with_reducible (k_here; (with_reducible show wpAny _ _ (call (Value.ref 217) _ _) _ _ _); k_dflt (refine' rings ?Bqz ?Fqz ?Xqz ?Nqz ?Tqz ?hkqz ?hT1qz ?hT2qz ?hlnqz ?hnsqz ?hnlqz ?hgqz ?hg1qz ?hg2qz ?hk1qz ?hk2qz ?hRqz ?hdqz ?huqz ?_; (case Bqz => k_asm); (case Fqz => k_asm); (case Xqz => k_asm); (case Nqz => k_asm); (case Tqz => k_asm); (case hkqz => first | exact rfl | assumption); (case hT1qz => exact IsTab.mono hTi (fun p hp => by simp only [List.mem_cons, List.mem_append]; simp only [hp, true_or, or_true])); (case hT2qz => exact IsTab.mono hTj (fun p hp => by simp only [List.mem_cons, List.mem_append]; simp only [hp, true_or, or_true])); (case hlnqz => k_mem); (case hnsqz => exact hnv); (case hnlqz => assumption); (case hgqz => assumption); (case hg1qz => exact fun p hp => (hgp _ hmi p hp).1); (case hg2qz => exact fun p hp => (hgp _ hmj p hp).1); (case hk1qz => exact fun p hp => (hgp _ hmi p hp).2); (case hk2qz => exact fun p hp => (hgp _ hmj p hp).2); (case hRqz => exact hRR); (case hdqz => ktr_room); (case huqz => ktr_units); intro h9 tk9 t9 F9 N9; (try dsimp only))) | walk1))) | (leave1; walk_say "STEP leave1"; try dsimp only) | fail "no step"))
  refine call_range_1 ?_
  refine ⟨_, 0, 5, _, _, _, 5, _, fun i ys nw => ∃ r, nw = (dT, listOf tv.toArray nT) :: (L + 1 + 1 + 1 + 1 + 1, oT) :: (dM, LCg.lst nmv) :: (L + 1 + 1 + 1 + 1, oN) :: (L + 1 + 1 + 1 + 1 + 1 + 1 + 1, oR) :: (r ++ rest) ∧ RingsAre r ys i RR ∧ (∀ p ∈ r, ∀ q ∈ (dT, listOf tv.toArray nT) :: (L + 1 + 1 + 1 + 1 + 1, oT) :: (dM, LCg.lst nmv) :: (L + 1 + 1 + 1 + 1, oN) :: (L + 1 + 1 + 1 + 1 + 1 + 1 + 1, oR) :: rest, p.1 ≠ q.1), rfl, by rfl, F.push _, N.pushKeep _, IsRange.new .., small_one (by decide) (by decide) (by decide) (by decide), by decide, by decide, ⟨[], rfl, ⟨rfl, fun k hk => absurd hk (Nat.not_lt_zero _)⟩, fun p hp => by simp at hp⟩, ?_, ?_⟩
  · rintro g i tv2 ys nw I C D1 D oI oC oX h tk hi ⟨r, rfl, hrg, hr7⟩ hC hX F2 N2 off
    rw [show (0 : Int) + (i : Int) = (i : Int) by omega] at hX
    (repeat' (first | (k_unfold; (try dsimp only)) | (k_end; wrow_close) | ((((fail_if_success (with_reducible show wpAny _ _ (call (Value.builtin "dict.items") _ _) _ _ _)); (fail_if_success (with_reducible show wpAny _ _ (call (Value.type "range") _ _) _ _ _)); (fail_if_success (with_reducible show wpAny _ _ (call (Value.ref 112) _ _) _ _ _)); (fail_if_success (with_reducible show wpAny _ _ (eval (Expr.ListComp _ _ _ _) _) _ _ _)); (fail_if_success (with_reducible show wpAny _ _ (exec (Stmt.For _ _ _ _ _) _) _ _ _)); (fail_if_success (with_reducible show wpAny _ _ (exec (Stmt.While _ _ _ _) _) _ _ _)); (fail_if_success (with_reducible show wpAny _ _ (exec (Stmt.Assign [Expr.Name _ _] (Expr.ListComp _ _ _ _) _) _) _ _ _)))); first | (first | with_reducible (k_here; (with_reducible show wpAny _ _ (call (Value.ref 217) _ _) _ _ _); k_dflt (refine' rings ?Bqz ?Fqz ?Xqz ?Nqz ?Tqz ?hkqz ?hT1qz ?hT2qz ?hlnqz ?hnsqz ?hnlqz ?hgqz ?hg1qz ?hg2qz ?hk1qz ?hk2qz ?hRqz ?hdqz ?huqz ?_; (case Bqz => k_asm); (case Fqz => k_asm); (case Xqz => k_asm); (case Nqz => k_asm); (case Tqz => k_asm); (case hkqz => first | exact rfl | assumption); (case hT1qz => exact IsTab.mono hTi (fun p hp => by simp only [List.mem_cons, List.mem_append]; simp only [hp, true_or, or_true])); (case hT2qz => exact IsTab.mono hTj (fun p hp => by simp only [List.mem_cons, List.mem_append]; simp only [hp, true_or, or_true])); (case hlnqz => k_mem); (case hnsqz => exact hnv); (case hnlqz => assumption); (case hgqz => assumption); (case hg1qz => exact fun p hp => (hgp _ hmi p hp).1); (case hg2qz => exact fun p hp => (hgp _ hmj p hp).1); (case hk1qz => exact fun p hp => (hgp _ hmi p hp).2); (case hk2qz => exact fun p hp => (hgp _ hmj p hp).2); (case hRqz => exact hRR); (case hdqz => ktr_room); (case huqz => ktr_units); intro h9 tk9 t9 F9 N9; (try dsimp only))) | walk1) | (dsimp only; ((((fail_if_success (with_reducible show wpAny _ _ (call (Value.builtin "dict.items") _ _) _ _ _)); (fail_if_success (with_reducible show wpAny _ _ (call (Value.type "range") _ _) _ _ _)); (fail_if_success (with_reducible show wpAny _ _ (call (Value.ref 112) _ _) _ _ _)); (fail_if_success (with_reducible show wpAny _ _ (eval (Expr.ListComp _ _ _ _) _) _ _ _)); (fail_if_success (with_reducible show wpAny _ _ (exec (Stmt.For _ _ _ _ _) _) _ _ _)); (fail_if_success (with_reducible show wpAny _ _ (exec (Stmt.While _ _ _ _) _) _ _ _)); (fail_if_success (with_reducible show wpAny _ _ (exec (Stmt.Assign [Expr.Name _ _] (Expr.ListComp _ _ _ _) _) _) _ _ _))))); (first | with_reducible (k_here; (with_reducible show wpAny _ _ (call (Value.ref 217) _ _) _ _ _); k_dflt (refine' rings ?Bqz ?Fqz ?Xqz ?Nqz ?Tqz ?hkqz ?hT1qz ?hT2qz ?hlnqz ?hnsqz ?hnlqz ?hgqz ?hg1qz ?hg2qz ?hk1qz ?hk2qz ?hRqz ?hdqz ?huqz ?_; (case Bqz => k_asm); (case Fqz => k_asm); (case Xqz => k_asm); (case Nqz => k_asm); (case Tqz => k_asm); (case hkqz => first | exact rfl | assumption); (case hT1qz => exact IsTab.mono hTi (fun p hp => by simp only [List.mem_cons, List.mem_append]; simp only [hp, true_or, or_true])); (case hT2qz => exact IsTab.mono hTj (fun p hp => by simp only [List.mem_cons, List.mem_append]; simp only [hp, true_or, or_true])); (case hlnqz => k_mem); (case hnsqz => exact hnv); (case hnlqz => assumption); (case hgqz => assumption); (case hg1qz => exact fun p hp => (hgp _ hmi p hp).1); (case hg2qz => exact fun p hp => (hgp _ hmj p hp).1); (case hk1qz => exact fun p hp => (hgp _ hmi p hp).2); (case hk2qz => exact fun p hp => (hgp _ hmj p hp).2); (case hRqz => exact hRR); (case hdqz => ktr_room); (case huqz => ktr_units); intro h9 tk9 t9 F9 N9; (try dsimp only))) | walk1))) | (leave1; walk_say "STEP leave1"; try dsimp only) | fail "no step"))
    refine LCg.ListComp_U F2 (by with_unfolding_all rfl) (by decide) (by rfl) (by decide) (by rfl) ?_
    (repeat' (first | (k_unfold; (try dsimp only)) | (k_end; wrow_close) | ((((fail_if_success (with_reducible show wpAny _ _ (call (Value.builtin "dict.items") _ _) _ _ _)); (fail_if_success (with_reducible show wpAny _ _ (call (Value.type "range") _ _) _ _ _)); (fail_if_success (with_reducible show wpAny _ _ (call (Value.ref 112) _ _) _ _ _)); (fail_if_success (with_reducible show wpAny _ _ (eval (Expr.ListComp _ _ _ _) _) _ _ _)); (fail_if_success (with_reducible show wpAny _ _ (exec (Stmt.For _ _ _ _ _) _) _ _ _)); (fail_if_success (with_reducible show wpAny _ _ (exec (Stmt.While _ _ _ _) _) _ _ _)); (fail_if_success (with_reducible show wpAny _ _ (exec (Stmt.Assign [Expr.Name _ _] (Expr.ListComp _ _ _ _) _) _) _ _ _)))); first | (first | with_reducible (k_here; (with_reducible show wpAny _ _ (call (Value.ref 217) _ _) _ _ _); k_dflt (refine' rings ?Bqz ?Fqz ?Xqz ?Nqz ?Tqz ?hkqz ?hT1qz ?hT2qz ?hlnqz ?hnsqz ?hnlqz ?hgqz ?hg1qz ?hg2qz ?hk1qz ?hk2qz ?hRqz ?hdqz ?huqz ?_; (case Bqz => k_asm); (case Fqz => k_asm); (case Xqz => k_asm); (case Nqz => k_asm); (case Tqz => k_asm); (case hkqz => first | exact rfl | assumption); (case hT1qz => exact IsTab.mono hTi (fun p hp => by simp only [List.mem_cons, List.mem_append]; simp only [hp, true_or, or_true])); (case hT2qz => exact IsTab.mono hTj (fun p hp => by simp only [List.mem_cons, List.mem_append]; simp only [hp, true_or, or_true])); (case hlnqz => k_mem); (case hnsqz => exact hnv); (case hnlqz => assumption); (case hgqz => assumption); (case hg1qz => exact fun p hp => (hgp _ hmi p hp).1); (case hg2qz => exact fun p hp => (hgp _ hmj p hp).1); (case hk1qz => exact fun p hp => (hgp _ hmi p hp).2); (case hk2qz => exact fun p hp => (hgp _ hmj p hp).2); (case hRqz => exact hRR); (case hdqz => ktr_room); (case huqz => ktr_units); intro h9 tk9 t9 F9 N9; (try dsimp only))) | walk1) | (dsimp only; ((((fail_if_success (with_reducible show wpAny _ _ (call (Value.builtin "dict.items") _ _) _ _ _)); (fail_if_success (with_reducible show wpAny _ _ (call (Value.type "range") _ _) _ _ _)); (fail_if_success (with_reducible show wpAny _ _ (call (Value.ref 112) _ _) _ _ _)); (fail_if_success (with_reducible show wpAny _ _ (eval (Expr.ListComp _ _ _ _) _) _ _ _)); (fail_if_success (with_reducible show wpAny _ _ (exec (Stmt.For _ _ _ _ _) _) _ _ _)); (fail_if_success (with_reducible show wpAny _ _ (exec (Stmt.While _ _ _ _) _) _ _ _)); (fail_if_success (with_reducible show wpAny _ _ (exec (Stmt.Assign [Expr.Name _ _] (Expr.ListComp _ _ _ _) _) _) _ _ _))))); (first | with_reducible (k_here; (with_reducible show wpAny _ _ (call (Value.ref 217) _ _) _ _ _); k_dflt (refine' rings ?Bqz ?Fqz ?Xqz ?Nqz ?Tqz ?hkqz ?hT1qz ?hT2qz ?hlnqz ?hnsqz ?hnlqz ?hgqz ?hg1qz ?hg2qz ?hk1qz ?hk2qz ?hRqz ?hdqz ?huqz ?_; (case Bqz => k_asm); (case Fqz => k_asm); (case Xqz => k_asm); (case Nqz => k_asm); (case Tqz => k_asm); (case hkqz => first | exact rfl | assumption); (case hT1qz => exact IsTab.mono hTi (fun p hp => by simp only [List.mem_cons, List.mem_append]; simp only [hp, true_or, or_true])); (case hT2qz => exact IsTab.mono hTj (fun p hp => by simp only [List.mem_cons, List.mem_append]; simp only [hp, true_or, or_true])); (case hlnqz => k_mem); (case hnsqz => exact hnv); (case hnlqz => assumption); (case hgqz => assumption); (case hg1qz => exact fun p hp => (hgp _ hmi p hp).1); (case hg2qz => exact fun p hp => (hgp _ hmj p hp).1); (case hk1qz => exact fun p hp => (hgp _ hmi p hp).2); (case hk2qz => exact fun p hp => (hgp _ hmj p hp).2); (case hRqz => exact hRR); (case hdqz => ktr_room); (case huqz => ktr_units); intro h9 tk9 t9 F9 N9; (try dsimp only))) | walk1))) | (leave1; walk_say "STEP leave1"; try dsimp only) | fail "no step"))
    refine call_range_1 ?_
    refine LCg.CompSrc.range (a := 0) (n := i + 1) (by rfl) (F2.push _) (N2.pushKeep _) (IsRange.new ..) (small_one (by decide) (by decide) (by omega) (by omega)) (by rw [rangeSize_one]; rw [if_pos (by omega)]; omega) (by rw [sizeLine_eq]; omega) ?_
    intro g2
    refine rest_inv (fun k ys' nw' => nw' = (I, oI) :: (C, oC) :: (D1, oX) :: (D, LCg.lst ys) :: (dT, listOf tv.toArray nT) :: (L + 1 + 1 + 1 + 1 + 1, oT) :: (dM, LCg.lst nmv) :: (L + 1 + 1 + 1 + 1, oN) :: (L + 1 + 1 + 1 + 1 + 1 + 1 + 1, oR) :: (r ++ rest) ∧ IntsAre ys' ((List.range k).map fun j => (RR i j : Int))) ⟨rfl, .nil⟩ ?_ ?_
    · rintro k v' ys' nw' I' oI' C' oC' D' m₃ h3 tk3 hk ⟨tk', rfl⟩ ⟨rfl, hys'⟩ hC' hx' F3 N3 off3 hne3
      rw [show (0 : Int) + (k : Int) = (k : Int) by omega] at hx'
      have hki : k < 5 := by omega
      obtain ⟨psi, hpi⟩ : ∃ psi, tbl[i]? = some psi := ⟨_, List.getElem?_eq_getElem (by omega)⟩
      obtain ⟨psj, hpj⟩ : ∃ psj, tbl[k]? = some psj := ⟨_, List.getElem?_eq_getElem (by omega)⟩
      obtain ⟨ai, htvi, hTi⟩ := htabs.2 i psi hpi
      obtain ⟨aj, htvj, hTj⟩ := htabs.2 k psj hpj
      have hmi := List.mem_of_getElem? hpi
      have hmj := List.mem_of_getElem? hpj
      have hRR := hR i k psi psj (by omega) hpi hpj
      (repeat' (first | (k_unfold; (try dsimp only)) | (k_end; wrow_close) | ((((fail_if_success (with_reducible show wpAny _ _ (call (Value.builtin "dict.items") _ _) _ _ _)); (fail_if_success (with_reducible show wpAny _ _ (call (Value.type "range") _ _) _ _ _)); (fail_if_success (with_reducible show wpAny _ _ (call (Value.ref 112) _ _) _ _ _)); (fail_if_success (with_reducible show wpAny _ _ (eval (Expr.ListComp _ _ _ _) _) _ _ _)); (fail_if_success (with_reducible show wpAny _ _ (exec (Stmt.For _ _ _ _ _) _) _ _ _)); (fail_if_success (with_reducible show wpAny _ _ (exec (Stmt.While _ _ _ _) _) _ _ _)); (fail_if_success (with_reducible show wpAny _ _ (exec (Stmt.Assign [Expr.Name _ _] (Expr.ListComp _ _ _ _) _) _) _ _ _)))); first | (first | with_reducible (k_here; (with_reducible show wpAny _ _ (call (Value.ref 217) _ _) _ _ _); k_dflt (refine' rings ?Bqz ?Fqz ?Xqz ?Nqz ?Tqz ?hkqz ?hT1qz ?hT2qz ?hlnqz ?hnsqz ?hnlqz ?hgqz ?hg1qz ?hg2qz ?hk1qz ?hk2qz ?hRqz ?hdqz ?huqz ?_; (case Bqz => k_asm); (case Fqz => k_asm); (case Xqz => k_asm); (case Nqz => k_asm); (case Tqz => k_asm); (case hkqz => first | exact rfl | assumption); (case hT1qz => exact IsTab.mono hTi (fun p hp => by simp only [List.mem_cons, List.mem_append]; simp only [hp, true_or, or_true])); (case hT2qz => exact IsTab.mono hTj (fun p hp => by simp only [List.mem_cons, List.mem_append]; simp only [hp, true_or, or_true])); (case hlnqz => k_mem); (case hnsqz => exact hnv); (case hnlqz => assumption); (case hgqz => assumption); (case hg1qz => exact fun p hp => (hgp _ hmi p hp).1); (case hg2qz => exact fun p hp => (hgp _ hmj p hp).1); (case hk1qz => exact fun p hp => (hgp _ hmi p hp).2); (case hk2qz => exact fun p hp => (hgp _ hmj p hp).2); (case hRqz => exact hRR); (case hdqz => ktr_room); (case huqz => ktr_units); intro h9 tk9 t9 F9 N9; (try dsimp only))) | walk1) | (dsimp only; ((((fail_if_success (with_reducible show wpAny _ _ (call (Value.builtin "dict.items") _ _) _ _ _)); (fail_if_success (with_reducible show wpAny _ _ (call (Value.type "range") _ _) _ _ _)); (fail_if_success (with_reducible show wpAny _ _ (call (Value.ref 112) _ _) _ _ _)); (fail_if_success (with_reducible show wpAny _ _ (eval (Expr.ListComp _ _ _ _) _) _ _ _)); (fail_if_success (with_reducible show wpAny _ _ (exec (Stmt.For _ _ _ _ _) _) _ _ _)); (fail_if_success (with_reducible show wpAny _ _ (exec (Stmt.While _ _ _ _) _) _ _ _)); (fail_if_success (with_reducible show wpAny _ _ (exec (Stmt.Assign [Expr.Name _ _] (Expr.ListComp _ _ _ _) _) _) _ _ _))))); (first | with_reducible (k_here; (with_reducible show wpAny _ _ (call (Value.ref 217) _ _) _ _ _); k_dflt (refine' rings ?Bqz ?Fqz ?Xqz ?Nqz ?Tqz ?hkqz ?hT1qz ?hT2qz ?hlnqz ?hnsqz ?hnlqz ?hgqz ?hg1qz ?hg2qz ?hk1qz ?hk2qz ?hRqz ?hdqz ?huqz ?_; (case Bqz => k_asm); (case Fqz => k_asm); (case Xqz => k_asm); (case Nqz => k_asm); (case Tqz => k_asm); (case hkqz => first | exact rfl | assumption); (case hT1qz => exact IsTab.mono hTi (fun p hp => by simp only [List.mem_cons, List.mem_append]; simp only [hp, true_or, or_true])); (case hT2qz => exact IsTab.mono hTj (fun p hp => by simp only [List.mem_cons, List.mem_append]; simp only [hp, true_or, or_true])); (case hlnqz => k_mem); (case hnsqz => exact hnv); (case hnlqz => assumption); (case hgqz => assumption); (case hg1qz => exact fun p hp => (hgp _ hmi p hp).1); (case hg2qz => exact fun p hp => (hgp _ hmj p hp).1); (case hk1qz => exact fun p hp => (hgp _ hmi p hp).2); (case hk2qz => exact fun p hp => (hgp _ hmj p hp).2); (case hRqz => exact hRR); (case hdqz => ktr_room); (case huqz => ktr_units); intro h9 tk9 t9 F9 N9; (try dsimp only))) | walk1))) | (leave1; walk_say "STEP leave1"; try dsimp only) | fail "no step"))
      refine item_listL (l := tv) (x := Value.ref ai) (News.isList N3 (.tail _ (.tail _ (.tail _ (.tail _ (.tail _ (.tail _ (.tail _ (.head _))))))))) (by omega) (by omega) (by rw [Int.toNat_natCast]; exact htvi) ?_
      (repeat' (first | (k_unfold; (try dsimp only)) | (k_end; wrow_close) | ((((fail_if_success (with_reducible show wpAny _ _ (call (Value.builtin "dict.items") _ _) _ _ _)); (fail_if_success (with_reducible show wpAny _ _ (call (Value.type "range") _ _) _ _ _)); (fail_if_success (with_reducible show wpAny _ _ (call (Value.ref 112) _ _) _ _ _)); (fail_if_success (with_reducible show wpAny _ _ (eval (Expr.ListComp _ _ _ _) _) _ _ _)); (fail_if_success (with_reducible show wpAny _ _ (exec (Stmt.For _ _ _ _ _) _) _ _ _)); (fail_if_success (with_reducible show wpAny _ _ (exec (Stmt.While _ _ _ _) _) _ _ _)); (fail_if_success (with_reducible show wpAny _ _ (exec (Stmt.Assign [Expr.Name _ _] (Expr.ListComp _ _ _ _) _) _) _ _ _)))); first | (first | with_reducible (k_here; (with_reducible show wpAny _ _ (call (Value.ref 217) _ _) _ _ _); k_dflt (refine' rings ?Bqz ?Fqz ?Xqz ?Nqz ?Tqz ?hkqz ?hT1qz ?hT2qz ?hlnqz ?hnsqz ?hnlqz ?hgqz ?hg1qz ?hg2qz ?hk1qz ?hk2qz ?hRqz ?hdqz ?huqz ?_; (case Bqz => k_asm); (case Fqz => k_asm); (case Xqz => k_asm); (case Nqz => k_asm); (case Tqz => k_asm); (case hkqz => first | exact rfl | assumption); (case hT1qz => exact IsTab.mono hTi (fun p hp => by simp only [List.mem_cons, List.mem_append]; simp only [hp, true_or, or_true])); (case hT2qz => exact IsTab.mono hTj (fun p hp => by simp only [List.mem_cons, List.mem_append]; simp only [hp, true_or, or_true])); (case hlnqz => k_mem); (case hnsqz => exact hnv); (case hnlqz => assumption); (case hgqz => assumption); (case hg1qz => exact fun p hp => (hgp _ hmi p hp).1); (case hg2qz => exact fun p hp => (hgp _ hmj p hp).1); (case hk1qz => exact fun p hp => (hgp _ hmi p hp).2); (case hk2qz => exact fun p hp => (hgp _ hmj p hp).2); (case hRqz => exact hRR); (case hdqz => ktr_room); (case huqz => ktr_units); intro h9 tk9 t9 F9 N9; (try dsimp only))) | walk1) | (dsimp only; ((((fail_if_success (with_reducible show wpAny _ _ (call (Value.builtin "dict.items") _ _) _ _ _)); (fail_if_success (with_reducible show wpAny _ _ (call (Value.type "range") _ _) _ _ _)); (fail_if_success (with_reducible show wpAny _ _ (call (Value.ref 112) _ _) _ _ _)); (fail_if_success (with_reducible show wpAny _ _ (eval (Expr.ListComp _ _ _ _) _) _ _ _)); (fail_if_success (with_reducible show wpAny _ _ (exec (Stmt.For _ _ _ _ _) _) _ _ _)); (fail_if_success (with_reducible show wpAny _ _ (exec (Stmt.While _ _ _ _) _) _ _ _)); (fail_if_success (with_reducible show wpAny _ _ (exec (Stmt.Assign [Expr.Name _ _] (Expr.ListComp _ _ _ _) _) _) _ _ _))))); (first | with_reducible (k_here; (with_reducible show wpAny _ _ (call (Value.ref 217) _ _) _ _ _); k_dflt (refine' rings ?Bqz ?Fqz ?Xqz ?Nqz ?Tqz ?hkqz ?hT1qz ?hT2qz ?hlnqz ?hnsqz ?hnlqz ?hgqz ?hg1qz ?hg2qz ?hk1qz ?hk2qz ?hRqz ?hdqz ?huqz ?_; (case Bqz => k_asm); (case Fqz => k_asm); (case Xqz => k_asm); (case Nqz => k_asm); (case Tqz => k_asm); (case hkqz => first | exact rfl | assumption); (case hT1qz => exact IsTab.mono hTi (fun p hp => by simp only [List.mem_cons, List.mem_append]; simp only [hp, true_or, or_true])); (case hT2qz => exact IsTab.mono hTj (fun p hp => by simp only [List.mem_cons, List.mem_append]; simp only [hp, true_or, or_true])); (case hlnqz => k_mem); (case hnsqz => exact hnv); (case hnlqz => assumption); (case hgqz => assumption); (case hg1qz => exact fun p hp => (hgp _ hmi p hp).1); (case hg2qz => exact fun p hp => (hgp _ hmj p hp).1); (case hk1qz => exact fun p hp => (hgp _ hmi p hp).2); (case hk2qz => exact fun p hp => (hgp _ hmj p hp).2); (case hRqz => exact hRR); (case hdqz => ktr_room); (case huqz => ktr_units); intro h9 tk9 t9 F9 N9; (try dsimp only))) | walk1))) | (leave1; walk_say "STEP leave1"; try dsimp only) | fail "no step"))
      refine item_listL (l := tv) (x := Value.ref aj) (News.isList N3 (.tail _ (.tail _ (.tail _ (.tail _ (.tail _ (.tail _ (.tail _ (.head _))))))))) (by omega) (by omega) (by rw [Int.toNat_natCast]; exact htvj) ?_
      (repeat' (first | (k_unfold; (try dsimp only)) | (k_end; wrow_close) | ((((fail_if_success (with_reducible show wpAny _ _ (call (Value.builtin "dict.items") _ _) _ _ _)); (fail_if_success (with_reducible show wpAny _ _ (call (Value.type "range") _ _) _ _ _)); (fail_if_success (with_reducible show wpAny _ _ (call (Value.ref 112) _ _) _ _ _)); (fail_if_success (with_reducible show wpAny _ _ (eval (Expr.ListComp _ _ _ _) _) _ _ _)); (fail_if_success (with_reducible show wpAny _ _ (exec (Stmt.For _ _ _ _ _) _) _ _ _)); (fail_if_success (with_reducible show wpAny _ _ (exec (Stmt.While _ _ _ _) _) _ _ _)); (fail_if_success (with_reducible show wpAny _ _ (exec (Stmt.Assign [Expr.Name _ _] (Expr.ListComp _ _ _ _) _) _) _ _ _)))); first | (first | with_reducible (k_here; (with_reducible show wpAny _ _ (call (Value.ref 217) _ _) _ _ _); k_dflt (refine' rings ?Bqz ?Fqz ?Xqz ?Nqz ?Tqz ?hkqz ?hT1qz ?hT2qz ?hlnqz ?hnsqz ?hnlqz ?hgqz ?hg1qz ?hg2qz ?hk1qz ?hk2qz ?hRqz ?hdqz ?huqz ?_; (case Bqz => k_asm); (case Fqz => k_asm); (case Xqz => k_asm); (case Nqz => k_asm); (case Tqz => k_asm); (case hkqz => first | exact rfl | assumption); (case hT1qz => exact IsTab.mono hTi (fun p hp => by simp only [List.mem_cons, List.mem_append]; simp only [hp, true_or, or_true])); (case hT2qz => exact IsTab.mono hTj (fun p hp => by simp only [List.mem_cons, List.mem_append]; simp only [hp, true_or, or_true])); (case hlnqz => k_mem); (case hnsqz => exact hnv); (case hnlqz => assumption); (case hgqz => assumption); (case hg1qz => exact fun p hp => (hgp _ hmi p hp).1); (case hg2qz => exact fun p hp => (hgp _ hmj p hp).1); (case hk1qz => exact fun p hp => (hgp _ hmi p hp).2); (case hk2qz => exact fun p hp => (hgp _ hmj p hp).2); (case hRqz => exact hRR); (case hdqz => ktr_room); (case huqz => ktr_units); intro h9 tk9 t9 F9 N9; (try dsimp only))) | walk1) | (dsimp only; ((((fail_if_success (with_reducible show wpAny _ _ (call (Value.builtin "dict.items") _ _) _ _ _)); (fail_if_success (with_reducible show wpAny _ _ (call (Value.type "range") _ _) _ _ _)); (fail_if_success (with_reducible show wpAny _ _ (call (Value.ref 112) _ _) _ _ _)); (fail_if_success (with_reducible show wpAny _ _ (eval (Expr.ListComp _ _ _ _) _) _ _ _)); (fail_if_success (with_reducible show wpAny _ _ (exec (Stmt.For _ _ _ _ _) _) _ _ _)); (fail_if_success (with_reducible show wpAny _ _ (exec (Stmt.While _ _ _ _) _) _ _ _)); (fail_if_success (with_reducible show wpAny _ _ (exec (Stmt.Assign [Expr.Name _ _] (Expr.ListComp _ _ _ _) _) _) _ _ _))))); (first | with_reducible (k_here; (with_reducible show wpAny _ _ (call (Value.ref 217) _ _) _ _ _); k_dflt (refine' rings ?Bqz ?Fqz ?Xqz ?Nqz ?Tqz ?hkqz ?hT1qz ?hT2qz ?hlnqz ?hnsqz ?hnlqz ?hgqz ?hg1qz ?hg2qz ?hk1qz ?hk2qz ?hRqz ?hdqz ?huqz ?_; (case Bqz => k_asm); (case Fqz => k_asm); (case Xqz => k_asm); (case Nqz => k_asm); (case Tqz => k_asm); (case hkqz => first | exact rfl | assumption); (case hT1qz => exact IsTab.mono hTi (fun p hp => by simp only [List.mem_cons, List.mem_append]; simp only [hp, true_or, or_true])); (case hT2qz => exact IsTab.mono hTj (fun p hp => by simp only [List.mem_cons, List.mem_append]; simp only [hp, true_or, or_true])); (case hlnqz => k_mem); (case hnsqz => exact hnv); (case hnlqz => assumption); (case hgqz => assumption); (case hg1qz => exact fun p hp => (hgp _ hmi p hp).1); (case hg2qz => exact fun p hp => (hgp _ hmj p hp).1); (case hk1qz => exact fun p hp => (hgp _ hmi p hp).2); (case hk2qz => exact fun p hp => (hgp _ hmj p hp).2); (case hRqz => exact hRR); (case hdqz => ktr_room); (case huqz => ktr_units); intro h9 tk9 t9 F9 N9; (try dsimp only))) | walk1))) | (leave1; walk_say "STEP leave1"; try dsimp only) | fail "no step"))
      exact LCg.CompEnd.intro F9 N9 _ (fun p hp => hp) off3 trivial ⟨rfl, by
        rw [List.range_succ, List.map_append]
        exact hys'.append (.cons _ _ .nil)⟩
    · rintro ys' nw' ⟨rfl, hys'⟩
      intro D' h3 tk3 F3 N3 off3
      have o := off1_mem off3
      refine ⟨h3, _, (dT, listOf tv.toArray nT) :: (L + 1 + 1 + 1 + 1 + 1, oT) :: (dM, LCg.lst nmv) :: (L + 1 + 1 + 1 + 1, oN) :: (L + 1 + 1 + 1 + 1 + 1 + 1 + 1, oR) :: (((D', LCg.lst ys') :: r) ++ rest), rfl, F3, fun p hp => N3 p ?_, ?_, trivial, (D', LCg.lst ys') :: r, rfl, hrg.snoc hys', ?_⟩
      · simp only [List.mem_cons, List.mem_append] at hp ⊢
        rcases hp with h | h | h | h | h | h | h | h | h | (h | h) | h
        all_goals simp only [h, true_or, or_true]
      · intro p hp
        simp only [List.mem_cons, List.mem_append] at hp
        rcases hp with h | h | h | h | h | (h | h) | h
        · rw [h]; exact off (dT, listOf tv.toArray nT) (.head _)
        · rw [h]; exact off (L + 1 + 1 + 1 + 1 + 1, oT) (.tail _ (.head _))
        · rw [h]; exact off (dM, LCg.lst nmv) (.tail _ (.tail _ (.head _)))
        · rw [h]; exact off (L + 1 + 1 + 1 + 1, oN) (.tail _ (.tail _ (.tail _ (.head _))))
        · rw [h]; exact off (L + 1 + 1 + 1 + 1 + 1 + 1 + 1, oR) (.tail _ (.tail _ (.tail _ (.tail _ (.head _)))))
        · rw [h]; exact ⟨(o (I, oI) (.head _)).symm, (o (C, oC) (.tail _ (.head _))).symm, (o (D1, oX) (.tail _ (.tail _ (.head _)))).symm, (o (D, LCg.lst ys) (.tail _ (.tail _ (.tail _ (.head _))))).symm⟩
        · exact off p (.tail _ (.tail _ (.tail _ (.tail _ (.tail _ (List.mem_append_left _ h))))))
        · exact off p (.tail _ (.tail _ (.tail _ (.tail _ (.tail _ (List.mem_append_right _ h))))))
      · intro p hp q hq
        rcases List.mem_cons.mp hp with h | h
        · rw [h]; exact (o q (by
            simp only [List.mem_cons, List.mem_append] at hq ⊢
            rcases hq with h | h | h | h | h | h
            all_goals simp only [h, true_or, or_true])).symm
        · exact hr7 p h q hq
  · rintro ys nw ⟨r, rfl, hrg, hr7⟩ D h tk F2 N2 off
    have o1 : @Ne Nat dT D := off (dT, listOf tv.toArray nT) (.head _)
    have o7 : @Ne Nat (L + 1 + 1 + 1 + 1 + 1 + 1 + 1) D := off (L + 1 + 1 + 1 + 1 + 1 + 1 + 1, oR) (.tail _ (.tail _ (.tail _ (.tail _ (.head _)))))
    have orr : ∀ p ∈ r ++ rest, p.1 ≠ L + 1 + 1 + 1 + 1 + 1 + 1 + 1 := fun p hp => by
      rcases List.mem_append.mp hp with h | h
      · exact hr7 p h _ (.tail _ (.tail _ (.tail _ (.tail _ (.head _)))))
      · exact hr p h
    (first | with_reducible (k_here; (with_reducible show wpAny _ _ (call (Value.ref 217) _ _) _ _ _); k_dflt (refine' rings ?Bqz ?Fqz ?Xqz ?Nqz ?Tqz ?hkqz ?hT1qz ?hT2qz ?hlnqz ?hnsqz ?hnlqz ?hgqz ?hg1qz ?hg2qz ?hk1qz ?hk2qz ?hRqz ?hdqz ?huqz ?_; (case Bqz => k_asm); (case Fqz => k_asm); (case Xqz => k_asm); (case Nqz => k_asm); (case Tqz => k_asm); (case hkqz => first | exact rfl | assumption); (case hT1qz => exact IsTab.mono hTi (fun p hp => by simp only [List.mem_cons, List.mem_append]; simp only [hp, true_or, or_true])); (case hT2qz => exact IsTab.mono hTj (fun p hp => by simp only [List.mem_cons, List.mem_append]; simp only [hp, true_or, or_true])); (case hlnqz => k_mem); (case hnsqz => exact hnv); (case hnlqz => assumption); (case hgqz => assumption); (case hg1qz => exact fun p hp => (hgp _ hmi p hp).1); (case hg2qz => exact fun p hp => (hgp _ hmj p hp).1); (case hk1qz => exact fun p hp => (hgp _ hmi p hp).2); (case hk2qz => exact fun p hp => (hgp _ hmj p hp).2); (case hRqz => exact hRR); (case hdqz => ktr_room); (case huqz => ktr_units); intro h9 tk9 t9 F9 N9; (try dsimp only))) | walk1)
    exact hnext _ _ D ys _ r (by assumption) (by assumption) (by assumption) hrg fun p hp q hq => by
      rcases List.mem_cons.mp hp with h | h
      · rw [h]; exact (off q (by
          simp only [List.mem_cons, List.mem_append] at hq ⊢
          rcases hq with h | h | h | h | h | h
          all_goals simp only [h, true_or, or_true])).symm
      · exact hr7 p h q hq
end
end
section
noncomputable def ringRow (RR : Nat → Nat → Nat) (q : Int) (i : Nat) : List Int := (List.range 5).map fun j => q ^ RR (max i j) (min i j)
section
variable {prog : Program} {w : World} {A : Around} {E : Value → Shared → Prop} {s : Shared} {h₀ : Heap} {L : Addr} {m : PySem.Str → Option Value} {news : List (Addr × Obj)}
theorem maxN {a b : Nat} {t u : Tok} {Q : Value → Shared → Prop} (hh : A.handled = none) (F : Fr h₀ L s.heap m) (N : News h₀ L s.heap news)
    (h : ∀ h' tk t', Fr h₀ L h' m → News h₀ L h' news → Q (.int ((max a b : Nat) : Int) t') { s with heap := h', toks := tk }) :
    wpAny (model prog w) A (call (.builtin "max") [.int (a : Int) t, .int (b : Int) u]) Q E s :=
  max_two_N hh F N fun h' tk F' N' => by
    have := h h' tk (if (b : Int) > a then u else t) F' N'
    rw [show (if (b : Int) > a then (b : Int) else (a : Int)) = ((max a b : Nat) : Int) by split <;> omega]
    exact this
theorem minN {a b : Nat} {t u : Tok} {Q : Value → Shared → Prop} (hh : A.handled = none) (F : Fr h₀ L s.heap m) (N : News h₀ L s.heap news)
    (h : ∀ h' tk t', Fr h₀ L h' m → News h₀ L h' news → Q (.int ((min a b : Nat) : Int) t') { s with heap := h', toks := tk }) :
    wpAny (model prog w) A (call (.builtin "min") [.int (a : Int) t, .int (b : Int) u]) Q E s :=
  min_two_N hh F N fun h' tk F' N' => by
    have := h h' tk (if (b : Int) < a then u else t) F' N'
    rw [show (if (b : Int) < a then (b : Int) else (a : Int)) = ((min a b : Nat) : Int) by split <;> omega]
    exact this
end
theorem item_T {prog : Program} {w : World} {A : Around} {E : Value → Shared → Prop} {s : Shared} {value slice : Expr} {l : Addr} {vs : List Value} {ns : List Int} {k : Nat} {u : Tok} {Q : Value → Shared → Prop} (hl : s.heap.IsList l vs.toArray) (hi : IntsAre vs ns) (hk : k < ns.length) (h5 : ns.length < 1000)
    (h : ∀ t, Q (.int (ns.getD k 0) t) s)
    (hs : subscripted slice false (.ref l) (.int (k : Int) u) = operate [.ref l, .int (k : Int) u] (getItem (.ref l) (.int (k : Int) u)) := by with_unfolding_all rfl) :
    wpAny (model prog w) A (subscriptTail value slice (.ref l) (.int (k : Int) u)) Q E s := by
  have e : ns[k]? = some (ns.getD k 0) := by simp [List.getD, hk]
  obtain ⟨t, ht⟩ := hi.get k _ e
  exact tail_any hl.typeIs slot_list_getitem.lookup (wpAny_getItem_list hl (by omega) (by omega) (by rw [Int.toNat_natCast]; simpa using ht) (h t)) hs
theorem ring_len (RR : Nat → Nat → Nat) (q : Int) (i : Nat) : (ringRow RR q i).length = 5 := by simp [ringRow]
theorem pow_tab : ∀ a : Nat, a < 10 → ∀ n : Nat, n < 4 → decide ((-1000 : Int) < ((a : Int) - 4) ^ n) && decide (((a : Int) - 4) ^ n < 1000) = true := by decide +kernel
theorem pow_small {q : Int} (h1 : -4 ≤ q) (h2 : q ≤ 5) {n : Nat} (hn : n ≤ 3) : (-1000 : Int) < q ^ n ∧ q ^ n < 1000 := by
  obtain ⟨a, ha, rfl⟩ : ∃ a : Nat, a < 10 ∧ q = (a : Int) - 4 := ⟨(q + 4).toNat, by omega, by omega⟩
  have := pow_tab a ha n (by omega)
  simp only [Bool.and_eq_true, decide_eq_true_eq] at this
  exact this
theorem ring_small {RR : Nat → Nat → Nat} {q : Int} (h1 : -4 ≤ q) (h2 : q ≤ 5) (hRR : ∀ i j, j ≤ i → i < 5 → RR i j ≤ 3) {i : Nat} (hi : i < 5) : ∀ x ∈ ringRow RR q i, (-1000 : Int) < x ∧ x < 1000 := by
  intro x hx
  obtain ⟨j, hj, rfl⟩ := List.mem_map.mp hx
  have hj5 : j < 5 := List.mem_range.mp hj
  exact pow_small h1 h2 (hRR _ _ (by omega) (by omega))
theorem RowsAre.mono {nw nw' : List (Addr × Obj)} {rv : List Value} {rows : List (List Int)} (x : RowsAre nw rv rows) (h : ∀ p ∈ nw, p ∈ nw') : RowsAre nw' rv rows :=
  ⟨x.1, fun i row e => let ⟨h1, h2, a, vs, n, e1, e2, e3⟩ := x.2 i row e; ⟨h1, h2, a, vs, n, e1, h _ e2, e3⟩⟩
theorem RowsAre.snoc {nw : List (Addr × Obj)} {rv : List Value} {rows : List (List Int)} {a : Addr} {vs : List Value} {row : List Int} (x : RowsAre nw rv rows) (h5 : row.length = 5) (hb : ∀ x ∈ row, (-1000 : Int) < x ∧ x < 1000) (hi : IntsAre vs row) : RowsAre ((a, LCg.lst vs) :: nw) (rv ++ [Value.ref a]) (rows ++ [row]) := by
  refine ⟨by simp [x.1], fun i row' e => ?_⟩
  by_cases h : i < rows.length
  · rw [List.getElem?_append_left h] at e
    obtain ⟨h1, h2, a', vs', n, e1, e2, e3⟩ := x.2 i row' e
    exact ⟨h1, h2, a', vs', n, by rw [List.getElem?_append_left (by rw [x.1]; exact h)]; exact e1, .tail _ e2, e3⟩
  · rw [List.getElem?_append_right (Nat.le_of_not_lt h)] at e
    have h0 : i - rows.length = 0 := by
      cases q : i - rows.length with
      | zero => rfl
      | succ k => rw [q] at e; simp at e
    rw [h0] at e
    simp at e
    subst e
    refine ⟨h5, hb, a, vs, vs.length, ?_, .head _, hi⟩
    rw [List.getElem?_append_right (by rw [x.1]; exact Nat.le_of_not_lt h), x.1, h0]
    rfl
section
variable {w : World} {mean : ExcName → Option Value} {mg mb : PySem.Str → Option Value} {base h₀ : Heap} {L fa : Addr} {cd : Value} {m : PySem.Str → Option Value} {s : Shared} {Q : Flow → Shared → Prop} {E : Value → Shared → Prop}
  (B : Below callerA base [] h₀) (F : Fr h₀ L s.heap m) (X : (hd.heap_39 w.params).In h₀) (T : Top hd.view_39 LO mean mg mb h₀)
include B F X T
set_option maxRecDepth 100000 in
set_option maxHeartbeats 1000000 in
set_option pp.deepTerms false in
set_option pp.deepTerms.threshold 8 in
theorem stK {dG : Addr} {gv : List Value} {oQ oR : Obj} {q D : Int} {tq : Tok} {rest : List (Addr × Obj)} (RR : Nat → Nat → Nat)
    (N : News h₀ L s.heap ((dG, LCg.lst gv) :: (L + 1 + 1 + 1 + 1 + 1 + 1, oQ) :: (L + 1 + 1 + 1 + 1 + 1 + 1 + 1, oR) :: rest))
    (hoQ : oQ.data = .cell (some (.int q tq))) (hoR : oR.data = .cell (some (.ref dG))) (hrg : RingsAre rest gv 5 RR) (hq1 : -4 ≤ q) (hq2 : q ≤ 5) (hRR : ∀ i j, j ≤ i → i < 5 → RR i j ≤ 3)
    (hfin : (rowsGo ((List.range 5).map (ringRow RR q)) [(0, 1)]).find? (fun p => p.1 = 31) = some (31, D))
    (hnext : ∀ h' tk' tt, Fr h₀ L h' (fun z => if z = PySem.Str.ofString "told" then some (.int D tt) else m z) → News h₀ L h' ((dG, LCg.lst gv) :: (L + 1 + 1 + 1 + 1 + 1 + 1, oQ) :: (L + 1 + 1 + 1 + 1 + 1 + 1 + 1, oR) :: rest) → 
      wpAny (model PySem.Challenge.rw_wa0038_01.row.prog w) (lawA L fa cd) (execs (lawBody.drop 14) (lawEnv L fa cd)) Q E { s with heap := h', toks := tk' }) :
    wpAny (model PySem.Challenge.rw_wa0038_01.row.prog w) (lawA L fa cd) (execs (lawBody.drop 13) (lawEnv L fa cd)) Q E s := by
  generalize hP : ((rowsGo ((List.range 5).map (ringRow RR q)) [(0, 1)]).find? (fun p => p.1 = 31) = some (31, D)) = P at hfin
  revert X; k_fill; intro X
  show wpAny _ (callerA.deeper (envOfC _ ⟨_, _, _, _, _⟩ _ _ _)) (execs (_ :: _) (envOfC _ ⟨_, _, _, _, _⟩ _ _ _)) _ _ _
  (repeat' (first | (k_unfold; (try dsimp only)) | (k_end; wrow_close) | ((((fail_if_success (with_reducible show wpAny _ _ (call (Value.builtin "dict.items") _ _) _ _ _)); (fail_if_success (with_reducible show wpAny _ _ (call (Value.type "range") _ _) _ _ _)); (fail_if_success (with_reducible show wpAny _ _ (call (Value.ref 112) _ _) _ _ _)); (fail_if_success (with_reducible show wpAny _ _ (eval (Expr.ListComp _ _ _ _) _) _ _ _)); (fail_if_success (with_reducible show wpAny _ _ (exec (Stmt.For _ _ _ _ _) _) _ _ _)); (fail_if_success (with_reducible show wpAny _ _ (exec (Stmt.While _ _ _ _) _) _ _ _)); (fail_if_success (with_reducible show wpAny _ _ (exec (Stmt.Assign [Expr.Name _ _] (Expr.ListComp _ _ _ _) _) _) _ _ _)))); first | (first | with_reducible (k_here; (with_reducible show wpAny _ _ (call (Value.ref 224) _ _) _ _ _); k_dflt (refine' det ?Bqz ?Fqz ?Xqz ?Nqz ?Tqz ?hkqz ?hrwqz ?hrlqz ?hlrqz ?hdqz ?huqz ?hfinqz ?_; (case Bqz => k_asm); (case Fqz => k_asm); (case Xqz => k_asm); (case Nqz => k_asm); (case Tqz => k_asm); (case hkqz => first | exact rfl | assumption); (case hrwqz => exact RowsAre.mono hrw (fun p hp => .tail _ (.tail _ (.tail _ (.tail _ (List.mem_append_left _ hp)))))); (case hrlqz => exact (by simp)); (case hlrqz => exact (.head _)); (case hfinqz => exact (Eq.mpr hP hfin)); (case hdqz => ktr_room); (case huqz => ktr_units); intro h9 tk9 t9 F9 N9; (try dsimp only))) | walk1) | (dsimp only; ((((fail_if_success (with_reducible show wpAny _ _ (call (Value.builtin "dict.items") _ _) _ _ _)); (fail_if_success (with_reducible show wpAny _ _ (call (Value.type "range") _ _) _ _ _)); (fail_if_success (with_reducible show wpAny _ _ (call (Value.ref 112) _ _) _ _ _)); (fail_if_success (with_reducible show wpAny _ _ (eval (Expr.ListComp _ _ _ _) _) _ _ _)); (fail_if_success (with_reducible show wpAny _ _ (exec (Stmt.For _ _ _ _ _) _) _ _ _)); (fail_if_success (with_reducible show wpAny _ _ (exec (Stmt.While _ _ _ _) _) _ _ _)); (fail_if_success (with_reducible show wpAny _ _ (exec (Stmt.Assign [Expr.Name _ _] (Expr.ListComp _ _ _ _) _) _) _ _ _))))); (first | with_reducible (k_here; (with_reducible show wpAny _ _ (call (Value.ref 224) _ _) _ _ _); k_dflt (refine' det ?Bqz ?Fqz ?Xqz ?Nqz ?Tqz ?hkqz ?hrwqz ?hrlqz ?hlrqz ?hdqz ?huqz ?hfinqz ?_; (case Bqz => k_asm); (case Fqz => k_asm); (case Xqz => k_asm); (case Nqz => k_asm); (case Tqz => k_asm); (case hkqz => first | exact rfl | assumption); (case hrwqz => exact RowsAre.mono hrw (fun p hp => .tail _ (.tail _ (.tail _ (.tail _ (List.mem_append_left _ hp)))))); (case hrlqz => exact (by simp)); (case hlrqz => exact (.head _)); (case hfinqz => exact (Eq.mpr hP hfin)); (case hdqz => ktr_room); (case huqz => ktr_units); intro h9 tk9 t9 F9 N9; (try dsimp only))) | walk1))) | (leave1; walk_say "STEP leave1"; try dsimp only) | fail "no step"))
  refine ListComp_CR F (by with_unfolding_all rfl) (by rfl) (by decide) (fun _ => by rfl) (fun _ => by rfl) (fun _ _ => by rfl) ?_
  (repeat' (first | (k_unfold; (try dsimp only)) | (k_end; wrow_close) | ((((fail_if_success (with_reducible show wpAny _ _ (call (Value.builtin "dict.items") _ _) _ _ _)); (fail_if_success (with_reducible show wpAny _ _ (call (Value.type "range") _ _) _ _ _)); (fail_if_success (with_reducible show wpAny _ _ (call (Value.ref 112) _ _) _ _ _)); (fail_if_success (with_reducible show wpAny _ _ (eval (Expr.ListComp _ _ _ _) _) _ _ _)); (fail_if_success (with_reducible show wpAny _ _ (exec (Stmt.For _ _ _ _ _) _) _ _ _)); (fail_if_success (with_reducible show wpAny _ _ (exec (Stmt.While _ _ _ _) _) _ _ _)); (fail_if_success (with_reducible show wpAny _ _ (exec (Stmt.Assign [Expr.Name _ _] (Expr.ListComp _ _ _ _) _) _) _ _ _)))); first | (first | with_reducible (k_here; (with_reducible show wpAny _ _ (call (Value.ref 224) _ _) _ _ _); k_dflt (refine' det ?Bqz ?Fqz ?Xqz ?Nqz ?Tqz ?hkqz ?hrwqz ?hrlqz ?hlrqz ?hdqz ?huqz ?hfinqz ?_; (case Bqz => k_asm); (case Fqz => k_asm); (case Xqz => k_asm); (case Nqz => k_asm); (case Tqz => k_asm); (case hkqz => first | exact rfl | assumption); (case hrwqz => exact RowsAre.mono hrw (fun p hp => .tail _ (.tail _ (.tail _ (.tail _ (List.mem_append_left _ hp)))))); (case hrlqz => exact (by simp)); (case hlrqz => exact (.head _)); (case hfinqz => exact (Eq.mpr hP hfin)); (case hdqz => ktr_room); (case huqz => ktr_units); intro h9 tk9 t9 F9 N9; (try dsimp only))) | walk1) | (dsimp only; ((((fail_if_success (with_reducible show wpAny _ _ (call (Value.builtin "dict.items") _ _) _ _ _)); (fail_if_success (with_reducible show wpAny _ _ (call (Value.type "range") _ _) _ _ _)); (fail_if_success (with_reducible show wpAny _ _ (call (Value.ref 112) _ _) _ _ _)); (fail_if_success (with_reducible show wpAny _ _ (eval (Expr.ListComp _ _ _ _) _) _ _ _)); (fail_if_success (with_reducible show wpAny _ _ (exec (Stmt.For _ _ _ _ _) _) _ _ _)); (fail_if_success (with_reducible show wpAny _ _ (exec (Stmt.While _ _ _ _) _) _ _ _)); (fail_if_success (with_reducible show wpAny _ _ (exec (Stmt.Assign [Expr.Name _ _] (Expr.ListComp _ _ _ _) _) _) _ _ _))))); (first | with_reducible (k_here; (with_reducible show wpAny _ _ (call (Value.ref 224) _ _) _ _ _); k_dflt (refine' det ?Bqz ?Fqz ?Xqz ?Nqz ?Tqz ?hkqz ?hrwqz ?hrlqz ?hlrqz ?hdqz ?huqz ?hfinqz ?_; (case Bqz => k_asm); (case Fqz => k_asm); (case Xqz => k_asm); (case Nqz => k_asm); (case Tqz => k_asm); (case hkqz => first | exact rfl | assumption); (case hrwqz => exact RowsAre.mono hrw (fun p hp => .tail _ (.tail _ (.tail _ (.tail _ (List.mem_append_left _ hp)))))); (case hrlqz => exact (by simp)); (case hlrqz => exact (.head _)); (case hfinqz => exact (Eq.mpr hP hfin)); (case hdqz => ktr_room); (case huqz => ktr_units); intro h9 tk9 t9 F9 N9; (try dsimp only))) | walk1))) | (leave1; walk_say "STEP leave1"; try dsimp only) | fail "no step"))
  refine call_range_1 ?_
  refine ⟨_, 0, 5, _, _, _, 5, _, fun i ys nw => ∃ r, nw = (dG, LCg.lst gv) :: (L + 1 + 1 + 1 + 1 + 1 + 1, oQ) :: (L + 1 + 1 + 1 + 1 + 1 + 1 + 1, oR) :: (r ++ rest) ∧ RowsAre r ys ((List.range i).map (ringRow RR q)), rfl, by rfl, F.push _, N.pushKeep _, IsRange.new .., small_one (by decide) (by decide) (by decide) (by decide), by decide, by decide, ⟨[], rfl, ⟨rfl, fun k row e => by simp at e⟩⟩, ?_, ?_⟩
  · rintro g i tv2 ys nw I C D1 D0 oI oC oX h tk hi ⟨r, rfl, hrw⟩ hC hX F2 N2 off
    rw [show (0 : Int) + (i : Int) = (i : Int) by omega] at hX
    (repeat' (first | (k_unfold; (try dsimp only)) | (k_end; wrow_close) | ((((fail_if_success (with_reducible show wpAny _ _ (call (Value.builtin "dict.items") _ _) _ _ _)); (fail_if_success (with_reducible show wpAny _ _ (call (Value.type "range") _ _) _ _ _)); (fail_if_success (with_reducible show wpAny _ _ (call (Value.ref 112) _ _) _ _ _)); (fail_if_success (with_reducible show wpAny _ _ (eval (Expr.ListComp _ _ _ _) _) _ _ _)); (fail_if_success (with_reducible show wpAny _ _ (exec (Stmt.For _ _ _ _ _) _) _ _ _)); (fail_if_success (with_reducible show wpAny _ _ (exec (Stmt.While _ _ _ _) _) _ _ _)); (fail_if_success (with_reducible show wpAny _ _ (exec (Stmt.Assign [Expr.Name _ _] (Expr.ListComp _ _ _ _) _) _) _ _ _)))); first | (first | with_reducible (k_here; (with_reducible show wpAny _ _ (call (Value.ref 224) _ _) _ _ _); k_dflt (refine' det ?Bqz ?Fqz ?Xqz ?Nqz ?Tqz ?hkqz ?hrwqz ?hrlqz ?hlrqz ?hdqz ?huqz ?hfinqz ?_; (case Bqz => k_asm); (case Fqz => k_asm); (case Xqz => k_asm); (case Nqz => k_asm); (case Tqz => k_asm); (case hkqz => first | exact rfl | assumption); (case hrwqz => exact RowsAre.mono hrw (fun p hp => .tail _ (.tail _ (.tail _ (.tail _ (List.mem_append_left _ hp)))))); (case hrlqz => exact (by simp)); (case hlrqz => exact (.head _)); (case hfinqz => exact (Eq.mpr hP hfin)); (case hdqz => ktr_room); (case huqz => ktr_units); intro h9 tk9 t9 F9 N9; (try dsimp only))) | walk1) | (dsimp only; ((((fail_if_success (with_reducible show wpAny _ _ (call (Value.builtin "dict.items") _ _) _ _ _)); (fail_if_success (with_reducible show wpAny _ _ (call (Value.type "range") _ _) _ _ _)); (fail_if_success (with_reducible show wpAny _ _ (call (Value.ref 112) _ _) _ _ _)); (fail_if_success (with_reducible show wpAny _ _ (eval (Expr.ListComp _ _ _ _) _) _ _ _)); (fail_if_success (with_reducible show wpAny _ _ (exec (Stmt.For _ _ _ _ _) _) _ _ _)); (fail_if_success (with_reducible show wpAny _ _ (exec (Stmt.While _ _ _ _) _) _ _ _)); (fail_if_success (with_reducible show wpAny _ _ (exec (Stmt.Assign [Expr.Name _ _] (Expr.ListComp _ _ _ _) _) _) _ _ _))))); (first | with_reducible (k_here; (with_reducible show wpAny _ _ (call (Value.ref 224) _ _) _ _ _); k_dflt (refine' det ?Bqz ?Fqz ?Xqz ?Nqz ?Tqz ?hkqz ?hrwqz ?hrlqz ?hlrqz ?hdqz ?huqz ?hfinqz ?_; (case Bqz => k_asm); (case Fqz => k_asm); (case Xqz => k_asm); (case Nqz => k_asm); (case Tqz => k_asm); (case hkqz => first | exact rfl | assumption); (case hrwqz => exact RowsAre.mono hrw (fun p hp => .tail _ (.tail _ (.tail _ (.tail _ (List.mem_append_left _ hp)))))); (case hrlqz => exact (by simp)); (case hlrqz => exact (.head _)); (case hfinqz => exact (Eq.mpr hP hfin)); (case hdqz => ktr_room); (case huqz => ktr_units); intro h9 tk9 t9 F9 N9; (try dsimp only))) | walk1))) | (leave1; walk_say "STEP leave1"; try dsimp only) | fail "no step"))
    refine LCg.ListComp_U F2 (by with_unfolding_all rfl) (by decide) (by rfl) (by decide) (by rfl) ?_
    (repeat' (first | (k_unfold; (try dsimp only)) | (k_end; wrow_close) | ((((fail_if_success (with_reducible show wpAny _ _ (call (Value.builtin "dict.items") _ _) _ _ _)); (fail_if_success (with_reducible show wpAny _ _ (call (Value.type "range") _ _) _ _ _)); (fail_if_success (with_reducible show wpAny _ _ (call (Value.ref 112) _ _) _ _ _)); (fail_if_success (with_reducible show wpAny _ _ (eval (Expr.ListComp _ _ _ _) _) _ _ _)); (fail_if_success (with_reducible show wpAny _ _ (exec (Stmt.For _ _ _ _ _) _) _ _ _)); (fail_if_success (with_reducible show wpAny _ _ (exec (Stmt.While _ _ _ _) _) _ _ _)); (fail_if_success (with_reducible show wpAny _ _ (exec (Stmt.Assign [Expr.Name _ _] (Expr.ListComp _ _ _ _) _) _) _ _ _)))); first | (first | with_reducible (k_here; (with_reducible show wpAny _ _ (call (Value.ref 224) _ _) _ _ _); k_dflt (refine' det ?Bqz ?Fqz ?Xqz ?Nqz ?Tqz ?hkqz ?hrwqz ?hrlqz ?hlrqz ?hdqz ?huqz ?hfinqz ?_; (case Bqz => k_asm); (case Fqz => k_asm); (case Xqz => k_asm); (case Nqz => k_asm); (case Tqz => k_asm); (case hkqz => first | exact rfl | assumption); (case hrwqz => exact RowsAre.mono hrw (fun p hp => .tail _ (.tail _ (.tail _ (.tail _ (List.mem_append_left _ hp)))))); (case hrlqz => exact (by simp)); (case hlrqz => exact (.head _)); (case hfinqz => exact (Eq.mpr hP hfin)); (case hdqz => ktr_room); (case huqz => ktr_units); intro h9 tk9 t9 F9 N9; (try dsimp only))) | walk1) | (dsimp only; ((((fail_if_success (with_reducible show wpAny _ _ (call (Value.builtin "dict.items") _ _) _ _ _)); (fail_if_success (with_reducible show wpAny _ _ (call (Value.type "range") _ _) _ _ _)); (fail_if_success (with_reducible show wpAny _ _ (call (Value.ref 112) _ _) _ _ _)); (fail_if_success (with_reducible show wpAny _ _ (eval (Expr.ListComp _ _ _ _) _) _ _ _)); (fail_if_success (with_reducible show wpAny _ _ (exec (Stmt.For _ _ _ _ _) _) _ _ _)); (fail_if_success (with_reducible show wpAny _ _ (exec (Stmt.While _ _ _ _) _) _ _ _)); (fail_if_success (with_reducible show wpAny _ _ (exec (Stmt.Assign [Expr.Name _ _] (Expr.ListComp _ _ _ _) _) _) _ _ _))))); (first | with_reducible (k_here; (with_reducible show wpAny _ _ (call (Value.ref 224) _ _) _ _ _); k_dflt (refine' det ?Bqz ?Fqz ?Xqz ?Nqz ?Tqz ?hkqz ?hrwqz ?hrlqz ?hlrqz ?hdqz ?huqz ?hfinqz ?_; (case Bqz => k_asm); (case Fqz => k_asm); (case Xqz => k_asm); (case Nqz => k_asm); (case Tqz => k_asm); (case hkqz => first | exact rfl | assumption); (case hrwqz => exact RowsAre.mono hrw (fun p hp => .tail _ (.tail _ (.tail _ (.tail _ (List.mem_append_left _ hp)))))); (case hrlqz => exact (by simp)); (case hlrqz => exact (.head _)); (case hfinqz => exact (Eq.mpr hP hfin)); (case hdqz => ktr_room); (case huqz => ktr_units); intro h9 tk9 t9 F9 N9; (try dsimp only))) | walk1))) | (leave1; walk_say "STEP leave1"; try dsimp only) | fail "no step"))
    refine call_range_1 ?_
    refine LCg.CompSrc.range (a := 0) (n := 5) (by rfl) (F2.push _) (N2.pushKeep _) (IsRange.new ..) (small_one (by decide) (by decide) (by decide) (by decide)) (by decide) (by decide) ?_
    intro g2
    refine rest_inv (fun k ys' nw' => nw' = (I, oI) :: (C, oC) :: (D1, oX) :: (D0, LCg.lst ys) :: (dG, LCg.lst gv) :: (L + 1 + 1 + 1 + 1 + 1 + 1, oQ) :: (L + 1 + 1 + 1 + 1 + 1 + 1 + 1, oR) :: (r ++ rest) ∧ IntsAre ys' ((List.range k).map fun j => q ^ RR (max i j) (min i j))) ⟨rfl, .nil⟩ ?_ ?_
    · rintro k v' ys' nw' I' oI' C' oC' D' m₃ h3 tk3 hk ⟨tk', rfl⟩ ⟨rfl, hys'⟩ hC' hx' F3 N3 off3 hne3
      rw [show (0 : Int) + (k : Int) = (k : Int) by omega] at hx'
      (repeat' (first | (k_unfold; (try dsimp only)) | (k_end; wrow_close) | (((((((fail_if_success (with_reducible show wpAny _ _ (call (Value.builtin "dict.items") _ _) _ _ _)); (fail_if_success (with_reducible show wpAny _ _ (call (Value.type "range") _ _) _ _ _)); (fail_if_success (with_reducible show wpAny _ _ (call (Value.ref 112) _ _) _ _ _)); (fail_if_success (with_reducible show wpAny _ _ (eval (Expr.ListComp _ _ _ _) _) _ _ _)); (fail_if_success (with_reducible show wpAny _ _ (exec (Stmt.For _ _ _ _ _) _) _ _ _)); (fail_if_success (with_reducible show wpAny _ _ (exec (Stmt.While _ _ _ _) _) _ _ _)); (fail_if_success (with_reducible show wpAny _ _ (exec (Stmt.Assign [Expr.Name _ _] (Expr.ListComp _ _ _ _) _) _) _ _ _))))); (fail_if_success (with_reducible show wpAny _ _ (call (Value.builtin "max") _ _) _ _ _)); (fail_if_success (with_reducible show wpAny _ _ (call (Value.builtin "min") _ _) _ _ _)); (fail_if_success (with_reducible show wpAny _ _ (subscriptTail _ _ _ _) _ _ _)); (fail_if_success (with_reducible show wpAny _ _ (binaryOp Operator.Pow _ _) _ _ _)))); first | (first | with_reducible (k_here; (with_reducible show wpAny _ _ (call (Value.ref 224) _ _) _ _ _); k_dflt (refine' det ?Bqz ?Fqz ?Xqz ?Nqz ?Tqz ?hkqz ?hrwqz ?hrlqz ?hlrqz ?hdqz ?huqz ?hfinqz ?_; (case Bqz => k_asm); (case Fqz => k_asm); (case Xqz => k_asm); (case Nqz => k_asm); (case Tqz => k_asm); (case hkqz => first | exact rfl | assumption); (case hrwqz => exact RowsAre.mono hrw (fun p hp => .tail _ (.tail _ (.tail _ (.tail _ (List.mem_append_left _ hp)))))); (case hrlqz => exact (by simp)); (case hlrqz => exact (.head _)); (case hfinqz => exact (Eq.mpr hP hfin)); (case hdqz => ktr_room); (case huqz => ktr_units); intro h9 tk9 t9 F9 N9; (try dsimp only))) | walk1) | (dsimp only; (((((((fail_if_success (with_reducible show wpAny _ _ (call (Value.builtin "dict.items") _ _) _ _ _)); (fail_if_success (with_reducible show wpAny _ _ (call (Value.type "range") _ _) _ _ _)); (fail_if_success (with_reducible show wpAny _ _ (call (Value.ref 112) _ _) _ _ _)); (fail_if_success (with_reducible show wpAny _ _ (eval (Expr.ListComp _ _ _ _) _) _ _ _)); (fail_if_success (with_reducible show wpAny _ _ (exec (Stmt.For _ _ _ _ _) _) _ _ _)); (fail_if_success (with_reducible show wpAny _ _ (exec (Stmt.While _ _ _ _) _) _ _ _)); (fail_if_success (with_reducible show wpAny _ _ (exec (Stmt.Assign [Expr.Name _ _] (Expr.ListComp _ _ _ _) _) _) _ _ _))))); (fail_if_success (with_reducible show wpAny _ _ (call (Value.builtin "max") _ _) _ _ _)); (fail_if_success (with_reducible show wpAny _ _ (call (Value.builtin "min") _ _) _ _ _)); (fail_if_success (with_reducible show wpAny _ _ (subscriptTail _ _ _ _) _ _ _)); (fail_if_success (with_reducible show wpAny _ _ (binaryOp Operator.Pow _ _) _ _ _))))); (first | with_reducible (k_here; (with_reducible show wpAny _ _ (call (Value.ref 224) _ _) _ _ _); k_dflt (refine' det ?Bqz ?Fqz ?Xqz ?Nqz ?Tqz ?hkqz ?hrwqz ?hrlqz ?hlrqz ?hdqz ?huqz ?hfinqz ?_; (case Bqz => k_asm); (case Fqz => k_asm); (case Xqz => k_asm); (case Nqz => k_asm); (case Tqz => k_asm); (case hkqz => first | exact rfl | assumption); (case hrwqz => exact RowsAre.mono hrw (fun p hp => .tail _ (.tail _ (.tail _ (.tail _ (List.mem_append_left _ hp)))))); (case hrlqz => exact (by simp)); (case hlrqz => exact (.head _)); (case hfinqz => exact (Eq.mpr hP hfin)); (case hdqz => ktr_room); (case huqz => ktr_units); intro h9 tk9 t9 F9 N9; (try dsimp only))) | walk1))) | (leave1; walk_say "STEP leave1"; try dsimp only) | fail "no step"))
      refine maxN (by rfl) (by k_asm) (by k_asm) ?_
      intro h9 tk9 t9 F9 N9
      (repeat' (first | (k_unfold; (try dsimp only)) | (k_end; wrow_close) | (((((((fail_if_success (with_reducible show wpAny _ _ (call (Value.builtin "dict.items") _ _) _ _ _)); (fail_if_success (with_reducible show wpAny _ _ (call (Value.type "range") _ _) _ _ _)); (fail_if_success (with_reducible show wpAny _ _ (call (Value.ref 112) _ _) _ _ _)); (fail_if_success (with_reducible show wpAny _ _ (eval (Expr.ListComp _ _ _ _) _) _ _ _)); (fail_if_success (with_reducible show wpAny _ _ (exec (Stmt.For _ _ _ _ _) _) _ _ _)); (fail_if_success (with_reducible show wpAny _ _ (exec (Stmt.While _ _ _ _) _) _ _ _)); (fail_if_success (with_reducible show wpAny _ _ (exec (Stmt.Assign [Expr.Name _ _] (Expr.ListComp _ _ _ _) _) _) _ _ _))))); (fail_if_success (with_reducible show wpAny _ _ (call (Value.builtin "max") _ _) _ _ _)); (fail_if_success (with_reducible show wpAny _ _ (call (Value.builtin "min") _ _) _ _ _)); (fail_if_success (with_reducible show wpAny _ _ (subscriptTail _ _ _ _) _ _ _)); (fail_if_success (with_reducible show wpAny _ _ (binaryOp Operator.Pow _ _) _ _ _)))); first | (first | with_reducible (k_here; (with_reducible show wpAny _ _ (call (Value.ref 224) _ _) _ _ _); k_dflt (refine' det ?Bqz ?Fqz ?Xqz ?Nqz ?Tqz ?hkqz ?hrwqz ?hrlqz ?hlrqz ?hdqz ?huqz ?hfinqz ?_; (case Bqz => k_asm); (case Fqz => k_asm); (case Xqz => k_asm); (case Nqz => k_asm); (case Tqz => k_asm); (case hkqz => first | exact rfl | assumption); (case hrwqz => exact RowsAre.mono hrw (fun p hp => .tail _ (.tail _ (.tail _ (.tail _ (List.mem_append_left _ hp)))))); (case hrlqz => exact (by simp)); (case hlrqz => exact (.head _)); (case hfinqz => exact (Eq.mpr hP hfin)); (case hdqz => ktr_room); (case huqz => ktr_units); intro h9 tk9 t9 F9 N9; (try dsimp only))) | walk1) | (dsimp only; (((((((fail_if_success (with_reducible show wpAny _ _ (call (Value.builtin "dict.items") _ _) _ _ _)); (fail_if_success (with_reducible show wpAny _ _ (call (Value.type "range") _ _) _ _ _)); (fail_if_success (with_reducible show wpAny _ _ (call (Value.ref 112) _ _) _ _ _)); (fail_if_success (with_reducible show wpAny _ _ (eval (Expr.ListComp _ _ _ _) _) _ _ _)); (fail_if_success (with_reducible show wpAny _ _ (exec (Stmt.For _ _ _ _ _) _) _ _ _)); (fail_if_success (with_reducible show wpAny _ _ (exec (Stmt.While _ _ _ _) _) _ _ _)); (fail_if_success (with_reducible show wpAny _ _ (exec (Stmt.Assign [Expr.Name _ _] (Expr.ListComp _ _ _ _) _) _) _ _ _))))); (fail_if_success (with_reducible show wpAny _ _ (call (Value.builtin "max") _ _) _ _ _)); (fail_if_success (with_reducible show wpAny _ _ (call (Value.builtin "min") _ _) _ _ _)); (fail_if_success (with_reducible show wpAny _ _ (subscriptTail _ _ _ _) _ _ _)); (fail_if_success (with_reducible show wpAny _ _ (binaryOp Operator.Pow _ _) _ _ _))))); (first | with_reducible (k_here; (with_reducible show wpAny _ _ (call (Value.ref 224) _ _) _ _ _); k_dflt (refine' det ?Bqz ?Fqz ?Xqz ?Nqz ?Tqz ?hkqz ?hrwqz ?hrlqz ?hlrqz ?hdqz ?huqz ?hfinqz ?_; (case Bqz => k_asm); (case Fqz => k_asm); (case Xqz => k_asm); (case Nqz => k_asm); (case Tqz => k_asm); (case hkqz => first | exact rfl | assumption); (case hrwqz => exact RowsAre.mono hrw (fun p hp => .tail _ (.tail _ (.tail _ (.tail _ (List.mem_append_left _ hp)))))); (case hrlqz => exact (by simp)); (case hlrqz => exact (.head _)); (case hfinqz => exact (Eq.mpr hP hfin)); (case hdqz => ktr_room); (case huqz => ktr_units); intro h9 tk9 t9 F9 N9; (try dsimp only))) | walk1))) | (leave1; walk_say "STEP leave1"; try dsimp only) | fail "no step"))
      obtain ⟨ra, vs, e1, e2, e3⟩ := hrg.2 (max i k) (by omega)
      refine item_listL (l := gv) (x := Value.ref ra) (News.isList N9 (.tail _ (.tail _ (.tail _ (.tail _ (.tail _ (.tail _ (.tail _ (.head _))))))))) (by omega) (by omega) (by rw [Int.toNat_natCast]; exact e1) ?_
      (repeat' (first | (k_unfold; (try dsimp only)) | (k_end; wrow_close) | (((((((fail_if_success (with_reducible show wpAny _ _ (call (Value.builtin "dict.items") _ _) _ _ _)); (fail_if_success (with_reducible show wpAny _ _ (call (Value.type "range") _ _) _ _ _)); (fail_if_success (with_reducible show wpAny _ _ (call (Value.ref 112) _ _) _ _ _)); (fail_if_success (with_reducible show wpAny _ _ (eval (Expr.ListComp _ _ _ _) _) _ _ _)); (fail_if_success (with_reducible show wpAny _ _ (exec (Stmt.For _ _ _ _ _) _) _ _ _)); (fail_if_success (with_reducible show wpAny _ _ (exec (Stmt.While _ _ _ _) _) _ _ _)); (fail_if_success (with_reducible show wpAny _ _ (exec (Stmt.Assign [Expr.Name _ _] (Expr.ListComp _ _ _ _) _) _) _ _ _))))); (fail_if_success (with_reducible show wpAny _ _ (call (Value.builtin "max") _ _) _ _ _)); (fail_if_success (with_reducible show wpAny _ _ (call (Value.builtin "min") _ _) _ _ _)); (fail_if_success (with_reducible show wpAny _ _ (subscriptTail _ _ _ _) _ _ _)); (fail_if_success (with_reducible show wpAny _ _ (binaryOp Operator.Pow _ _) _ _ _)))); first | (first | with_reducible (k_here; (with_reducible show wpAny _ _ (call (Value.ref 224) _ _) _ _ _); k_dflt (refine' det ?Bqz ?Fqz ?Xqz ?Nqz ?Tqz ?hkqz ?hrwqz ?hrlqz ?hlrqz ?hdqz ?huqz ?hfinqz ?_; (case Bqz => k_asm); (case Fqz => k_asm); (case Xqz => k_asm); (case Nqz => k_asm); (case Tqz => k_asm); (case hkqz => first | exact rfl | assumption); (case hrwqz => exact RowsAre.mono hrw (fun p hp => .tail _ (.tail _ (.tail _ (.tail _ (List.mem_append_left _ hp)))))); (case hrlqz => exact (by simp)); (case hlrqz => exact (.head _)); (case hfinqz => exact (Eq.mpr hP hfin)); (case hdqz => ktr_room); (case huqz => ktr_units); intro h9 tk9 t9 F9 N9; (try dsimp only))) | walk1) | (dsimp only; (((((((fail_if_success (with_reducible show wpAny _ _ (call (Value.builtin "dict.items") _ _) _ _ _)); (fail_if_success (with_reducible show wpAny _ _ (call (Value.type "range") _ _) _ _ _)); (fail_if_success (with_reducible show wpAny _ _ (call (Value.ref 112) _ _) _ _ _)); (fail_if_success (with_reducible show wpAny _ _ (eval (Expr.ListComp _ _ _ _) _) _ _ _)); (fail_if_success (with_reducible show wpAny _ _ (exec (Stmt.For _ _ _ _ _) _) _ _ _)); (fail_if_success (with_reducible show wpAny _ _ (exec (Stmt.While _ _ _ _) _) _ _ _)); (fail_if_success (with_reducible show wpAny _ _ (exec (Stmt.Assign [Expr.Name _ _] (Expr.ListComp _ _ _ _) _) _) _ _ _))))); (fail_if_success (with_reducible show wpAny _ _ (call (Value.builtin "max") _ _) _ _ _)); (fail_if_success (with_reducible show wpAny _ _ (call (Value.builtin "min") _ _) _ _ _)); (fail_if_success (with_reducible show wpAny _ _ (subscriptTail _ _ _ _) _ _ _)); (fail_if_success (with_reducible show wpAny _ _ (binaryOp Operator.Pow _ _) _ _ _))))); (first | with_reducible (k_here; (with_reducible show wpAny _ _ (call (Value.ref 224) _ _) _ _ _); k_dflt (refine' det ?Bqz ?Fqz ?Xqz ?Nqz ?Tqz ?hkqz ?hrwqz ?hrlqz ?hlrqz ?hdqz ?huqz ?hfinqz ?_; (case Bqz => k_asm); (case Fqz => k_asm); (case Xqz => k_asm); (case Nqz => k_asm); (case Tqz => k_asm); (case hkqz => first | exact rfl | assumption); (case hrwqz => exact RowsAre.mono hrw (fun p hp => .tail _ (.tail _ (.tail _ (.tail _ (List.mem_append_left _ hp)))))); (case hrlqz => exact (by simp)); (case hlrqz => exact (.head _)); (case hfinqz => exact (Eq.mpr hP hfin)); (case hdqz => ktr_room); (case huqz => ktr_units); intro h9 tk9 t9 F9 N9; (try dsimp only))) | walk1))) | (leave1; walk_say "STEP leave1"; try dsimp only) | fail "no step"))
      refine minN (by rfl) (by k_asm) (by k_asm) ?_
      intro h10 tk10 t10 F10 N10
      (repeat' (first | (k_unfold; (try dsimp only)) | (k_end; wrow_close) | (((((((fail_if_success (with_reducible show wpAny _ _ (call (Value.builtin "dict.items") _ _) _ _ _)); (fail_if_success (with_reducible show wpAny _ _ (call (Value.type "range") _ _) _ _ _)); (fail_if_success (with_reducible show wpAny _ _ (call (Value.ref 112) _ _) _ _ _)); (fail_if_success (with_reducible show wpAny _ _ (eval (Expr.ListComp _ _ _ _) _) _ _ _)); (fail_if_success (with_reducible show wpAny _ _ (exec (Stmt.For _ _ _ _ _) _) _ _ _)); (fail_if_success (with_reducible show wpAny _ _ (exec (Stmt.While _ _ _ _) _) _ _ _)); (fail_if_success (with_reducible show wpAny _ _ (exec (Stmt.Assign [Expr.Name _ _] (Expr.ListComp _ _ _ _) _) _) _ _ _))))); (fail_if_success (with_reducible show wpAny _ _ (call (Value.builtin "max") _ _) _ _ _)); (fail_if_success (with_reducible show wpAny _ _ (call (Value.builtin "min") _ _) _ _ _)); (fail_if_success (with_reducible show wpAny _ _ (subscriptTail _ _ _ _) _ _ _)); (fail_if_success (with_reducible show wpAny _ _ (binaryOp Operator.Pow _ _) _ _ _)))); first | (first | with_reducible (k_here; (with_reducible show wpAny _ _ (call (Value.ref 224) _ _) _ _ _); k_dflt (refine' det ?Bqz ?Fqz ?Xqz ?Nqz ?Tqz ?hkqz ?hrwqz ?hrlqz ?hlrqz ?hdqz ?huqz ?hfinqz ?_; (case Bqz => k_asm); (case Fqz => k_asm); (case Xqz => k_asm); (case Nqz => k_asm); (case Tqz => k_asm); (case hkqz => first | exact rfl | assumption); (case hrwqz => exact RowsAre.mono hrw (fun p hp => .tail _ (.tail _ (.tail _ (.tail _ (List.mem_append_left _ hp)))))); (case hrlqz => exact (by simp)); (case hlrqz => exact (.head _)); (case hfinqz => exact (Eq.mpr hP hfin)); (case hdqz => ktr_room); (case huqz => ktr_units); intro h9 tk9 t9 F9 N9; (try dsimp only))) | walk1) | (dsimp only; (((((((fail_if_success (with_reducible show wpAny _ _ (call (Value.builtin "dict.items") _ _) _ _ _)); (fail_if_success (with_reducible show wpAny _ _ (call (Value.type "range") _ _) _ _ _)); (fail_if_success (with_reducible show wpAny _ _ (call (Value.ref 112) _ _) _ _ _)); (fail_if_success (with_reducible show wpAny _ _ (eval (Expr.ListComp _ _ _ _) _) _ _ _)); (fail_if_success (with_reducible show wpAny _ _ (exec (Stmt.For _ _ _ _ _) _) _ _ _)); (fail_if_success (with_reducible show wpAny _ _ (exec (Stmt.While _ _ _ _) _) _ _ _)); (fail_if_success (with_reducible show wpAny _ _ (exec (Stmt.Assign [Expr.Name _ _] (Expr.ListComp _ _ _ _) _) _) _ _ _))))); (fail_if_success (with_reducible show wpAny _ _ (call (Value.builtin "max") _ _) _ _ _)); (fail_if_success (with_reducible show wpAny _ _ (call (Value.builtin "min") _ _) _ _ _)); (fail_if_success (with_reducible show wpAny _ _ (subscriptTail _ _ _ _) _ _ _)); (fail_if_success (with_reducible show wpAny _ _ (binaryOp Operator.Pow _ _) _ _ _))))); (first | with_reducible (k_here; (with_reducible show wpAny _ _ (call (Value.ref 224) _ _) _ _ _); k_dflt (refine' det ?Bqz ?Fqz ?Xqz ?Nqz ?Tqz ?hkqz ?hrwqz ?hrlqz ?hlrqz ?hdqz ?huqz ?hfinqz ?_; (case Bqz => k_asm); (case Fqz => k_asm); (case Xqz => k_asm); (case Nqz => k_asm); (case Tqz => k_asm); (case hkqz => first | exact rfl | assumption); (case hrwqz => exact RowsAre.mono hrw (fun p hp => .tail _ (.tail _ (.tail _ (.tail _ (List.mem_append_left _ hp)))))); (case hrlqz => exact (by simp)); (case hlrqz => exact (.head _)); (case hfinqz => exact (Eq.mpr hP hfin)); (case hdqz => ktr_room); (case huqz => ktr_units); intro h9 tk9 t9 F9 N9; (try dsimp only))) | walk1))) | (leave1; walk_say "STEP leave1"; try dsimp only) | fail "no step"))
      refine item_T (News.isList N10 (.tail _ (.tail _ (.tail _ (.tail _ (.tail _ (.tail _ (.tail _ (.tail _ (.tail _ (.tail _ (List.mem_append_right _ e2)))))))))))) e3 (by simp; omega) (by simp; omega) ?_
      intro tE
      rw [show ((List.range (max i k + 1)).map fun j => ((RR (max i k) j : Nat) : Int)).getD (min i k) 0 = ((RR (max i k) (min i k) : Nat) : Int) by
        rw [List.getD_eq_getElem?_getD, List.getElem?_map, List.getElem?_range (by omega)]; rfl]
      (repeat' (first | (k_unfold; (try dsimp only)) | (k_end; wrow_close) | (((((((fail_if_success (with_reducible show wpAny _ _ (call (Value.builtin "dict.items") _ _) _ _ _)); (fail_if_success (with_reducible show wpAny _ _ (call (Value.type "range") _ _) _ _ _)); (fail_if_success (with_reducible show wpAny _ _ (call (Value.ref 112) _ _) _ _ _)); (fail_if_success (with_reducible show wpAny _ _ (eval (Expr.ListComp _ _ _ _) _) _ _ _)); (fail_if_success (with_reducible show wpAny _ _ (exec (Stmt.For _ _ _ _ _) _) _ _ _)); (fail_if_success (with_reducible show wpAny _ _ (exec (Stmt.While _ _ _ _) _) _ _ _)); (fail_if_success (with_reducible show wpAny _ _ (exec (Stmt.Assign [Expr.Name _ _] (Expr.ListComp _ _ _ _) _) _) _ _ _))))); (fail_if_success (with_reducible show wpAny _ _ (call (Value.builtin "max") _ _) _ _ _)); (fail_if_success (with_reducible show wpAny _ _ (call (Value.builtin "min") _ _) _ _ _)); (fail_if_success (with_reducible show wpAny _ _ (subscriptTail _ _ _ _) _ _ _)); (fail_if_success (with_reducible show wpAny _ _ (binaryOp Operator.Pow _ _) _ _ _)))); first | (first | with_reducible (k_here; (with_reducible show wpAny _ _ (call (Value.ref 224) _ _) _ _ _); k_dflt (refine' det ?Bqz ?Fqz ?Xqz ?Nqz ?Tqz ?hkqz ?hrwqz ?hrlqz ?hlrqz ?hdqz ?huqz ?hfinqz ?_; (case Bqz => k_asm); (case Fqz => k_asm); (case Xqz => k_asm); (case Nqz => k_asm); (case Tqz => k_asm); (case hkqz => first | exact rfl | assumption); (case hrwqz => exact RowsAre.mono hrw (fun p hp => .tail _ (.tail _ (.tail _ (.tail _ (List.mem_append_left _ hp)))))); (case hrlqz => exact (by simp)); (case hlrqz => exact (.head _)); (case hfinqz => exact (Eq.mpr hP hfin)); (case hdqz => ktr_room); (case huqz => ktr_units); intro h9 tk9 t9 F9 N9; (try dsimp only))) | walk1) | (dsimp only; (((((((fail_if_success (with_reducible show wpAny _ _ (call (Value.builtin "dict.items") _ _) _ _ _)); (fail_if_success (with_reducible show wpAny _ _ (call (Value.type "range") _ _) _ _ _)); (fail_if_success (with_reducible show wpAny _ _ (call (Value.ref 112) _ _) _ _ _)); (fail_if_success (with_reducible show wpAny _ _ (eval (Expr.ListComp _ _ _ _) _) _ _ _)); (fail_if_success (with_reducible show wpAny _ _ (exec (Stmt.For _ _ _ _ _) _) _ _ _)); (fail_if_success (with_reducible show wpAny _ _ (exec (Stmt.While _ _ _ _) _) _ _ _)); (fail_if_success (with_reducible show wpAny _ _ (exec (Stmt.Assign [Expr.Name _ _] (Expr.ListComp _ _ _ _) _) _) _ _ _))))); (fail_if_success (with_reducible show wpAny _ _ (call (Value.builtin "max") _ _) _ _ _)); (fail_if_success (with_reducible show wpAny _ _ (call (Value.builtin "min") _ _) _ _ _)); (fail_if_success (with_reducible show wpAny _ _ (subscriptTail _ _ _ _) _ _ _)); (fail_if_success (with_reducible show wpAny _ _ (binaryOp Operator.Pow _ _) _ _ _))))); (first | with_reducible (k_here; (with_reducible show wpAny _ _ (call (Value.ref 224) _ _) _ _ _); k_dflt (refine' det ?Bqz ?Fqz ?Xqz ?Nqz ?Tqz ?hkqz ?hrwqz ?hrlqz ?hlrqz ?hdqz ?huqz ?hfinqz ?_; (case Bqz => k_asm); (case Fqz => k_asm); (case Xqz => k_asm); (case Nqz => k_asm); (case Tqz => k_asm); (case hkqz => first | exact rfl | assumption); (case hrwqz => exact RowsAre.mono hrw (fun p hp => .tail _ (.tail _ (.tail _ (.tail _ (List.mem_append_left _ hp)))))); (case hrlqz => exact (by simp)); (case hlrqz => exact (.head _)); (case hfinqz => exact (Eq.mpr hP hfin)); (case hdqz => ktr_room); (case huqz => ktr_units); intro h9 tk9 t9 F9 N9; (try dsimp only))) | walk1))) | (leave1; walk_say "STEP leave1"; try dsimp only) | fail "no step"))
      have hR3 := hRR (max i k) (min i k) (by omega) (by omega)
      refine pow_int_small (by omega) (by omega) (by omega) ?_
      rw [Int.toNat_natCast]
      (repeat' (first | (k_unfold; (try dsimp only)) | (k_end; wrow_close) | (((((((fail_if_success (with_reducible show wpAny _ _ (call (Value.builtin "dict.items") _ _) _ _ _)); (fail_if_success (with_reducible show wpAny _ _ (call (Value.type "range") _ _) _ _ _)); (fail_if_success (with_reducible show wpAny _ _ (call (Value.ref 112) _ _) _ _ _)); (fail_if_success (with_reducible show wpAny _ _ (eval (Expr.ListComp _ _ _ _) _) _ _ _)); (fail_if_success (with_reducible show wpAny _ _ (exec (Stmt.For _ _ _ _ _) _) _ _ _)); (fail_if_success (with_reducible show wpAny _ _ (exec (Stmt.While _ _ _ _) _) _ _ _)); (fail_if_success (with_reducible show wpAny _ _ (exec (Stmt.Assign [Expr.Name _ _] (Expr.ListComp _ _ _ _) _) _) _ _ _))))); (fail_if_success (with_reducible show wpAny _ _ (call (Value.builtin "max") _ _) _ _ _)); (fail_if_success (with_reducible show wpAny _ _ (call (Value.builtin "min") _ _) _ _ _)); (fail_if_success (with_reducible show wpAny _ _ (subscriptTail _ _ _ _) _ _ _)); (fail_if_success (with_reducible show wpAny _ _ (binaryOp Operator.Pow _ _) _ _ _)))); first | (first | with_reducible (k_here; (with_reducible show wpAny _ _ (call (Value.ref 224) _ _) _ _ _); k_dflt (refine' det ?Bqz ?Fqz ?Xqz ?Nqz ?Tqz ?hkqz ?hrwqz ?hrlqz ?hlrqz ?hdqz ?huqz ?hfinqz ?_; (case Bqz => k_asm); (case Fqz => k_asm); (case Xqz => k_asm); (case Nqz => k_asm); (case Tqz => k_asm); (case hkqz => first | exact rfl | assumption); (case hrwqz => exact RowsAre.mono hrw (fun p hp => .tail _ (.tail _ (.tail _ (.tail _ (List.mem_append_left _ hp)))))); (case hrlqz => exact (by simp)); (case hlrqz => exact (.head _)); (case hfinqz => exact (Eq.mpr hP hfin)); (case hdqz => ktr_room); (case huqz => ktr_units); intro h9 tk9 t9 F9 N9; (try dsimp only))) | walk1) | (dsimp only; (((((((fail_if_success (with_reducible show wpAny _ _ (call (Value.builtin "dict.items") _ _) _ _ _)); (fail_if_success (with_reducible show wpAny _ _ (call (Value.type "range") _ _) _ _ _)); (fail_if_success (with_reducible show wpAny _ _ (call (Value.ref 112) _ _) _ _ _)); (fail_if_success (with_reducible show wpAny _ _ (eval (Expr.ListComp _ _ _ _) _) _ _ _)); (fail_if_success (with_reducible show wpAny _ _ (exec (Stmt.For _ _ _ _ _) _) _ _ _)); (fail_if_success (with_reducible show wpAny _ _ (exec (Stmt.While _ _ _ _) _) _ _ _)); (fail_if_success (with_reducible show wpAny _ _ (exec (Stmt.Assign [Expr.Name _ _] (Expr.ListComp _ _ _ _) _) _) _ _ _))))); (fail_if_success (with_reducible show wpAny _ _ (call (Value.builtin "max") _ _) _ _ _)); (fail_if_success (with_reducible show wpAny _ _ (call (Value.builtin "min") _ _) _ _ _)); (fail_if_success (with_reducible show wpAny _ _ (subscriptTail _ _ _ _) _ _ _)); (fail_if_success (with_reducible show wpAny _ _ (binaryOp Operator.Pow _ _) _ _ _))))); (first | with_reducible (k_here; (with_reducible show wpAny _ _ (call (Value.ref 224) _ _) _ _ _); k_dflt (refine' det ?Bqz ?Fqz ?Xqz ?Nqz ?Tqz ?hkqz ?hrwqz ?hrlqz ?hlrqz ?hdqz ?huqz ?hfinqz ?_; (case Bqz => k_asm); (case Fqz => k_asm); (case Xqz => k_asm); (case Nqz => k_asm); (case Tqz => k_asm); (case hkqz => first | exact rfl | assumption); (case hrwqz => exact RowsAre.mono hrw (fun p hp => .tail _ (.tail _ (.tail _ (.tail _ (List.mem_append_left _ hp)))))); (case hrlqz => exact (by simp)); (case hlrqz => exact (.head _)); (case hfinqz => exact (Eq.mpr hP hfin)); (case hdqz => ktr_room); (case huqz => ktr_units); intro h9 tk9 t9 F9 N9; (try dsimp only))) | walk1))) | (leave1; walk_say "STEP leave1"; try dsimp only) | fail "no step"))
      exact LCg.CompEnd.intro F10 N10 _ (fun p hp => hp) off3 trivial ⟨rfl, by
        rw [List.range_succ, List.map_append]
        exact hys'.append (.cons _ _ .nil)⟩
    · rintro ys' nw' ⟨rfl, hys'⟩
      intro D' h3 tk3 F3 N3 off3
      have o := off1_mem off3
      refine ⟨h3, _, (dG, LCg.lst gv) :: (L + 1 + 1 + 1 + 1 + 1 + 1, oQ) :: (L + 1 + 1 + 1 + 1 + 1 + 1 + 1, oR) :: (((D', LCg.lst ys') :: r) ++ rest), rfl, F3, fun p hp => N3 p ?_, ?_, trivial, (D', LCg.lst ys') :: r, rfl, ?_⟩
      · simp only [List.mem_cons, List.mem_append] at hp ⊢
        rcases hp with h | h | h | h | h | h | h | (h | h) | h
        all_goals simp only [h, true_or, or_true]
      · intro p hp
        simp only [List.mem_cons, List.mem_append] at hp
        rcases hp with h | h | h | (h | h) | h
        · rw [h]; exact off (dG, LCg.lst gv) (.head _)
        · rw [h]; exact off (L + 1 + 1 + 1 + 1 + 1 + 1, oQ) (.tail _ (.head _))
        · rw [h]; exact off (L + 1 + 1 + 1 + 1 + 1 + 1 + 1, oR) (.tail _ (.tail _ (.head _)))
        · rw [h]; exact ⟨(o (I, oI) (.head _)).symm, (o (C, oC) (.tail _ (.head _))).symm, (o (D1, oX) (.tail _ (.tail _ (.head _)))).symm, (o (D0, LCg.lst ys) (.tail _ (.tail _ (.tail _ (.head _))))).symm⟩
        · exact off p (.tail _ (.tail _ (.tail _ (List.mem_append_left _ h))))
        · exact off p (.tail _ (.tail _ (.tail _ (List.mem_append_right _ h))))
      · rw [List.range_succ, List.map_append]
        exact hrw.snoc (ring_len RR q i) (ring_small hq1 hq2 hRR hi) hys'
  · rintro ys nw ⟨r, rfl, hrw⟩ D2 h tk F2 N2 off
    repeat (first | ((with_reducible show wpAny _ _ (execs (Stmt.If (Expr.Compare (Expr.Name (PySem.Str.ofString "told") _) _ _ _) _ _ _ :: _) _) _ _ _); refine hnext _ _ _ (by assumption) ?_) | (first | with_reducible (k_here; (with_reducible show wpAny _ _ (call (Value.ref 224) _ _) _ _ _); k_dflt (refine' det ?Bqz ?Fqz ?Xqz ?Nqz ?Tqz ?hkqz ?hrwqz ?hrlqz ?hlrqz ?hdqz ?huqz ?hfinqz ?_; (case Bqz => k_asm); (case Fqz => k_asm); (case Xqz => k_asm); (case Nqz => k_asm); (case Tqz => k_asm); (case hkqz => first | exact rfl | assumption); (case hrwqz => exact RowsAre.mono hrw (fun p hp => .tail _ (.tail _ (.tail _ (.tail _ (List.mem_append_left _ hp)))))); (case hrlqz => exact (by simp)); (case hlrqz => exact (.head _)); (case hfinqz => exact (Eq.mpr hP hfin)); (case hdqz => ktr_room); (case huqz => ktr_units); intro h9 tk9 t9 F9 N9; (try dsimp only))) | walk1))
    rename News h₀ L _ _ => N10
    intro p hp
    refine N10 p ?_
    simp only [List.mem_cons, List.mem_append] at hp ⊢
    rcases hp with h | h | h | h
    all_goals simp only [h, true_or, or_true]
end
end
section
noncomputable def meander (q : Int) : Int := q ^ 5 * (q * q - 1) ^ 4 * (q * q - 2)
theorem mean_tab : ∀ a : Nat, a < 10 → decide (((a : Int) - 4).natAbs < 2 ^ 64) && (decide ((((a : Int) - 4) * ((a : Int) - 4) - 1).natAbs < 2 ^ 64) && (decide ((((a : Int) - 4) * ((a : Int) - 4) - 2).natAbs < 2 ^ 64) && decide (((((a : Int) - 4) * ((a : Int) - 4) - 1) ^ Int.toNat 4).natAbs < 2 ^ 64))) = true := by decide +kernel
theorem mean_facts {q : Int} (h1 : -4 ≤ q) (h2 : q ≤ 5) : q.natAbs < 2 ^ 64 ∧ (q * q - 1).natAbs < 2 ^ 64 ∧ (True → IntMulOk q q) ∧ (True → IntMulOk (q ^ Int.toNat 5) ((q * q - 1) ^ Int.toNat 4)) ∧ (True → IntMulOk (q ^ Int.toNat 5 * (q * q - 1) ^ Int.toNat 4) (q * q - 2)) := by
  obtain ⟨a, ha, rfl⟩ : ∃ a : Nat, a < 10 ∧ q = (a : Int) - 4 := ⟨(q + 4).toNat, by omega, by omega⟩
  have h := mean_tab a ha
  simp only [Bool.and_eq_true, decide_eq_true_eq] at h
  exact ⟨h.1, h.2.1, fun _ => IntMulOk.of_right (intBits_le h.1), fun _ => IntMulOk.of_right (intBits_le h.2.2.2), fun _ => IntMulOk.of_right (intBits_le h.2.2.1)⟩
theorem mean_eq (q : Int) : meander q = q ^ Int.toNat 5 * (q * q - 1) ^ Int.toNat 4 * (q * q - 2) := rfl
theorem ne_mean {prog : Program} {w : World} {A : Around} {E : Value → Shared → Prop} {s : Shared} {q x : Int} {t u : Tok} {Q : Value → Shared → Prop} (hx : meander q = x) (h : Q (.bool false) s) : wpAny (model prog w) A (compareOp .NotEq (.int (meander q) t) (.int x u)) Q E s := by
  subst hx
  refine ne_int ?_
  rw [show (meander q != meander q) = false by simp]
  exact h
section
variable {w : World} {mean : ExcName → Option Value} {mg mb : PySem.Str → Option Value} {base h₀ : Heap} {L fa : Addr} {cd : Value} {m : PySem.Str → Option Value} {s : Shared} {Q : Flow → Shared → Prop} {E : Value → Shared → Prop}
  (B : Below callerA base [] h₀) (F : Fr h₀ L s.heap m) (X : (hd.heap_39 w.params).In h₀) (T : Top hd.view_39 LO mean mg mb h₀)
include B F X T
set_option maxRecDepth 100000 in
set_option maxHeartbeats 400000 in
set_option pp.deepTerms false in
set_option pp.deepTerms.threshold 8 in
theorem stL {oQ oL : Obj} {q : Int} {tq tt : Tok} {vL : Option Value} {rest : List (Addr × Obj)}
    (N : News h₀ L s.heap ((L + 1 + 1 + 1 + 1 + 1 + 1, oQ) :: (L + 1 + 1 + 1 + 1 + 1 + 1 + 1 + 1, oL) :: rest))
    (hoQ : oQ.data = .cell (some (.int q tq))) (hoL : oL.data = .cell vL) (hq1 : -4 ≤ q) (hq2 : q ≤ 5)
    (hm : m (PySem.Str.ofString "told") = some (.int (meander q) tt)) (hr : ∀ p ∈ rest, p.1 ≠ L + 1 + 1 + 1 + 1 + 1 + 1 + 1 + 1)
    (hnext : ∀ h' tk' tl oL', Fr h₀ L h' m → News h₀ L h' ((L + 1 + 1 + 1 + 1 + 1 + 1, oQ) :: (L + 1 + 1 + 1 + 1 + 1 + 1 + 1 + 1, oL') :: rest) → oL'.data = .cell (some (.str (PySem.Str.ofString "ABCDEFGHIJKLMNOP") tl)) →
      wpAny (model PySem.Challenge.rw_wa0038_01.row.prog w) (lawA L fa cd) (execs (lawBody.drop 16) (lawEnv L fa cd)) Q E { s with heap := h', toks := tk' }) :
    wpAny (model PySem.Challenge.rw_wa0038_01.row.prog w) (lawA L fa cd) (execs (lawBody.drop 14) (lawEnv L fa cd)) Q E s := by
  have _ := B
  have F1 := fr_track F hm
  have em : m = (fun y => if y = PySem.Str.ofString "told" then some (.int (meander q) tt) else m y) := fr_track_eq hm
  rw [em] at hnext
  clear em hm F
  revert X; k_fill; intro X
  show wpAny _ (callerA.deeper (envOfC _ ⟨_, _, _, _, _⟩ _ _ _)) (execs (_ :: _) (envOfC _ ⟨_, _, _, _, _⟩ _ _ _)) _ _ _
  (repeat' (first | (k_unfold; (try dsimp only)) | (k_end; wrow_close) | (((((((fail_if_success (with_reducible show wpAny _ _ (call (Value.builtin "dict.items") _ _) _ _ _)); (fail_if_success (with_reducible show wpAny _ _ (call (Value.type "range") _ _) _ _ _)); (fail_if_success (with_reducible show wpAny _ _ (call (Value.ref 112) _ _) _ _ _)); (fail_if_success (with_reducible show wpAny _ _ (eval (Expr.ListComp _ _ _ _) _) _ _ _)); (fail_if_success (with_reducible show wpAny _ _ (exec (Stmt.For _ _ _ _ _) _) _ _ _)); (fail_if_success (with_reducible show wpAny _ _ (exec (Stmt.While _ _ _ _) _) _ _ _)); (fail_if_success (with_reducible show wpAny _ _ (exec (Stmt.Assign [Expr.Name _ _] (Expr.ListComp _ _ _ _) _) _) _ _ _))))); (fail_if_success (with_reducible show wpAny _ _ (binaryOp Operator.Mult _ _) _ _ _)); (fail_if_success (with_reducible show wpAny _ _ (compareOp CmpOp.NotEq _ _) _ _ _)); (fail_if_success (with_reducible show wpAny _ _ (binaryOp Operator.Pow _ _) _ _ _)))); first | walk1 | (dsimp only; (((((((fail_if_success (with_reducible show wpAny _ _ (call (Value.builtin "dict.items") _ _) _ _ _)); (fail_if_success (with_reducible show wpAny _ _ (call (Value.type "range") _ _) _ _ _)); (fail_if_success (with_reducible show wpAny _ _ (call (Value.ref 112) _ _) _ _ _)); (fail_if_success (with_reducible show wpAny _ _ (eval (Expr.ListComp _ _ _ _) _) _ _ _)); (fail_if_success (with_reducible show wpAny _ _ (exec (Stmt.For _ _ _ _ _) _) _ _ _)); (fail_if_success (with_reducible show wpAny _ _ (exec (Stmt.While _ _ _ _) _) _ _ _)); (fail_if_success (with_reducible show wpAny _ _ (exec (Stmt.Assign [Expr.Name _ _] (Expr.ListComp _ _ _ _) _) _) _ _ _))))); (fail_if_success (with_reducible show wpAny _ _ (binaryOp Operator.Mult _ _) _ _ _)); (fail_if_success (with_reducible show wpAny _ _ (compareOp CmpOp.NotEq _ _) _ _ _)); (fail_if_success (with_reducible show wpAny _ _ (binaryOp Operator.Pow _ _) _ _ _))))); walk1)) | (leave1; walk_say "STEP leave1"; try dsimp only) | fail "no step"))
  refine pow_int_small (by decide) (by decide) (mean_facts hq1 hq2).1 ?_
  try dsimp only
  (repeat' (first | (k_unfold; (try dsimp only)) | (k_end; wrow_close) | (((((((fail_if_success (with_reducible show wpAny _ _ (call (Value.builtin "dict.items") _ _) _ _ _)); (fail_if_success (with_reducible show wpAny _ _ (call (Value.type "range") _ _) _ _ _)); (fail_if_success (with_reducible show wpAny _ _ (call (Value.ref 112) _ _) _ _ _)); (fail_if_success (with_reducible show wpAny _ _ (eval (Expr.ListComp _ _ _ _) _) _ _ _)); (fail_if_success (with_reducible show wpAny _ _ (exec (Stmt.For _ _ _ _ _) _) _ _ _)); (fail_if_success (with_reducible show wpAny _ _ (exec (Stmt.While _ _ _ _) _) _ _ _)); (fail_if_success (with_reducible show wpAny _ _ (exec (Stmt.Assign [Expr.Name _ _] (Expr.ListComp _ _ _ _) _) _) _ _ _))))); (fail_if_success (with_reducible show wpAny _ _ (binaryOp Operator.Mult _ _) _ _ _)); (fail_if_success (with_reducible show wpAny _ _ (compareOp CmpOp.NotEq _ _) _ _ _)); (fail_if_success (with_reducible show wpAny _ _ (binaryOp Operator.Pow _ _) _ _ _)))); first | walk1 | (dsimp only; (((((((fail_if_success (with_reducible show wpAny _ _ (call (Value.builtin "dict.items") _ _) _ _ _)); (fail_if_success (with_reducible show wpAny _ _ (call (Value.type "range") _ _) _ _ _)); (fail_if_success (with_reducible show wpAny _ _ (call (Value.ref 112) _ _) _ _ _)); (fail_if_success (with_reducible show wpAny _ _ (eval (Expr.ListComp _ _ _ _) _) _ _ _)); (fail_if_success (with_reducible show wpAny _ _ (exec (Stmt.For _ _ _ _ _) _) _ _ _)); (fail_if_success (with_reducible show wpAny _ _ (exec (Stmt.While _ _ _ _) _) _ _ _)); (fail_if_success (with_reducible show wpAny _ _ (exec (Stmt.Assign [Expr.Name _ _] (Expr.ListComp _ _ _ _) _) _) _ _ _))))); (fail_if_success (with_reducible show wpAny _ _ (binaryOp Operator.Mult _ _) _ _ _)); (fail_if_success (with_reducible show wpAny _ _ (compareOp CmpOp.NotEq _ _) _ _ _)); (fail_if_success (with_reducible show wpAny _ _ (binaryOp Operator.Pow _ _) _ _ _))))); walk1)) | (leave1; walk_say "STEP leave1"; try dsimp only) | fail "no step"))
  refine mul_int ?_ ((mean_facts hq1 hq2).2.2.1 True.intro)
  try dsimp only
  (repeat' (first | (k_unfold; (try dsimp only)) | (k_end; wrow_close) | (((((((fail_if_success (with_reducible show wpAny _ _ (call (Value.builtin "dict.items") _ _) _ _ _)); (fail_if_success (with_reducible show wpAny _ _ (call (Value.type "range") _ _) _ _ _)); (fail_if_success (with_reducible show wpAny _ _ (call (Value.ref 112) _ _) _ _ _)); (fail_if_success (with_reducible show wpAny _ _ (eval (Expr.ListComp _ _ _ _) _) _ _ _)); (fail_if_success (with_reducible show wpAny _ _ (exec (Stmt.For _ _ _ _ _) _) _ _ _)); (fail_if_success (with_reducible show wpAny _ _ (exec (Stmt.While _ _ _ _) _) _ _ _)); (fail_if_success (with_reducible show wpAny _ _ (exec (Stmt.Assign [Expr.Name _ _] (Expr.ListComp _ _ _ _) _) _) _ _ _))))); (fail_if_success (with_reducible show wpAny _ _ (binaryOp Operator.Mult _ _) _ _ _)); (fail_if_success (with_reducible show wpAny _ _ (compareOp CmpOp.NotEq _ _) _ _ _)); (fail_if_success (with_reducible show wpAny _ _ (binaryOp Operator.Pow _ _) _ _ _)))); first | walk1 | (dsimp only; (((((((fail_if_success (with_reducible show wpAny _ _ (call (Value.builtin "dict.items") _ _) _ _ _)); (fail_if_success (with_reducible show wpAny _ _ (call (Value.type "range") _ _) _ _ _)); (fail_if_success (with_reducible show wpAny _ _ (call (Value.ref 112) _ _) _ _ _)); (fail_if_success (with_reducible show wpAny _ _ (eval (Expr.ListComp _ _ _ _) _) _ _ _)); (fail_if_success (with_reducible show wpAny _ _ (exec (Stmt.For _ _ _ _ _) _) _ _ _)); (fail_if_success (with_reducible show wpAny _ _ (exec (Stmt.While _ _ _ _) _) _ _ _)); (fail_if_success (with_reducible show wpAny _ _ (exec (Stmt.Assign [Expr.Name _ _] (Expr.ListComp _ _ _ _) _) _) _ _ _))))); (fail_if_success (with_reducible show wpAny _ _ (binaryOp Operator.Mult _ _) _ _ _)); (fail_if_success (with_reducible show wpAny _ _ (compareOp CmpOp.NotEq _ _) _ _ _)); (fail_if_success (with_reducible show wpAny _ _ (binaryOp Operator.Pow _ _) _ _ _))))); walk1)) | (leave1; walk_say "STEP leave1"; try dsimp only) | fail "no step"))
  refine pow_int_small (by decide) (by decide) (mean_facts hq1 hq2).2.1 ?_
  try dsimp only
  (repeat' (first | (k_unfold; (try dsimp only)) | (k_end; wrow_close) | (((((((fail_if_success (with_reducible show wpAny _ _ (call (Value.builtin "dict.items") _ _) _ _ _)); (fail_if_success (with_reducible show wpAny _ _ (call (Value.type "range") _ _) _ _ _)); (fail_if_success (with_reducible show wpAny _ _ (call (Value.ref 112) _ _) _ _ _)); (fail_if_success (with_reducible show wpAny _ _ (eval (Expr.ListComp _ _ _ _) _) _ _ _)); (fail_if_success (with_reducible show wpAny _ _ (exec (Stmt.For _ _ _ _ _) _) _ _ _)); (fail_if_success (with_reducible show wpAny _ _ (exec (Stmt.While _ _ _ _) _) _ _ _)); (fail_if_success (with_reducible show wpAny _ _ (exec (Stmt.Assign [Expr.Name _ _] (Expr.ListComp _ _ _ _) _) _) _ _ _))))); (fail_if_success (with_reducible show wpAny _ _ (binaryOp Operator.Mult _ _) _ _ _)); (fail_if_success (with_reducible show wpAny _ _ (compareOp CmpOp.NotEq _ _) _ _ _)); (fail_if_success (with_reducible show wpAny _ _ (binaryOp Operator.Pow _ _) _ _ _)))); first | walk1 | (dsimp only; (((((((fail_if_success (with_reducible show wpAny _ _ (call (Value.builtin "dict.items") _ _) _ _ _)); (fail_if_success (with_reducible show wpAny _ _ (call (Value.type "range") _ _) _ _ _)); (fail_if_success (with_reducible show wpAny _ _ (call (Value.ref 112) _ _) _ _ _)); (fail_if_success (with_reducible show wpAny _ _ (eval (Expr.ListComp _ _ _ _) _) _ _ _)); (fail_if_success (with_reducible show wpAny _ _ (exec (Stmt.For _ _ _ _ _) _) _ _ _)); (fail_if_success (with_reducible show wpAny _ _ (exec (Stmt.While _ _ _ _) _) _ _ _)); (fail_if_success (with_reducible show wpAny _ _ (exec (Stmt.Assign [Expr.Name _ _] (Expr.ListComp _ _ _ _) _) _) _ _ _))))); (fail_if_success (with_reducible show wpAny _ _ (binaryOp Operator.Mult _ _) _ _ _)); (fail_if_success (with_reducible show wpAny _ _ (compareOp CmpOp.NotEq _ _) _ _ _)); (fail_if_success (with_reducible show wpAny _ _ (binaryOp Operator.Pow _ _) _ _ _))))); walk1)) | (leave1; walk_say "STEP leave1"; try dsimp only) | fail "no step"))
  refine mul_int ?_ ((mean_facts hq1 hq2).2.2.2.1 True.intro)
  try dsimp only
  (repeat' (first | (k_unfold; (try dsimp only)) | (k_end; wrow_close) | (((((((fail_if_success (with_reducible show wpAny _ _ (call (Value.builtin "dict.items") _ _) _ _ _)); (fail_if_success (with_reducible show wpAny _ _ (call (Value.type "range") _ _) _ _ _)); (fail_if_success (with_reducible show wpAny _ _ (call (Value.ref 112) _ _) _ _ _)); (fail_if_success (with_reducible show wpAny _ _ (eval (Expr.ListComp _ _ _ _) _) _ _ _)); (fail_if_success (with_reducible show wpAny _ _ (exec (Stmt.For _ _ _ _ _) _) _ _ _)); (fail_if_success (with_reducible show wpAny _ _ (exec (Stmt.While _ _ _ _) _) _ _ _)); (fail_if_success (with_reducible show wpAny _ _ (exec (Stmt.Assign [Expr.Name _ _] (Expr.ListComp _ _ _ _) _) _) _ _ _))))); (fail_if_success (with_reducible show wpAny _ _ (binaryOp Operator.Mult _ _) _ _ _)); (fail_if_success (with_reducible show wpAny _ _ (compareOp CmpOp.NotEq _ _) _ _ _)); (fail_if_success (with_reducible show wpAny _ _ (binaryOp Operator.Pow _ _) _ _ _)))); first | walk1 | (dsimp only; (((((((fail_if_success (with_reducible show wpAny _ _ (call (Value.builtin "dict.items") _ _) _ _ _)); (fail_if_success (with_reducible show wpAny _ _ (call (Value.type "range") _ _) _ _ _)); (fail_if_success (with_reducible show wpAny _ _ (call (Value.ref 112) _ _) _ _ _)); (fail_if_success (with_reducible show wpAny _ _ (eval (Expr.ListComp _ _ _ _) _) _ _ _)); (fail_if_success (with_reducible show wpAny _ _ (exec (Stmt.For _ _ _ _ _) _) _ _ _)); (fail_if_success (with_reducible show wpAny _ _ (exec (Stmt.While _ _ _ _) _) _ _ _)); (fail_if_success (with_reducible show wpAny _ _ (exec (Stmt.Assign [Expr.Name _ _] (Expr.ListComp _ _ _ _) _) _) _ _ _))))); (fail_if_success (with_reducible show wpAny _ _ (binaryOp Operator.Mult _ _) _ _ _)); (fail_if_success (with_reducible show wpAny _ _ (compareOp CmpOp.NotEq _ _) _ _ _)); (fail_if_success (with_reducible show wpAny _ _ (binaryOp Operator.Pow _ _) _ _ _))))); walk1)) | (leave1; walk_say "STEP leave1"; try dsimp only) | fail "no step"))
  refine mul_int ?_ ((mean_facts hq1 hq2).2.2.1 True.intro)
  try dsimp only
  (repeat' (first | (k_unfold; (try dsimp only)) | (k_end; wrow_close) | (((((((fail_if_success (with_reducible show wpAny _ _ (call (Value.builtin "dict.items") _ _) _ _ _)); (fail_if_success (with_reducible show wpAny _ _ (call (Value.type "range") _ _) _ _ _)); (fail_if_success (with_reducible show wpAny _ _ (call (Value.ref 112) _ _) _ _ _)); (fail_if_success (with_reducible show wpAny _ _ (eval (Expr.ListComp _ _ _ _) _) _ _ _)); (fail_if_success (with_reducible show wpAny _ _ (exec (Stmt.For _ _ _ _ _) _) _ _ _)); (fail_if_success (with_reducible show wpAny _ _ (exec (Stmt.While _ _ _ _) _) _ _ _)); (fail_if_success (with_reducible show wpAny _ _ (exec (Stmt.Assign [Expr.Name _ _] (Expr.ListComp _ _ _ _) _) _) _ _ _))))); (fail_if_success (with_reducible show wpAny _ _ (binaryOp Operator.Mult _ _) _ _ _)); (fail_if_success (with_reducible show wpAny _ _ (compareOp CmpOp.NotEq _ _) _ _ _)); (fail_if_success (with_reducible show wpAny _ _ (binaryOp Operator.Pow _ _) _ _ _)))); first | walk1 | (dsimp only; (((((((fail_if_success (with_reducible show wpAny _ _ (call (Value.builtin "dict.items") _ _) _ _ _)); (fail_if_success (with_reducible show wpAny _ _ (call (Value.type "range") _ _) _ _ _)); (fail_if_success (with_reducible show wpAny _ _ (call (Value.ref 112) _ _) _ _ _)); (fail_if_success (with_reducible show wpAny _ _ (eval (Expr.ListComp _ _ _ _) _) _ _ _)); (fail_if_success (with_reducible show wpAny _ _ (exec (Stmt.For _ _ _ _ _) _) _ _ _)); (fail_if_success (with_reducible show wpAny _ _ (exec (Stmt.While _ _ _ _) _) _ _ _)); (fail_if_success (with_reducible show wpAny _ _ (exec (Stmt.Assign [Expr.Name _ _] (Expr.ListComp _ _ _ _) _) _) _ _ _))))); (fail_if_success (with_reducible show wpAny _ _ (binaryOp Operator.Mult _ _) _ _ _)); (fail_if_success (with_reducible show wpAny _ _ (compareOp CmpOp.NotEq _ _) _ _ _)); (fail_if_success (with_reducible show wpAny _ _ (binaryOp Operator.Pow _ _) _ _ _))))); walk1)) | (leave1; walk_say "STEP leave1"; try dsimp only) | fail "no step"))
  refine mul_int ?_ ((mean_facts hq1 hq2).2.2.2.2 True.intro)
  try dsimp only
  (repeat' (first | (k_unfold; (try dsimp only)) | (k_end; wrow_close) | (((((((fail_if_success (with_reducible show wpAny _ _ (call (Value.builtin "dict.items") _ _) _ _ _)); (fail_if_success (with_reducible show wpAny _ _ (call (Value.type "range") _ _) _ _ _)); (fail_if_success (with_reducible show wpAny _ _ (call (Value.ref 112) _ _) _ _ _)); (fail_if_success (with_reducible show wpAny _ _ (eval (Expr.ListComp _ _ _ _) _) _ _ _)); (fail_if_success (with_reducible show wpAny _ _ (exec (Stmt.For _ _ _ _ _) _) _ _ _)); (fail_if_success (with_reducible show wpAny _ _ (exec (Stmt.While _ _ _ _) _) _ _ _)); (fail_if_success (with_reducible show wpAny _ _ (exec (Stmt.Assign [Expr.Name _ _] (Expr.ListComp _ _ _ _) _) _) _ _ _))))); (fail_if_success (with_reducible show wpAny _ _ (binaryOp Operator.Mult _ _) _ _ _)); (fail_if_success (with_reducible show wpAny _ _ (compareOp CmpOp.NotEq _ _) _ _ _)); (fail_if_success (with_reducible show wpAny _ _ (binaryOp Operator.Pow _ _) _ _ _)))); first | walk1 | (dsimp only; (((((((fail_if_success (with_reducible show wpAny _ _ (call (Value.builtin "dict.items") _ _) _ _ _)); (fail_if_success (with_reducible show wpAny _ _ (call (Value.type "range") _ _) _ _ _)); (fail_if_success (with_reducible show wpAny _ _ (call (Value.ref 112) _ _) _ _ _)); (fail_if_success (with_reducible show wpAny _ _ (eval (Expr.ListComp _ _ _ _) _) _ _ _)); (fail_if_success (with_reducible show wpAny _ _ (exec (Stmt.For _ _ _ _ _) _) _ _ _)); (fail_if_success (with_reducible show wpAny _ _ (exec (Stmt.While _ _ _ _) _) _ _ _)); (fail_if_success (with_reducible show wpAny _ _ (exec (Stmt.Assign [Expr.Name _ _] (Expr.ListComp _ _ _ _) _) _) _ _ _))))); (fail_if_success (with_reducible show wpAny _ _ (binaryOp Operator.Mult _ _) _ _ _)); (fail_if_success (with_reducible show wpAny _ _ (compareOp CmpOp.NotEq _ _) _ _ _)); (fail_if_success (with_reducible show wpAny _ _ (binaryOp Operator.Pow _ _) _ _ _))))); walk1)) | (leave1; walk_say "STEP leave1"; try dsimp only) | fail "no step"))
  refine ne_mean (mean_eq q) ?_
  try dsimp only
  repeat (first | ((with_reducible show wpAny _ _ (execs (Stmt.If (Expr.Compare (Expr.Name (PySem.Str.ofString "names") _) _ _ _) _ _ _ :: _) _) _ _ _); exact hnext _ _ _ _ (by assumption) (by assumption) (by assumption)) | walk1)
  all_goals trace_state
end
end
section
section
variable {prog : Program} {w : World} {A : Around} {E : Value → Shared → Prop} {s : Shared}
theorem index_strs {l : Addr} {vs : List Value} {ns : List PySem.Str} {k : PySem.Str} {t : Tok} {j : Nat} {Q : Value → Shared → Prop} (hl : s.heap.IsList l vs.toArray) (hi : StrsAre vs ns) (hsz : ns.length < 1000)
    (hj : ns[j]? = some k) (hno : ∀ a x, a < j → ns[a]? = some x → (x == k) = false) (h : Q (.int (j : Nat) s.toks) { s with toks := s.toks + 1 }) :
    wpAny (model prog w) A (call (.builtin "list.index") [.ref l, .str k t]) Q E s := by
  obtain ⟨⟨cls, dd, data, sl⟩, ho, hc, n, hd⟩ := id hl
  simp only at hc hd
  subst hc hd
  have hlen := hi.len_eq
  have hjl : j < ns.length := (List.getElem?_eq_some_iff.mp hj).1
  have at_ : ∀ (a : Nat) (ha : a < vs.length), isStrOf k vs[a] = (ns.getD a PySem.Str.empty == k) := fun a ha => by
    have hx : ns[a]? = some (ns.getD a PySem.Str.empty) := by simp [List.getD, show a < ns.length by omega]
    obtain ⟨tb, e⟩ := hi.at hx
    have e2 : vs[a] = .str (ns.getD a PySem.Str.empty) tb := by
      have := List.getElem?_eq_getElem ha
      rw [e] at this
      exact (Option.some.inj this).symm
    rw [e2]; rfl
  refine call_meets PySem.F.slot_list_index ⟨_, ho, rfl⟩ PySem.F.entry_list_index (PySem.F.args_list_index_2 _ _)
    (SeqAt.list_indexAt l vs.toArray n dd sl (.str k t) (isStrOf k) j (by simpa [hlen] using hjl) (by omega) ?_ ?_) ⟨ho, fun y hy => (eq_isStrOf k t hi y (by simpa using hy)).at _ _, h⟩
  · show isStrOf k vs[j] = true
    rw [at_ j (by omega)]
    simp [List.getD, hj]
  · intro a has hlt
    show isStrOf k vs[a] = false
    rw [at_ a (by simpa using has)]
    have hx : ns[a]? = some (ns.getD a PySem.Str.empty) := by simp [List.getD, show a < ns.length by omega]
    exact hno a _ hlt hx
end
noncomputable def RefsInts (news : List (Addr × Obj)) (gv : List Value) (rows : List (List Int)) : Prop :=
  gv.length = rows.length ∧ ∀ (k : Nat) row, rows[k]? = some row → ∃ (ra : Addr) (vs : List Value), gv[k]? = some (Value.ref ra) ∧ (ra, LCg.lst vs) ∈ news ∧ IntsAre vs row
theorem RefsInts.snoc {news : List (Addr × Obj)} {gv : List Value} {rows : List (List Int)} {row : List Int} {ra : Addr} {vs : List Value} (x : RefsInts news gv rows) (hi : IntsAre vs row) : RefsInts ((ra, LCg.lst vs) :: news) (gv ++ [Value.ref ra]) (rows ++ [row]) := by
  refine ⟨by simp [x.1], fun k row' e => ?_⟩
  by_cases h : k < rows.length
  · rw [List.getElem?_append_left h] at e
    obtain ⟨ra', vs', e1, e2, e3⟩ := x.2 k row' e
    exact ⟨ra', vs', by rw [List.getElem?_append_left (by rw [x.1]; exact h)]; exact e1, .tail _ e2, e3⟩
  · rw [List.getElem?_append_right (Nat.le_of_not_lt h)] at e
    have h0 : k - rows.length = 0 := by
      cases q : k - rows.length with
      | zero => rfl
      | succ k => rw [q] at e; simp at e
    rw [h0] at e
    simp at e
    subst e
    refine ⟨ra, vs, ?_, .head _, hi⟩
    rw [List.getElem?_append_right (by rw [x.1]; exact Nat.le_of_not_lt h), x.1, h0]
    rfl
noncomputable def mateRow (MM : Nat → Nat → Nat) (n t : Nat) : List Int := (List.range n).map fun i => (MM t i : Int)
section
variable {w : World} {mean : ExcName → Option Value} {mg mb : PySem.Str → Option Value} {base h₀ : Heap} {L fa : Addr} {cd : Value} {m : PySem.Str → Option Value} {s : Shared} {Q : Flow → Shared → Prop} {E : Value → Shared → Prop}
  (B : Below callerA base [] h₀) (F : Fr h₀ L s.heap m) (X : (hd.heap_39 w.params).In h₀) (T : Top hd.view_39 LO mean mg mb h₀)
include B F X T
set_option maxRecDepth 100000 in
set_option maxHeartbeats 800000 in
set_option pp.deepTerms false in
set_option pp.deepTerms.threshold 8 in
theorem stO {dT dM : Addr} {tv nmv : List Value} {nT : Nat} {tbl : List (List (PySem.Str × PySem.Str))} {ns : List PySem.Str} {oT oN : Obj} {rest : List (Addr × Obj)} (MM : Nat → Nat → Nat)
    (N : News h₀ L s.heap ((dT, listOf tv.toArray nT) :: (L + 1 + 1 + 1 + 1 + 1, oT) :: (dM, LCg.lst nmv) :: (L + 1 + 1 + 1 + 1, oN) :: rest))
    (hoT : oT.data = .cell (some (.ref dT))) (hoN : oN.data = .cell (some (.ref dM))) (htabs : TabsAre w rest tv tbl) (htl : tbl.length = 5) (hnv : StrsAre nmv ns) (hnl : ns.length = 6)
    (hg : ∀ x ∈ ns, Clean (Txt.lower x) ∧ x.length < 100) (hgp : ∀ ps ∈ tbl, ∀ p ∈ ps, p.1.length < 100)
    (hM : ∀ (t i : Nat) ps nm, tbl[t]? = some ps → ns[i]? = some nm → ∃ b, ns[MM t i]? = some b ∧ getP ps nm = some b)
    (hdis : ∀ (a b : Nat) x y, a < b → ns[a]? = some x → ns[b]? = some y → (x == y) = false)
    (hnext : ∀ h' tk' dE ev, Fr h₀ L h' (fun z => if z = PySem.Str.ofString "mates" then some (.ref dE) else m z) → (∃ r, News h₀ L h' ((dE, LCg.lst ev) :: (r ++ rest)) ∧ RefsInts r ev ((List.range 5).map (mateRow MM 6)) ∧ (∀ p ∈ r ++ rest, p.1 ≠ dE)) →
      wpAny (model PySem.Challenge.rw_wa0038_01.row.prog w) (lawA L fa cd) (execs (lawBody.drop 18) (lawEnv L fa cd)) Q E { s with heap := h', toks := tk' }) :
    wpAny (model PySem.Challenge.rw_wa0038_01.row.prog w) (lawA L fa cd) (execs (lawBody.drop 17) (lawEnv L fa cd)) Q E s := by
  revert X; k_fill; intro X
  have htvl : tv.length = 5 := by rw [htabs.1, htl]
  show wpAny _ (callerA.deeper (envOfC _ ⟨_, _, _, _, _⟩ _ _ _)) (execs (_ :: _) (envOfC _ ⟨_, _, _, _, _⟩ _ _ _)) _ _ _
  (repeat' (first | (k_unfold; (try dsimp only)) | (k_end; wrow_close) | ((((fail_if_success (with_reducible show wpAny _ _ (call (Value.builtin "dict.items") _ _) _ _ _)); (fail_if_success (with_reducible show wpAny _ _ (call (Value.type "range") _ _) _ _ _)); (fail_if_success (with_reducible show wpAny _ _ (call (Value.ref 112) _ _) _ _ _)); (fail_if_success (with_reducible show wpAny _ _ (eval (Expr.ListComp _ _ _ _) _) _ _ _)); (fail_if_success (with_reducible show wpAny _ _ (exec (Stmt.For _ _ _ _ _) _) _ _ _)); (fail_if_success (with_reducible show wpAny _ _ (exec (Stmt.While _ _ _ _) _) _ _ _)); (fail_if_success (with_reducible show wpAny _ _ (exec (Stmt.Assign [Expr.Name _ _] (Expr.ListComp _ _ _ _) _) _) _ _ _)))); first | (first | with_reducible (k_here; (with_reducible show wpAny _ _ (compareOp CmpOp.NotIn (Value.str _ _) (Value.ref _)) _ _ _); refine' notin_list_strs ?lqz ?iqz ?_; (case lqz => exact News.isList (by k_asm) (by k_mem)); (case iqz => assumption)) | with_reducible (k_here; (with_reducible show wpAny _ _ (call (Value.ref 146) _ _) _ _ _); k_dflt (refine' get_ ?Bqz ?Fqz ?Xqz ?Nqz ?Tqz ?hkqz ?hTqz ?hxqz ?hlqz ?hksqz ?hdqz ?_; (case Bqz => k_asm); (case Fqz => k_asm); (case Xqz => k_asm); (case Nqz => k_asm); (case Tqz => k_asm); (case hkqz => first | exact rfl | assumption); (case hTqz => refine IsTab.mono (by assumption) ?_; first | exact fun p hp => .tail _ (.tail _ hp) | exact fun p hp => .tail _ hp | exact fun p hp => hp); (case hxqz => assumption); (case hlqz => assumption); (case hksqz => assumption); (case hdqz => ktr_room); intro v9 h9 tk9 F9 N9 q9; (obtain ⟨t9, e9⟩ := get_str q9 (by assumption)); subst e9; clear q9; (try dsimp only))) | walk1) | (dsimp only; ((((fail_if_success (with_reducible show wpAny _ _ (call (Value.builtin "dict.items") _ _) _ _ _)); (fail_if_success (with_reducible show wpAny _ _ (call (Value.type "range") _ _) _ _ _)); (fail_if_success (with_reducible show wpAny _ _ (call (Value.ref 112) _ _) _ _ _)); (fail_if_success (with_reducible show wpAny _ _ (eval (Expr.ListComp _ _ _ _) _) _ _ _)); (fail_if_success (with_reducible show wpAny _ _ (exec (Stmt.For _ _ _ _ _) _) _ _ _)); (fail_if_success (with_reducible show wpAny _ _ (exec (Stmt.While _ _ _ _) _) _ _ _)); (fail_if_success (with_reducible show wpAny _ _ (exec (Stmt.Assign [Expr.Name _ _] (Expr.ListComp _ _ _ _) _) _) _ _ _))))); (first | with_reducible (k_here; (with_reducible show wpAny _ _ (compareOp CmpOp.NotIn (Value.str _ _) (Value.ref _)) _ _ _); refine' notin_list_strs ?lqz ?iqz ?_; (case lqz => exact News.isList (by k_asm) (by k_mem)); (case iqz => assumption)) | with_reducible (k_here; (with_reducible show wpAny _ _ (call (Value.ref 146) _ _) _ _ _); k_dflt (refine' get_ ?Bqz ?Fqz ?Xqz ?Nqz ?Tqz ?hkqz ?hTqz ?hxqz ?hlqz ?hksqz ?hdqz ?_; (case Bqz => k_asm); (case Fqz => k_asm); (case Xqz => k_asm); (case Nqz => k_asm); (case Tqz => k_asm); (case hkqz => first | exact rfl | assumption); (case hTqz => refine IsTab.mono (by assumption) ?_; first | exact fun p hp => .tail _ (.tail _ hp) | exact fun p hp => .tail _ hp | exact fun p hp => hp); (case hxqz => assumption); (case hlqz => assumption); (case hksqz => assumption); (case hdqz => ktr_room); intro v9 h9 tk9 F9 N9 q9; (obtain ⟨t9, e9⟩ := get_str q9 (by assumption)); subst e9; clear q9; (try dsimp only))) | walk1))) | (leave1; walk_say "STEP leave1"; try dsimp only) | fail "no step"))
  refine Assign_CL (by k_asm) (by rfl) (by with_unfolding_all rfl) (by with_unfolding_all rfl) (by rfl) (by decide) (fun _ => by rfl) (fun _ => by rfl) (fun _ _ => by rfl) (by rfl) (by rfl) ?_
  (repeat' (first | (k_unfold; (try dsimp only)) | (k_end; wrow_close) | ((((fail_if_success (with_reducible show wpAny _ _ (call (Value.builtin "dict.items") _ _) _ _ _)); (fail_if_success (with_reducible show wpAny _ _ (call (Value.type "range") _ _) _ _ _)); (fail_if_success (with_reducible show wpAny _ _ (call (Value.ref 112) _ _) _ _ _)); (fail_if_success (with_reducible show wpAny _ _ (eval (Expr.ListComp _ _ _ _) _) _ _ _)); (fail_if_success (with_reducible show wpAny _ _ (exec (Stmt.For _ _ _ _ _) _) _ _ _)); (fail_if_success (with_reducible show wpAny _ _ (exec (Stmt.While _ _ _ _) _) _ _ _)); (fail_if_success (with_reducible show wpAny _ _ (exec (Stmt.Assign [Expr.Name _ _] (Expr.ListComp _ _ _ _) _) _) _ _ _)))); first | (first | with_reducible (k_here; (with_reducible show wpAny _ _ (compareOp CmpOp.NotIn (Value.str _ _) (Value.ref _)) _ _ _); refine' notin_list_strs ?lqz ?iqz ?_; (case lqz => exact News.isList (by k_asm) (by k_mem)); (case iqz => assumption)) | with_reducible (k_here; (with_reducible show wpAny _ _ (call (Value.ref 146) _ _) _ _ _); k_dflt (refine' get_ ?Bqz ?Fqz ?Xqz ?Nqz ?Tqz ?hkqz ?hTqz ?hxqz ?hlqz ?hksqz ?hdqz ?_; (case Bqz => k_asm); (case Fqz => k_asm); (case Xqz => k_asm); (case Nqz => k_asm); (case Tqz => k_asm); (case hkqz => first | exact rfl | assumption); (case hTqz => refine IsTab.mono (by assumption) ?_; first | exact fun p hp => .tail _ (.tail _ hp) | exact fun p hp => .tail _ hp | exact fun p hp => hp); (case hxqz => assumption); (case hlqz => assumption); (case hksqz => assumption); (case hdqz => ktr_room); intro v9 h9 tk9 F9 N9 q9; (obtain ⟨t9, e9⟩ := get_str q9 (by assumption)); subst e9; clear q9; (try dsimp only))) | walk1) | (dsimp only; ((((fail_if_success (with_reducible show wpAny _ _ (call (Value.builtin "dict.items") _ _) _ _ _)); (fail_if_success (with_reducible show wpAny _ _ (call (Value.type "range") _ _) _ _ _)); (fail_if_success (with_reducible show wpAny _ _ (call (Value.ref 112) _ _) _ _ _)); (fail_if_success (with_reducible show wpAny _ _ (eval (Expr.ListComp _ _ _ _) _) _ _ _)); (fail_if_success (with_reducible show wpAny _ _ (exec (Stmt.For _ _ _ _ _) _) _ _ _)); (fail_if_success (with_reducible show wpAny _ _ (exec (Stmt.While _ _ _ _) _) _ _ _)); (fail_if_success (with_reducible show wpAny _ _ (exec (Stmt.Assign [Expr.Name _ _] (Expr.ListComp _ _ _ _) _) _) _ _ _))))); (first | with_reducible (k_here; (with_reducible show wpAny _ _ (compareOp CmpOp.NotIn (Value.str _ _) (Value.ref _)) _ _ _); refine' notin_list_strs ?lqz ?iqz ?_; (case lqz => exact News.isList (by k_asm) (by k_mem)); (case iqz => assumption)) | with_reducible (k_here; (with_reducible show wpAny _ _ (call (Value.ref 146) _ _) _ _ _); k_dflt (refine' get_ ?Bqz ?Fqz ?Xqz ?Nqz ?Tqz ?hkqz ?hTqz ?hxqz ?hlqz ?hksqz ?hdqz ?_; (case Bqz => k_asm); (case Fqz => k_asm); (case Xqz => k_asm); (case Nqz => k_asm); (case Tqz => k_asm); (case hkqz => first | exact rfl | assumption); (case hTqz => refine IsTab.mono (by assumption) ?_; first | exact fun p hp => .tail _ (.tail _ hp) | exact fun p hp => .tail _ hp | exact fun p hp => hp); (case hxqz => assumption); (case hlqz => assumption); (case hksqz => assumption); (case hdqz => ktr_room); intro v9 h9 tk9 F9 N9 q9; (obtain ⟨t9, e9⟩ := get_str q9 (by assumption)); subst e9; clear q9; (try dsimp only))) | walk1))) | (leave1; walk_say "STEP leave1"; try dsimp only) | fail "no step"))
  refine ⟨dT, tv.toArray, nT, _, fun i ys nw => ∃ r, nw = (dT, listOf tv.toArray nT) :: (L + 1 + 1 + 1 + 1 + 1, oT) :: (dM, LCg.lst nmv) :: (L + 1 + 1 + 1 + 1, oN) :: (r ++ rest) ∧ RefsInts r ys ((List.range i).map (mateRow MM 6)), rfl, by rfl, F, N, .head _, by rw [sizeLine_eq, List.size_toArray, htvl]; decide, ⟨[], rfl, rfl, fun k row e => by simp at e⟩, ?_, ?_⟩
  · rintro i v ys nw I C D1 D0 oI oC oX h tk hi hv ⟨r, rfl, hrw⟩ hC hX F2 N2 off
    have hi5 : i < 5 := by simpa [htvl] using hi
    obtain ⟨ps, hps⟩ : ∃ ps, tbl[i]? = some ps := ⟨_, List.getElem?_eq_getElem (by omega)⟩
    obtain ⟨ta, htv, hTi⟩ := htabs.2 i ps hps
    have ev : v = .ref ta := by
      have : tv[i]? = some v := by simpa using hv
      rw [htv] at this
      exact (Option.some.inj this).symm
    subst ev
    (repeat' (first | (k_unfold; (try dsimp only)) | (k_end; wrow_close) | ((((fail_if_success (with_reducible show wpAny _ _ (call (Value.builtin "dict.items") _ _) _ _ _)); (fail_if_success (with_reducible show wpAny _ _ (call (Value.type "range") _ _) _ _ _)); (fail_if_success (with_reducible show wpAny _ _ (call (Value.ref 112) _ _) _ _ _)); (fail_if_success (with_reducible show wpAny _ _ (eval (Expr.ListComp _ _ _ _) _) _ _ _)); (fail_if_success (with_reducible show wpAny _ _ (exec (Stmt.For _ _ _ _ _) _) _ _ _)); (fail_if_success (with_reducible show wpAny _ _ (exec (Stmt.While _ _ _ _) _) _ _ _)); (fail_if_success (with_reducible show wpAny _ _ (exec (Stmt.Assign [Expr.Name _ _] (Expr.ListComp _ _ _ _) _) _) _ _ _)))); first | (first | with_reducible (k_here; (with_reducible show wpAny _ _ (compareOp CmpOp.NotIn (Value.str _ _) (Value.ref _)) _ _ _); refine' notin_list_strs ?lqz ?iqz ?_; (case lqz => exact News.isList (by k_asm) (by k_mem)); (case iqz => assumption)) | with_reducible (k_here; (with_reducible show wpAny _ _ (call (Value.ref 146) _ _) _ _ _); k_dflt (refine' get_ ?Bqz ?Fqz ?Xqz ?Nqz ?Tqz ?hkqz ?hTqz ?hxqz ?hlqz ?hksqz ?hdqz ?_; (case Bqz => k_asm); (case Fqz => k_asm); (case Xqz => k_asm); (case Nqz => k_asm); (case Tqz => k_asm); (case hkqz => first | exact rfl | assumption); (case hTqz => refine IsTab.mono (by assumption) ?_; first | exact fun p hp => .tail _ (.tail _ hp) | exact fun p hp => .tail _ hp | exact fun p hp => hp); (case hxqz => assumption); (case hlqz => assumption); (case hksqz => assumption); (case hdqz => ktr_room); intro v9 h9 tk9 F9 N9 q9; (obtain ⟨t9, e9⟩ := get_str q9 (by assumption)); subst e9; clear q9; (try dsimp only))) | walk1) | (dsimp only; ((((fail_if_success (with_reducible show wpAny _ _ (call (Value.builtin "dict.items") _ _) _ _ _)); (fail_if_success (with_reducible show wpAny _ _ (call (Value.type "range") _ _) _ _ _)); (fail_if_success (with_reducible show wpAny _ _ (call (Value.ref 112) _ _) _ _ _)); (fail_if_success (with_reducible show wpAny _ _ (eval (Expr.ListComp _ _ _ _) _) _ _ _)); (fail_if_success (with_reducible show wpAny _ _ (exec (Stmt.For _ _ _ _ _) _) _ _ _)); (fail_if_success (with_reducible show wpAny _ _ (exec (Stmt.While _ _ _ _) _) _ _ _)); (fail_if_success (with_reducible show wpAny _ _ (exec (Stmt.Assign [Expr.Name _ _] (Expr.ListComp _ _ _ _) _) _) _ _ _))))); (first | with_reducible (k_here; (with_reducible show wpAny _ _ (compareOp CmpOp.NotIn (Value.str _ _) (Value.ref _)) _ _ _); refine' notin_list_strs ?lqz ?iqz ?_; (case lqz => exact News.isList (by k_asm) (by k_mem)); (case iqz => assumption)) | with_reducible (k_here; (with_reducible show wpAny _ _ (call (Value.ref 146) _ _) _ _ _); k_dflt (refine' get_ ?Bqz ?Fqz ?Xqz ?Nqz ?Tqz ?hkqz ?hTqz ?hxqz ?hlqz ?hksqz ?hdqz ?_; (case Bqz => k_asm); (case Fqz => k_asm); (case Xqz => k_asm); (case Nqz => k_asm); (case Tqz => k_asm); (case hkqz => first | exact rfl | assumption); (case hTqz => refine IsTab.mono (by assumption) ?_; first | exact fun p hp => .tail _ (.tail _ hp) | exact fun p hp => .tail _ hp | exact fun p hp => hp); (case hxqz => assumption); (case hlqz => assumption); (case hksqz => assumption); (case hdqz => ktr_room); intro v9 h9 tk9 F9 N9 q9; (obtain ⟨t9, e9⟩ := get_str q9 (by assumption)); subst e9; clear q9; (try dsimp only))) | walk1))) | (leave1; walk_say "STEP leave1"; try dsimp only) | fail "no step"))
    refine LCg.ListComp_U F2 (by with_unfolding_all rfl) (by decide) (by rfl) (by decide) (by rfl) ?_
    (repeat' (first | (k_unfold; (try dsimp only)) | (k_end; wrow_close) | ((((fail_if_success (with_reducible show wpAny _ _ (call (Value.builtin "dict.items") _ _) _ _ _)); (fail_if_success (with_reducible show wpAny _ _ (call (Value.type "range") _ _) _ _ _)); (fail_if_success (with_reducible show wpAny _ _ (call (Value.ref 112) _ _) _ _ _)); (fail_if_success (with_reducible show wpAny _ _ (eval (Expr.ListComp _ _ _ _) _) _ _ _)); (fail_if_success (with_reducible show wpAny _ _ (exec (Stmt.For _ _ _ _ _) _) _ _ _)); (fail_if_success (with_reducible show wpAny _ _ (exec (Stmt.While _ _ _ _) _) _ _ _)); (fail_if_success (with_reducible show wpAny _ _ (exec (Stmt.Assign [Expr.Name _ _] (Expr.ListComp _ _ _ _) _) _) _ _ _)))); first | (first | with_reducible (k_here; (with_reducible show wpAny _ _ (compareOp CmpOp.NotIn (Value.str _ _) (Value.ref _)) _ _ _); refine' notin_list_strs ?lqz ?iqz ?_; (case lqz => exact News.isList (by k_asm) (by k_mem)); (case iqz => assumption)) | with_reducible (k_here; (with_reducible show wpAny _ _ (call (Value.ref 146) _ _) _ _ _); k_dflt (refine' get_ ?Bqz ?Fqz ?Xqz ?Nqz ?Tqz ?hkqz ?hTqz ?hxqz ?hlqz ?hksqz ?hdqz ?_; (case Bqz => k_asm); (case Fqz => k_asm); (case Xqz => k_asm); (case Nqz => k_asm); (case Tqz => k_asm); (case hkqz => first | exact rfl | assumption); (case hTqz => refine IsTab.mono (by assumption) ?_; first | exact fun p hp => .tail _ (.tail _ hp) | exact fun p hp => .tail _ hp | exact fun p hp => hp); (case hxqz => assumption); (case hlqz => assumption); (case hksqz => assumption); (case hdqz => ktr_room); intro v9 h9 tk9 F9 N9 q9; (obtain ⟨t9, e9⟩ := get_str q9 (by assumption)); subst e9; clear q9; (try dsimp only))) | walk1) | (dsimp only; ((((fail_if_success (with_reducible show wpAny _ _ (call (Value.builtin "dict.items") _ _) _ _ _)); (fail_if_success (with_reducible show wpAny _ _ (call (Value.type "range") _ _) _ _ _)); (fail_if_success (with_reducible show wpAny _ _ (call (Value.ref 112) _ _) _ _ _)); (fail_if_success (with_reducible show wpAny _ _ (eval (Expr.ListComp _ _ _ _) _) _ _ _)); (fail_if_success (with_reducible show wpAny _ _ (exec (Stmt.For _ _ _ _ _) _) _ _ _)); (fail_if_success (with_reducible show wpAny _ _ (exec (Stmt.While _ _ _ _) _) _ _ _)); (fail_if_success (with_reducible show wpAny _ _ (exec (Stmt.Assign [Expr.Name _ _] (Expr.ListComp _ _ _ _) _) _) _ _ _))))); (first | with_reducible (k_here; (with_reducible show wpAny _ _ (compareOp CmpOp.NotIn (Value.str _ _) (Value.ref _)) _ _ _); refine' notin_list_strs ?lqz ?iqz ?_; (case lqz => exact News.isList (by k_asm) (by k_mem)); (case iqz => assumption)) | with_reducible (k_here; (with_reducible show wpAny _ _ (call (Value.ref 146) _ _) _ _ _); k_dflt (refine' get_ ?Bqz ?Fqz ?Xqz ?Nqz ?Tqz ?hkqz ?hTqz ?hxqz ?hlqz ?hksqz ?hdqz ?_; (case Bqz => k_asm); (case Fqz => k_asm); (case Xqz => k_asm); (case Nqz => k_asm); (case Tqz => k_asm); (case hkqz => first | exact rfl | assumption); (case hTqz => refine IsTab.mono (by assumption) ?_; first | exact fun p hp => .tail _ (.tail _ hp) | exact fun p hp => .tail _ hp | exact fun p hp => hp); (case hxqz => assumption); (case hlqz => assumption); (case hksqz => assumption); (case hdqz => ktr_room); intro v9 h9 tk9 F9 N9 q9; (obtain ⟨t9, e9⟩ := get_str q9 (by assumption)); subst e9; clear q9; (try dsimp only))) | walk1))) | (leave1; walk_say "STEP leave1"; try dsimp only) | fail "no step"))
    have hTi' : IsTab w ((I, oI) :: (C, oC) :: (D1, oX) :: (D0, LCg.lst ys) :: (dT, listOf tv.toArray nT) :: (L + 1 + 1 + 1 + 1 + 1, oT) :: (dM, LCg.lst nmv) :: (L + 1 + 1 + 1 + 1, oN) :: (r ++ rest)) ta ps := hTi.mono fun p hp => by
      simp only [List.mem_cons, List.mem_append]; simp only [hp, or_true]
    refine LCg.CompSrc.ledger (by rfl) (by k_asm) (by k_asm) (.tail _ (.tail _ (.tail _ (.tail _ (.tail _ (.tail _ (.head _))))))) (by rw [sizeLine_eq, List.size_toArray, hnv.len_eq, hnl]; decide) ?_
    intro g2
    refine rest_inv (fun k ys' nw' => nw' = (I, oI) :: (C, oC) :: (D1, oX) :: (D0, LCg.lst ys) :: (dT, listOf tv.toArray nT) :: (L + 1 + 1 + 1 + 1 + 1, oT) :: (dM, LCg.lst nmv) :: (L + 1 + 1 + 1 + 1, oN) :: (r ++ rest) ∧ IntsAre ys' ((List.range k).map fun j => (MM i j : Int))) ⟨rfl, .nil⟩ ?_ ?_
    · rintro k v' ys' nw' I' oI' C' oC' D' m₃ h3 tk3 hk hv' ⟨rfl, hys'⟩ hC' hx' F3 N3 off3 hne3
      have hk6 : k < ns.length := by have := hk; rw [List.size_toArray, hnv.len_eq] at this; exact this
      obtain ⟨nm, hnm⟩ : ∃ nm, ns[k]? = some nm := ⟨_, List.getElem?_eq_getElem hk6⟩
      obtain ⟨tb, hnm'⟩ := hnv.at hnm
      have ev : v' = .str nm tb := by
        have : nmv[k]? = some v' := by simpa using hv'
        rw [hnm'] at this
        exact (Option.some.inj this).symm
      subst ev
      obtain ⟨hclean, hlen⟩ := hg nm (List.mem_of_getElem? hnm)
      have hks := hgp ps (List.mem_of_getElem? hps)
      obtain ⟨b, hb1, hb2⟩ := hM i k ps nm hps hnm
      have hT3 : IsTab w ((I', oI') :: (C', oC') :: (D', LCg.lst ys') :: (I, oI) :: (C, oC) :: (D1, oX) :: (D0, LCg.lst ys) :: (dT, listOf tv.toArray nT) :: (L + 1 + 1 + 1 + 1 + 1, oT) :: (dM, LCg.lst nmv) :: (L + 1 + 1 + 1 + 1, oN) :: (r ++ rest)) ta ps := hTi'.mono fun p hp => .tail _ (.tail _ (.tail _ hp))
      obtain ⟨d1, l1a, its1, tkk1, n1, i11, i12, _⟩ := id hT3
      (repeat' (first | (k_unfold; (try dsimp only)) | (k_end; wrow_close) | ((((fail_if_success (with_reducible show wpAny _ _ (call (Value.builtin "dict.items") _ _) _ _ _)); (fail_if_success (with_reducible show wpAny _ _ (call (Value.type "range") _ _) _ _ _)); (fail_if_success (with_reducible show wpAny _ _ (call (Value.ref 112) _ _) _ _ _)); (fail_if_success (with_reducible show wpAny _ _ (eval (Expr.ListComp _ _ _ _) _) _ _ _)); (fail_if_success (with_reducible show wpAny _ _ (exec (Stmt.For _ _ _ _ _) _) _ _ _)); (fail_if_success (with_reducible show wpAny _ _ (exec (Stmt.While _ _ _ _) _) _ _ _)); (fail_if_success (with_reducible show wpAny _ _ (exec (Stmt.Assign [Expr.Name _ _] (Expr.ListComp _ _ _ _) _) _) _ _ _)))); first | (first | with_reducible (k_here; (with_reducible show wpAny _ _ (compareOp CmpOp.NotIn (Value.str _ _) (Value.ref _)) _ _ _); refine' notin_list_strs ?lqz ?iqz ?_; (case lqz => exact News.isList (by k_asm) (by k_mem)); (case iqz => assumption)) | with_reducible (k_here; (with_reducible show wpAny _ _ (call (Value.ref 146) _ _) _ _ _); k_dflt (refine' get_ ?Bqz ?Fqz ?Xqz ?Nqz ?Tqz ?hkqz ?hTqz ?hxqz ?hlqz ?hksqz ?hdqz ?_; (case Bqz => k_asm); (case Fqz => k_asm); (case Xqz => k_asm); (case Nqz => k_asm); (case Tqz => k_asm); (case hkqz => first | exact rfl | assumption); (case hTqz => refine IsTab.mono (by assumption) ?_; first | exact fun p hp => .tail _ (.tail _ hp) | exact fun p hp => .tail _ hp | exact fun p hp => hp); (case hxqz => assumption); (case hlqz => assumption); (case hksqz => assumption); (case hdqz => ktr_room); intro v9 h9 tk9 F9 N9 q9; (obtain ⟨t9, e9⟩ := get_str q9 (by assumption)); subst e9; clear q9; (try dsimp only))) | walk1) | (dsimp only; ((((fail_if_success (with_reducible show wpAny _ _ (call (Value.builtin "dict.items") _ _) _ _ _)); (fail_if_success (with_reducible show wpAny _ _ (call (Value.type "range") _ _) _ _ _)); (fail_if_success (with_reducible show wpAny _ _ (call (Value.ref 112) _ _) _ _ _)); (fail_if_success (with_reducible show wpAny _ _ (eval (Expr.ListComp _ _ _ _) _) _ _ _)); (fail_if_success (with_reducible show wpAny _ _ (exec (Stmt.For _ _ _ _ _) _) _ _ _)); (fail_if_success (with_reducible show wpAny _ _ (exec (Stmt.While _ _ _ _) _) _ _ _)); (fail_if_success (with_reducible show wpAny _ _ (exec (Stmt.Assign [Expr.Name _ _] (Expr.ListComp _ _ _ _) _) _) _ _ _))))); (first | with_reducible (k_here; (with_reducible show wpAny _ _ (compareOp CmpOp.NotIn (Value.str _ _) (Value.ref _)) _ _ _); refine' notin_list_strs ?lqz ?iqz ?_; (case lqz => exact News.isList (by k_asm) (by k_mem)); (case iqz => assumption)) | with_reducible (k_here; (with_reducible show wpAny _ _ (call (Value.ref 146) _ _) _ _ _); k_dflt (refine' get_ ?Bqz ?Fqz ?Xqz ?Nqz ?Tqz ?hkqz ?hTqz ?hxqz ?hlqz ?hksqz ?hdqz ?_; (case Bqz => k_asm); (case Fqz => k_asm); (case Xqz => k_asm); (case Nqz => k_asm); (case Tqz => k_asm); (case hkqz => first | exact rfl | assumption); (case hTqz => refine IsTab.mono (by assumption) ?_; first | exact fun p hp => .tail _ (.tail _ hp) | exact fun p hp => .tail _ hp | exact fun p hp => hp); (case hxqz => assumption); (case hlqz => assumption); (case hksqz => assumption); (case hdqz => ktr_room); intro v9 h9 tk9 F9 N9 q9; (obtain ⟨t9, e9⟩ := get_str q9 (by assumption)); subst e9; clear q9; (try dsimp only))) | walk1))) | (leave1; walk_say "STEP leave1"; try dsimp only) | fail "no step"))
      refine index_strs (j := MM i k) (News.isList N9 (.tail _ (.tail _ (.tail _ (.tail _ (.tail _ (.tail _ (.tail _ (.tail _ (.tail _ (.head _))))))))))) hnv (by omega) hb1 (fun a x ha hx => hdis a _ x b ha hx hb1) ?_
      try dsimp only
      (repeat' (first | (k_unfold; (try dsimp only)) | (k_end; wrow_close) | ((((fail_if_success (with_reducible show wpAny _ _ (call (Value.builtin "dict.items") _ _) _ _ _)); (fail_if_success (with_reducible show wpAny _ _ (call (Value.type "range") _ _) _ _ _)); (fail_if_success (with_reducible show wpAny _ _ (call (Value.ref 112) _ _) _ _ _)); (fail_if_success (with_reducible show wpAny _ _ (eval (Expr.ListComp _ _ _ _) _) _ _ _)); (fail_if_success (with_reducible show wpAny _ _ (exec (Stmt.For _ _ _ _ _) _) _ _ _)); (fail_if_success (with_reducible show wpAny _ _ (exec (Stmt.While _ _ _ _) _) _ _ _)); (fail_if_success (with_reducible show wpAny _ _ (exec (Stmt.Assign [Expr.Name _ _] (Expr.ListComp _ _ _ _) _) _) _ _ _)))); first | (first | with_reducible (k_here; (with_reducible show wpAny _ _ (compareOp CmpOp.NotIn (Value.str _ _) (Value.ref _)) _ _ _); refine' notin_list_strs ?lqz ?iqz ?_; (case lqz => exact News.isList (by k_asm) (by k_mem)); (case iqz => assumption)) | with_reducible (k_here; (with_reducible show wpAny _ _ (call (Value.ref 146) _ _) _ _ _); k_dflt (refine' get_ ?Bqz ?Fqz ?Xqz ?Nqz ?Tqz ?hkqz ?hTqz ?hxqz ?hlqz ?hksqz ?hdqz ?_; (case Bqz => k_asm); (case Fqz => k_asm); (case Xqz => k_asm); (case Nqz => k_asm); (case Tqz => k_asm); (case hkqz => first | exact rfl | assumption); (case hTqz => refine IsTab.mono (by assumption) ?_; first | exact fun p hp => .tail _ (.tail _ hp) | exact fun p hp => .tail _ hp | exact fun p hp => hp); (case hxqz => assumption); (case hlqz => assumption); (case hksqz => assumption); (case hdqz => ktr_room); intro v9 h9 tk9 F9 N9 q9; (obtain ⟨t9, e9⟩ := get_str q9 (by assumption)); subst e9; clear q9; (try dsimp only))) | walk1) | (dsimp only; ((((fail_if_success (with_reducible show wpAny _ _ (call (Value.builtin "dict.items") _ _) _ _ _)); (fail_if_success (with_reducible show wpAny _ _ (call (Value.type "range") _ _) _ _ _)); (fail_if_success (with_reducible show wpAny _ _ (call (Value.ref 112) _ _) _ _ _)); (fail_if_success (with_reducible show wpAny _ _ (eval (Expr.ListComp _ _ _ _) _) _ _ _)); (fail_if_success (with_reducible show wpAny _ _ (exec (Stmt.For _ _ _ _ _) _) _ _ _)); (fail_if_success (with_reducible show wpAny _ _ (exec (Stmt.While _ _ _ _) _) _ _ _)); (fail_if_success (with_reducible show wpAny _ _ (exec (Stmt.Assign [Expr.Name _ _] (Expr.ListComp _ _ _ _) _) _) _ _ _))))); (first | with_reducible (k_here; (with_reducible show wpAny _ _ (compareOp CmpOp.NotIn (Value.str _ _) (Value.ref _)) _ _ _); refine' notin_list_strs ?lqz ?iqz ?_; (case lqz => exact News.isList (by k_asm) (by k_mem)); (case iqz => assumption)) | with_reducible (k_here; (with_reducible show wpAny _ _ (call (Value.ref 146) _ _) _ _ _); k_dflt (refine' get_ ?Bqz ?Fqz ?Xqz ?Nqz ?Tqz ?hkqz ?hTqz ?hxqz ?hlqz ?hksqz ?hdqz ?_; (case Bqz => k_asm); (case Fqz => k_asm); (case Xqz => k_asm); (case Nqz => k_asm); (case Tqz => k_asm); (case hkqz => first | exact rfl | assumption); (case hTqz => refine IsTab.mono (by assumption) ?_; first | exact fun p hp => .tail _ (.tail _ hp) | exact fun p hp => .tail _ hp | exact fun p hp => hp); (case hxqz => assumption); (case hlqz => assumption); (case hksqz => assumption); (case hdqz => ktr_room); intro v9 h9 tk9 F9 N9 q9; (obtain ⟨t9, e9⟩ := get_str q9 (by assumption)); subst e9; clear q9; (try dsimp only))) | walk1))) | (leave1; walk_say "STEP leave1"; try dsimp only) | fail "no step"))
      exact LCg.CompEnd.intro F9 N9 _ (fun p hp => hp) off3 (.inr ⟨_, .tail _ (.tail _ (.tail _ (.tail _ (.tail _ (.tail _ (.head _)))))), rfl, _, rfl⟩) ⟨rfl, by
        rw [List.range_succ, List.map_append]
        exact hys'.append (.cons _ _ .nil)⟩
    · rintro ys' nw' ⟨rfl, hys'⟩
      intro D' h3 tk3 F3 N3 off3
      have o := off1_mem off3
      have e6 : nmv.toArray.size = 6 := by rw [List.size_toArray, hnv.len_eq]; exact hnl
      rw [e6] at hys'
      refine ⟨h3, _, (dT, listOf tv.toArray nT) :: (L + 1 + 1 + 1 + 1 + 1, oT) :: (dM, LCg.lst nmv) :: (L + 1 + 1 + 1 + 1, oN) :: (((D', LCg.lst ys') :: r) ++ rest), rfl, F3, fun p hp => N3 p ?_, ?_, .inr ⟨_, .head _, rfl, _, rfl⟩, (D', LCg.lst ys') :: r, rfl, ?_⟩
      · simp only [List.mem_cons, List.mem_append] at hp ⊢
        rcases hp with h | h | h | h | h | h | h | h | (h | h) | h
        all_goals simp only [h, true_or, or_true]
      · intro p hp
        simp only [List.mem_cons, List.mem_append] at hp
        rcases hp with h | h | h | h | (h | h) | h
        · rw [h]; exact off (dT, listOf tv.toArray nT) (.head _)
        · rw [h]; exact off (L + 1 + 1 + 1 + 1 + 1, oT) (.tail _ (.head _))
        · rw [h]; exact off (dM, LCg.lst nmv) (.tail _ (.tail _ (.head _)))
        · rw [h]; exact off (L + 1 + 1 + 1 + 1, oN) (.tail _ (.tail _ (.tail _ (.head _))))
        · rw [h]; exact ⟨(o (I, oI) (.head _)).symm, (o (C, oC) (.tail _ (.head _))).symm, (o (D1, oX) (.tail _ (.tail _ (.head _)))).symm, (o (D0, LCg.lst ys) (.tail _ (.tail _ (.tail _ (.head _))))).symm⟩
        · exact off p (.tail _ (.tail _ (.tail _ (.tail _ (List.mem_append_left _ h)))))
        · exact off p (.tail _ (.tail _ (.tail _ (.tail _ (List.mem_append_right _ h)))))
      · rw [List.range_succ, List.map_append]
        exact hrw.snoc hys'
  · rintro ys nw ⟨r, rfl, hrw⟩ D2 h tk F2 N2 off
    have e5 : tv.toArray.size = 5 := by rw [List.size_toArray]; exact htvl
    rw [e5] at hrw
    refine hnext _ _ D2 ys (by k_asm) ⟨r, fun p hp => N2 p ?_, hrw, fun p hp => off p ?_⟩
    · rcases List.mem_cons.mp hp with h | h
      · rw [h]; exact .head _
      · exact .tail _ (.tail _ (.tail _ (.tail _ (.tail _ h))))
    · exact .tail _ (.tail _ (.tail _ (.tail _ hp)))
end
end
section
open AutoSeq1 (wpAny_loadPart')
open MeetsSeq
noncomputable def ltI : List Int → List Int → Bool
  | [], [] => false
  | [], _ :: _ => true
  | _ :: _, [] => false
  | a :: r, b :: t => if a = b then ltI r t else decide (a < b)
theorem lt_loop (l b : Addr) (xs ys : List Value) (ns ms : List Int) (hi : IntsAre xs ns) (hj : IntsAre ys ms) (n n2 : Nat) (hsz : ns.length = ms.length) (k : Nat) :
    ∀ i : Nat, ns.length - i = k → Meets (Builtin.«list.__eq__.loop» ⟨[.ref l, .ref b, rawInt i, rawInt 0], []⟩)
      (fun _ R s => s.heap.get? l = some { cls := .type "list", dict := none, data := .seq xs.toArray n, slots := #[] } ∧ s.heap.get? b = some { cls := .type "list", dict := none, data := .seq ys.toArray n2, slots := #[] } ∧
        R (.ok (.ret (.bool (ltI (ns.drop i) (ms.drop i))))) s) := by
  have hxl : xs.length = ns.length := hi.length
  have hyl : ys.length = ms.length := hj.length
  induction k with
  | zero =>
    intro i hk prog w A R s h
    obtain ⟨hp, g, d, tk, os⟩ := s; obtain ⟨hl, hb, h⟩ := h
    wp_walk using wpAny_loadPart' hl, wpAny_loadPart' hb
    have hi1 : xs.toArray[((i : Nat) : Int).toNat]? = none := by simp; omega
    have hi2 : ys.toArray[((i : Nat) : Int).toNat]? = none := by simp; omega
    have hd1 : ns.drop i = [] := by simp; omega
    have hd2 : ms.drop i = [] := by simp; omega
    rw [hd1, hd2] at h
    rw [hi1, hi2]
    wp_walk using wpAny_loadPart' hl, wpAny_loadPart' hb
    show R (.ok (.ret (.bool (decide (xs.toArray.size < ys.toArray.size))))) _
    rw [show decide (xs.toArray.size < ys.toArray.size) = false by simp; omega]
    simpa [ltI] using h
  | succ k ih =>
    intro i hk prog w A R s h
    obtain ⟨hp, g, d, tk, os⟩ := s; obtain ⟨hl, hb, h⟩ := h
    wp_walk using wpAny_loadPart' hl, wpAny_loadPart' hb
    have hlt : i < ns.length := by omega
    have hlt2 : i < ms.length := by omega
    obtain ⟨t1, e1⟩ := hi.get i ns[i] (List.getElem?_eq_getElem hlt)
    obtain ⟨t2, e2⟩ := hj.get i ms[i] (List.getElem?_eq_getElem hlt2)
    have hi1 : xs.toArray[((i : Nat) : Int).toNat]? = some (.int ns[i] t1) := by simpa using e1
    have hi2 : ys.toArray[((i : Nat) : Int).toNat]? = some (.int ms[i] t2) := by simpa using e2
    have hd1 : ns.drop i = ns[i] :: ns.drop (i + 1) := List.drop_eq_getElem_cons hlt
    have hd2 : ms.drop i = ms[i] :: ms.drop (i + 1) := List.drop_eq_getElem_cons hlt2
    have hc : ((i : Int) + 1) = ((i + 1 : Nat) : Int) := by push_cast; rfl
    rw [hd1, hd2, ltI] at h
    rw [hi1, hi2]
    refine wpAny_bind (MeetsSeq.EqGives.int ns[i] ms[i] t1 t2 prog w _ _ _ _ ?_)
    by_cases hab : ns[i] = ms[i]
    · rw [if_pos hab] at h
      rw [show (ns[i] == ms[i]) = true by simpa using hab]
      wp_walk
      rw [hc]
      exact ⟨plainId_quiet MeetsSeq3.plain_eq_loop _, codeAny_builtin MeetsSeq3.entry_eq_loop (by
        rw [Around.under_plainId MeetsSeq3.plain_eq_loop _]
        exact ih (i + 1) (by omega) prog w A R _ ⟨hl, hb, h⟩)⟩
    · rw [if_neg hab] at h
      rw [show (ns[i] == ms[i]) = false by simpa using hab]
      wp_walk using wpAny_loadPart' hl, wpAny_loadPart' hb
      rw [hi1, hi2]
      refine wpAny_bind (lt_int ?_)
      wp_walk
      exact h
theorem list_lt (l b : Addr) (xs ys : List Value) (ns ms : List Int) (hi : IntsAre xs ns) (hj : IntsAre ys ms) (n n2 : Nat) (hsz : ns.length = ms.length) :
    Meets (Builtin.«list.__lt__» ⟨[.ref l, .ref b], []⟩)
      (fun _ R s => s.heap.get? l = some { cls := .type "list", dict := none, data := .seq xs.toArray n, slots := #[] } ∧ s.heap.get? b = some { cls := .type "list", dict := none, data := .seq ys.toArray n2, slots := #[] } ∧
        R (.ok (.ret (.bool (ltI ns ms)))) s) := by
  intro prog w A R s h
  obtain ⟨hp, g, d, tk, os⟩ := s; obtain ⟨hl, hb, h⟩ := h
  have f3 := AutoSeq1.sub_list_list
  wp_walk using wpAny_loadPart' hl, wpAny_loadPart' hb
  exact ⟨plainId_quiet MeetsSeq3.plain_eq_loop _, codeAny_builtin MeetsSeq3.entry_eq_loop (by
    rw [Around.under_plainId MeetsSeq3.plain_eq_loop _]
    exact lt_loop l b xs ys ns ms hi hj n n2 hsz _ 0 rfl prog w A R _ ⟨hl, hb, h⟩)⟩
section
variable {prog : Program} {w : World} {A : Around} {E : Value → Shared → Prop} {s : Shared}
theorem keyLt_lists {a b : Addr} {xs ys : List Value} {ns ms : List Int} {n n2 : Nat} {Q : Bool → Shared → Prop} (hu : A.units < cLine)
    (hl : s.heap.get? a = some { cls := .type "list", dict := none, data := .seq xs.toArray n, slots := #[] }) (hb : s.heap.get? b = some { cls := .type "list", dict := none, data := .seq ys.toArray n2, slots := #[] })
    (hi : IntsAre xs ns) (hj : IntsAre ys ms) (hsz : ns.length = ms.length) (h : Q (ltI ns ms) s) : wpAny (model prog w) A (keyLt' oneType' (.ref a) (.ref b)) Q E s := by
  rw [keyLt'_oneType, oneLt'_eq]
  simp only [if_true]
  refine wpAny_bind (wpAny_cRoomFor hu ?_)
  refine wpAny_bind (wpAny_callSpecialIfBound?_slot ⟨_, hl, rfl⟩ F.slot_list_lt (call_meets F.slot_list_lt ⟨_, hl, rfl⟩ F.entry_list_lt (F.args_list_lt_2 _ _) (list_lt a b xs ys ns ms hi hj n n2 hsz) ⟨hl, hb, ?_⟩))
  exact wpAny_truthy_bool h
end
end
section
noncomputable def mates0 : List (List Int) := [[1, 0, 3, 2, 5, 4], [3, 2, 1, 0, 5, 4], [1, 0, 5, 4, 3, 2], [5, 2, 1, 4, 3, 0], [5, 4, 3, 2, 1, 0]]
noncomputable def matesS : List (List Int) := [[1, 0, 3, 2, 5, 4], [1, 0, 5, 4, 3, 2], [3, 2, 1, 0, 5, 4], [5, 2, 1, 4, 3, 0], [5, 4, 3, 2, 1, 0]]
noncomputable def kasRun {α : Type} (n : Nat) (c : Nat → Nat → Bool) : KasT α → Option α
  | .ret a => some a
  | .ask i j k => if i < n ∧ j < n then kasRun n c (k (c i j)) else none
theorem kasRun_wp {α : Type} {n : Nat} {c : Nat → Nat → Bool} {cmp : Nat → Nat → (Bool → Shared → Prop) → Shared → Prop} {Q : α → Shared → Prop} {s : Shared} (hc : ∀ i j C, i < n → j < n → C (c i j) s → cmp i j C s) :
    ∀ (t : KasT α) (a : α), kasRun n c t = some a → Q a s → t.kasWp cmp Q s
  | .ret a, b, e, h => by
    have : a = b := Option.some.inj e
    subst this
    exact h
  | .ask i j k, b, e, h => by
    show cmp i j _ s
    by_cases hij : i < n ∧ j < n
    · rw [kasRun, if_pos hij] at e
      exact hc i j _ hij.1 hij.2 (kasRun_wp hc (k (c i j)) b e h)
    · rw [kasRun, if_neg hij] at e; cases e
noncomputable def rowLt (R : List (List Int)) (i j : Nat) : Bool := ltI (R.getD i []) (R.getD j [])
theorem RefsInts.at {news : List (Addr × Obj)} {ev : List Value} {R : List (List Int)} (x : RefsInts news ev R) {i : Nat} (hi : i < R.length) :
    ∃ (ra : Addr) (vs : List Value), ev.getD i Value.none = Value.ref ra ∧ (ra, LCg.lst vs) ∈ news ∧ IntsAre vs (R.getD i []) := by
  obtain ⟨ra, vs, e, m, h⟩ := x.2 i (R.getD i []) (by simp [List.getD, hi])
  exact ⟨ra, vs, by simp [List.getD, e], m, h⟩
theorem RefsInts.pick {news : List (Addr × Obj)} {ev : List Value} {R : List (List Int)} (x : RefsInts news ev R) (p : List Nat) (hp : ∀ i ∈ p, i < R.length) :
    RefsInts news (p.map fun i => ev.getD i Value.none) (p.map fun i => R.getD i []) := by
  refine ⟨by simp, fun k row e => ?_⟩
  rw [List.getElem?_map] at e
  cases hk : p[k]? with
  | none => rw [hk] at e; cases e
  | some i =>
    rw [hk] at e
    cases e
    obtain ⟨ra, vs, e1, m, h⟩ := x.at (hp i (List.mem_of_getElem? hk))
    exact ⟨ra, vs, by rw [List.getElem?_map, hk]; exact congrArg some e1, m, h⟩
section
variable {prog : Program} {w : World} {A : Around} {E : Value → Shared → Prop} {s : Shared} {h₀ : Heap} {L : Addr} {m : PySem.Str → Option Value} {news : List (Addr × Obj)}
theorem sorted_lists {R : List (List Int)} {p : List Nat} {c0 : Nat} (hR : R.length = 5) (h6 : ∀ i, i < 5 → (R.getD i []).length = c0) (hrun : kasRun 5 (rowLt R) (kas_sort 5) = some p.toArray) (hp : ∀ i ∈ p, i < 5)
    {dE : Addr} {ev : List Value} {Q : Value → Shared → Prop} (hu2 : A.in1.in1.units < cLine) (F : Fr h₀ L s.heap m) (N : News h₀ L s.heap news) (hd : (dE, LCg.lst ev) ∈ news) (hr : RefsInts news ev R)
    (h : ∀ D out c h', Fr h₀ L h' m → News h₀ L h' ((D, listOf (List.toArray out) c) :: news) → RefsInts news out (p.map fun i => R.getD i []) → (∀ q ∈ news, @LT.lt Nat _ q.1 D) → Q (.ref D) { s with heap := h' }) :
    wpAny (model prog w) A (call (.builtin "sorted") [.ref dE]) Q E s := by
  have hev : ev.length = 5 := by rw [hr.1, hR]
  refine kas_sorted (T := .type "list") F N (News.isList N hd) (by omega) (by omega) ?_ (by decide) ?_
  · intro h' F' N' v hv
    obtain ⟨i, hi⟩ := List.mem_iff_getElem?.mp hv
    have hi5 : i < 5 := by rw [← hev]; exact (List.getElem?_eq_some_iff.mp hi).1
    obtain ⟨ra, vs, e, mm, _⟩ := hr.at (i := i) (by omega)
    have : v = .ref ra := by rw [← e]; simp [List.getD, hi]
    subst this
    exact (Looks.ld (N' _ mm).1).andThen .now
  · intro D e1 h' F' N' lt
    rw [hev]
    refine kasRun_wp (fun i j C hi hj hC => ?_) _ _ hrun ?_
    · obtain ⟨ra, vs, ea, ma, ia⟩ := hr.at (i := i) (by omega)
      obtain ⟨rb, ws, eb, mb, ib⟩ := hr.at (i := j) (by omega)
      unfold kas_ask
      rw [ea, eb]
      exact keyLt_lists hu2 (N' _ (.tail _ ma)).1 (N' _ (.tail _ mb)).1 ia ib (by rw [h6 i hi, h6 j hj]) hC
    · refine KasFin.intro F' N' (.head fun q hq => Nat.ne_of_lt (lt q hq)) ?_
      intro h2 c F2 N2
      exact h D _ c h2 F2 N2 (hr.pick p (fun i hi => by rw [hR]; exact hp i hi)) lt
end
noncomputable def sortP : Nat → List Nat
  | 0 => [0, 2, 1, 3, 4]
  | 1 => [4, 1, 0, 2, 3]
  | 2 => [3, 0, 4, 1, 2]
  | 3 => [2, 4, 3, 0, 1]
  | _ => [1, 3, 2, 4, 0]
theorem sort_run : ∀ k, k < 5 → kasRun 5 (rowLt (RotOf k mates0)) (kas_sort 5) = some (sortP k).toArray := by decide +kernel
theorem sort_out : ∀ k, k < 5 → (sortP k).map (fun i => (RotOf k mates0).getD i []) = matesS := by decide +kernel
theorem sort_in : ∀ k, k < 5 → (RotOf k mates0).length = 5 ∧ (∀ i, i < 5 → ((RotOf k mates0).getD i []).length = 6) ∧ ∀ i ∈ sortP k, i < 5 := by decide +kernel
end
section
/-- a number's word, read back -/
noncomputable def unL (l : List Nat) : Nat := l.foldl (fun a c => a * 16 + (c - 97)) 0
noncomputable def asciiB (l : List Nat) : Bool := l.all fun c => decide (c < 128)
theorem ascii_of {l : List Nat} (h : asciiB l = true) : ∀ c ∈ l, c < 128 := fun c hc => by simpa using List.all_eq_true.mp h c hc
noncomputable def lwS (n : Nat) : PySem.Str := ⟨(nmS n).cps.map lo1⟩
noncomputable def clnB (l : List Nat) : Bool := l.all fun c => decide (32 ≤ c) && decide (c < 127)
theorem nm_all : ∀ n, n < 256 → asciiB (nmS n).cps.toList = true ∧ asciiB (lwS n).cps.toList = true ∧ (⟨(lwS n).cps.map lo1⟩ : PySem.Str) = lwS n ∧ unL (lwS n).cps.toList = n ∧ clnB (nmS n).cps.toList = true ∧ clnB (lwS n).cps.toList = true ∧ (nmS n).length < 100 ∧ (lwS n).length < 100 := by decide +kernel
theorem nm_lw {n : Nat} (h : n < 256) : Txt.lower (nmS n) = lwS n := lower_ascii (ascii_of (nm_all n h).1)
theorem nm_low (n : Nat) (h : n < 256) : unL (Txt.lower (nmS n)).cps.toList = n := by rw [nm_lw h]; exact (nm_all n h).2.2.2.1
theorem nm_low2 (n : Nat) (h : n < 256) : Txt.lower (Txt.lower (nmS n)) = Txt.lower (nmS n) := by
  rw [nm_lw h, lower_ascii (ascii_of (nm_all n h).2.1)]; exact (nm_all n h).2.2.1
theorem nm_cln (n : Nat) (h : n < 256) : clnB (nmS n).cps.toList = true ∧ clnB (Txt.lower (nmS n)).cps.toList = true ∧ (nmS n).length < 100 ∧ (Txt.lower (nmS n)).length < 100 := by
  rw [nm_lw h]
  exact (nm_all n h).2.2.2.2
theorem cln_of {x : PySem.Str} (h : clnB x.cps.toList = true) : Clean x := fun c hc => by
  have := List.all_eq_true.mp h c hc
  simp only [Bool.and_eq_true, decide_eq_true_eq] at this
  exact this
theorem nms_of {nums : List Int} (hl : nums.length = 6) (hb : ∀ k ∈ nums, 1 ≤ k ∧ k < 256) (hd : ∀ a b, a < 6 → b < 6 → nums.getD a 0 = nums.getD b 0 → a = b) : Nms (nums.map fun k => nmS k.toNat) := by
  have at_ : ∀ a, a < 6 → (nums.map fun k => nmS k.toNat).getD a PySem.Str.empty = nmS (nums.getD a 0).toNat ∧ (nums.getD a 0).toNat < 256 ∧ 1 ≤ nums.getD a 0 := fun a ha => by
    have e : nums[a]? = some (nums.getD a 0) := by simp [List.getD, show a < nums.length by omega]
    have := hb _ (List.mem_of_getElem? e)
    refine ⟨?_, by omega, this.1⟩
    rw [List.getD_eq_getElem?_getD, List.getElem?_map, e]; rfl
  have inj : ∀ a b, a < 6 → b < 6 → Txt.lower (nmS (nums.getD a 0).toNat) = Txt.lower (nmS (nums.getD b 0).toNat) → a = b := fun a b ha hb' e => by
    have h1 := nm_low _ (at_ a ha).2.1
    have h2 := nm_low _ (at_ b hb').2.1
    rw [e, h2] at h1
    exact hd a b ha hb' (by have := (at_ a ha).2.2; have := (at_ b hb').2.2; omega)
  refine ⟨by simp [hl], fun a b ha hb' => ?_, fun a b ha hb' => ?_, fun a ha => ?_, fun a ha => ?_⟩
  · rw [(at_ a ha).1, (at_ b hb').1]
    by_cases h : a = b
    · subst h; simp
    · rw [beq_eq_false_iff_ne.mpr fun e => h (inj a b ha hb' e)]
      exact (beq_eq_false_iff_ne.mpr h).symm
  · rw [(at_ a ha).1, (at_ b hb').1]
    by_cases h : a = b
    · subst h; simp
    · rw [beq_eq_false_iff_ne.mpr fun e => h (inj a b ha hb' (by rw [e]))]
      exact (beq_eq_false_iff_ne.mpr h).symm
  · rw [(at_ a ha).1]; exact nm_low2 _ (at_ a ha).2.1
  · rw [(at_ a ha).1]
    obtain ⟨c1, c2, c3, c4⟩ := nm_cln _ (at_ a ha).2.1
    exact ⟨cln_of c1, cln_of c2, c3, c4⟩
/-- the walk from place to place -/
noncomputable def getPI (ps : List (Nat × Nat)) (x : Nat) : Option Nat := (ps.find? (fun p => p.1 == x)).map (·.2)
noncomputable def ringWalkI (ps1 ps2 : List (Nat × Nat)) : Nat → List Nat → Nat → Option (List Nat)
  | 0, met, nm => if met.any (· == nm) = true then some met else none
  | f + 1, met, nm => if met.any (· == nm) = true then some met else (getPI ps1 nm).bind fun a => (getPI ps2 a).bind fun b => ringWalkI ps1 ps2 f (met ++ [nm, a]) b
noncomputable def ringsI (ps1 ps2 : List (Nat × Nat)) : List Nat → Nat → List Nat → Option Nat
  | [], r, _ => some r
  | nm :: rest, r, met => (ringWalkI ps1 ps2 4 met nm).bind fun met' => ringsI ps1 ps2 rest (if met.any (· == nm) = true then r else r + 1) met'
noncomputable def Small (ps : List (Nat × Nat)) : Prop := ∀ p ∈ ps, p.1 < 6 ∧ p.2 < 6
section
variable {ns : List PySem.Str} (hn : Nms ns)
include hn
theorem getP_idx {ps : List (Nat × Nat)} (hs : Small ps) {x : Nat} (hx : x < 6) {y : PySem.Str} (hy : Txt.lower y = Txt.lower (ns.getD x PySem.Str.empty)) : getP (ps.map (nmP fun k => ns.getD k PySem.Str.empty)) y = (getPI ps x).map fun k => ns.getD k PySem.Str.empty := by
  induction ps with
  | nil => rfl
  | cons p r ih =>
    have ih := ih (fun q hq => hs q (.tail _ hq))
    unfold getP getPI at ih ⊢
    rw [List.map_cons, List.find?_cons, List.find?_cons]
    have e : (Txt.lower (nmP (fun k => ns.getD k PySem.Str.empty) p).1 == Txt.lower y) = (p.1 == x) := by
      rw [hy]; exact hn.inj p.1 x (hs p (.head _)).1 hx
    rw [e]
    cases p.1 == x with
    | true => rfl
    | false => exact ih
theorem getPI_small {ps : List (Nat × Nat)} (hs : Small ps) {x y : Nat} (h : getPI ps x = some y) : y < 6 := by
  have _ := hn
  unfold getPI at h
  cases e : ps.find? (fun p => p.1 == x) with
  | none => rw [e] at h; cases h
  | some p => rw [e] at h; cases h; exact (hs p (List.mem_of_find?_eq_some e)).2
theorem met_idx {met : List Nat} (hm : ∀ x ∈ met, x < 6) {x : Nat} (hx : x < 6) : (met.map fun k => ns.getD k PySem.Str.empty).any (· == ns.getD x PySem.Str.empty) = met.any (· == x) := by
  induction met with
  | nil => rfl
  | cons a r ih =>
    rw [List.map_cons, List.any_cons, List.any_cons, ih (fun q hq => hm q (.tail _ hq)), hn.inj2 a x (hm a (.head _)) hx]
theorem ringWalk_idx {ps1 ps2 : List (Nat × Nat)} (h1 : Small ps1) (h2 : Small ps2) : ∀ (f : Nat) (met : List Nat) (x : Nat), (∀ y ∈ met, y < 6) → x < 6 →
    ringWalk (ps1.map (nmP fun k => ns.getD k PySem.Str.empty)) (ps2.map (nmP fun k => ns.getD k PySem.Str.empty)) f (met.map fun k => ns.getD k PySem.Str.empty) (ns.getD x PySem.Str.empty) = (ringWalkI ps1 ps2 f met x).map fun l => l.map fun k => ns.getD k PySem.Str.empty
  | 0, met, x, hm, hx => by
    rw [ringWalk, ringWalkI, met_idx hn hm hx]
    split <;> rfl
  | f + 1, met, x, hm, hx => by
    rw [ringWalk, ringWalkI, met_idx hn hm hx]
    split
    · rfl
    · rw [getP_idx hn h1 hx (hn.low x hx)]
      cases ea : getPI ps1 x with
      | none => rfl
      | some a =>
        have ha := getPI_small hn h1 ea
        show (getP _ (Txt.lower (ns.getD a PySem.Str.empty))).bind _ = ((getPI ps2 a).bind _).map _
        rw [getP_idx hn h2 ha (hn.low a ha)]
        cases eb : getPI ps2 a with
        | none => rfl
        | some b =>
          have hb := getPI_small hn h2 eb
          have hm' : ∀ y ∈ met ++ [x, a], y < 6 := fun y hy => by
            rcases List.mem_append.mp hy with h | h
            · exact hm y h
            · rcases List.mem_cons.mp h with rfl | h
              · exact hx
              · rw [List.mem_singleton.mp h]; exact ha
          have ih := ringWalk_idx h1 h2 f (met ++ [x, a]) b hm' hb
          rw [List.map_append] at ih
          exact ih
theorem ringWalkI_small {ps1 ps2 : List (Nat × Nat)} (h1 : Small ps1) (h2 : Small ps2) : ∀ (f : Nat) (met : List Nat) (x : Nat) (l : List Nat), (∀ y ∈ met, y < 6) → x < 6 → ringWalkI ps1 ps2 f met x = some l → ∀ y ∈ l, y < 6
  | 0, met, x, l, hm, hx, e => by
    rw [ringWalkI] at e
    split at e
    · cases e; exact hm
    · cases e
  | f + 1, met, x, l, hm, hx, e => by
    rw [ringWalkI] at e
    split at e
    · cases e; exact hm
    · cases ea : getPI ps1 x with
      | none => rw [ea] at e; cases e
      | some a =>
        have ha := getPI_small hn h1 ea
        rw [ea] at e
        change (getPI ps2 a).bind _ = _ at e
        cases eb : getPI ps2 a with
        | none => rw [eb] at e; cases e
        | some b =>
          have hb := getPI_small hn h2 eb
          rw [eb] at e
          refine ringWalkI_small h1 h2 f (met ++ [x, a]) b l (fun y hy => ?_) hb e
          rcases List.mem_append.mp hy with h | h
          · exact hm y h
          · rcases List.mem_cons.mp h with rfl | h
            · exact hx
            · rw [List.mem_singleton.mp h]; exact ha
theorem ringsGo_idx {ps1 ps2 : List (Nat × Nat)} (h1 : Small ps1) (h2 : Small ps2) : ∀ (xs : List Nat) (r : Nat) (met : List Nat), (∀ y ∈ met, y < 6) → (∀ y ∈ xs, y < 6) →
    ringsGo (ps1.map (nmP fun k => ns.getD k PySem.Str.empty)) (ps2.map (nmP fun k => ns.getD k PySem.Str.empty)) (xs.map fun k => ns.getD k PySem.Str.empty) r (met.map fun k => ns.getD k PySem.Str.empty) = ringsI ps1 ps2 xs r met
  | [], _, _, _, _ => rfl
  | x :: xs, r, met, hm, hx => by
    have hx0 := hx x (.head _)
    rw [List.map_cons, ringsGo, ringsI, ringWalk_idx hn h1 h2 4 met x hm hx0, met_idx hn hm hx0]
    cases e : ringWalkI ps1 ps2 4 met x with
    | none => rfl
    | some l => exact ringsGo_idx h1 h2 xs _ l (ringWalkI_small hn h1 h2 4 met x l hm hx0 e) (fun y hy => hx y (.tail _ hy))
end
noncomputable def RT (k : Nat) : List (List Nat) := match k with
  | 0 => [[3, 2, 2, 1, 2], [2, 3, 1, 2, 1], [2, 1, 3, 2, 1], [1, 2, 2, 3, 2], [2, 1, 1, 2, 3]]
  | 1 => [[3, 1, 2, 1, 2], [1, 3, 2, 1, 2], [2, 2, 3, 2, 1], [1, 1, 2, 3, 2], [2, 2, 1, 2, 3]]
  | 2 => [[3, 2, 1, 2, 1], [2, 3, 2, 1, 2], [1, 2, 3, 2, 1], [2, 1, 2, 3, 2], [1, 2, 1, 2, 3]]
  | 3 => [[3, 2, 1, 2, 2], [2, 3, 2, 1, 1], [1, 2, 3, 2, 2], [2, 1, 2, 3, 1], [2, 1, 2, 1, 3]]
  | _ => [[3, 2, 1, 1, 2], [2, 3, 2, 2, 1], [1, 2, 3, 1, 2], [1, 2, 1, 3, 2], [2, 1, 2, 2, 3]]
noncomputable def RRk (k i j : Nat) : Nat := ((RT k).getD i []).getD j 0
noncomputable def tabR (k : Nat) : List (List (Nat × Nat)) := RotOf k tabI
theorem rings_ok : ∀ k, k < 5 → ∀ i, i < 5 → ∀ j, j < 5 → ringsI ((tabR k).getD i []) ((tabR k).getD j []) [0, 1, 2, 3, 4, 5] 0 [] = some (RRk k i j) := by decide +kernel
theorem tab_ok : ∀ k, k < 5 → (tabR k).length = 5 ∧ ∀ ps ∈ tabR k, ∀ p ∈ ps, p.1 < 6 ∧ p.2 < 6 := by decide +kernel
theorem RR_small : ∀ k, k < 5 → ∀ i, i < 5 → ∀ j, j < 5 → RRk k i j ≤ 3 := by decide +kernel
noncomputable def MMk (k t i : Nat) : Nat := (((RotOf k mates0).getD t []).getD i 0).toNat
theorem mates_ok : ∀ k, k < 5 → ∀ t, t < 5 → ∀ i, i < 6 → MMk k t i < 6 ∧ getPI ((tabR k).getD t []) i = some (MMk k t i) := by decide +kernel
theorem mates_row : ∀ k, k < 5 → (List.range 5).map (mateRow (MMk k) 6) = RotOf k mates0 := by decide +kernel
end
section
noncomputable def detIs (k : Nat) (q : Int) : Bool := decide ((rowsGo ((List.range 5).map (ringRow (RRk k) q)) [(0, 1)]).find? (fun p => p.1 = 31) = some (31, meander q))
theorem det_0 : ∀ n : Nat, n < 10 → detIs 0 ((n : Int) - 4) = true := by decide +kernel
theorem det_1 : ∀ n : Nat, n < 10 → detIs 1 ((n : Int) - 4) = true := by decide +kernel
theorem det_2 : ∀ n : Nat, n < 10 → detIs 2 ((n : Int) - 4) = true := by decide +kernel
theorem det_3 : ∀ n : Nat, n < 10 → detIs 3 ((n : Int) - 4) = true := by decide +kernel
theorem det_4 : ∀ n : Nat, n < 10 → detIs 4 ((n : Int) - 4) = true := by decide +kernel
theorem det_ok {k : Nat} (hk : k < 5) {q : Int} (h1 : -4 ≤ q) (h2 : q ≤ 5) : (rowsGo ((List.range 5).map (ringRow (RRk k) q)) [(0, 1)]).find? (fun p => p.1 = 31) = some (31, meander q) := by
  obtain ⟨n, hn, rfl⟩ : ∃ n : Nat, n < 10 ∧ q = (n : Int) - 4 := ⟨(q + 4).toNat, by omega, by omega⟩
  have : detIs k ((n : Int) - 4) = true := by
    have hks : k = 0 ∨ k = 1 ∨ k = 2 ∨ k = 3 ∨ k = 4 := by omega
    rcases hks with rfl | rfl | rfl | rfl | rfl
    · exact det_0 n hn
    · exact det_1 n hn
    · exact det_2 n hn
    · exact det_3 n hn
    · exact det_4 n hn
  exact of_decide_eq_true this
end
section
noncomputable def stepI (v : Int) : Int := v.fdiv 4 + 1
noncomputable def numsOf (draws : List Int) : List Int := (List.range 6).map fun k => ((draws.take (k + 1)).map stepI).sum
theorem stepI_b {v : Int} (h0 : 0 ≤ v) (h1 : v < 160) : 1 ≤ stepI v ∧ stepI v ≤ 40 := by
  unfold stepI
  rw [Int.fdiv_eq_ediv_of_nonneg _ (by decide)]
  omega
theorem sum_b : ∀ (l : List Int), (∀ v ∈ l, 1 ≤ stepI v ∧ stepI v ≤ 40) → (l.length : Int) ≤ (l.map stepI).sum ∧ (l.map stepI).sum ≤ 40 * l.length
  | [], _ => by simp
  | a :: l, h => by
    have ih := sum_b l fun v hv => h v (.tail _ hv)
    have h0 := h a (.head _)
    simp only [List.map_cons, List.sum_cons, List.length_cons]
    omega
theorem sum_step (l : List Int) (h : ∀ v ∈ l, 1 ≤ stepI v) {b : Nat} (hb : b + 1 < l.length) : ((l.take (b + 1)).map stepI).sum < ((l.take (b + 2)).map stepI).sum := by
  have e : l.take (b + 2) = l.take (b + 1) ++ [l[b + 1]] := by rw [List.take_succ_eq_append_getElem hb]
  have := h l[b + 1] (List.getElem_mem hb)
  rw [e, List.map_append, List.sum_append]
  simp only [List.map_cons, List.map_nil, List.sum_cons, List.sum_nil]
  omega
theorem sum_lt (l : List Int) (h : ∀ v ∈ l, 1 ≤ stepI v) (a : Nat) : ∀ b, a < b → b < l.length → ((l.take (a + 1)).map stepI).sum < ((l.take (b + 1)).map stepI).sum
  | 0, h0, _ => absurd h0 (Nat.not_lt_zero _)
  | b + 1, h0, hb => by
    have s := sum_step l h hb
    rcases Nat.lt_succ_iff_lt_or_eq.mp h0 with h1 | h1
    · exact Int.lt_trans (sum_lt l h a b h1 (by omega)) s
    · subst h1; exact s
theorem nums_facts {draws : List Int} (hl : draws.length = 6) (hd : ∀ v ∈ draws, 0 ≤ v ∧ v < 160) :
    (numsOf draws).length = 6 ∧ (∀ k ∈ numsOf draws, 1 ≤ k ∧ k < 256) ∧ (∀ a b, a < 6 → b < 6 → (numsOf draws).getD a 0 = (numsOf draws).getD b 0 → a = b) := by
  have hb : ∀ v ∈ draws, 1 ≤ stepI v ∧ stepI v ≤ 40 := fun v hv => stepI_b (hd v hv).1 (hd v hv).2
  have hat : ∀ a, a < 6 → (numsOf draws).getD a 0 = ((draws.take (a + 1)).map stepI).sum := fun a ha => by
    unfold numsOf
    rw [List.getD_eq_getElem?_getD, List.getElem?_map, List.getElem?_range ha]; rfl
  refine ⟨by simp [numsOf], fun k hk => ?_, fun a b ha hb' h => ?_⟩
  · obtain ⟨i, hi, rfl⟩ := List.mem_map.mp hk
    have hi6 := List.mem_range.mp hi
    have s := sum_b (draws.take (i + 1)) fun v hv => hb v (List.mem_of_mem_take hv)
    rw [List.length_take] at s
    omega
  · rw [hat a ha, hat b hb'] at h
    rcases Nat.lt_trichotomy a b with q | q | q
    · exact absurd h (Int.ne_of_lt (sum_lt draws (fun v hv => (hb v hv).1) a b q (by omega)))
    · exact q
    · exact absurd h.symm (Int.ne_of_lt (sum_lt draws (fun v hv => (hb v hv).1) b a q (by omega)))
end
section
theorem allLt_mem {D : Addr} : ∀ {l : List (Addr × Obj)}, AllLt D l → ∀ p ∈ l, p.1 ≠ D
  | [], _, _, h => nomatch h
  | _ :: _, x, p, h => by
    rcases List.mem_cons.mp h with rfl | h
    · exact Nat.ne_of_lt x.1
    · exact allLt_mem x.2 p h
section
variable {w : World} {mean : ExcName → Option Value} {mg mb : PySem.Str → Option Value} {base h₀ : Heap} {L fa : Addr} {cd : Value} {m : PySem.Str → Option Value} {s : Shared} {Q : Flow → Shared → Prop} {E : Value → Shared → Prop}
  (B : Below callerA base [] h₀) (F : Fr h₀ L s.heap m) (X : (hd.heap_39 w.params).In h₀) (T : Top hd.view_39 LO mean mg mb h₀)
include B F X T
set_option maxRecDepth 100000 in
set_option maxHeartbeats 1000000 in
set_option pp.deepTerms false in
set_option pp.deepTerms.threshold 8 in
theorem stG {dS : Addr} {sv : List Value} {ss : List Int} {oS oT : Obj} {vT : Option Value} {rest : List (Addr × Obj)} (N : News h₀ L s.heap ((L + 1, oS) :: (L + 1 + 1 + 1 + 1 + 1, oT) :: rest)) (hLs : h₀.IsList dS sv.toArray) (hoS : oS.data = .cell (some (.ref dS))) (hoT : oT.data = .cell vT) (hss : IntsAre sv ss) (hsl : ss.length ≤ 63)
    (hr : ∀ p ∈ rest, p.1 ≠ L + 1 + 1 + 1 + 1 + 1)
    (hnext : ∀ h' tk' tt dT oT', Fr h₀ L h' (fun z => if z = PySem.Str.ofString "turn" then some (.int (ss.sum.fmod 20) tt) else m z) → News h₀ L h' ((dT, listOf #[] 0) :: (L + 1, oS) :: (L + 1 + 1 + 1 + 1 + 1, oT') :: rest) → oT'.data = .cell (some (.ref dT)) → (@LT.lt Nat _ (L + 1) dT ∧ @LT.lt Nat _ (L + 1 + 1 + 1 + 1 + 1) dT) → (∀ p ∈ rest, p.1 ≠ dT) →
      wpAny (model PySem.Challenge.rw_wa0038_01.row.prog w) (lawA L fa cd) (execs (lawBody.drop 9) (lawEnv L fa cd)) Q E { s with heap := h', toks := tk' }) :
    wpAny (model PySem.Challenge.rw_wa0038_01.row.prog w) (lawA L fa cd) (execs (lawBody.drop 7) (lawEnv L fa cd)) Q E s := by
  have _ := B
  revert X; k_fill; intro X
  show wpAny _ (callerA.deeper (envOfC _ ⟨_, _, _, _, _⟩ _ _ _)) (execs (_ :: _) (envOfC _ ⟨_, _, _, _, _⟩ _ _ _)) _ _ _
  repeat (first | ((with_reducible show wpAny _ _ (execs (Stmt.For _ _ _ _ _ :: _) _) _ _ _); exact hnext _ _ _ _ _ (by assumption) (by assumption) (by assumption) ⟨by rename_i l1 _ _ _ _ _; exact l1.1, by rename_i l1 _ _ _ _ _; exact l1.2.1⟩ (by rename_i l1 _ _ _ _ _; exact allLt_mem l1.2.2)) | walk1)
end
end
section
section
variable {w : World} {mean : ExcName → Option Value} {mg mb : PySem.Str → Option Value} {base h₀ : Heap} {L fa : Addr} {cd : Value} {m : PySem.Str → Option Value} {s : Shared} {Q : Flow → Shared → Prop} {E : Value → Shared → Prop}
  (B : Below callerA base [] h₀) (F : Fr h₀ L s.heap m) (X : (hd.heap_39 w.params).In h₀) (T : Top hd.view_39 LO mean mg mb h₀)
include B F X T
set_option maxRecDepth 100000 in
set_option maxHeartbeats 1000000 in
set_option pp.deepTerms false in
set_option pp.deepTerms.threshold 8 in
theorem stI {dT dS : Addr} {tv sv : List Value} {nT : Nat} {ss : List Int} {oT oS oQ : Obj} {vQ : Option Value} {rest : List (Addr × Obj)} (N : News h₀ L s.heap ((dT, listOf tv.toArray nT) :: (L + 1, oS) :: (L + 1 + 1 + 1 + 1 + 1, oT) :: (L + 1 + 1 + 1 + 1 + 1 + 1, oQ) :: rest)) (hLs : h₀.IsList dS sv.toArray)
    (hoT : oT.data = .cell (some (.ref dT))) (hoS : oS.data = .cell (some (.ref dS))) (hoQ : oQ.data = .cell vQ) (hss : IntsAre sv ss) (hsl : ss.length ≤ 63) (htl : tv.toArray.size = 5)
    (hr : ∀ p ∈ rest, p.1 ≠ L + 1 + 1 + 1 + 1 + 1 + 1) (hd5 : @Ne Nat dT (L + 1 + 1 + 1 + 1 + 1 + 1))
    (hnext : ∀ h' tk' tt oQ', Fr h₀ L h' m → News h₀ L h' ((dT, listOf tv.toArray nT) :: (L + 1, oS) :: (L + 1 + 1 + 1 + 1 + 1, oT) :: (L + 1 + 1 + 1 + 1 + 1 + 1, oQ') :: rest) → oQ'.data = .cell (some (.int ((ss.sum + 7).fmod 10 - 4) tt)) → 
      wpAny (model PySem.Challenge.rw_wa0038_01.row.prog w) (lawA L fa cd) (execs (lawBody.drop 12) (lawEnv L fa cd)) Q E { s with heap := h', toks := tk' }) :
    wpAny (model PySem.Challenge.rw_wa0038_01.row.prog w) (lawA L fa cd) (execs (lawBody.drop 10) (lawEnv L fa cd)) Q E s := by
  have _ := B
  revert X; k_fill; intro X
  show wpAny _ (callerA.deeper (envOfC _ ⟨_, _, _, _, _⟩ _ _ _)) (execs (_ :: _) (envOfC _ ⟨_, _, _, _, _⟩ _ _ _)) _ _ _
  repeat (first | ((with_reducible show wpAny _ _ (execs (Stmt.Assign [Expr.Name (PySem.Str.ofString "rings") _] _ _ :: _) _) _ _ _); exact hnext _ _ _ _ (by assumption) (by assumption) (by assumption)) | (first | with_reducible (k_here; (with_reducible show wpAny _ _ (call (Value.builtin "len") [Value.ref _]) _ _ _); (refine len5 (News.isList (by k_asm) (by k_mem)) (by assumption) ?_); intro _ _) | with_reducible (k_here; (with_reducible show wpAny _ _ (subscriptTail _ _ (Value.ref _) (Value.int _ _)) _ _ _); refine' item_I ?lqz ?iqz ?bqz ?cqz ?_; (case lqz => exact News.isList (by k_asm) (by k_mem)); (case iqz => assumption); (case bqz => omega); (case cqz => omega); intro _) | walk1 | (k_here; (with_reducible show wpAny _ _ (subscriptTail _ _ (Value.ref _) (Value.int _ _)) _ _ _); refine' item_I ?lqz ?iqz ?bqz ?cqz ?_; (case lqz => exact News.isList (by k_asm) (by k_mem)); (case iqz => assumption); (case bqz => omega); (case cqz => omega); intro _)))
end
end
section
theorem strs_canLay : ∀ ns : List PySem.Str, (∀ x ∈ ns, PyData.strOk x = true) → PyData.canLayAll0 (ns.map PyData.str) = true
  | [], _ => rfl
  | a :: r, h => by simp [PyData.canLayAll0, PyData.canLay0, strs_canLay r (fun x hx => h x (.tail _ hx)), h a (.head _)]
theorem strs_depth : ∀ ns : List PySem.Str, PyData.depthAll (ns.map PyData.str) = 0
  | [] => rfl
  | _ :: r => by simp [PyData.depthAll, PyData.depth, strs_depth r]
theorem strs_shaped (ns : List PySem.Str) (h : ∀ x ∈ ns, PyData.strOk x = true) : SeqAt.shaped (.list (ns.map PyData.str)) = true := by
  simp [SeqAt.shaped, PyData.canLay0, PyData.depth, strs_canLay ns h, strs_depth]
theorem strs_sameAll : ∀ ns : List PySem.Str, PySem.Spec.sameAll (ns.map PyData.str) (ns.map PyData.str) = true
  | [] => by simp [PySem.Spec.sameAll]
  | a :: r => by simp [PySem.Spec.sameAll, PySem.Spec.same, strs_sameAll r]
theorem strs_carried : ∀ {vs : List Value} {ns : List PySem.Str}, StrsAre vs ns → CarriedAll vs (ns.map PyData.str)
  | _, _, .nil => .nil
  | _, _, .cons _ t r => .cons (.str _ t) (strs_carried r)
theorem ne_strs {prog : Program} {w : World} {A : Around} {E : Value → Shared → Prop} {s : Shared} {a b : Addr} {xs ys : List Value} {ns : List PySem.Str} {Q : Value → Shared → Prop} (ha : s.heap.IsList a xs.toArray) (hb : s.heap.IsList b ys.toArray) (hi : StrsAre xs ns) (hj : StrsAre ys ns) (hok : ∀ x ∈ ns, PyData.strOk x = true) (hu : A.units + 64 < cLine) (h : Q (.bool false) s) :
    wpAny (model prog w) A (compareOp .NotEq (.ref a) (.ref b)) Q E s :=
  ne_dataH_same (reads_newData ha (strs_carried hi)) (reads_newData hb (strs_carried hj)) (strs_shaped _ hok) (strs_shaped _ hok) hu (SeqAt.noMix_of_shape (.list .str) rfl _ _ (list_map_has fun _ => rfl) (list_map_has fun _ => rfl)) (by
    rw [show PySem.Spec.same (.list (ns.map PyData.str)) (.list (ns.map PyData.str)) = true by simp only [PySem.Spec.same]; exact strs_sameAll ns]; exact h)
theorem nm_ok : ∀ n : Nat, n < 256 → PyData.strOk (nmS n) = true := by decide +kernel
theorem nm_two : ∀ n : Nat, n < 256 → 15 < n → Txt.item (PySem.Str.ofString "ABCDEFGHIJKLMNOP") ((n : Int).fdiv 16) ++ Txt.item (PySem.Str.ofString "ABCDEFGHIJKLMNOP") ((n : Int).fmod 16) = nmS n := by decide +kernel
theorem nm_one : ∀ n : Nat, n < 256 → ¬ 15 < n → PySem.Str.ofString "" ++ Txt.item (PySem.Str.ofString "ABCDEFGHIJKLMNOP") ((n : Int).fmod 16) = nmS n := by decide +kernel
section
variable {w : World} {mean : ExcName → Option Value} {mg mb : PySem.Str → Option Value} {base h₀ : Heap} {L fa : Addr} {cd : Value} {m : PySem.Str → Option Value} {s : Shared} {Q : Flow → Shared → Prop} {E : Value → Shared → Prop}
  (B : Below callerA base [] h₀) (F : Fr h₀ L s.heap m) (X : (hd.heap_39 w.params).In h₀) (T : Top hd.view_39 LO mean mg mb h₀)
include B F X T
set_option maxRecDepth 100000 in
set_option maxHeartbeats 800000 in
set_option pp.deepTerms false in
set_option pp.deepTerms.threshold 8 in
theorem stM {dn dM : Addr} {numv nmv : List Value} {nums : List Int} {oN oL : Obj} {tl : Tok} {rest : List (Addr × Obj)}
    (N : News h₀ L s.heap ((dn, LCg.lst numv) :: (dM, LCg.lst nmv) :: (L + 1 + 1 + 1 + 1, oN) :: (L + 1 + 1 + 1 + 1 + 1 + 1 + 1 + 1, oL) :: rest))
    (hoN : oN.data = .cell (some (.ref dM))) (hoL : oL.data = .cell (some (.str (PySem.Str.ofString "ABCDEFGHIJKLMNOP") tl)))
    (hnums : IntsAre numv nums) (hnl : nums.length = 6) (hnb : ∀ k ∈ nums, 1 ≤ k ∧ k < 256) (hnmv : StrsAre nmv (nums.map fun k => nmS k.toNat))
    (hm : m (PySem.Str.ofString "numbers") = some (.ref dn))
    (hnext : ∀ h' tk', Fr h₀ L h' m → News h₀ L h' ((dn, LCg.lst numv) :: (dM, LCg.lst nmv) :: (L + 1 + 1 + 1 + 1, oN) :: (L + 1 + 1 + 1 + 1 + 1 + 1 + 1 + 1, oL) :: rest) → 
      wpAny (model PySem.Challenge.rw_wa0038_01.row.prog w) (lawA L fa cd) (execs (lawBody.drop 17) (lawEnv L fa cd)) Q E { s with heap := h', toks := tk' }) :
    wpAny (model PySem.Challenge.rw_wa0038_01.row.prog w) (lawA L fa cd) (execs (lawBody.drop 16) (lawEnv L fa cd)) Q E s := by
  have F1 := fr_track F hm
  have em : m = (fun y => if y = PySem.Str.ofString "numbers" then some (.ref dn) else m y) := fr_track_eq hm
  rw [em] at hnext
  clear em hm F
  revert X; k_fill; intro X
  show wpAny _ (callerA.deeper (envOfC _ ⟨_, _, _, _, _⟩ _ _ _)) (execs (_ :: _) (envOfC _ ⟨_, _, _, _, _⟩ _ _ _)) _ _ _
  (repeat' (first | (k_unfold; (try dsimp only)) | (k_end; wrow_close) | ((((fail_if_success (with_reducible show wpAny _ _ (call (Value.builtin "dict.items") _ _) _ _ _)); (fail_if_success (with_reducible show wpAny _ _ (call (Value.type "range") _ _) _ _ _)); (fail_if_success (with_reducible show wpAny _ _ (call (Value.ref 112) _ _) _ _ _)); (fail_if_success (with_reducible show wpAny _ _ (eval (Expr.ListComp _ _ _ _) _) _ _ _)); (fail_if_success (with_reducible show wpAny _ _ (exec (Stmt.For _ _ _ _ _) _) _ _ _)); (fail_if_success (with_reducible show wpAny _ _ (exec (Stmt.While _ _ _ _) _) _ _ _)); (fail_if_success (with_reducible show wpAny _ _ (exec (Stmt.Assign [Expr.Name _ _] (Expr.ListComp _ _ _ _) _) _) _ _ _)))); first | walk1 | (dsimp only; ((((fail_if_success (with_reducible show wpAny _ _ (call (Value.builtin "dict.items") _ _) _ _ _)); (fail_if_success (with_reducible show wpAny _ _ (call (Value.type "range") _ _) _ _ _)); (fail_if_success (with_reducible show wpAny _ _ (call (Value.ref 112) _ _) _ _ _)); (fail_if_success (with_reducible show wpAny _ _ (eval (Expr.ListComp _ _ _ _) _) _ _ _)); (fail_if_success (with_reducible show wpAny _ _ (exec (Stmt.For _ _ _ _ _) _) _ _ _)); (fail_if_success (with_reducible show wpAny _ _ (exec (Stmt.While _ _ _ _) _) _ _ _)); (fail_if_success (with_reducible show wpAny _ _ (exec (Stmt.Assign [Expr.Name _ _] (Expr.ListComp _ _ _ _) _) _) _ _ _))))); walk1)) | (leave1; walk_say "STEP leave1"; try dsimp only) | fail "no step"))
  refine LCg.ListComp_U F1 (by with_unfolding_all rfl) (by decide) (by rfl) (by decide) (by rfl) ?_
  walk1
  refine LCg.CompSrc.ledger (by rfl) (by k_asm) (by k_asm) (.head _) (by rw [sizeLine_eq, List.size_toArray, hnums.length, hnl]; decide) ?_
  intro g
  refine rest_inv (fun i ys nw => nw = (dn, LCg.lst numv) :: (dM, LCg.lst nmv) :: (L + 1 + 1 + 1 + 1, oN) :: (L + 1 + 1 + 1 + 1 + 1 + 1 + 1 + 1, oL) :: rest ∧ StrsAre ys ((nums.take i).map fun k => nmS k.toNat)) ⟨rfl, .nil⟩ ?_ ?_
  · rintro i v ys nw I oI C oC D m₂ h tk hi hv ⟨rfl, hys⟩ hC hx F2 N2 off hne3
    have hv' : numv[i]? = some v := by simpa using hv
    obtain ⟨k, t, rfl, hk⟩ := hnums.at i v hv'
    have hkm : k ∈ nums := List.mem_of_getElem? hk
    obtain ⟨hk1, hk2⟩ := hnb k hkm
    obtain ⟨n, rfl⟩ : ∃ n : Nat, k = (n : Int) := ⟨k.toNat, by omega⟩
    have hn2 : n < 256 := by omega
    (repeat' (first | (k_unfold; (try dsimp only)) | (k_end; wrow_close) | ((((fail_if_success (with_reducible show wpAny _ _ (call (Value.builtin "dict.items") _ _) _ _ _)); (fail_if_success (with_reducible show wpAny _ _ (call (Value.type "range") _ _) _ _ _)); (fail_if_success (with_reducible show wpAny _ _ (call (Value.ref 112) _ _) _ _ _)); (fail_if_success (with_reducible show wpAny _ _ (eval (Expr.ListComp _ _ _ _) _) _ _ _)); (fail_if_success (with_reducible show wpAny _ _ (exec (Stmt.For _ _ _ _ _) _) _ _ _)); (fail_if_success (with_reducible show wpAny _ _ (exec (Stmt.While _ _ _ _) _) _ _ _)); (fail_if_success (with_reducible show wpAny _ _ (exec (Stmt.Assign [Expr.Name _ _] (Expr.ListComp _ _ _ _) _) _) _ _ _)))); first | walk1 | (dsimp only; ((((fail_if_success (with_reducible show wpAny _ _ (call (Value.builtin "dict.items") _ _) _ _ _)); (fail_if_success (with_reducible show wpAny _ _ (call (Value.type "range") _ _) _ _ _)); (fail_if_success (with_reducible show wpAny _ _ (call (Value.ref 112) _ _) _ _ _)); (fail_if_success (with_reducible show wpAny _ _ (eval (Expr.ListComp _ _ _ _) _) _ _ _)); (fail_if_success (with_reducible show wpAny _ _ (exec (Stmt.For _ _ _ _ _) _) _ _ _)); (fail_if_success (with_reducible show wpAny _ _ (exec (Stmt.While _ _ _ _) _) _ _ _)); (fail_if_success (with_reducible show wpAny _ _ (exec (Stmt.Assign [Expr.Name _ _] (Expr.ListComp _ _ _ _) _) _) _ _ _))))); walk1)) | (leave1; walk_say "STEP leave1"; try dsimp only) | fail "no step"))
    · rename News _ _ _ _ => N9
      have e := nm_two n hn2 (by omega)
      exact LCg.CompEnd.intro (by k_asm) N9 _ (fun p hp => hp) off (.inr ⟨_, .head _, rfl, _, rfl⟩) ⟨rfl, by
        rw [List.take_succ, hk, Option.toList, List.map_append, e]
        exact strs_app2 hys (.cons _ _ .nil)⟩
    · rename News _ _ _ _ => N9
      have e := nm_one n hn2 (by omega)
      exact LCg.CompEnd.intro (by k_asm) N9 _ (fun p hp => hp) off (.inr ⟨_, .head _, rfl, _, rfl⟩) ⟨rfl, by
        rw [List.take_succ, hk, Option.toList, List.map_append, e]
        exact strs_app2 hys (.cons _ _ .nil)⟩
  · rintro ys nw ⟨rfl, hys⟩
    intro D h tk F2 N2 off
    have e6 : nums.take numv.toArray.size = nums := by rw [List.size_toArray, hnums.length]; exact List.take_length
    rw [e6] at hys
    (repeat' (first | (k_unfold; (try dsimp only)) | (k_end; wrow_close) | (((((((fail_if_success (with_reducible show wpAny _ _ (call (Value.builtin "dict.items") _ _) _ _ _)); (fail_if_success (with_reducible show wpAny _ _ (call (Value.type "range") _ _) _ _ _)); (fail_if_success (with_reducible show wpAny _ _ (call (Value.ref 112) _ _) _ _ _)); (fail_if_success (with_reducible show wpAny _ _ (eval (Expr.ListComp _ _ _ _) _) _ _ _)); (fail_if_success (with_reducible show wpAny _ _ (exec (Stmt.For _ _ _ _ _) _) _ _ _)); (fail_if_success (with_reducible show wpAny _ _ (exec (Stmt.While _ _ _ _) _) _ _ _)); (fail_if_success (with_reducible show wpAny _ _ (exec (Stmt.Assign [Expr.Name _ _] (Expr.ListComp _ _ _ _) _) _) _ _ _))))); (fail_if_success (with_reducible show wpAny _ _ (compareOp _ _ _) _ _ _)))); first | walk1 | (dsimp only; (((((((fail_if_success (with_reducible show wpAny _ _ (call (Value.builtin "dict.items") _ _) _ _ _)); (fail_if_success (with_reducible show wpAny _ _ (call (Value.type "range") _ _) _ _ _)); (fail_if_success (with_reducible show wpAny _ _ (call (Value.ref 112) _ _) _ _ _)); (fail_if_success (with_reducible show wpAny _ _ (eval (Expr.ListComp _ _ _ _) _) _ _ _)); (fail_if_success (with_reducible show wpAny _ _ (exec (Stmt.For _ _ _ _ _) _) _ _ _)); (fail_if_success (with_reducible show wpAny _ _ (exec (Stmt.While _ _ _ _) _) _ _ _)); (fail_if_success (with_reducible show wpAny _ _ (exec (Stmt.Assign [Expr.Name _ _] (Expr.ListComp _ _ _ _) _) _) _ _ _))))); (fail_if_success (with_reducible show wpAny _ _ (compareOp _ _ _) _ _ _))))); walk1)) | (leave1; walk_say "STEP leave1"; try dsimp only) | fail "no step"))
    refine ne_strs (News.isList N2 (.tail _ (.tail _ (.head _)))) (News.isList N2 (.head _)) hnmv hys ?_ (by ke_room) ?_
    · intro x hx
      obtain ⟨k, hk, rfl⟩ := List.mem_map.mp hx
      obtain ⟨hk1, hk2⟩ := hnb k hk
      exact nm_ok _ (by omega)
    try dsimp only
    repeat (first | ((with_reducible show wpAny _ _ (execs (Stmt.Assign [Expr.Name (PySem.Str.ofString "mates") _] _ _ :: _) _) _ _ _); refine hnext _ _ (by assumption) ?_) | walk1)
    rename News h₀ L _ _ => N10
    intro p hp
    exact N10 p (.tail _ hp)
end
end
section
theorem readsAll_refs {h₀ h : Heap} {L : Addr} {news : List (Addr × Obj)} (N : News h₀ L h news) : ∀ {ev : List Value} {R : List (List Int)}, RefsInts news ev R → ∃ as, ReadsAll h ev (R.map fun r => PyData.list (r.map PyData.int)) as
  | [], [], _ => ⟨[], .nil⟩
  | [], _ :: _, x => by have := x.1; simp at this
  | _ :: _, [], x => by have := x.1; simp at this
  | v :: ev, r :: R, x => by
    obtain ⟨as, ih⟩ := readsAll_refs N (ev := ev) (R := R) ⟨by have := x.1; simpa using this, fun k row e => x.2 (k + 1) row e⟩
    obtain ⟨ra, vs, e, mm, hi⟩ := x.2 0 r rfl
    have : v = .ref ra := by simpa using e
    subst this
    exact ⟨_, .cons (reads_newData (News.isList N mm) (ke_carried hi)) ih⟩
section
variable {w : World} {mean : ExcName → Option Value} {mg mb : PySem.Str → Option Value} {base h₀ : Heap} {L fa : Addr} {cd : Value} {m : PySem.Str → Option Value} {s : Shared} {Q : Flow → Shared → Prop} {E : Value → Shared → Prop}
  (B : Below callerA base [] h₀) (F : Fr h₀ L s.heap m) (X : (hd.heap_39 w.params).In h₀) (T : Top hd.view_39 LO mean mg mb h₀)
include B F X T
set_option maxRecDepth 100000 in
set_option maxHeartbeats 800000 in
set_option pp.deepTerms false in
set_option pp.deepTerms.threshold 8 in
theorem stP {dE : Addr} {ev : List Value} {r rest : List (Addr × Obj)} {k : Nat} (hk : k < 5) (N : News h₀ L s.heap ((dE, LCg.lst ev) :: (r ++ rest))) (hr : RefsInts r ev (RotOf k mates0))
    (hm : m (PySem.Str.ofString "mates") = some (.ref dE))
    (hret : ∀ h' tk' m', Fr h₀ L h' m' → News h₀ L h' ((dE, LCg.lst ev) :: (r ++ rest)) → Q (.ret (.bool true)) { s with heap := h', toks := tk' }) :
    wpAny (model PySem.Challenge.rw_wa0038_01.row.prog w) (lawA L fa cd) (execs (lawBody.drop 18) (lawEnv L fa cd)) Q E s := by
  have F1 := fr_track F hm
  clear F
  revert X; k_fill; intro X
  show wpAny _ (callerA.deeper (envOfC _ ⟨_, _, _, _, _⟩ _ _ _)) (execs (_ :: _) (envOfC _ ⟨_, _, _, _, _⟩ _ _ _)) _ _ _
  (repeat' (first | (k_unfold; (try dsimp only)) | (k_end; wrow_close) | (((((((fail_if_success (with_reducible show wpAny _ _ (call (Value.builtin "dict.items") _ _) _ _ _)); (fail_if_success (with_reducible show wpAny _ _ (call (Value.type "range") _ _) _ _ _)); (fail_if_success (with_reducible show wpAny _ _ (call (Value.ref 112) _ _) _ _ _)); (fail_if_success (with_reducible show wpAny _ _ (eval (Expr.ListComp _ _ _ _) _) _ _ _)); (fail_if_success (with_reducible show wpAny _ _ (exec (Stmt.For _ _ _ _ _) _) _ _ _)); (fail_if_success (with_reducible show wpAny _ _ (exec (Stmt.While _ _ _ _) _) _ _ _)); (fail_if_success (with_reducible show wpAny _ _ (exec (Stmt.Assign [Expr.Name _ _] (Expr.ListComp _ _ _ _) _) _) _ _ _))))); (fail_if_success (with_reducible show wpAny _ _ (compareOp _ _ _) _ _ _)); (fail_if_success (with_reducible show wpAny _ _ (call (Value.builtin "sorted") _ _) _ _ _)))); first | walk1 | (dsimp only; (((((((fail_if_success (with_reducible show wpAny _ _ (call (Value.builtin "dict.items") _ _) _ _ _)); (fail_if_success (with_reducible show wpAny _ _ (call (Value.type "range") _ _) _ _ _)); (fail_if_success (with_reducible show wpAny _ _ (call (Value.ref 112) _ _) _ _ _)); (fail_if_success (with_reducible show wpAny _ _ (eval (Expr.ListComp _ _ _ _) _) _ _ _)); (fail_if_success (with_reducible show wpAny _ _ (exec (Stmt.For _ _ _ _ _) _) _ _ _)); (fail_if_success (with_reducible show wpAny _ _ (exec (Stmt.While _ _ _ _) _) _ _ _)); (fail_if_success (with_reducible show wpAny _ _ (exec (Stmt.Assign [Expr.Name _ _] (Expr.ListComp _ _ _ _) _) _) _ _ _))))); (fail_if_success (with_reducible show wpAny _ _ (compareOp _ _ _) _ _ _)); (fail_if_success (with_reducible show wpAny _ _ (call (Value.builtin "sorted") _ _) _ _ _))))); walk1)) | (leave1; walk_say "STEP leave1"; try dsimp only) | fail "no step"))
  have hr' : RefsInts ((dE, LCg.lst ev) :: (r ++ rest)) ev (RotOf k mates0) := ⟨hr.1, fun i row e => let ⟨ra, vs, e1, e2, e3⟩ := hr.2 i row e; ⟨ra, vs, e1, .tail _ (List.mem_append_left _ e2), e3⟩⟩
  refine sorted_lists (sort_in k hk).1 (sort_in k hk).2.1 (sort_run k hk) (sort_in k hk).2.2 (by ktr_units) F1 N (.head _) hr' ?_
  intro D out c h2 F2 N2 hout lt
  rw [sort_out k hk] at hout
  try dsimp only
  (repeat' (first | (k_unfold; (try dsimp only)) | (k_end; wrow_close) | (((((((fail_if_success (with_reducible show wpAny _ _ (call (Value.builtin "dict.items") _ _) _ _ _)); (fail_if_success (with_reducible show wpAny _ _ (call (Value.type "range") _ _) _ _ _)); (fail_if_success (with_reducible show wpAny _ _ (call (Value.ref 112) _ _) _ _ _)); (fail_if_success (with_reducible show wpAny _ _ (eval (Expr.ListComp _ _ _ _) _) _ _ _)); (fail_if_success (with_reducible show wpAny _ _ (exec (Stmt.For _ _ _ _ _) _) _ _ _)); (fail_if_success (with_reducible show wpAny _ _ (exec (Stmt.While _ _ _ _) _) _ _ _)); (fail_if_success (with_reducible show wpAny _ _ (exec (Stmt.Assign [Expr.Name _ _] (Expr.ListComp _ _ _ _) _) _) _ _ _))))); (fail_if_success (with_reducible show wpAny _ _ (compareOp _ _ _) _ _ _)); (fail_if_success (with_reducible show wpAny _ _ (call (Value.builtin "sorted") _ _) _ _ _)))); first | walk1 | (dsimp only; (((((((fail_if_success (with_reducible show wpAny _ _ (call (Value.builtin "dict.items") _ _) _ _ _)); (fail_if_success (with_reducible show wpAny _ _ (call (Value.type "range") _ _) _ _ _)); (fail_if_success (with_reducible show wpAny _ _ (call (Value.ref 112) _ _) _ _ _)); (fail_if_success (with_reducible show wpAny _ _ (eval (Expr.ListComp _ _ _ _) _) _ _ _)); (fail_if_success (with_reducible show wpAny _ _ (exec (Stmt.For _ _ _ _ _) _) _ _ _)); (fail_if_success (with_reducible show wpAny _ _ (exec (Stmt.While _ _ _ _) _) _ _ _)); (fail_if_success (with_reducible show wpAny _ _ (exec (Stmt.Assign [Expr.Name _ _] (Expr.ListComp _ _ _ _) _) _) _ _ _))))); (fail_if_success (with_reducible show wpAny _ _ (compareOp _ _ _) _ _ _)); (fail_if_success (with_reducible show wpAny _ _ (call (Value.builtin "sorted") _ _) _ _ _))))); walk1)) | (leave1; walk_say "STEP leave1"; try dsimp only) | fail "no step"))
  rename Fr h₀ L _ _ => F9
  rename News h₀ L _ _ => N9
  obtain ⟨as, hrd⟩ := readsAll_refs (fun p hp => N9 p (.tail _ (.tail _ (.tail _ (.tail _ (.tail _ (.tail _ (.tail _ hp)))))))) hout
  have hrD := reads_list_at (News.get N9 (.tail _ (.tail _ (.tail _ (.tail _ (.tail _ (.tail _ (.head _)))))))) rfl rfl (show ReadsAll _ (List.toArray out).toList _ _ from hrd)
  refine eq_dataH hrD (by ked_read) (by simp only [matesS, List.map]; ked_shaped) (by ked_shaped) (by ke_room) ?_
  simp only [matesS, List.map]
  ked_norm
  exact hret _ _ _ F9 (fun p hp => N9 p (.tail _ (.tail _ (.tail _ (.tail _ (.tail _ (.tail _ (.tail _ hp))))))))
end
end
section
section
variable {ns : List PySem.Str} (hn : Nms ns)
include hn
theorem ns_eq : ns = [0, 1, 2, 3, 4, 5].map fun k => ns.getD k PySem.Str.empty := by
  match ns, hn.len with
  | [a, b, c, d, e, f], _ => rfl
theorem ns_at {x : PySem.Str} (h : x ∈ ns) : ∃ a, a < 6 ∧ x = ns.getD a PySem.Str.empty := by
  obtain ⟨a, ha⟩ := List.mem_iff_getElem?.mp h
  have hl := (List.getElem?_eq_some_iff.mp ha).1
  exact ⟨a, by rw [← hn.len]; exact hl, by simp [List.getD, ha]⟩
theorem good_at {a : Nat} (h : a < 6) : GoodN (ns.getD a PySem.Str.empty) := by
  obtain ⟨c1, c2, c3, c4⟩ := hn.cln a h
  exact ⟨by rw [hn.low a h]; exact c2, c4, c3⟩
theorem names_ok : NamesOK ns := fun k => by
  by_cases h : k < 6
  · obtain ⟨c1, c2, c3, c4⟩ := hn.cln k h
    exact ⟨c1, c2, c3⟩
  · have e : ns.getD k PySem.Str.empty = PySem.Str.empty := by
      have := hn.len
      simp [List.getD, show ns[k]? = none by rw [List.getElem?_eq_none]; omega]
    rw [e]
    refine ⟨fun c hc => by simp [PySem.Str.empty] at hc, ?_, by decide⟩
    rw [lower_ascii (fun c hc => by simp [PySem.Str.empty] at hc)]
    intro c hc
    simp [PySem.Str.empty] at hc
noncomputable def tabS (ns : List PySem.Str) (k : Nat) : List (List (PySem.Str × PySem.Str)) := (tabR k).map fun ps => ps.map (nmP fun k => ns.getD k PySem.Str.empty)
omit hn in
theorem tabS_len {k : Nat} (hk : k < 5) : (tabS ns k).length = 5 := by
  unfold tabS; rw [List.length_map]; exact (tab_ok k hk).1
omit hn in
theorem tabS_at {k : Nat} {t : Nat} {ps : List (PySem.Str × PySem.Str)} (h : (tabS ns k)[t]? = some ps) : (tabR k)[t]? = some ((tabR k).getD t []) ∧ ps = ((tabR k).getD t []).map (nmP fun k => ns.getD k PySem.Str.empty) := by
  unfold tabS at h
  rw [List.getElem?_map] at h
  cases e : (tabR k)[t]? with
  | none => rw [e] at h; cases h
  | some x =>
    rw [e] at h
    cases h
    have : (tabR k).getD t [] = x := by simp [List.getD, e]
    rw [this]
    exact ⟨rfl, rfl⟩
omit hn in
theorem tabR_small {k t : Nat} (hk : k < 5) {ps : List (Nat × Nat)} (h : (tabR k)[t]? = some ps) : Small ps := fun p hp => (tab_ok k hk).2 ps (List.mem_of_getElem? h) p hp
theorem tab_good {k : Nat} (hk : k < 5) : ∀ ps ∈ tabS ns k, ∀ p ∈ ps, GoodN p.2 ∧ p.1.length < 100 := by
  intro ps hps p hp
  obtain ⟨qs, hqs, rfl⟩ := List.mem_map.mp hps
  obtain ⟨q, hq, rfl⟩ := List.mem_map.mp hp
  obtain ⟨h1, h2⟩ := (tab_ok k hk).2 qs hqs q hq
  exact ⟨good_at hn h2, (hn.cln q.1 h1).2.2.1⟩
theorem rings_at {k : Nat} (hk : k < 5) : ∀ (i j : Nat) ps1 ps2, j ≤ i → (tabS ns k)[i]? = some ps1 → (tabS ns k)[j]? = some ps2 → ringsGo ps1 ps2 ns 0 [] = some (RRk k i j) := by
  intro i j ps1 ps2 _ h1 h2
  have hi : i < 5 := by rw [← tabS_len (ns := ns) hk]; exact (List.getElem?_eq_some_iff.mp h1).1
  have hj : j < 5 := by rw [← tabS_len (ns := ns) hk]; exact (List.getElem?_eq_some_iff.mp h2).1
  obtain ⟨a1, rfl⟩ := tabS_at h1
  obtain ⟨a2, rfl⟩ := tabS_at h2
  have := ringsGo_idx hn (tabR_small hk a1) (tabR_small hk a2) [0, 1, 2, 3, 4, 5] 0 [] (fun y hy => by simp at hy) (fun y hy => by simp at hy; omega)
  rw [← ns_eq hn, rings_ok k hk i hi j hj] at this
  exact this
theorem mates_at {k : Nat} (hk : k < 5) : ∀ (t i : Nat) ps nm, (tabS ns k)[t]? = some ps → ns[i]? = some nm → ∃ b, ns[MMk k t i]? = some b ∧ getP ps nm = some b := by
  intro t i ps nm h1 h2
  have ht : t < 5 := by rw [← tabS_len (ns := ns) hk]; exact (List.getElem?_eq_some_iff.mp h1).1
  have hi : i < 6 := by rw [← hn.len]; exact (List.getElem?_eq_some_iff.mp h2).1
  obtain ⟨a1, rfl⟩ := tabS_at h1
  obtain ⟨hM, hg⟩ := mates_ok k hk t ht i hi
  have enm : nm = ns.getD i PySem.Str.empty := by simp [List.getD, h2]
  refine ⟨ns.getD (MMk k t i) PySem.Str.empty, by have := hn.len; simp [List.getD, show MMk k t i < ns.length by omega], ?_⟩
  rw [getP_idx hn (tabR_small hk a1) hi (by rw [enm]), hg]; rfl
theorem names_dis : ∀ (a b : Nat) x y, a < b → ns[a]? = some x → ns[b]? = some y → (x == y) = false := by
  intro a b x y hab hx hy
  have hb : b < 6 := by rw [← hn.len]; exact (List.getElem?_eq_some_iff.mp hy).1
  have ex : x = ns.getD a PySem.Str.empty := by simp [List.getD, hx]
  have ey : y = ns.getD b PySem.Str.empty := by simp [List.getD, hy]
  rw [ex, ey, hn.inj2 a b (by omega) hb]
  exact beq_eq_false_iff_ne.mpr (by omega)
end
theorem kept_tab {bs ns : List PySem.Str} (hl : bs.length = 6) (hb : ∀ b ∈ bs, b ∈ BS) {t : Nat} (ht : t < 20) : keptOf bs ns (RotOf t (csL.map mkS)) = tabS ns (kOf t) := by
  have e : RotOf t (csL.map mkS) = (csL.drop t ++ csL.take t).map mkS := by unfold RotOf; rw [List.map_append, List.map_drop, List.map_take]
  rw [e, kept_eq hl hb _ (fun l h => by
    rcases List.mem_append.mp h with h | h
    · exact List.mem_of_mem_drop h
    · exact List.mem_of_mem_take h), (kept_rot t ht).2]
  rfl
/-- off the law's cells -/
noncomputable def Off8 (L a : Addr) : Prop := @Ne Nat a (L + 1) ∧ @Ne Nat a (L + 1 + 1 + 1) ∧ @Ne Nat a (L + 1 + 1 + 1 + 1) ∧ @Ne Nat a (L + 1 + 1 + 1 + 1 + 1) ∧ @Ne Nat a (L + 1 + 1 + 1 + 1 + 1 + 1) ∧ @Ne Nat a (L + 1 + 1 + 1 + 1 + 1 + 1 + 1) ∧ @Ne Nat a (L + 1 + 1 + 1 + 1 + 1 + 1 + 1 + 1)
theorem off8_of {L a : Addr} {l : List (Addr × Obj)} (h : ∀ p ∈ l, p.1 ≠ a) {o1 o3 o4 o5 o6 o7 o8 : Obj} (m : ∀ p ∈ [(L + 1, o1), (L + 1 + 1 + 1, o3), (L + 1 + 1 + 1 + 1, o4), (L + 1 + 1 + 1 + 1 + 1, o5), (L + 1 + 1 + 1 + 1 + 1 + 1, o6), (L + 1 + 1 + 1 + 1 + 1 + 1 + 1, o7), (L + 1 + 1 + 1 + 1 + 1 + 1 + 1 + 1, o8)], p ∈ l) : Off8 L a :=
  ⟨(h _ (m (L + 1, o1) (by simp))).symm, (h _ (m (L + 1 + 1 + 1, o3) (by simp))).symm, (h _ (m (L + 1 + 1 + 1 + 1, o4) (by simp))).symm, (h _ (m (L + 1 + 1 + 1 + 1 + 1, o5) (by simp))).symm, (h _ (m (L + 1 + 1 + 1 + 1 + 1 + 1, o6) (by simp))).symm, (h _ (m (L + 1 + 1 + 1 + 1 + 1 + 1 + 1, o7) (by simp))).symm, (h _ (m (L + 1 + 1 + 1 + 1 + 1 + 1 + 1 + 1, o8) (by simp))).symm⟩
theorem off8_r {L : Addr} {r l : List (Addr × Obj)} (h : ∀ p ∈ r, ∀ q ∈ l, p.1 ≠ q.1) {o1 o3 o4 o5 o6 o7 o8 : Obj} (m : ∀ p ∈ [(L + 1, o1), (L + 1 + 1 + 1, o3), (L + 1 + 1 + 1 + 1, o4), (L + 1 + 1 + 1 + 1 + 1, o5), (L + 1 + 1 + 1 + 1 + 1 + 1, o6), (L + 1 + 1 + 1 + 1 + 1 + 1 + 1, o7), (L + 1 + 1 + 1 + 1 + 1 + 1 + 1 + 1, o8)], p ∈ l) : ∀ p ∈ r, Off8 L p.1 := fun p hp =>
  ⟨h p hp _ (m (L + 1, o1) (by simp)), h p hp _ (m (L + 1 + 1 + 1, o3) (by simp)), h p hp _ (m (L + 1 + 1 + 1 + 1, o4) (by simp)), h p hp _ (m (L + 1 + 1 + 1 + 1 + 1, o5) (by simp)), h p hp _ (m (L + 1 + 1 + 1 + 1 + 1 + 1, o6) (by simp)), h p hp _ (m (L + 1 + 1 + 1 + 1 + 1 + 1 + 1, o7) (by simp)), h p hp _ (m (L + 1 + 1 + 1 + 1 + 1 + 1 + 1 + 1, o8) (by simp))⟩
theorem News.sub {h₀ h : Heap} {L : Addr} {l l' : List (Addr × Obj)} (N : News h₀ L h l) (m : ∀ p ∈ l', p ∈ l) : News h₀ L h l' := fun p hp => N p (m p hp)
local macro_rules | `(tactic| walk_at "m1 go") => `(tactic| first | exact List.Mem.head _ | (refine List.Mem.tail _ ?_; walk_at "m1 go") | (refine List.mem_append_right _ ?_; walk_at "m1 go") | (refine List.mem_append_left _ ?_; walk_at "m1 go") | assumption)
local macro_rules | `(tactic| walk_at "mem go") => `(tactic| first | exact List.forall_mem_nil _ | (refine List.forall_mem_cons.mpr (And.intro ?ma ?mb); (case ma => walk_at "m1 go"); (case mb => walk_at "mem go")) | (refine List.forall_mem_append.mpr (And.intro ?ma ?mb); (case ma => walk_at "mem go"); (case mb => walk_at "mem go")) | (intro p hp; walk_at "m1 go") | walk_at "m1 go")
section
variable {w : World} {mean : ExcName → Option Value} {mg mb : PySem.Str → Option Value} {base h₀ : Heap} {L fa : Addr} {cd : Value} {m : PySem.Str → Option Value} {s : Shared} {Q : Flow → Shared → Prop} {E : Value → Shared → Prop}
  (B : Below callerA base [] h₀) (F : Fr h₀ L s.heap m) (X : (hd.heap_39 w.params).In h₀) (T : Top hd.view_39 LO mean mg mb h₀)
include B F X T
set_option maxHeartbeats 2000000 in
set_option pp.deepTerms false in
set_option pp.deepTerms.threshold 8 in
theorem lawTail {dn dd dS : Addr} {numv drv sv : List Value} {draws ss : List Int} {o1 o3 o4 o5 o6 o7 o8 : Obj} {v4 v5 v6 v7 v8 : Option Value}
    (N : News h₀ L s.heap [(dn, LCg.lst numv), (dd, LCg.lst drv), (L + 1, o1), (L + 1 + 1 + 1, o3), (L + 1 + 1 + 1 + 1, o4), (L + 1 + 1 + 1 + 1 + 1, o5), (L + 1 + 1 + 1 + 1 + 1 + 1, o6), (L + 1 + 1 + 1 + 1 + 1 + 1 + 1, o7), (L + 1 + 1 + 1 + 1 + 1 + 1 + 1 + 1, o8)])
    (ho1 : o1.data = .cell (some (.ref dS))) (ho3 : o3.data = .cell (some (.ref dd))) (ho4 : o4.data = .cell v4) (ho5 : o5.data = .cell v5) (ho6 : o6.data = .cell v6) (ho7 : o7.data = .cell v7) (ho8 : o8.data = .cell v8)
    (hLs : h₀.IsList dS sv.toArray) (hss : IntsAre sv ss) (hsl : ss.length ≤ 63) (hdr : IntsAre drv draws) (hdl : draws.length = 6) (hdb : ∀ v ∈ draws, 0 ≤ v ∧ v < 160) (hnums : IntsAre numv (numsOf draws))
    (hm : m (PySem.Str.ofString "numbers") = some (.ref dn)) (hdn : Off8 L dn) (hdd : Off8 L dd) (hbare : Bare s.gens)
    (hret : ∀ h' tk' gs' m', Fr h₀ L h' m' → Bare gs' → Q (.ret (.bool true)) { s with heap := h', toks := tk', gens := gs' }) :
    wpAny (model PySem.Challenge.rw_wa0038_01.row.prog w) (lawA L fa cd) (execs (lawBody.drop 3) (lawEnv L fa cd)) Q E s := by
  obtain ⟨hnl, hnb, hnd⟩ := nums_facts hdl hdb
  have hn := nms_of hnl hnb hnd
  obtain ⟨n1, n3, n4, n5, n6, n7, n8⟩ := hdn
  obtain ⟨e1, e3, e4, e5, e6, e7, e8⟩ := hdd
  -- names
  refine stN B F X T (rest := [(dd, LCg.lst drv), (L + 1, o1), (L + 1 + 1 + 1, o3), (L + 1 + 1 + 1 + 1 + 1, o5), (L + 1 + 1 + 1 + 1 + 1 + 1, o6), (L + 1 + 1 + 1 + 1 + 1 + 1 + 1, o7), (L + 1 + 1 + 1 + 1 + 1 + 1 + 1 + 1, o8)]) (News.sub N (by walk_at "mem go")) hnums hnl hnb ho4 hm n4 ?_ ?_
  · simp only [List.forall_mem_cons]
    exact ⟨e4, by (((show @Ne Nat _ _); (try dsimp only); first | exact Nat.ne_of_lt (Nat.lt_add_of_pos_right (k := 1) (by decide)) | exact Nat.ne_of_lt (Nat.lt_add_of_pos_right (k := 2) (by decide)) | exact Nat.ne_of_lt (Nat.lt_add_of_pos_right (k := 3) (by decide)) | exact Nat.ne_of_lt (Nat.lt_add_of_pos_right (k := 4) (by decide)) | exact Nat.ne_of_lt (Nat.lt_add_of_pos_right (k := 5) (by decide)) | exact Nat.ne_of_lt (Nat.lt_add_of_pos_right (k := 6) (by decide)) | exact Nat.ne_of_lt (Nat.lt_add_of_pos_right (k := 7) (by decide)) | exact Nat.ne_of_gt (Nat.lt_add_of_pos_right (k := 1) (by decide)) | exact Nat.ne_of_gt (Nat.lt_add_of_pos_right (k := 2) (by decide)) | exact Nat.ne_of_gt (Nat.lt_add_of_pos_right (k := 3) (by decide)) | exact Nat.ne_of_gt (Nat.lt_add_of_pos_right (k := 4) (by decide)) | exact Nat.ne_of_gt (Nat.lt_add_of_pos_right (k := 5) (by decide)) | exact Nat.ne_of_gt (Nat.lt_add_of_pos_right (k := 6) (by decide)) | exact Nat.ne_of_gt (Nat.lt_add_of_pos_right (k := 7) (by decide)) | omega)), by (((show @Ne Nat _ _); (try dsimp only); first | exact Nat.ne_of_lt (Nat.lt_add_of_pos_right (k := 1) (by decide)) | exact Nat.ne_of_lt (Nat.lt_add_of_pos_right (k := 2) (by decide)) | exact Nat.ne_of_lt (Nat.lt_add_of_pos_right (k := 3) (by decide)) | exact Nat.ne_of_lt (Nat.lt_add_of_pos_right (k := 4) (by decide)) | exact Nat.ne_of_lt (Nat.lt_add_of_pos_right (k := 5) (by decide)) | exact Nat.ne_of_lt (Nat.lt_add_of_pos_right (k := 6) (by decide)) | exact Nat.ne_of_lt (Nat.lt_add_of_pos_right (k := 7) (by decide)) | exact Nat.ne_of_gt (Nat.lt_add_of_pos_right (k := 1) (by decide)) | exact Nat.ne_of_gt (Nat.lt_add_of_pos_right (k := 2) (by decide)) | exact Nat.ne_of_gt (Nat.lt_add_of_pos_right (k := 3) (by decide)) | exact Nat.ne_of_gt (Nat.lt_add_of_pos_right (k := 4) (by decide)) | exact Nat.ne_of_gt (Nat.lt_add_of_pos_right (k := 5) (by decide)) | exact Nat.ne_of_gt (Nat.lt_add_of_pos_right (k := 6) (by decide)) | exact Nat.ne_of_gt (Nat.lt_add_of_pos_right (k := 7) (by decide)) | omega)), by (((show @Ne Nat _ _); (try dsimp only); first | exact Nat.ne_of_lt (Nat.lt_add_of_pos_right (k := 1) (by decide)) | exact Nat.ne_of_lt (Nat.lt_add_of_pos_right (k := 2) (by decide)) | exact Nat.ne_of_lt (Nat.lt_add_of_pos_right (k := 3) (by decide)) | exact Nat.ne_of_lt (Nat.lt_add_of_pos_right (k := 4) (by decide)) | exact Nat.ne_of_lt (Nat.lt_add_of_pos_right (k := 5) (by decide)) | exact Nat.ne_of_lt (Nat.lt_add_of_pos_right (k := 6) (by decide)) | exact Nat.ne_of_lt (Nat.lt_add_of_pos_right (k := 7) (by decide)) | exact Nat.ne_of_gt (Nat.lt_add_of_pos_right (k := 1) (by decide)) | exact Nat.ne_of_gt (Nat.lt_add_of_pos_right (k := 2) (by decide)) | exact Nat.ne_of_gt (Nat.lt_add_of_pos_right (k := 3) (by decide)) | exact Nat.ne_of_gt (Nat.lt_add_of_pos_right (k := 4) (by decide)) | exact Nat.ne_of_gt (Nat.lt_add_of_pos_right (k := 5) (by decide)) | exact Nat.ne_of_gt (Nat.lt_add_of_pos_right (k := 6) (by decide)) | exact Nat.ne_of_gt (Nat.lt_add_of_pos_right (k := 7) (by decide)) | omega)), by (((show @Ne Nat _ _); (try dsimp only); first | exact Nat.ne_of_lt (Nat.lt_add_of_pos_right (k := 1) (by decide)) | exact Nat.ne_of_lt (Nat.lt_add_of_pos_right (k := 2) (by decide)) | exact Nat.ne_of_lt (Nat.lt_add_of_pos_right (k := 3) (by decide)) | exact Nat.ne_of_lt (Nat.lt_add_of_pos_right (k := 4) (by decide)) | exact Nat.ne_of_lt (Nat.lt_add_of_pos_right (k := 5) (by decide)) | exact Nat.ne_of_lt (Nat.lt_add_of_pos_right (k := 6) (by decide)) | exact Nat.ne_of_lt (Nat.lt_add_of_pos_right (k := 7) (by decide)) | exact Nat.ne_of_gt (Nat.lt_add_of_pos_right (k := 1) (by decide)) | exact Nat.ne_of_gt (Nat.lt_add_of_pos_right (k := 2) (by decide)) | exact Nat.ne_of_gt (Nat.lt_add_of_pos_right (k := 3) (by decide)) | exact Nat.ne_of_gt (Nat.lt_add_of_pos_right (k := 4) (by decide)) | exact Nat.ne_of_gt (Nat.lt_add_of_pos_right (k := 5) (by decide)) | exact Nat.ne_of_gt (Nat.lt_add_of_pos_right (k := 6) (by decide)) | exact Nat.ne_of_gt (Nat.lt_add_of_pos_right (k := 7) (by decide)) | omega)), by (((show @Ne Nat _ _); (try dsimp only); first | exact Nat.ne_of_lt (Nat.lt_add_of_pos_right (k := 1) (by decide)) | exact Nat.ne_of_lt (Nat.lt_add_of_pos_right (k := 2) (by decide)) | exact Nat.ne_of_lt (Nat.lt_add_of_pos_right (k := 3) (by decide)) | exact Nat.ne_of_lt (Nat.lt_add_of_pos_right (k := 4) (by decide)) | exact Nat.ne_of_lt (Nat.lt_add_of_pos_right (k := 5) (by decide)) | exact Nat.ne_of_lt (Nat.lt_add_of_pos_right (k := 6) (by decide)) | exact Nat.ne_of_lt (Nat.lt_add_of_pos_right (k := 7) (by decide)) | exact Nat.ne_of_gt (Nat.lt_add_of_pos_right (k := 1) (by decide)) | exact Nat.ne_of_gt (Nat.lt_add_of_pos_right (k := 2) (by decide)) | exact Nat.ne_of_gt (Nat.lt_add_of_pos_right (k := 3) (by decide)) | exact Nat.ne_of_gt (Nat.lt_add_of_pos_right (k := 4) (by decide)) | exact Nat.ne_of_gt (Nat.lt_add_of_pos_right (k := 5) (by decide)) | exact Nat.ne_of_gt (Nat.lt_add_of_pos_right (k := 6) (by decide)) | exact Nat.ne_of_gt (Nat.lt_add_of_pos_right (k := 7) (by decide)) | omega)), by (((show @Ne Nat _ _); (try dsimp only); first | exact Nat.ne_of_lt (Nat.lt_add_of_pos_right (k := 1) (by decide)) | exact Nat.ne_of_lt (Nat.lt_add_of_pos_right (k := 2) (by decide)) | exact Nat.ne_of_lt (Nat.lt_add_of_pos_right (k := 3) (by decide)) | exact Nat.ne_of_lt (Nat.lt_add_of_pos_right (k := 4) (by decide)) | exact Nat.ne_of_lt (Nat.lt_add_of_pos_right (k := 5) (by decide)) | exact Nat.ne_of_lt (Nat.lt_add_of_pos_right (k := 6) (by decide)) | exact Nat.ne_of_lt (Nat.lt_add_of_pos_right (k := 7) (by decide)) | exact Nat.ne_of_gt (Nat.lt_add_of_pos_right (k := 1) (by decide)) | exact Nat.ne_of_gt (Nat.lt_add_of_pos_right (k := 2) (by decide)) | exact Nat.ne_of_gt (Nat.lt_add_of_pos_right (k := 3) (by decide)) | exact Nat.ne_of_gt (Nat.lt_add_of_pos_right (k := 4) (by decide)) | exact Nat.ne_of_gt (Nat.lt_add_of_pos_right (k := 5) (by decide)) | exact Nat.ne_of_gt (Nat.lt_add_of_pos_right (k := 6) (by decide)) | exact Nat.ne_of_gt (Nat.lt_add_of_pos_right (k := 7) (by decide)) | omega)), fun p hp => nomatch hp⟩
  intro h1 tk1 dM o4' nmv F1 N1 ho4' hnv hfM
  try dsimp only
  have hnvM := hnv
  generalize (numsOf draws).map (fun k => nmS k.toNat) = ns at hn hnv
  clear N F ho4
  obtain ⟨q1, q3, q4, q5, q6, q7, q8⟩ := off8_of (L := L) (o1 := o1) (o3 := o3) (o4 := o4) (o5 := o5) (o6 := o6) (o7 := o7) (o8 := o8) hfM (by walk_at "mem go")
  -- behind
  refine stB B F1 X T (rest := [(dM, LCg.lst nmv), (dn, LCg.lst numv), (L + 1, o1), (L + 1 + 1 + 1 + 1, o4'), (L + 1 + 1 + 1 + 1 + 1, o5), (L + 1 + 1 + 1 + 1 + 1 + 1, o6), (L + 1 + 1 + 1 + 1 + 1 + 1 + 1, o7), (L + 1 + 1 + 1 + 1 + 1 + 1 + 1 + 1, o8)]) (News.sub N1 (by walk_at "mem go")) ho3 hdr hdl ?_
  intro h2 tk2 dB bv F2 N2 hbv hfB
  try dsimp only
  clear N1 F1
  obtain ⟨b1, b3, b4, b5, b6, b7, b8⟩ := off8_of (L := L) (o1 := o1) (o3 := o3) (o4 := o4') (o5 := o5) (o6 := o6) (o7 := o7) (o8 := o8) hfB (by walk_at "mem go")
  have hbl : (draws.map beS).length = 6 := by rw [List.length_map]; exact hdl
  have hbS : ∀ b ∈ draws.map beS, b ∈ BS := fun b hb => by
    obtain ⟨v, _, rfl⟩ := List.mem_map.mp hb; exact beS_mem v
  have hb100 : ∀ b ∈ draws.map beS, b.length < 100 := fun b hb => by
    have h := bs_cps b (hbS b hb)
    have e : b.length = b.cps.toList.length := by show _ = _; rw [Array.length_toList]; rfl
    rw [e]
    unfold BL at h
    simp only [List.mem_cons, List.not_mem_nil, or_false] at h
    rcases h with h | h | h | h <;> rw [h] <;> decide
  generalize draws.map beS = bs at hbv hbl hbS hb100
  -- rows
  refine stR B F2 X T N2 ?_
  intro h3 tk3 dR rv F3 N3 hrv hfR
  try dsimp only
  clear N2 F2
  refine stF B F3 X T N3 (by rw [if_pos rfl]) hrv ?_
  intro h4 tk4 dF fv nF F4 N4 hfv hfF
  try dsimp only
  clear N3 F3 hrv
  rw [rs_eq] at hfv
  obtain ⟨turn, hturn, ht⟩ : ∃ t : Nat, ss.sum.fmod 20 = (t : Int) ∧ t < 20 := ⟨(ss.sum.fmod 20).toNat, by rw [Int.fmod_eq_emod_of_nonneg _ (by decide)]; omega, by rw [Int.fmod_eq_emod_of_nonneg _ (by decide)]; omega⟩
  -- turn, tables
  refine stG B F4 X T (rest := [(dF, listOf fv.toArray nF), (dB, LCg.lst bv), (dM, LCg.lst nmv), (dn, LCg.lst numv), (L + 1 + 1 + 1 + 1, o4'), (L + 1 + 1 + 1 + 1 + 1 + 1, o6), (L + 1 + 1 + 1 + 1 + 1 + 1 + 1, o7), (L + 1 + 1 + 1 + 1 + 1 + 1 + 1 + 1, o8)]) (News.sub N4 (by walk_at "mem go")) hLs ho1 ho5 hss hsl ?_ ?_
  · simp only [List.forall_mem_cons]
    exact ⟨(hfF (L + 1 + 1 + 1 + 1 + 1, o5) (by walk_at "mem go")).symm, b5, q5, n5, by (((show @Ne Nat _ _); (try dsimp only); first | exact Nat.ne_of_lt (Nat.lt_add_of_pos_right (k := 1) (by decide)) | exact Nat.ne_of_lt (Nat.lt_add_of_pos_right (k := 2) (by decide)) | exact Nat.ne_of_lt (Nat.lt_add_of_pos_right (k := 3) (by decide)) | exact Nat.ne_of_lt (Nat.lt_add_of_pos_right (k := 4) (by decide)) | exact Nat.ne_of_lt (Nat.lt_add_of_pos_right (k := 5) (by decide)) | exact Nat.ne_of_lt (Nat.lt_add_of_pos_right (k := 6) (by decide)) | exact Nat.ne_of_lt (Nat.lt_add_of_pos_right (k := 7) (by decide)) | exact Nat.ne_of_gt (Nat.lt_add_of_pos_right (k := 1) (by decide)) | exact Nat.ne_of_gt (Nat.lt_add_of_pos_right (k := 2) (by decide)) | exact Nat.ne_of_gt (Nat.lt_add_of_pos_right (k := 3) (by decide)) | exact Nat.ne_of_gt (Nat.lt_add_of_pos_right (k := 4) (by decide)) | exact Nat.ne_of_gt (Nat.lt_add_of_pos_right (k := 5) (by decide)) | exact Nat.ne_of_gt (Nat.lt_add_of_pos_right (k := 6) (by decide)) | exact Nat.ne_of_gt (Nat.lt_add_of_pos_right (k := 7) (by decide)) | omega)), by (((show @Ne Nat _ _); (try dsimp only); first | exact Nat.ne_of_lt (Nat.lt_add_of_pos_right (k := 1) (by decide)) | exact Nat.ne_of_lt (Nat.lt_add_of_pos_right (k := 2) (by decide)) | exact Nat.ne_of_lt (Nat.lt_add_of_pos_right (k := 3) (by decide)) | exact Nat.ne_of_lt (Nat.lt_add_of_pos_right (k := 4) (by decide)) | exact Nat.ne_of_lt (Nat.lt_add_of_pos_right (k := 5) (by decide)) | exact Nat.ne_of_lt (Nat.lt_add_of_pos_right (k := 6) (by decide)) | exact Nat.ne_of_lt (Nat.lt_add_of_pos_right (k := 7) (by decide)) | exact Nat.ne_of_gt (Nat.lt_add_of_pos_right (k := 1) (by decide)) | exact Nat.ne_of_gt (Nat.lt_add_of_pos_right (k := 2) (by decide)) | exact Nat.ne_of_gt (Nat.lt_add_of_pos_right (k := 3) (by decide)) | exact Nat.ne_of_gt (Nat.lt_add_of_pos_right (k := 4) (by decide)) | exact Nat.ne_of_gt (Nat.lt_add_of_pos_right (k := 5) (by decide)) | exact Nat.ne_of_gt (Nat.lt_add_of_pos_right (k := 6) (by decide)) | exact Nat.ne_of_gt (Nat.lt_add_of_pos_right (k := 7) (by decide)) | omega)), by (((show @Ne Nat _ _); (try dsimp only); first | exact Nat.ne_of_lt (Nat.lt_add_of_pos_right (k := 1) (by decide)) | exact Nat.ne_of_lt (Nat.lt_add_of_pos_right (k := 2) (by decide)) | exact Nat.ne_of_lt (Nat.lt_add_of_pos_right (k := 3) (by decide)) | exact Nat.ne_of_lt (Nat.lt_add_of_pos_right (k := 4) (by decide)) | exact Nat.ne_of_lt (Nat.lt_add_of_pos_right (k := 5) (by decide)) | exact Nat.ne_of_lt (Nat.lt_add_of_pos_right (k := 6) (by decide)) | exact Nat.ne_of_lt (Nat.lt_add_of_pos_right (k := 7) (by decide)) | exact Nat.ne_of_gt (Nat.lt_add_of_pos_right (k := 1) (by decide)) | exact Nat.ne_of_gt (Nat.lt_add_of_pos_right (k := 2) (by decide)) | exact Nat.ne_of_gt (Nat.lt_add_of_pos_right (k := 3) (by decide)) | exact Nat.ne_of_gt (Nat.lt_add_of_pos_right (k := 4) (by decide)) | exact Nat.ne_of_gt (Nat.lt_add_of_pos_right (k := 5) (by decide)) | exact Nat.ne_of_gt (Nat.lt_add_of_pos_right (k := 6) (by decide)) | exact Nat.ne_of_gt (Nat.lt_add_of_pos_right (k := 7) (by decide)) | omega)), by (((show @Ne Nat _ _); (try dsimp only); first | exact Nat.ne_of_lt (Nat.lt_add_of_pos_right (k := 1) (by decide)) | exact Nat.ne_of_lt (Nat.lt_add_of_pos_right (k := 2) (by decide)) | exact Nat.ne_of_lt (Nat.lt_add_of_pos_right (k := 3) (by decide)) | exact Nat.ne_of_lt (Nat.lt_add_of_pos_right (k := 4) (by decide)) | exact Nat.ne_of_lt (Nat.lt_add_of_pos_right (k := 5) (by decide)) | exact Nat.ne_of_lt (Nat.lt_add_of_pos_right (k := 6) (by decide)) | exact Nat.ne_of_lt (Nat.lt_add_of_pos_right (k := 7) (by decide)) | exact Nat.ne_of_gt (Nat.lt_add_of_pos_right (k := 1) (by decide)) | exact Nat.ne_of_gt (Nat.lt_add_of_pos_right (k := 2) (by decide)) | exact Nat.ne_of_gt (Nat.lt_add_of_pos_right (k := 3) (by decide)) | exact Nat.ne_of_gt (Nat.lt_add_of_pos_right (k := 4) (by decide)) | exact Nat.ne_of_gt (Nat.lt_add_of_pos_right (k := 5) (by decide)) | exact Nat.ne_of_gt (Nat.lt_add_of_pos_right (k := 6) (by decide)) | exact Nat.ne_of_gt (Nat.lt_add_of_pos_right (k := 7) (by decide)) | omega)), fun p hp => nomatch hp⟩
  intro h5 tk5 tt dT o5' F5 N5 ho5' hlt hfT
  try dsimp only
  clear N4 F4 ho5
  rw [hturn] at F5
  have hall : ∀ p ∈ [(L + 1, o1), (L + 1 + 1 + 1 + 1, o4'), (L + 1 + 1 + 1 + 1 + 1, o5'), (L + 1 + 1 + 1 + 1 + 1 + 1, o6), (L + 1 + 1 + 1 + 1 + 1 + 1 + 1, o7), (L + 1 + 1 + 1 + 1 + 1 + 1 + 1 + 1, o8), (dF, listOf fv.toArray nF), (dB, LCg.lst bv), (dM, LCg.lst nmv), (dn, LCg.lst numv)], p.1 ≠ dT := by
    simp only [List.forall_mem_cons] at hfT ⊢
    exact ⟨Nat.ne_of_lt hlt.1, hfT.2.2.2.2.1, Nat.ne_of_lt hlt.2, hfT.2.2.2.2.2.1, hfT.2.2.2.2.2.2.1, hfT.2.2.2.2.2.2.2.1, hfT.1, hfT.2.1, hfT.2.2.1, hfT.2.2.2.1, fun p hp => nomatch hp⟩
  -- the loop
  refine stH B F5 X T (dT := dT) (dR := dF) (dB := dB) (dM := dM) (nF := nF) (rest := [(L + 1, o1), (L + 1 + 1 + 1 + 1 + 1 + 1, o6), (L + 1 + 1 + 1 + 1 + 1 + 1 + 1, o7), (L + 1 + 1 + 1 + 1 + 1 + 1 + 1 + 1, o8), (dn, LCg.lst numv)]) (News.sub N5 (by walk_at "mem go")) ho5' ho4' hfv hbv hnv (by rfl) hbl hn.len ht (by rw [if_neg (by decide), if_pos rfl]) (by rw [if_pos rfl]) (by rw [if_neg (by decide), if_neg (by decide), if_neg (by decide), if_pos rfl])
    (fun p hp => hall p (by revert p; walk_at "mem go")) hb100 (fun br hbr => by
      obtain ⟨l, hl, rfl⟩ := List.mem_map.mp hbr
      exact rowOK hl hbl hbS hn) (names_ok hn) hbare ?_
  intro h6 tk6 gs6 tv nT r1 u F6 N6 htabs hb6 hfr
  try dsimp only
  clear N5 F5
  rw [kept_tab hbl hbS ht] at htabs
  have hk := (kept_rot turn ht).1
  generalize kOf turn = k at *
  have htvl : tv.length = 5 := by rw [htabs.1]; exact tabS_len hk
  have t6 : dT ≠ L + 1 + 1 + 1 + 1 + 1 + 1 := (hall (L + 1 + 1 + 1 + 1 + 1 + 1, o6) (by walk_at "mem go")).symm
  have t7 : dT ≠ L + 1 + 1 + 1 + 1 + 1 + 1 + 1 := (hall (L + 1 + 1 + 1 + 1 + 1 + 1 + 1, o7) (by walk_at "mem go")).symm
  have t8 : dT ≠ L + 1 + 1 + 1 + 1 + 1 + 1 + 1 + 1 := (hall (L + 1 + 1 + 1 + 1 + 1 + 1 + 1 + 1, o8) (by walk_at "mem go")).symm
  have r6 : ∀ p ∈ r1, p.1 ≠ L + 1 + 1 + 1 + 1 + 1 + 1 := fun p hp => hfr p hp (L + 1 + 1 + 1 + 1 + 1 + 1, o6) (by walk_at "mem go")
  have r7 : ∀ p ∈ r1, p.1 ≠ L + 1 + 1 + 1 + 1 + 1 + 1 + 1 := fun p hp => hfr p hp (L + 1 + 1 + 1 + 1 + 1 + 1 + 1, o7) (by walk_at "mem go")
  have r8 : ∀ p ∈ r1, p.1 ≠ L + 1 + 1 + 1 + 1 + 1 + 1 + 1 + 1 := fun p hp => hfr p hp (L + 1 + 1 + 1 + 1 + 1 + 1 + 1 + 1, o8) (by walk_at "mem go")
  -- len(tables), q
  refine stI B F6 X T (dT := dT) (tv := tv) (nT := nT) (rest := (dM, LCg.lst nmv) :: (L + 1 + 1 + 1 + 1, o4') :: (L + 1 + 1 + 1 + 1 + 1 + 1 + 1, o7) :: (L + 1 + 1 + 1 + 1 + 1 + 1 + 1 + 1, o8) :: (dn, LCg.lst numv) :: r1) (News.sub N6 (by walk_at "mem go")) hLs ho5' ho1 ho6 hss hsl (by rw [List.size_toArray]; exact htvl) ?_ t6 ?_
  · simp only [List.forall_mem_cons]
    exact ⟨q6, by (((show @Ne Nat _ _); (try dsimp only); first | exact Nat.ne_of_lt (Nat.lt_add_of_pos_right (k := 1) (by decide)) | exact Nat.ne_of_lt (Nat.lt_add_of_pos_right (k := 2) (by decide)) | exact Nat.ne_of_lt (Nat.lt_add_of_pos_right (k := 3) (by decide)) | exact Nat.ne_of_lt (Nat.lt_add_of_pos_right (k := 4) (by decide)) | exact Nat.ne_of_lt (Nat.lt_add_of_pos_right (k := 5) (by decide)) | exact Nat.ne_of_lt (Nat.lt_add_of_pos_right (k := 6) (by decide)) | exact Nat.ne_of_lt (Nat.lt_add_of_pos_right (k := 7) (by decide)) | exact Nat.ne_of_gt (Nat.lt_add_of_pos_right (k := 1) (by decide)) | exact Nat.ne_of_gt (Nat.lt_add_of_pos_right (k := 2) (by decide)) | exact Nat.ne_of_gt (Nat.lt_add_of_pos_right (k := 3) (by decide)) | exact Nat.ne_of_gt (Nat.lt_add_of_pos_right (k := 4) (by decide)) | exact Nat.ne_of_gt (Nat.lt_add_of_pos_right (k := 5) (by decide)) | exact Nat.ne_of_gt (Nat.lt_add_of_pos_right (k := 6) (by decide)) | exact Nat.ne_of_gt (Nat.lt_add_of_pos_right (k := 7) (by decide)) | omega)), by (((show @Ne Nat _ _); (try dsimp only); first | exact Nat.ne_of_lt (Nat.lt_add_of_pos_right (k := 1) (by decide)) | exact Nat.ne_of_lt (Nat.lt_add_of_pos_right (k := 2) (by decide)) | exact Nat.ne_of_lt (Nat.lt_add_of_pos_right (k := 3) (by decide)) | exact Nat.ne_of_lt (Nat.lt_add_of_pos_right (k := 4) (by decide)) | exact Nat.ne_of_lt (Nat.lt_add_of_pos_right (k := 5) (by decide)) | exact Nat.ne_of_lt (Nat.lt_add_of_pos_right (k := 6) (by decide)) | exact Nat.ne_of_lt (Nat.lt_add_of_pos_right (k := 7) (by decide)) | exact Nat.ne_of_gt (Nat.lt_add_of_pos_right (k := 1) (by decide)) | exact Nat.ne_of_gt (Nat.lt_add_of_pos_right (k := 2) (by decide)) | exact Nat.ne_of_gt (Nat.lt_add_of_pos_right (k := 3) (by decide)) | exact Nat.ne_of_gt (Nat.lt_add_of_pos_right (k := 4) (by decide)) | exact Nat.ne_of_gt (Nat.lt_add_of_pos_right (k := 5) (by decide)) | exact Nat.ne_of_gt (Nat.lt_add_of_pos_right (k := 6) (by decide)) | exact Nat.ne_of_gt (Nat.lt_add_of_pos_right (k := 7) (by decide)) | omega)), by (((show @Ne Nat _ _); (try dsimp only); first | exact Nat.ne_of_lt (Nat.lt_add_of_pos_right (k := 1) (by decide)) | exact Nat.ne_of_lt (Nat.lt_add_of_pos_right (k := 2) (by decide)) | exact Nat.ne_of_lt (Nat.lt_add_of_pos_right (k := 3) (by decide)) | exact Nat.ne_of_lt (Nat.lt_add_of_pos_right (k := 4) (by decide)) | exact Nat.ne_of_lt (Nat.lt_add_of_pos_right (k := 5) (by decide)) | exact Nat.ne_of_lt (Nat.lt_add_of_pos_right (k := 6) (by decide)) | exact Nat.ne_of_lt (Nat.lt_add_of_pos_right (k := 7) (by decide)) | exact Nat.ne_of_gt (Nat.lt_add_of_pos_right (k := 1) (by decide)) | exact Nat.ne_of_gt (Nat.lt_add_of_pos_right (k := 2) (by decide)) | exact Nat.ne_of_gt (Nat.lt_add_of_pos_right (k := 3) (by decide)) | exact Nat.ne_of_gt (Nat.lt_add_of_pos_right (k := 4) (by decide)) | exact Nat.ne_of_gt (Nat.lt_add_of_pos_right (k := 5) (by decide)) | exact Nat.ne_of_gt (Nat.lt_add_of_pos_right (k := 6) (by decide)) | exact Nat.ne_of_gt (Nat.lt_add_of_pos_right (k := 7) (by decide)) | omega)), n6, r6⟩
  intro h7 tk7 tq o6' F7 N7 ho6'
  try dsimp only
  clear N6 F6 ho6
  have hq1 : -4 ≤ (ss.sum + 7).fmod 10 - 4 := by rw [Int.fmod_eq_emod_of_nonneg _ (by decide)]; omega
  have hq2 : (ss.sum + 7).fmod 10 - 4 ≤ 5 := by rw [Int.fmod_eq_emod_of_nonneg _ (by decide)]; omega
  generalize (ss.sum + 7).fmod 10 - 4 = q at ho6' hq1 hq2
  -- rings
  refine stJ B F7 X T (dT := dT) (dM := dM) (tv := tv) (nT := nT) (rest := r1 ++ [(L + 1 + 1 + 1 + 1 + 1 + 1, o6'), (L + 1 + 1 + 1 + 1 + 1 + 1 + 1 + 1, o8), (dn, LCg.lst numv)]) (RRk k) (News.sub N7 (by walk_at "mem go")) ho5' ho4' ho7 (htabs.mono fun p hp => List.mem_append_left _ hp) (tabS_len hk) hnv (Nat.le_of_eq hn.len)
    (fun x hx => by obtain ⟨a, ha, rfl⟩ := ns_at hn hx; exact good_at hn ha) (tab_good hn hk) (rings_at hn hk) ?_ t7 q7 ?_
  · simp only [List.forall_mem_append, List.forall_mem_cons]
    exact ⟨r7, by (((show @Ne Nat _ _); (try dsimp only); first | exact Nat.ne_of_lt (Nat.lt_add_of_pos_right (k := 1) (by decide)) | exact Nat.ne_of_lt (Nat.lt_add_of_pos_right (k := 2) (by decide)) | exact Nat.ne_of_lt (Nat.lt_add_of_pos_right (k := 3) (by decide)) | exact Nat.ne_of_lt (Nat.lt_add_of_pos_right (k := 4) (by decide)) | exact Nat.ne_of_lt (Nat.lt_add_of_pos_right (k := 5) (by decide)) | exact Nat.ne_of_lt (Nat.lt_add_of_pos_right (k := 6) (by decide)) | exact Nat.ne_of_lt (Nat.lt_add_of_pos_right (k := 7) (by decide)) | exact Nat.ne_of_gt (Nat.lt_add_of_pos_right (k := 1) (by decide)) | exact Nat.ne_of_gt (Nat.lt_add_of_pos_right (k := 2) (by decide)) | exact Nat.ne_of_gt (Nat.lt_add_of_pos_right (k := 3) (by decide)) | exact Nat.ne_of_gt (Nat.lt_add_of_pos_right (k := 4) (by decide)) | exact Nat.ne_of_gt (Nat.lt_add_of_pos_right (k := 5) (by decide)) | exact Nat.ne_of_gt (Nat.lt_add_of_pos_right (k := 6) (by decide)) | exact Nat.ne_of_gt (Nat.lt_add_of_pos_right (k := 7) (by decide)) | omega)), by (((show @Ne Nat _ _); (try dsimp only); first | exact Nat.ne_of_lt (Nat.lt_add_of_pos_right (k := 1) (by decide)) | exact Nat.ne_of_lt (Nat.lt_add_of_pos_right (k := 2) (by decide)) | exact Nat.ne_of_lt (Nat.lt_add_of_pos_right (k := 3) (by decide)) | exact Nat.ne_of_lt (Nat.lt_add_of_pos_right (k := 4) (by decide)) | exact Nat.ne_of_lt (Nat.lt_add_of_pos_right (k := 5) (by decide)) | exact Nat.ne_of_lt (Nat.lt_add_of_pos_right (k := 6) (by decide)) | exact Nat.ne_of_lt (Nat.lt_add_of_pos_right (k := 7) (by decide)) | exact Nat.ne_of_gt (Nat.lt_add_of_pos_right (k := 1) (by decide)) | exact Nat.ne_of_gt (Nat.lt_add_of_pos_right (k := 2) (by decide)) | exact Nat.ne_of_gt (Nat.lt_add_of_pos_right (k := 3) (by decide)) | exact Nat.ne_of_gt (Nat.lt_add_of_pos_right (k := 4) (by decide)) | exact Nat.ne_of_gt (Nat.lt_add_of_pos_right (k := 5) (by decide)) | exact Nat.ne_of_gt (Nat.lt_add_of_pos_right (k := 6) (by decide)) | exact Nat.ne_of_gt (Nat.lt_add_of_pos_right (k := 7) (by decide)) | omega)), n7, fun p hp => nomatch hp⟩
  intro h8 tk8 dG gv o7' rr F8 N8 ho7' hrg hfr8
  try dsimp only
  clear N7 F7 ho7
  -- told
  refine stK B F8 X T (rest := rr ++ ((dT, listOf tv.toArray nT) :: (L + 1 + 1 + 1 + 1 + 1, o5') :: (dM, LCg.lst nmv) :: (L + 1 + 1 + 1 + 1, o4') :: (L + 1 + 1 + 1 + 1 + 1 + 1 + 1 + 1, o8) :: (dn, LCg.lst numv) :: r1)) (RRk k) (News.sub N8 (by walk_at "mem go")) ho6' ho7' ⟨hrg.1, fun i hi => let ⟨ra, vs, a1, a2, a3⟩ := hrg.2 i hi; ⟨ra, vs, a1, List.mem_append_left _ a2, a3⟩⟩ hq1 hq2 (fun i j hji hi => RR_small k hk i hi j (by omega)) (det_ok hk hq1 hq2) ?_
  intro h9 tk9 tt9 F9 N9
  try dsimp only
  clear N8 F8
  -- if told, letters
  refine stL B F9 X T (rest := (dT, listOf tv.toArray nT) :: (L + 1 + 1 + 1 + 1 + 1, o5') :: (dM, LCg.lst nmv) :: (L + 1 + 1 + 1 + 1, o4') :: (dn, LCg.lst numv) :: r1) (News.sub N9 (by walk_at "mem go")) ho6' ho8 hq1 hq2 (by rw [if_pos rfl]) ?_ ?_
  · simp only [List.forall_mem_cons]
    exact ⟨t8, by (((show @Ne Nat _ _); (try dsimp only); first | exact Nat.ne_of_lt (Nat.lt_add_of_pos_right (k := 1) (by decide)) | exact Nat.ne_of_lt (Nat.lt_add_of_pos_right (k := 2) (by decide)) | exact Nat.ne_of_lt (Nat.lt_add_of_pos_right (k := 3) (by decide)) | exact Nat.ne_of_lt (Nat.lt_add_of_pos_right (k := 4) (by decide)) | exact Nat.ne_of_lt (Nat.lt_add_of_pos_right (k := 5) (by decide)) | exact Nat.ne_of_lt (Nat.lt_add_of_pos_right (k := 6) (by decide)) | exact Nat.ne_of_lt (Nat.lt_add_of_pos_right (k := 7) (by decide)) | exact Nat.ne_of_gt (Nat.lt_add_of_pos_right (k := 1) (by decide)) | exact Nat.ne_of_gt (Nat.lt_add_of_pos_right (k := 2) (by decide)) | exact Nat.ne_of_gt (Nat.lt_add_of_pos_right (k := 3) (by decide)) | exact Nat.ne_of_gt (Nat.lt_add_of_pos_right (k := 4) (by decide)) | exact Nat.ne_of_gt (Nat.lt_add_of_pos_right (k := 5) (by decide)) | exact Nat.ne_of_gt (Nat.lt_add_of_pos_right (k := 6) (by decide)) | exact Nat.ne_of_gt (Nat.lt_add_of_pos_right (k := 7) (by decide)) | omega)), q8, by (((show @Ne Nat _ _); (try dsimp only); first | exact Nat.ne_of_lt (Nat.lt_add_of_pos_right (k := 1) (by decide)) | exact Nat.ne_of_lt (Nat.lt_add_of_pos_right (k := 2) (by decide)) | exact Nat.ne_of_lt (Nat.lt_add_of_pos_right (k := 3) (by decide)) | exact Nat.ne_of_lt (Nat.lt_add_of_pos_right (k := 4) (by decide)) | exact Nat.ne_of_lt (Nat.lt_add_of_pos_right (k := 5) (by decide)) | exact Nat.ne_of_lt (Nat.lt_add_of_pos_right (k := 6) (by decide)) | exact Nat.ne_of_lt (Nat.lt_add_of_pos_right (k := 7) (by decide)) | exact Nat.ne_of_gt (Nat.lt_add_of_pos_right (k := 1) (by decide)) | exact Nat.ne_of_gt (Nat.lt_add_of_pos_right (k := 2) (by decide)) | exact Nat.ne_of_gt (Nat.lt_add_of_pos_right (k := 3) (by decide)) | exact Nat.ne_of_gt (Nat.lt_add_of_pos_right (k := 4) (by decide)) | exact Nat.ne_of_gt (Nat.lt_add_of_pos_right (k := 5) (by decide)) | exact Nat.ne_of_gt (Nat.lt_add_of_pos_right (k := 6) (by decide)) | exact Nat.ne_of_gt (Nat.lt_add_of_pos_right (k := 7) (by decide)) | omega)), n8, r8⟩
  intro h10 tk10 tl o8' F10 N10 ho8'
  try dsimp only
  clear N9 F9 ho8
  -- if names
  refine stM B F10 X T (dn := dn) (dM := dM) (rest := (dT, listOf tv.toArray nT) :: (L + 1 + 1 + 1 + 1 + 1, o5') :: r1) (News.sub N10 (by walk_at "mem go")) ho4' ho8' hnums hnl hnb hnvM (by rw [if_neg (by decide), if_neg (by decide), if_neg (by decide), if_neg (by decide), if_neg (by decide), if_neg (by decide)]; exact hm) ?_
  intro h11 tk11 F11 N11
  try dsimp only
  clear N10 F10
  -- mates
  refine stO B F11 X T (dT := dT) (dM := dM) (tv := tv) (nT := nT) (rest := r1) (MMk k) (News.sub N11 (by walk_at "mem go")) ho5' ho4' htabs (tabS_len hk) hnv hn.len (fun x hx => by
      obtain ⟨a, ha, rfl⟩ := ns_at hn hx
      exact ⟨(hn.cln a ha).2.1, (hn.cln a ha).2.2.1⟩) (fun ps hps p hp => (tab_good hn hk ps hps p hp).2) (mates_at hn hk) (names_dis hn) ?_
  rintro h12 tk12 dE ev F12 ⟨r2, N12, hrf, _⟩
  try dsimp only
  rw [mates_row k hk] at hrf
  refine stP B F12 X T hk N12 hrf (by rw [if_pos rfl]) ?_
  intro h13 tk13 m13 F13 _
  exact hret h13 tk13 gs6 m13 F13 hb6
end
end
section
section
variable {w : World} {mean : ExcName → Option Value} {mg mb : PySem.Str → Option Value} {base h₀ : Heap} {L fa : Addr} {cd : Value} {m : PySem.Str → Option Value} {s : Shared} {Q : Flow → Shared → Prop} {E : Value → Shared → Prop}
  (B : Below callerA base [] h₀) (F : Fr h₀ L s.heap m) (X : (hd.heap_39 w.params).In h₀) (T : Top hd.view_39 LO mean mg mb h₀)
include B F X T
set_option maxHeartbeats 800000 in
set_option pp.deepTerms false in
set_option pp.deepTerms.threshold 8 in
theorem stD1 {lr dS : Addr} {rvv sv : List Value} {rw6 ss : List Int} {nr : Nat} {o1 o2 o3 : Obj} {v3 : Option Value} {rest : List (Addr × Obj)}
    (N : News h₀ L s.heap ((lr, listOf rvv.toArray nr) :: (L + 1 + 1, o2) :: (L + 1 + 1 + 1, o3) :: (L + 1, o1) :: rest))
    (ho1 : o1.data = .cell (some (.ref dS))) (ho2 : o2.data = .cell (some (.ref lr))) (ho3 : o3.data = .cell v3) (hLs : h₀.IsList dS sv.toArray) (hss : IntsAre sv ss) (hsl : ss.length ≤ 63) (hrv : IntsAre rvv rw6) (hrl : rw6.length = 6)
    (hlr : @Ne Nat lr (L + 1 + 1 + 1)) (hr : ∀ p ∈ rest, p.1 ≠ L + 1 + 1 + 1)
    (hnext : ∀ h' tk' dd drv ds o3', Fr h₀ L h' m → News h₀ L h' ((dd, LCg.lst drv) :: (lr, listOf rvv.toArray nr) :: (L + 1 + 1, o2) :: (L + 1 + 1 + 1, o3') :: (L + 1, o1) :: rest) → o3'.data = .cell (some (.ref dd)) → IntsAre drv ds → ds.length = 6 → (∀ v ∈ ds, 0 ≤ v ∧ v < 160) → (∀ p ∈ (lr, listOf rvv.toArray nr) :: (L + 1 + 1, o2) :: (L + 1 + 1 + 1, o3) :: (L + 1, o1) :: rest, p.1 ≠ dd) →
      wpAny (model PySem.Challenge.rw_wa0038_01.row.prog w) (lawA L fa cd) (execs (lawBody.drop 2) (lawEnv L fa cd)) Q E { s with heap := h', toks := tk' }) :
    wpAny (model PySem.Challenge.rw_wa0038_01.row.prog w) (lawA L fa cd) (execs (lawBody.drop 1) (lawEnv L fa cd)) Q E s := by
  have _ := B
  revert X; k_fill; intro X
  show wpAny _ (callerA.deeper (envOfC _ ⟨_, _, _, _, _⟩ _ _ _)) (execs (_ :: _) (envOfC _ ⟨_, _, _, _, _⟩ _ _ _)) _ _ _
  (repeat' (first | (k_unfold; (try dsimp only)) | (k_end; wrow_close) | (((((((fail_if_success (with_reducible show wpAny _ _ (call (Value.builtin "dict.items") _ _) _ _ _)); (fail_if_success (with_reducible show wpAny _ _ (call (Value.type "range") _ _) _ _ _)); (fail_if_success (with_reducible show wpAny _ _ (call (Value.ref 112) _ _) _ _ _)); (fail_if_success (with_reducible show wpAny _ _ (eval (Expr.ListComp _ _ _ _) _) _ _ _)); (fail_if_success (with_reducible show wpAny _ _ (exec (Stmt.For _ _ _ _ _) _) _ _ _)); (fail_if_success (with_reducible show wpAny _ _ (exec (Stmt.While _ _ _ _) _) _ _ _)); (fail_if_success (with_reducible show wpAny _ _ (exec (Stmt.Assign [Expr.Name _ _] (Expr.ListComp _ _ _ _) _) _) _ _ _))))); (fail_if_success (with_reducible show wpAny _ _ (subscriptTail _ _ (Value.ref _) (Value.int _ _)) _ _ _)))); first | walk1 | (dsimp only; (((((((fail_if_success (with_reducible show wpAny _ _ (call (Value.builtin "dict.items") _ _) _ _ _)); (fail_if_success (with_reducible show wpAny _ _ (call (Value.type "range") _ _) _ _ _)); (fail_if_success (with_reducible show wpAny _ _ (call (Value.ref 112) _ _) _ _ _)); (fail_if_success (with_reducible show wpAny _ _ (eval (Expr.ListComp _ _ _ _) _) _ _ _)); (fail_if_success (with_reducible show wpAny _ _ (exec (Stmt.For _ _ _ _ _) _) _ _ _)); (fail_if_success (with_reducible show wpAny _ _ (exec (Stmt.While _ _ _ _) _) _ _ _)); (fail_if_success (with_reducible show wpAny _ _ (exec (Stmt.Assign [Expr.Name _ _] (Expr.ListComp _ _ _ _) _) _) _ _ _))))); (fail_if_success (with_reducible show wpAny _ _ (subscriptTail _ _ (Value.ref _) (Value.int _ _)) _ _ _))))); walk1)) | (leave1; walk_say "STEP leave1"; try dsimp only) | fail "no step"))
  refine wpAny_Assign_Name ?_
  refine LCg.ListComp_U F (by with_unfolding_all rfl) (by decide) (by rfl) (by decide) (by rfl) ?_
  (repeat' (first | (k_unfold; (try dsimp only)) | (k_end; wrow_close) | (((((((fail_if_success (with_reducible show wpAny _ _ (call (Value.builtin "dict.items") _ _) _ _ _)); (fail_if_success (with_reducible show wpAny _ _ (call (Value.type "range") _ _) _ _ _)); (fail_if_success (with_reducible show wpAny _ _ (call (Value.ref 112) _ _) _ _ _)); (fail_if_success (with_reducible show wpAny _ _ (eval (Expr.ListComp _ _ _ _) _) _ _ _)); (fail_if_success (with_reducible show wpAny _ _ (exec (Stmt.For _ _ _ _ _) _) _ _ _)); (fail_if_success (with_reducible show wpAny _ _ (exec (Stmt.While _ _ _ _) _) _ _ _)); (fail_if_success (with_reducible show wpAny _ _ (exec (Stmt.Assign [Expr.Name _ _] (Expr.ListComp _ _ _ _) _) _) _ _ _))))); (fail_if_success (with_reducible show wpAny _ _ (subscriptTail _ _ (Value.ref _) (Value.int _ _)) _ _ _)))); first | walk1 | (dsimp only; (((((((fail_if_success (with_reducible show wpAny _ _ (call (Value.builtin "dict.items") _ _) _ _ _)); (fail_if_success (with_reducible show wpAny _ _ (call (Value.type "range") _ _) _ _ _)); (fail_if_success (with_reducible show wpAny _ _ (call (Value.ref 112) _ _) _ _ _)); (fail_if_success (with_reducible show wpAny _ _ (eval (Expr.ListComp _ _ _ _) _) _ _ _)); (fail_if_success (with_reducible show wpAny _ _ (exec (Stmt.For _ _ _ _ _) _) _ _ _)); (fail_if_success (with_reducible show wpAny _ _ (exec (Stmt.While _ _ _ _) _) _ _ _)); (fail_if_success (with_reducible show wpAny _ _ (exec (Stmt.Assign [Expr.Name _ _] (Expr.ListComp _ _ _ _) _) _) _ _ _))))); (fail_if_success (with_reducible show wpAny _ _ (subscriptTail _ _ (Value.ref _) (Value.int _ _)) _ _ _))))); walk1)) | (leave1; walk_say "STEP leave1"; try dsimp only) | fail "no step"))
  refine call_range_1 ?_
  refine LCg.CompSrc.range (a := 0) (n := 6) (by rfl) (F.push _) (N.pushKeep _) (IsRange.new ..) (small_one (by decide) (by decide) (by decide) (by decide)) (by decide) (by decide) ?_
  intro g
  refine rest_inv (fun i ys nw => nw = (lr, listOf rvv.toArray nr) :: (L + 1 + 1, o2) :: (L + 1 + 1 + 1, o3) :: (L + 1, o1) :: rest ∧ ∃ ds, IntsAre ys ds ∧ ds.length = i ∧ ∀ v ∈ ds, 0 ≤ v ∧ v < 160) ⟨rfl, [], .nil, rfl, fun v hv => nomatch hv⟩ ?_ ?_
  · rintro i v ys nw I oI C oC D m₂ h tk hi ⟨tk', rfl⟩ ⟨rfl, ds, hys, hdl, hdb⟩ hC hx F2 N2 off hne3
    rw [show (0 : Int) + (i : Int) = (i : Int) by omega] at hx
    (repeat' (first | (k_unfold; (try dsimp only)) | (k_end; wrow_close) | (((((((fail_if_success (with_reducible show wpAny _ _ (call (Value.builtin "dict.items") _ _) _ _ _)); (fail_if_success (with_reducible show wpAny _ _ (call (Value.type "range") _ _) _ _ _)); (fail_if_success (with_reducible show wpAny _ _ (call (Value.ref 112) _ _) _ _ _)); (fail_if_success (with_reducible show wpAny _ _ (eval (Expr.ListComp _ _ _ _) _) _ _ _)); (fail_if_success (with_reducible show wpAny _ _ (exec (Stmt.For _ _ _ _ _) _) _ _ _)); (fail_if_success (with_reducible show wpAny _ _ (exec (Stmt.While _ _ _ _) _) _ _ _)); (fail_if_success (with_reducible show wpAny _ _ (exec (Stmt.Assign [Expr.Name _ _] (Expr.ListComp _ _ _ _) _) _) _ _ _))))); (fail_if_success (with_reducible show wpAny _ _ (subscriptTail _ _ (Value.ref _) (Value.int _ _)) _ _ _)))); first | walk1 | (dsimp only; (((((((fail_if_success (with_reducible show wpAny _ _ (call (Value.builtin "dict.items") _ _) _ _ _)); (fail_if_success (with_reducible show wpAny _ _ (call (Value.type "range") _ _) _ _ _)); (fail_if_success (with_reducible show wpAny _ _ (call (Value.ref 112) _ _) _ _ _)); (fail_if_success (with_reducible show wpAny _ _ (eval (Expr.ListComp _ _ _ _) _) _ _ _)); (fail_if_success (with_reducible show wpAny _ _ (exec (Stmt.For _ _ _ _ _) _) _ _ _)); (fail_if_success (with_reducible show wpAny _ _ (exec (Stmt.While _ _ _ _) _) _ _ _)); (fail_if_success (with_reducible show wpAny _ _ (exec (Stmt.Assign [Expr.Name _ _] (Expr.ListComp _ _ _ _) _) _) _ _ _))))); (fail_if_success (with_reducible show wpAny _ _ (subscriptTail _ _ (Value.ref _) (Value.int _ _)) _ _ _))))); walk1)) | (leave1; walk_say "STEP leave1"; try dsimp only) | fail "no step"))
    refine item_I (News.isList N2 (.tail _ (.tail _ (.tail _ (.head _))))) hrv (by omega) (by omega) ?_
    intro tE
    (repeat' (first | (k_unfold; (try dsimp only)) | (k_end; wrow_close) | (((((((fail_if_success (with_reducible show wpAny _ _ (call (Value.builtin "dict.items") _ _) _ _ _)); (fail_if_success (with_reducible show wpAny _ _ (call (Value.type "range") _ _) _ _ _)); (fail_if_success (with_reducible show wpAny _ _ (call (Value.ref 112) _ _) _ _ _)); (fail_if_success (with_reducible show wpAny _ _ (eval (Expr.ListComp _ _ _ _) _) _ _ _)); (fail_if_success (with_reducible show wpAny _ _ (exec (Stmt.For _ _ _ _ _) _) _ _ _)); (fail_if_success (with_reducible show wpAny _ _ (exec (Stmt.While _ _ _ _) _) _ _ _)); (fail_if_success (with_reducible show wpAny _ _ (exec (Stmt.Assign [Expr.Name _ _] (Expr.ListComp _ _ _ _) _) _) _ _ _))))); (fail_if_success (with_reducible show wpAny _ _ (subscriptTail _ _ (Value.ref _) (Value.int _ _)) _ _ _)))); first | walk1 | (dsimp only; (((((((fail_if_success (with_reducible show wpAny _ _ (call (Value.builtin "dict.items") _ _) _ _ _)); (fail_if_success (with_reducible show wpAny _ _ (call (Value.type "range") _ _) _ _ _)); (fail_if_success (with_reducible show wpAny _ _ (call (Value.ref 112) _ _) _ _ _)); (fail_if_success (with_reducible show wpAny _ _ (eval (Expr.ListComp _ _ _ _) _) _ _ _)); (fail_if_success (with_reducible show wpAny _ _ (exec (Stmt.For _ _ _ _ _) _) _ _ _)); (fail_if_success (with_reducible show wpAny _ _ (exec (Stmt.While _ _ _ _) _) _ _ _)); (fail_if_success (with_reducible show wpAny _ _ (exec (Stmt.Assign [Expr.Name _ _] (Expr.ListComp _ _ _ _) _) _) _ _ _))))); (fail_if_success (with_reducible show wpAny _ _ (subscriptTail _ _ (Value.ref _) (Value.int _ _)) _ _ _))))); walk1)) | (leave1; walk_say "STEP leave1"; try dsimp only) | fail "no step"))
    rename News _ _ _ _ => N9
    exact LCg.CompEnd.intro (by k_asm) N9 _ (fun p hp => .tail _ hp) off trivial ⟨rfl, ds ++ [_], hys.append (.cons _ _ .nil), by simp [hdl], fun v hv => by
      rcases List.mem_append.mp hv with hv | hv
      · exact hdb v hv
      · rw [List.mem_singleton.mp hv, Int.fmod_eq_emod_of_nonneg _ (by decide)]; omega⟩
  · rintro ys nw ⟨rfl, ds, hys, hdl, hdb⟩
    intro D h tk F2 N2 off
    have o := off1_mem off
    obtain ⟨o1', o2', o3', o4', o5'⟩ := id off
    dsimp only at o1' o2' o3' o4'
    walk1
    rename News _ _ _ _ => N9
    rename _ = Data.cell (some (Value.ref D)) => d9
    exact hnext _ _ D ys ds _ (by k_asm) N9 d9 hys hdl hdb o
/-- the sum that each number is -/
noncomputable def stepS (v : Int) : Int := v.fdiv 4 + 1
set_option maxHeartbeats 800000 in
set_option pp.deepTerms false in
set_option pp.deepTerms.threshold 8 in
theorem stD2 {dd : Addr} {drv : List Value} {ds : List Int} {o3 : Obj} {rest : List (Addr × Obj)}
    (N : News h₀ L s.heap ((dd, LCg.lst drv) :: (L + 1 + 1 + 1, o3) :: rest)) (ho3 : o3.data = .cell (some (.ref dd))) (hdr : IntsAre drv ds) (hdl : ds.length = 6) (hdb : ∀ v ∈ ds, 0 ≤ v ∧ v < 160)
    (hnext : ∀ h' tk' dn numv, Fr h₀ L h' (fun z => if z = PySem.Str.ofString "numbers" then some (.ref dn) else m z) → News h₀ L h' ((dn, LCg.lst numv) :: (dd, LCg.lst drv) :: (L + 1 + 1 + 1, o3) :: rest) → IntsAre numv ((List.range 6).map fun k => ((ds.take (k + 1)).map stepS).sum) → (∀ p ∈ (dd, LCg.lst drv) :: (L + 1 + 1 + 1, o3) :: rest, p.1 ≠ dn) →
      wpAny (model PySem.Challenge.rw_wa0038_01.row.prog w) (lawA L fa cd) (execs (lawBody.drop 3) (lawEnv L fa cd)) Q E { s with heap := h', toks := tk' }) :
    wpAny (model PySem.Challenge.rw_wa0038_01.row.prog w) (lawA L fa cd) (execs (lawBody.drop 2) (lawEnv L fa cd)) Q E s := by
  have _ := B
  revert X; k_fill; intro X
  show wpAny _ (callerA.deeper (envOfC _ ⟨_, _, _, _, _⟩ _ _ _)) (execs (_ :: _) (envOfC _ ⟨_, _, _, _, _⟩ _ _ _)) _ _ _
  (repeat' (first | (k_unfold; (try dsimp only)) | (k_end; wrow_close) | (((((((fail_if_success (with_reducible show wpAny _ _ (call (Value.builtin "dict.items") _ _) _ _ _)); (fail_if_success (with_reducible show wpAny _ _ (call (Value.type "range") _ _) _ _ _)); (fail_if_success (with_reducible show wpAny _ _ (call (Value.ref 112) _ _) _ _ _)); (fail_if_success (with_reducible show wpAny _ _ (eval (Expr.ListComp _ _ _ _) _) _ _ _)); (fail_if_success (with_reducible show wpAny _ _ (exec (Stmt.For _ _ _ _ _) _) _ _ _)); (fail_if_success (with_reducible show wpAny _ _ (exec (Stmt.While _ _ _ _) _) _ _ _)); (fail_if_success (with_reducible show wpAny _ _ (exec (Stmt.Assign [Expr.Name _ _] (Expr.ListComp _ _ _ _) _) _) _ _ _))))); (fail_if_success (with_reducible show wpAny _ _ (subscriptTail _ _ (Value.ref _) (Value.int _ _)) _ _ _)))); first | walk1 | (dsimp only; (((((((fail_if_success (with_reducible show wpAny _ _ (call (Value.builtin "dict.items") _ _) _ _ _)); (fail_if_success (with_reducible show wpAny _ _ (call (Value.type "range") _ _) _ _ _)); (fail_if_success (with_reducible show wpAny _ _ (call (Value.ref 112) _ _) _ _ _)); (fail_if_success (with_reducible show wpAny _ _ (eval (Expr.ListComp _ _ _ _) _) _ _ _)); (fail_if_success (with_reducible show wpAny _ _ (exec (Stmt.For _ _ _ _ _) _) _ _ _)); (fail_if_success (with_reducible show wpAny _ _ (exec (Stmt.While _ _ _ _) _) _ _ _)); (fail_if_success (with_reducible show wpAny _ _ (exec (Stmt.Assign [Expr.Name _ _] (Expr.ListComp _ _ _ _) _) _) _ _ _))))); (fail_if_success (with_reducible show wpAny _ _ (subscriptTail _ _ (Value.ref _) (Value.int _ _)) _ _ _))))); walk1)) | (leave1; walk_say "STEP leave1"; try dsimp only) | fail "no step"))
  refine LCg.Assign_ListComp_U (F₀ := F) (by rfl) (by with_unfolding_all rfl) (by with_unfolding_all rfl) (by decide) (by rfl) (by decide) (by rfl) (by rfl) (by rfl) ?_
  (repeat' (first | (k_unfold; (try dsimp only)) | (k_end; wrow_close) | (((((((fail_if_success (with_reducible show wpAny _ _ (call (Value.builtin "dict.items") _ _) _ _ _)); (fail_if_success (with_reducible show wpAny _ _ (call (Value.type "range") _ _) _ _ _)); (fail_if_success (with_reducible show wpAny _ _ (call (Value.ref 112) _ _) _ _ _)); (fail_if_success (with_reducible show wpAny _ _ (eval (Expr.ListComp _ _ _ _) _) _ _ _)); (fail_if_success (with_reducible show wpAny _ _ (exec (Stmt.For _ _ _ _ _) _) _ _ _)); (fail_if_success (with_reducible show wpAny _ _ (exec (Stmt.While _ _ _ _) _) _ _ _)); (fail_if_success (with_reducible show wpAny _ _ (exec (Stmt.Assign [Expr.Name _ _] (Expr.ListComp _ _ _ _) _) _) _ _ _))))); (fail_if_success (with_reducible show wpAny _ _ (subscriptTail _ _ (Value.ref _) (Value.int _ _)) _ _ _)))); first | walk1 | (dsimp only; (((((((fail_if_success (with_reducible show wpAny _ _ (call (Value.builtin "dict.items") _ _) _ _ _)); (fail_if_success (with_reducible show wpAny _ _ (call (Value.type "range") _ _) _ _ _)); (fail_if_success (with_reducible show wpAny _ _ (call (Value.ref 112) _ _) _ _ _)); (fail_if_success (with_reducible show wpAny _ _ (eval (Expr.ListComp _ _ _ _) _) _ _ _)); (fail_if_success (with_reducible show wpAny _ _ (exec (Stmt.For _ _ _ _ _) _) _ _ _)); (fail_if_success (with_reducible show wpAny _ _ (exec (Stmt.While _ _ _ _) _) _ _ _)); (fail_if_success (with_reducible show wpAny _ _ (exec (Stmt.Assign [Expr.Name _ _] (Expr.ListComp _ _ _ _) _) _) _ _ _))))); (fail_if_success (with_reducible show wpAny _ _ (subscriptTail _ _ (Value.ref _) (Value.int _ _)) _ _ _))))); walk1)) | (leave1; walk_say "STEP leave1"; try dsimp only) | fail "no step"))
  refine call_range_1 ?_
  refine LCg.CompSrc.range (a := 0) (n := 6) (by rfl) (F.push _) (N.pushKeep _) (IsRange.new ..) (small_one (by decide) (by decide) (by decide) (by decide)) (by decide) (by decide) ?_
  intro g
  refine rest_inv (fun i ys nw => nw = (dd, LCg.lst drv) :: (L + 1 + 1 + 1, o3) :: rest ∧ IntsAre ys ((List.range i).map fun k => ((ds.take (k + 1)).map stepS).sum)) ⟨rfl, .nil⟩ ?_ ?_
  · rintro i v ys nw I oI C oC D m₂ h tk hi ⟨tk', rfl⟩ ⟨rfl, hys⟩ hC hx F2 N2 off hne3
    rw [show (0 : Int) + (i : Int) = (i : Int) by omega] at hx
    (repeat' (first | (k_unfold; (try dsimp only)) | (k_end; wrow_close) | (((((((fail_if_success (with_reducible show wpAny _ _ (call (Value.builtin "dict.items") _ _) _ _ _)); (fail_if_success (with_reducible show wpAny _ _ (call (Value.type "range") _ _) _ _ _)); (fail_if_success (with_reducible show wpAny _ _ (call (Value.ref 112) _ _) _ _ _)); (fail_if_success (with_reducible show wpAny _ _ (eval (Expr.ListComp _ _ _ _) _) _ _ _)); (fail_if_success (with_reducible show wpAny _ _ (exec (Stmt.For _ _ _ _ _) _) _ _ _)); (fail_if_success (with_reducible show wpAny _ _ (exec (Stmt.While _ _ _ _) _) _ _ _)); (fail_if_success (with_reducible show wpAny _ _ (exec (Stmt.Assign [Expr.Name _ _] (Expr.ListComp _ _ _ _) _) _) _ _ _))))); (fail_if_success (with_reducible show wpAny _ _ (subscriptTail _ _ (Value.ref _) (Value.int _ _)) _ _ _)))); first | walk1 | (dsimp only; (((((((fail_if_success (with_reducible show wpAny _ _ (call (Value.builtin "dict.items") _ _) _ _ _)); (fail_if_success (with_reducible show wpAny _ _ (call (Value.type "range") _ _) _ _ _)); (fail_if_success (with_reducible show wpAny _ _ (call (Value.ref 112) _ _) _ _ _)); (fail_if_success (with_reducible show wpAny _ _ (eval (Expr.ListComp _ _ _ _) _) _ _ _)); (fail_if_success (with_reducible show wpAny _ _ (exec (Stmt.For _ _ _ _ _) _) _ _ _)); (fail_if_success (with_reducible show wpAny _ _ (exec (Stmt.While _ _ _ _) _) _ _ _)); (fail_if_success (with_reducible show wpAny _ _ (exec (Stmt.Assign [Expr.Name _ _] (Expr.ListComp _ _ _ _) _) _) _ _ _))))); (fail_if_success (with_reducible show wpAny _ _ (subscriptTail _ _ (Value.ref _) (Value.int _ _)) _ _ _))))); walk1)) | (leave1; walk_say "STEP leave1"; try dsimp only) | fail "no step"))
    refine LCg.ListComp_U F2 (by with_unfolding_all rfl) (by decide) (by rfl) (by decide) (by rfl) ?_
    (repeat' (first | (k_unfold; (try dsimp only)) | (k_end; wrow_close) | (((((((fail_if_success (with_reducible show wpAny _ _ (call (Value.builtin "dict.items") _ _) _ _ _)); (fail_if_success (with_reducible show wpAny _ _ (call (Value.type "range") _ _) _ _ _)); (fail_if_success (with_reducible show wpAny _ _ (call (Value.ref 112) _ _) _ _ _)); (fail_if_success (with_reducible show wpAny _ _ (eval (Expr.ListComp _ _ _ _) _) _ _ _)); (fail_if_success (with_reducible show wpAny _ _ (exec (Stmt.For _ _ _ _ _) _) _ _ _)); (fail_if_success (with_reducible show wpAny _ _ (exec (Stmt.While _ _ _ _) _) _ _ _)); (fail_if_success (with_reducible show wpAny _ _ (exec (Stmt.Assign [Expr.Name _ _] (Expr.ListComp _ _ _ _) _) _) _ _ _))))); (fail_if_success (with_reducible show wpAny _ _ (subscriptTail _ _ (Value.ref _) (Value.int _ _)) _ _ _)))); first | walk1 | (dsimp only; (((((((fail_if_success (with_reducible show wpAny _ _ (call (Value.builtin "dict.items") _ _) _ _ _)); (fail_if_success (with_reducible show wpAny _ _ (call (Value.type "range") _ _) _ _ _)); (fail_if_success (with_reducible show wpAny _ _ (call (Value.ref 112) _ _) _ _ _)); (fail_if_success (with_reducible show wpAny _ _ (eval (Expr.ListComp _ _ _ _) _) _ _ _)); (fail_if_success (with_reducible show wpAny _ _ (exec (Stmt.For _ _ _ _ _) _) _ _ _)); (fail_if_success (with_reducible show wpAny _ _ (exec (Stmt.While _ _ _ _) _) _ _ _)); (fail_if_success (with_reducible show wpAny _ _ (exec (Stmt.Assign [Expr.Name _ _] (Expr.ListComp _ _ _ _) _) _) _ _ _))))); (fail_if_success (with_reducible show wpAny _ _ (subscriptTail _ _ (Value.ref _) (Value.int _ _)) _ _ _))))); walk1)) | (leave1; walk_say "STEP leave1"; try dsimp only) | fail "no step"))
    have e1 : ((i : Int) + 1).toNat = i + 1 := by omega
    rw [e1]
    rename News _ _ _ _ => N9
    exact LCg.CompEnd.intro (by k_asm) N9 _ (fun p hp => .tail _ (.tail _ hp)) off trivial ⟨rfl, by
      rw [List.range_succ, List.map_append]
      exact hys.append (.cons _ _ .nil)⟩
  · rintro ys nw ⟨rfl, hys⟩
    intro D h tk F2 N2 off
    exact hnext _ _ D ys (by k_asm) N2 hys (off1_mem off)
end
end
section
local macro_rules | `(tactic| walk_at "m1 go") => `(tactic| first | exact List.Mem.head _ | (refine List.Mem.tail _ ?_; walk_at "m1 go") | (refine List.mem_append_right _ ?_; walk_at "m1 go") | (refine List.mem_append_left _ ?_; walk_at "m1 go") | assumption)
local macro_rules | `(tactic| walk_at "mem go") => `(tactic| first | exact List.forall_mem_nil _ | (refine List.forall_mem_cons.mpr (And.intro ?ma ?mb); (case ma => walk_at "m1 go"); (case mb => walk_at "mem go")) | (refine List.forall_mem_append.mpr (And.intro ?ma ?mb); (case ma => walk_at "mem go"); (case mb => walk_at "mem go")) | (intro p hp; walk_at "m1 go") | walk_at "m1 go")
theorem good_true {cl : PySem.Str → Option Addr} {mean : ExcName → Option Value} {args : List WData} {s₁ : Shared} {h' : Heap} {tk' : Tok} {gs' : Array GenState} (hk : ∀ b o, s₁.heap.get? b = some o → h'.get? b = some o) (hb : Bare gs') :
    GoodWG PySem.Challenge.rw_wa0038_01.row.claim cl mean args s₁ (.ok (.ret (.bool true))) { s₁ with heap := h', toks := tk', gens := gs' } :=
  ⟨.inl ⟨.bool true, .bool true, [], rfl, raisesW_false (by wrow_none_raised), .bool true, postW_of (by wrow_shape) (by wtm_val) (by rfl), fun _ => ⟨List.nodup_nil, fun a ha => nomatch ha⟩⟩, .of_keep hk, rfl, hb⟩
theorem bare_nil {gs : Array GenState} (h : gs = #[]) : Bare gs := by
  subst h
  intro y hy
  simp at hy
theorem lawTail3 {w : World} {mean : ExcName → Option Value} {mg mb : PySem.Str → Option Value} {base h₀ : Heap} {L fa : Addr} {cd : Value} {m : PySem.Str → Option Value} {s : Shared} {Q : Flow → Shared → Prop} {E : Value → Shared → Prop}
    (B : Below callerA base [] h₀) (F : Fr h₀ L s.heap m) (X : (hd.heap_39 w.params).In h₀) (T : Top hd.view_39 LO mean mg mb h₀)
    {lr dS : Addr} {rvv sv : List Value} {rw6 ss : List Int} {nr : Nat} {o1 o2 o3 o4 o5 o6 o7 o8 : Obj} {v3 v4 v5 v6 v7 v8 : Option Value}
    (N : News h₀ L s.heap [(lr, listOf rvv.toArray nr), (L + 1 + 1 + 1 + 1 + 1 + 1 + 1 + 1, o8), (L + 1 + 1 + 1 + 1 + 1 + 1 + 1, o7), (L + 1 + 1 + 1 + 1 + 1 + 1, o6), (L + 1 + 1 + 1 + 1 + 1, o5), (L + 1 + 1 + 1 + 1, o4), (L + 1 + 1 + 1, o3), (L + 1 + 1, o2), (L + 1, o1)])
    (ho1 : o1.data = .cell (some (.ref dS))) (ho2 : o2.data = .cell (some (.ref lr))) (ho3 : o3.data = .cell v3) (ho4 : o4.data = .cell v4) (ho5 : o5.data = .cell v5) (ho6 : o6.data = .cell v6) (ho7 : o7.data = .cell v7) (ho8 : o8.data = .cell v8)
    (hLs : h₀.IsList dS sv.toArray) (hss : IntsAre sv ss) (hsl : ss.length ≤ 63) (hrv : IntsAre rvv rw6) (hrl : rw6.length = 6)
    (hlt : @LT.lt Nat _ (L + 1 + 1 + 1 + 1 + 1 + 1 + 1 + 1) lr ∧ @LT.lt Nat _ (L + 1 + 1 + 1 + 1 + 1 + 1 + 1) lr ∧ @LT.lt Nat _ (L + 1 + 1 + 1 + 1 + 1 + 1) lr ∧ @LT.lt Nat _ (L + 1 + 1 + 1 + 1 + 1) lr ∧ @LT.lt Nat _ (L + 1 + 1 + 1 + 1) lr ∧ @LT.lt Nat _ (L + 1 + 1 + 1) lr ∧ @LT.lt Nat _ (L + 1 + 1) lr ∧ @LT.lt Nat _ (L + 1) lr)
    (hbare : Bare s.gens) (hret : ∀ h' tk' gs' m', Fr h₀ L h' m' → Bare gs' → Q (.ret (.bool true)) { s with heap := h', toks := tk', gens := gs' }) :
    wpAny (model PySem.Challenge.rw_wa0038_01.row.prog w) (lawA L fa cd) (execs (lawBody.drop 1) (lawEnv L fa cd)) Q E s := by
  refine stD1 B F X T (rest := [(L + 1 + 1 + 1 + 1 + 1 + 1 + 1 + 1, o8), (L + 1 + 1 + 1 + 1 + 1 + 1 + 1, o7), (L + 1 + 1 + 1 + 1 + 1 + 1, o6), (L + 1 + 1 + 1 + 1 + 1, o5), (L + 1 + 1 + 1 + 1, o4)]) (News.sub N (by walk_at "mem go")) ho1 ho2 ho3 hLs hss hsl hrv hrl (Nat.ne_of_gt hlt.2.2.2.2.2.1) ?_ ?_
  · exact List.forall_mem_cons.mpr ⟨by (((show @Ne Nat _ _); (try dsimp only); first | exact Nat.ne_of_lt (Nat.lt_add_of_pos_right (k := 1) (by decide)) | exact Nat.ne_of_lt (Nat.lt_add_of_pos_right (k := 2) (by decide)) | exact Nat.ne_of_lt (Nat.lt_add_of_pos_right (k := 3) (by decide)) | exact Nat.ne_of_lt (Nat.lt_add_of_pos_right (k := 4) (by decide)) | exact Nat.ne_of_lt (Nat.lt_add_of_pos_right (k := 5) (by decide)) | exact Nat.ne_of_lt (Nat.lt_add_of_pos_right (k := 6) (by decide)) | exact Nat.ne_of_lt (Nat.lt_add_of_pos_right (k := 7) (by decide)) | exact Nat.ne_of_gt (Nat.lt_add_of_pos_right (k := 1) (by decide)) | exact Nat.ne_of_gt (Nat.lt_add_of_pos_right (k := 2) (by decide)) | exact Nat.ne_of_gt (Nat.lt_add_of_pos_right (k := 3) (by decide)) | exact Nat.ne_of_gt (Nat.lt_add_of_pos_right (k := 4) (by decide)) | exact Nat.ne_of_gt (Nat.lt_add_of_pos_right (k := 5) (by decide)) | exact Nat.ne_of_gt (Nat.lt_add_of_pos_right (k := 6) (by decide)) | exact Nat.ne_of_gt (Nat.lt_add_of_pos_right (k := 7) (by decide)) | omega)), List.forall_mem_cons.mpr ⟨by (((show @Ne Nat _ _); (try dsimp only); first | exact Nat.ne_of_lt (Nat.lt_add_of_pos_right (k := 1) (by decide)) | exact Nat.ne_of_lt (Nat.lt_add_of_pos_right (k := 2) (by decide)) | exact Nat.ne_of_lt (Nat.lt_add_of_pos_right (k := 3) (by decide)) | exact Nat.ne_of_lt (Nat.lt_add_of_pos_right (k := 4) (by decide)) | exact Nat.ne_of_lt (Nat.lt_add_of_pos_right (k := 5) (by decide)) | exact Nat.ne_of_lt (Nat.lt_add_of_pos_right (k := 6) (by decide)) | exact Nat.ne_of_lt (Nat.lt_add_of_pos_right (k := 7) (by decide)) | exact Nat.ne_of_gt (Nat.lt_add_of_pos_right (k := 1) (by decide)) | exact Nat.ne_of_gt (Nat.lt_add_of_pos_right (k := 2) (by decide)) | exact Nat.ne_of_gt (Nat.lt_add_of_pos_right (k := 3) (by decide)) | exact Nat.ne_of_gt (Nat.lt_add_of_pos_right (k := 4) (by decide)) | exact Nat.ne_of_gt (Nat.lt_add_of_pos_right (k := 5) (by decide)) | exact Nat.ne_of_gt (Nat.lt_add_of_pos_right (k := 6) (by decide)) | exact Nat.ne_of_gt (Nat.lt_add_of_pos_right (k := 7) (by decide)) | omega)), List.forall_mem_cons.mpr ⟨by (((show @Ne Nat _ _); (try dsimp only); first | exact Nat.ne_of_lt (Nat.lt_add_of_pos_right (k := 1) (by decide)) | exact Nat.ne_of_lt (Nat.lt_add_of_pos_right (k := 2) (by decide)) | exact Nat.ne_of_lt (Nat.lt_add_of_pos_right (k := 3) (by decide)) | exact Nat.ne_of_lt (Nat.lt_add_of_pos_right (k := 4) (by decide)) | exact Nat.ne_of_lt (Nat.lt_add_of_pos_right (k := 5) (by decide)) | exact Nat.ne_of_lt (Nat.lt_add_of_pos_right (k := 6) (by decide)) | exact Nat.ne_of_lt (Nat.lt_add_of_pos_right (k := 7) (by decide)) | exact Nat.ne_of_gt (Nat.lt_add_of_pos_right (k := 1) (by decide)) | exact Nat.ne_of_gt (Nat.lt_add_of_pos_right (k := 2) (by decide)) | exact Nat.ne_of_gt (Nat.lt_add_of_pos_right (k := 3) (by decide)) | exact Nat.ne_of_gt (Nat.lt_add_of_pos_right (k := 4) (by decide)) | exact Nat.ne_of_gt (Nat.lt_add_of_pos_right (k := 5) (by decide)) | exact Nat.ne_of_gt (Nat.lt_add_of_pos_right (k := 6) (by decide)) | exact Nat.ne_of_gt (Nat.lt_add_of_pos_right (k := 7) (by decide)) | omega)), List.forall_mem_cons.mpr ⟨by (((show @Ne Nat _ _); (try dsimp only); first | exact Nat.ne_of_lt (Nat.lt_add_of_pos_right (k := 1) (by decide)) | exact Nat.ne_of_lt (Nat.lt_add_of_pos_right (k := 2) (by decide)) | exact Nat.ne_of_lt (Nat.lt_add_of_pos_right (k := 3) (by decide)) | exact Nat.ne_of_lt (Nat.lt_add_of_pos_right (k := 4) (by decide)) | exact Nat.ne_of_lt (Nat.lt_add_of_pos_right (k := 5) (by decide)) | exact Nat.ne_of_lt (Nat.lt_add_of_pos_right (k := 6) (by decide)) | exact Nat.ne_of_lt (Nat.lt_add_of_pos_right (k := 7) (by decide)) | exact Nat.ne_of_gt (Nat.lt_add_of_pos_right (k := 1) (by decide)) | exact Nat.ne_of_gt (Nat.lt_add_of_pos_right (k := 2) (by decide)) | exact Nat.ne_of_gt (Nat.lt_add_of_pos_right (k := 3) (by decide)) | exact Nat.ne_of_gt (Nat.lt_add_of_pos_right (k := 4) (by decide)) | exact Nat.ne_of_gt (Nat.lt_add_of_pos_right (k := 5) (by decide)) | exact Nat.ne_of_gt (Nat.lt_add_of_pos_right (k := 6) (by decide)) | exact Nat.ne_of_gt (Nat.lt_add_of_pos_right (k := 7) (by decide)) | omega)), List.forall_mem_cons.mpr ⟨by (((show @Ne Nat _ _); (try dsimp only); first | exact Nat.ne_of_lt (Nat.lt_add_of_pos_right (k := 1) (by decide)) | exact Nat.ne_of_lt (Nat.lt_add_of_pos_right (k := 2) (by decide)) | exact Nat.ne_of_lt (Nat.lt_add_of_pos_right (k := 3) (by decide)) | exact Nat.ne_of_lt (Nat.lt_add_of_pos_right (k := 4) (by decide)) | exact Nat.ne_of_lt (Nat.lt_add_of_pos_right (k := 5) (by decide)) | exact Nat.ne_of_lt (Nat.lt_add_of_pos_right (k := 6) (by decide)) | exact Nat.ne_of_lt (Nat.lt_add_of_pos_right (k := 7) (by decide)) | exact Nat.ne_of_gt (Nat.lt_add_of_pos_right (k := 1) (by decide)) | exact Nat.ne_of_gt (Nat.lt_add_of_pos_right (k := 2) (by decide)) | exact Nat.ne_of_gt (Nat.lt_add_of_pos_right (k := 3) (by decide)) | exact Nat.ne_of_gt (Nat.lt_add_of_pos_right (k := 4) (by decide)) | exact Nat.ne_of_gt (Nat.lt_add_of_pos_right (k := 5) (by decide)) | exact Nat.ne_of_gt (Nat.lt_add_of_pos_right (k := 6) (by decide)) | exact Nat.ne_of_gt (Nat.lt_add_of_pos_right (k := 7) (by decide)) | omega)), List.forall_mem_nil _⟩⟩⟩⟩⟩
  intro h1 tk1 dd drv ds o3' F1 N1 ho3' hdr hdl hdb hfd
  try dsimp only
  refine stD2 B F1 X T (rest := [(lr, listOf rvv.toArray nr), (L + 1 + 1, o2), (L + 1, o1), (L + 1 + 1 + 1 + 1 + 1 + 1 + 1 + 1, o8), (L + 1 + 1 + 1 + 1 + 1 + 1 + 1, o7), (L + 1 + 1 + 1 + 1 + 1 + 1, o6), (L + 1 + 1 + 1 + 1 + 1, o5), (L + 1 + 1 + 1 + 1, o4)]) (News.sub N1 (by walk_at "mem go")) ho3' hdr hdl hdb ?_
  intro h2 tk2 dn numv F2 N2 hnum hfn
  try dsimp only
  exact lawTail B F2 X T (dn := dn) (dd := dd) (o1 := o1) (o3 := o3') (o4 := o4) (o5 := o5) (o6 := o6) (o7 := o7) (o8 := o8) (News.sub N2 (by walk_at "mem go")) ho1 ho3' ho4 ho5 ho6 ho7 ho8 hLs hss hsl hdr hdl hdb hnum (if_pos rfl)
    (off8_of (L := L) (o1 := o1) (o3 := o3') (o4 := o4) (o5 := o5) (o6 := o6) (o7 := o7) (o8 := o8) hfn (by walk_at "mem go"))
    (off8_of (L := L) (o1 := o1) (o3 := o3) (o4 := o4) (o5 := o5) (o6 := o6) (o7 := o7) (o8 := o8) hfd (by walk_at "mem go")) hbare hret
set_option maxRecDepth 100000 in
set_option maxHeartbeats 80000000 in
set_option pp.deepTerms false in
set_option pp.deepTerms.threshold 4 in
theorem lawT : PySem.Challenge.rw_wa0038_01.Holds := hd (by
  w_strict (((
  k_fill
  intro w s₀ s₁ mg mb G Y fa o pm cd doc dV kV ho hd hcd hD hmg hg args vals as hpre hlay hrd hwl hlo
  have KX := kIn_of Y
  have X := (Ground.X G).1
  have V := (Ground.X G).2
  (try w_nolog (first | (have GL := glob_more (Ground.glob G (by first | k_qdec | decide +kernel)) V) | (have GL := glob_more (Ground.glob G (by decide +kernel)) V)))
  refine Ground.open G ?_
  intro T B D TE TW
  (try (refine guard_noD D (by decide +kernel) ?_; clear D))
  obtain ⟨_, _, M⟩ := bmod_of_top T
  have TA := at_of_top T
  (try (obtain ⟨_, _, he, B0⟩ := based_of_top T rfl hmg ho hd; have he' : cd = _ := he; subst he'; clear he))
  clear hmg
  wrow_args hpre hlay hrd hwl hlo
  all_goals (
    (first | refine callC_kw (enter_call ?_) | refine enter_call ?_ | refine callC_kw (enter_callW ?_) | refine enter_callW ?_ | w_how)
    w_top on
    have K0 := below_caller (Top.heap T)
    w_call any ho hd hcd hD T F
    clear hd TA
    k_drop
    skip))); (all_goals try k_fold); (repeat' (first | ((((fail_if_success (with_reducible show wpAny _ _ (call (Value.ref 66) _ _) _ _ _)); (fail_if_success (with_reducible show wpAny _ _ (execs (Stmt.Assign [Expr.Name (PySem.Str.ofString "draws") _] _ _ :: _) _) _ _ _)); (fail_if_success (with_reducible show wpAny _ _ (exec (Stmt.For _ _ _ _ _) _) _ _ _)); (fail_if_success (with_reducible show wpAny _ _ (exec (Stmt.While _ _ _ _) _) _ _ _)))); k_unfold; (try dsimp only)) | (k_end; wrow_close) | ((((fail_if_success (with_reducible show wpAny _ _ (call (Value.ref 66) _ _) _ _ _)); (fail_if_success (with_reducible show wpAny _ _ (execs (Stmt.Assign [Expr.Name (PySem.Str.ofString "draws") _] _ _ :: _) _) _ _ _)); (fail_if_success (with_reducible show wpAny _ _ (exec (Stmt.For _ _ _ _ _) _) _ _ _)); (fail_if_success (with_reducible show wpAny _ _ (exec (Stmt.While _ _ _ _) _) _ _ _)))); first | walk1 | (dsimp only; ((((fail_if_success (with_reducible show wpAny _ _ (call (Value.ref 66) _ _) _ _ _)); (fail_if_success (with_reducible show wpAny _ _ (execs (Stmt.Assign [Expr.Name (PySem.Str.ofString "draws") _] _ _ :: _) _) _ _ _)); (fail_if_success (with_reducible show wpAny _ _ (exec (Stmt.For _ _ _ _ _) _) _ _ _)); (fail_if_success (with_reducible show wpAny _ _ (exec (Stmt.While _ _ _ _) _) _ _ _))))); walk1)) | (leave1; walk_say "STEP leave1"; try dsimp only) | fail "no step")); ((
  (rename IntsAre _ _ => hIs)
  (rename News _ _ _ _ => hN)
  (rename Fr _ _ _ _ => hF)
  (rename Below callerA _ _ _ => hB)
  (rename Shared.gens _ = #[] => hg)
  (refine lawTail3 hB hF (by assumption) (by assumption) hN (by assumption) (by assumption) (by assumption) (by assumption) (by assumption) (by assumption) (by assumption) (by assumption) (by assumption) hIs (by omega) (.cons _ _ (.cons _ _ (.cons _ _ (.cons _ _ (.cons _ _ (.cons _ _ .nil)))))) (by rfl) (by assumption) (bare_nil hg) ?_)
  (intro h' tk' gs' m' F' hb)
  (exact good_true F'.keep hb)))))
end
end Mine
set_option maxRecDepth 100000 in
set_option maxHeartbeats 8000000 in
theorem PySem.Challenge.cw_wa0038_01_holds : PySem.Challenge.rw_wa0038_01.Holds := by
  exact Mine.lawT
