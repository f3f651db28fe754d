import PyProof.Rows.All
import Wide.All
import OpenK.AllK
import Wide.FinOn
import PySem.Challenge.RW_wj0069_01
set_option Elab.async false
section
open PySem PySem.W PyProof.Rows
set_option maxRecDepth 100000
set_option maxHeartbeats 8000000
namespace Mine
open_top hd for PySem.Challenge.rw_wj0069_01
end Mine
end

section
open PySem PySem.W PyProof.Rows PySem.Calls PySem.Spec
set_option maxRecDepth 100000
namespace Mine
theorem plain_pat : PlainAttrs "re.Pattern" :=
  ⟨⟨"object.__getattribute__", by rw [typeLookup_type, builtinLookup_eq_fast]; kernel_rfl, by decide +kernel⟩, by rw [typeLookup_type, builtinLookup_eq_fast]; kernel_rfl⟩
theorem slot_search : Slot "re.Pattern" "search" "re.Pattern.search" :=
  .of (owner := "re.Pattern") (n := "search") (by rw [typeLookup_type, builtinLookup_eq_fast]; kernel_rfl) (by decide +kernel) (by decide +kernel) (by decide +kernel)
    (by first | exact .inl (by decide +kernel) | exact .inr (by decide +kernel)) (by rw [isSubtype_type]; kernel_rfl)
theorem ty_search : typeOf (.builtin "re.Pattern.search") = pure (.type "method_descriptor") := by show builtinType _ = _; rw [builtinType_eq_fast]; kernel_rfl
theorem en_search : entryFor table "re.Pattern.search" = some Builtin.«re.Pattern.search» := entryFor_of_tree (by kernel_rfl)
theorem slot_sub : Slot "re.Pattern" "sub" "re.Pattern.sub" :=
  .of (owner := "re.Pattern") (n := "sub") (by rw [typeLookup_type, builtinLookup_eq_fast]; kernel_rfl) (by decide +kernel) (by decide +kernel) (by decide +kernel)
    (by first | exact .inl (by decide +kernel) | exact .inr (by decide +kernel)) (by rw [isSubtype_type]; kernel_rfl)
theorem ty_sub : typeOf (.builtin "re.Pattern.sub") = pure (.type "method_descriptor") := by show builtinType _ = _; rw [builtinType_eq_fast]; kernel_rfl
theorem en_sub : entryFor table "re.Pattern.sub" = some Builtin.«re.Pattern.sub» := entryFor_of_tree (by kernel_rfl)
theorem en_loop : entryFor table "re.Pattern.sub.loop" = some Builtin.«re.Pattern.sub.loop» := entryFor_of_tree (by kernel_rfl)
theorem owner_pat : Manifest.owners.lookup (String.ofList ['n', 'r', 'e', 't', 't', 'a', 'P', '.', 'e', 'r'].reverse) = some Manifest.sig_re_Pattern := by kernel_rfl
theorem ar_search (a b : Value) : argsOk "re.Pattern.search" ⟨[a, b], []⟩ := by
  unfold argsOk; rw [signature?_of (id := "re.Pattern.search") (n := ['h', 'c', 'r', 'a', 'e', 's']) (o := ['n', 'r', 'e', 't', 't', 'a', 'P', '.', 'e', 'r']) (by kernel_rfl) owner_pat]; kernel_rfl
theorem ar_sub (a b c : Value) : argsOk "re.Pattern.sub" ⟨[a, b, c], []⟩ := by
  unfold argsOk; rw [signature?_of (id := "re.Pattern.sub") (n := ['b', 'u', 's']) (o := ['n', 'r', 'e', 't', 't', 'a', 'P', '.', 'e', 'r']) (by kernel_rfl) owner_pat]; kernel_rfl

open PySem.Builtin.Re
section
variable {M : Model} {A : Around} {E : Value → Shared → Prop} {s : Shared}
theorem wp_rules {l : List Nat} {c : Nat → Bool} {nm : Nat → String} {Q : PUnit → Shared → Prop} (h : Q PUnit.unit s) :
    wpAny M A (forIn l PUnit.unit fun (i : Nat) (r : PUnit) => (if c i = true then (do rule (nm i); pure (ForInStep.yield PUnit.unit)) else pure (ForInStep.yield PUnit.unit) : Sem (ForInStep PUnit))) Q E s := by
  refine wpAny_forIn_list _ (fun _ _ s' => s' = s) _ (fun x rest b s' hs => ?_) (fun b s' hs => by subst hs; exact h) _ _ rfl
  subst hs
  split
  · exact wpAny_bind (wpAny_rule (wpAny_pure rfl))
  · exact wpAny_pure rfl
def drv : Nat → Sre.M → Option Sre.M
  | 0, _ => none
  | k + 1, m => if (m.runFor reTurnSteps).outcome.isSome then some (m.runFor reTurnSteps) else drv k (m.runFor reTurnSteps)
theorem wp_drive : ∀ {k n : Nat} {m m' : Sre.M} {Q : Sre.M → Shared → Prop}, drv k m = some m' → k ≤ n → Q m' s → wpAny M A (reDrive n m) Q E s
  | 0, _, _, _, _, h, _, _ => nomatch h
  | k + 1, 0, _, _, _, _, h, _ => absurd h (Nat.not_succ_le_zero _)
  | k + 1, n + 1, m, m', Q, h, hn, hQ => by
    unfold drv at h
    unfold reDrive
    by_cases q : (m.runFor reTurnSteps).outcome.isSome = true
    · rw [if_pos q] at h
      cases h
      show wpAny M A (if _ then _ else _) Q E s
      rw [if_pos q]
      exact wpAny_pure hQ
    · rw [if_neg q] at h
      show wpAny M A (if _ then _ else _) Q E s
      rw [if_neg q]
      exact wpAny_bind (wpAny_rule (wp_drive h (Nat.le_of_succ_le_succ hn) hQ))
def endsIn (m : Sre.M) (r : Option Sre.M) : Prop := match m.outcome with
  | some .matched => r = some m
  | some .failed => r = none
  | _ => False
theorem wp_toEnd {k : Nat} {m m' : Sre.M} {r : Option Sre.M} {Q : Option Sre.M → Shared → Prop} (h : drv k m = some m') (hk : k ≤ 2 ^ 64) (hr : endsIn m' r) (hQ : Q r s) : wpAny M A (reRunToEnd m) Q E s := by
  unfold reRunToEnd
  refine wpAny_bind (wp_drive h hk ?_)
  refine wpAny_bind ?_
  refine wp_rules ?_
  unfold endsIn at hr
  split at hr
  · rename_i e
    subst hr
    rw [e]
    exact wpAny_pure hQ
  · rename_i e
    subst hr
    rw [e]
    exact wpAny_pure hQ
  · exact hr.elim
end
end Mine
end

section
open PySem PySem.W PyProof.Rows PySem.Calls PySem.Spec
set_option maxRecDepth 100000
namespace Mine
open PySem.Builtin.Re
def nameCode : Array Nat := #[14, 10, 4, 1, 1, 22, 0, 31, 16, 127, 0, 13, 7, 22, 0, 31, 16, 127, 0, 1]
def valueCode : Array Nat := #[14, 14, 4, 1, 1, 9, 4294966783, 0, 0, 2147483648, 0, 0, 0, 0, 0, 13, 11, 9, 4294966783, 0, 0, 2147483648, 0, 0, 0, 0, 0, 1]
def printable (x : Str) : Bool := x.cps.all fun c => Nat.ble 32 c && Nat.blt c 127
theorem printable_at {x : Str} (h : printable x = true) {i : Nat} (hi : i < x.cps.size) : 32 ≤ x.cps.getD i 0 ∧ x.cps.getD i 0 < 127 := by
  unfold printable at h
  rw [Array.all_eq_true] at h
  have := h i hi
  simp only [Bool.and_eq_true, Nat.ble_eq, Nat.blt_eq] at this
  simpa [Array.getD, hi] using this
theorem bits_off : ∀ c, c < 127 → 32 ≤ c → (valueCode.getD (5 + (1 + c / 32)) 0).testBit (c % 32) = false := by decide
theorem inSet_name {c : Nat} (h1 : 32 ≤ c) (h2 : c < 127) (seen : Sre.Seen) : ∃ seen', Sre.inSet nameCode c nameCode.size 5 true seen = .ok (false, seen') := by
  refine ⟨((seen.add 22).add 16).add 0, ?_⟩
  show Sre.inSet nameCode c (17 + 1 + 1 + 1) 5 true seen = _
  unfold Sre.inSet
  have e1 : (Nat.ble 0 c && Nat.ble c 31) = false := by
    rw [Bool.and_eq_false_iff]; right; rw [← Bool.not_eq_true, Nat.ble_eq]; omega
  show (if (decide (0 ≤ c) && decide (c ≤ 31)) = true then _ else Sre.inSet nameCode c (17 + 1 + 1) 8 true (seen.add 22)) = _
  rw [if_neg (by simp; omega)]
  unfold Sre.inSet
  show (if (c == 127) = true then _ else Sre.inSet nameCode c (17 + 1) 10 true ((seen.add 22).add 16)) = _
  rw [if_neg (by simp; omega)]
  rfl
theorem inSet_value {c : Nat} (h1 : 32 ≤ c) (h2 : c < 127) (seen : Sre.Seen) : ∃ seen', Sre.inSet valueCode c valueCode.size 5 true seen = .ok (false, seen') := by
  refine ⟨(seen.add 9).add 0, ?_⟩
  show Sre.inSet valueCode c (26 + 1 + 1) 5 true seen = _
  unfold Sre.inSet
  show (if (decide (c < 256) && (valueCode.getD (5 + (1 + c / 32)) 0).testBit (c % 32)) = true then _ else Sre.inSet valueCode c (26 + 1) 14 true (seen.add 9)) = _
  rw [bits_off c h2 h1, Bool.and_false, if_neg Bool.false_ne_true]
  rfl
def printCode (code : Array Nat) : Prop := code = nameCode ∨ code = valueCode
theorem inSet_print {code : Array Nat} (hc : printCode code) {c : Nat} (h1 : 32 ≤ c) (h2 : c < 127) (seen : Sre.Seen) : ∃ seen', Sre.inSet code c code.size 5 true seen = .ok (false, seen') := by
  rcases hc with rfl | rfl
  · exact inSet_name h1 h2 seen
  · exact inSet_value h1 h2 seen
theorem admitted_none {x : Str} (hx : printable x = true) : ∀ (fuel : Nat) (m : Sre.M) (i : Nat) (seen : Sre.Seen), printCode m.code → m.text = x.cps → m.lim ≤ x.cps.size → ∃ seen', m.admitted fuel i seen = .ok (none, seen')
  | 0, _, _, seen, _, _, _ => ⟨seen, rfl⟩
  | fuel + 1, m, i, seen, hc, ht, hl => by
    unfold Sre.M.admitted
    by_cases hi : i ≥ m.lim
    · exact ⟨seen, if_pos hi⟩
    · rw [if_neg hi, ht]
      have p := printable_at hx (i := i) (by omega)
      obtain ⟨seen', e⟩ := inSet_print hc p.1 p.2 seen
      rw [e]
      exact admitted_none hx fuel m (i + 1) seen' hc ht hl
theorem adm_some {x : Str} (hx : printable x = true) {fuel : Nat} {m : Sre.M} {i k : Nat} {seen sn : Sre.Seen} (e : m.admitted fuel i seen = .ok (some k, sn)) (hc : printCode m.code) (ht : m.text = x.cps) (hl : m.lim ≤ x.cps.size) : False := by
  obtain ⟨seen', e'⟩ := admitted_none hx fuel m i seen hc ht hl
  rw [e'] at e
  cases e
theorem adm_err {x : Str} (hx : printable x = true) {fuel : Nat} {m : Sre.M} {i : Nat} {seen : Sre.Seen} {why : String} (e : m.admitted fuel i seen = .error why) (hc : printCode m.code) (ht : m.text = x.cps) (hl : m.lim ≤ x.cps.size) : False := by
  obtain ⟨seen', e'⟩ := admitted_none hx fuel m i seen hc ht hl
  rw [e'] at e
  cases e
def SaidNo (m : Sre.M) : Prop := m.outcome = none ∧ m.answer = some false ∧ m.frames = []
theorem saidNo_drv {m : Sre.M} (h : SaidNo m) : ∃ m', drv 1 m = some m' ∧ endsIn m' none := by
  obtain ⟨h1, h2, h3⟩ := h
  have e : m.runFor reTurnSteps = { m with outcome := some .failed } := by
    have e1 : m.step = { m with outcome := some .failed } := by
      unfold Sre.M.step
      rw [h1, h2, h3]
      rfl
    show (if m.outcome.isSome = true then m else Sre.M.runFor 3 m.step) = _
    rw [h1, e1]
    rfl
  refine ⟨{ m with outcome := some .failed }, ?_, ?_⟩
  · unfold drv
    rw [e]
    rfl
  · unfold endsIn
    rfl
theorem search_no {code : Array Nat} {x : Str} (hc : printCode code) (hx : printable x = true) {lim : Nat} (hl : lim ≤ x.cps.size) : SaidNo (Sre.forSearch code x.cps 0 0 lim false) := by
  have h1 : (Sre.header code).1 = 1 := by rcases hc with rfl | rfl <;> rfl
  have h2 : ((Sre.header code).2 != 0 && code.getD 2 0 &&& 5 != 0) = true := by rcases hc with rfl | rfl <;> rfl
  unfold Sre.forSearch
  dsimp only
  rw [h1]
  by_cases hp : (decide (0 > lim) || decide (lim - 0 < 1)) = true
  · rw [if_pos hp]
    exact ⟨rfl, rfl, rfl⟩
  · rw [if_neg hp]
    unfold Sre.M.attemptFrom
    have h3 : ∀ m : Sre.M, m.code = code → m.hasFirstSet = true := fun m e => by
      unfold Sre.M.hasFirstSet
      rw [e]
      rcases hc with rfl | rfl <;> rfl
    rw [h3 _ rfl, if_neg (by decide)]
    split
    · rename_i e
      exact (adm_some hx e hc rfl hl).elim
    · exact ⟨rfl, rfl, rfl⟩
    · rename_i e
      exact (adm_err hx e hc rfl hl).elim

section
variable {prog : Program} {w : World} {A : Around} {E : Value → Shared → Prop} {s : Shared}
abbrev patObj (pat flags k : Value) (c : Addr) : Obj := { cls := .type "re.Pattern", data := .fields #[pat, flags, .int 0 0, .none, .none, .ref c, k] }
theorem named_search (t : Value) : reNamed "re.Pattern.search" "search" ["string", "pos", "endpos"] 1 [t] [] = pure [some t, none, none] := by rfl
theorem text_str (x : Str) (t : Tok) : reTextOf (.str x t) = pure (x.cps, 0) := by rfl
theorem no_coll_str (x : Str) (t : Tok) : reNoCollectionInside (.str x t) 0 = pure () := by rfl
theorem wp_search {p c : Addr} {x : Str} {t : Tok} {pat flags : Value} {k0 : Tok} {items : Array Value} {n : Nat} {code : Array Nat} {Q : Value → Shared → Prop}
    (hp : s.heap.get? p = some (patObj pat flags (.int 0 k0) c)) (hc : s.heap.get? c = some { cls := .type "tuple", data := .seq items n })
    (hcode : (items.map reRawOf).map Int.toNat = code) (hpc : printCode code) (hx : printable x = true) (h : Q .none s) :
    wpAny (model prog w) A (call (.builtin "re.Pattern.search") [.ref p, .str x t]) Q E s := by
  refine wpAny_call (codeAny_call_builtin slot_search.plain en_search (slot_search.check _ _ _ _ _ _ _ _ ⟨_, hp, rfl⟩ (ar_search _ _) ?_))
  unfold Builtin.«re.Pattern.search» reTarget
  dsimp only
  rw [named_search]
  refine wpAny_bind (wpAny_bind (wpAny_pure ?_))
  dsimp only
  refine wpAny_bind (wpAny_pure (wpAny_bind (wpAny_pure (wpAny_bind (wpAny_fieldsOf hp rfl ?_)))))
  refine wpAny_bind (wpAny_of_eq (text_str x t) ?_)
  dsimp only
  refine wpAny_ite_false (by rfl) (wpAny_ite_false (by rfl) ?_)
  refine wpAny_bind (wpAny_of_eq (no_coll_str _ _) ?_)
  refine wpAny_bind (wpAny_bind (wpAny_seqItems hc rfl (wpAny_pure ?_)))
  refine wpAny_pure ?_
  dsimp only [Option.getD]
  rw [hcode]
  unfold reAnswer
  obtain ⟨m', e1, e2⟩ := saidNo_drv (search_no (lim := min (2 ^ 63 - 1 : Int).toNat x.cps.size) hpc hx (Nat.min_le_right _ _))
  refine wpAny_bind (wp_toEnd (k := 1) (m' := m') (r := none) ?_ (by decide) e2 ?_)
  · exact e1
  · exact wpAny_pure h
end
end Mine
end

section
open PySem PySem.W PyProof.Rows PySem.Calls PySem.Spec
set_option maxRecDepth 100000
namespace Mine
open PySem.Builtin PySem.Builtin.Re
theorem slot_bcount : Slot "bytes" "count" "bytes.count" :=
  .of (owner := "bytes") (n := "count") (by rw [typeLookup_type, builtinLookup_eq_fast]; kernel_rfl) (by decide +kernel) (by decide +kernel) (by decide +kernel)
    (by first | exact .inl (by decide +kernel) | exact .inr (by decide +kernel)) (by rw [isSubtype_type]; kernel_rfl)
theorem ty_bcount : typeOf (.builtin "bytes.count") = pure (.type "method_descriptor") := by show builtinType _ = _; rw [builtinType_eq_fast]; kernel_rfl
theorem en_bcount : entryFor table "bytes.count" = some Builtin.«bytes.count» := entryFor_of_tree (by kernel_rfl)
theorem ar_bcount (a b : Value) : argsOk "bytes.count" ⟨[a, b], []⟩ := by
  unfold argsOk; rw [signature?_of (id := "bytes.count") (n := ['t', 'n', 'u', 'o', 'c']) (o := ['s', 'e', 't', 'y', 'b']) (by kernel_rfl) PySem.W.FB.owner_bytes]; kernel_rfl
theorem slot_bjoin : Slot "bytes" "join" "bytes.join" :=
  .of (owner := "bytes") (n := "join") (by rw [typeLookup_type, builtinLookup_eq_fast]; kernel_rfl) (by decide +kernel) (by decide +kernel) (by decide +kernel)
    (by first | exact .inl (by decide +kernel) | exact .inr (by decide +kernel)) (by rw [isSubtype_type]; kernel_rfl)
theorem en_bjoin : entryFor table "bytes.join" = some Builtin.«bytes.join» := entryFor_of_tree (by kernel_rfl)
theorem ar_bjoin (a b : Value) : argsOk "bytes.join" ⟨[a, b], []⟩ := by
  unfold argsOk; rw [signature?_of (id := "bytes.join") (n := ['n', 'i', 'o', 'j']) (o := ['s', 'e', 't', 'y', 'b']) (by kernel_rfl) PySem.W.FB.owner_bytes]; kernel_rfl
def cnt (b c : Array UInt8) : Int := if b.size < c.size then 0 else ((Bytes.occurrences b c 0 b.size).length : Int)
theorem gives_bcount (b c : Array UInt8) (t u : Tok) (hc : c.isEmpty = false) : Gives (Builtin.«bytes.count» ⟨[.bytes b t, .bytes c u], []⟩) (.int (cnt b c)) := by
  refine .of_wp fun M A E s Q hq => ?_
  unfold Builtin.«bytes.count» Bytes.countM Bytes.searchArgs
  dsimp only
  refine wpAny_bind (wpAny_bind (wpAny_of_eq (a := (.bytes b t, [.bytes c u])) (by rfl) ?_))
  refine wpAny_bind (wpAny_of_eq (a := none) (by rfl) (wpAny_bind (wpAny_of_eq (a := none) (by rfl) ?_)))
  refine wpAny_bind (wpAny_of_eq (KBy.buffer_eq (b := c) (t := u)) ?_)
  dsimp only
  refine wpAny_bind (wpAny_pure ?_)
  refine wpAny_bind (wpAny_of_eq (a := b) (by rfl) ?_)
  refine wpAny_pure ?_
  have e1 : (Bytes.window b.size none none).1 = 0 := rfl
  have e2 : (Bytes.window b.size none none).2 = (b.size : Int) := by
    show min (b.size : Int) (if (b.size : Int) < 0 then max 0 ((b.size : Int) + b.size) else (b.size : Int)) = _
    rw [if_neg (by omega)]
    omega
  dsimp only
  rw [e1, e2]
  have hc' : ¬ c.size = 0 := fun e => by rw [Array.isEmpty, e] at hc; cases hc
  have hq' : Q (.int (cnt b c) s.toks) { s with toks := s.toks + 1 } := hq
  by_cases hs : (b.size : Int) - 0 < (c.size : Int)
  · rw [if_pos hs]
    have e : cnt b c = 0 := if_pos (by omega)
    rw [e] at hq'
    exact wpAny_bind (wpAny_mkInt (wpAny_pure ⟨_, rfl, hq'⟩))
  · rw [if_neg hs]
    have e : cnt b c = _ := if_neg (by omega)
    rw [e] at hq'
    dsimp only
    rw [hc, if_neg Bool.false_ne_true]
    exact wpAny_bind (wpAny_mkInt (wpAny_pure ⟨_, rfl, hq'⟩))
section
variable {M : Model} {prog : Program} {w : World} {A : Around} {E : Value → Shared → Prop} {s : Shared}
theorem getm_bcount {b : Array UInt8} {t : Tok} {pl : Sem Bool} {Q : Value × List Value → Shared → Prop} (h : Q (.builtin "bytes.count", [.bytes b t]) s) : wpAny (model prog w) A (getMethod (.bytes b t) "count" pl) Q E s :=
  getMethod_builtin (T := "bytes") rfl PySem.W.FB.plainAttrs_bytes slot_bcount ty_bcount (fun _ e => nomatch e) h
theorem wp_bcount {b c : Array UInt8} {t u : Tok} {Q : Value → Shared → Prop} (hc : c.isEmpty = false) (h : Q (.int (cnt b c) s.toks) { s with toks := s.toks + 1 }) : wpAny (model prog w) A (call (.builtin "bytes.count") [.bytes b t, .bytes c u]) Q E s :=
  call_gives slot_bcount (T := "bytes") rfl en_bcount (ar_bcount _ _) (gives_bcount b c t u hc) h
theorem wp_letGo (keep : List Value) : ∀ (l : List Value) {Q : Unit → Shared → Prop}, Q () s → wpAny M A (letGo l keep) Q E s
  | [], _, h => wpAny_pure h
  | _ :: r, _, h => wpAny_bind (wpAny_holding (wpAny_point (wp_letGo keep r h)))
theorem wp_joinLetGo (keep : List Value) : ∀ (l : List (Value × Option Value)) {Q : Unit → Shared → Prop}, (∀ p ∈ l, p.2 = none) → Q () s → wpAny M A (Bytes.joinLetGo l keep) Q E s
  | [], _, _, h => wpAny_pure h
  | (x, w) :: r, _, hn, h => by
    have : w = none := hn _ (.head _)
    subst this
    unfold Bytes.joinLetGo
    exact wpAny_bind (wp_letGo _ _ (wp_joinLetGo keep r (fun p hp => hn p (.tail _ hp)) h))
theorem take_eq {b : Array UInt8} {t : Tok} {id : String} : Bytes.takeBufferQuiet? id (.bytes b t) 0 = pure (some (b, none)) := by
  unfold Bytes.takeBufferQuiet? Bytes.takeBuffer?
  have e : ((0 : Int) == Bytes.fullReadOnly) = false := by decide
  rw [KBy.special_eq KBy.look_buffer, KBy.own_buffer, e, KBy.buffer_eq]
  kernel_rfl
abbrev bvals (xs : List (Array UInt8 × Tok)) : List Value := xs.map fun p => .bytes p.1 p.2
theorem wp_join {xs : List (Array UInt8 × Tok)} {u : Tok} {l : Addr} {n : Nat} {Q : Value → Shared → Prop} {sep : Array UInt8} (hne : xs ≠ []) (hl : s.heap.get? l = some (listOf (bvals xs).toArray n))
    (hfit : Bytes.tooLong ((xs.map (·.1)).toArray.foldl (· + ·.size) (sep.size * (xs.length - 1))) = false) (hsz : (Bytes.joined sep (xs.map (·.1))).size ≤ sizeLine)
    (h1 : ∀ x t, xs = [(x, t)] → Q (.bytes x t) s) (h : Q (.bytes (Bytes.joined sep (xs.map (·.1))) s.toks) { s with toks := s.toks + 1 }) :
    wpAny (model prog w) A (call (.builtin "bytes.join") [.bytes sep u, .ref l]) Q E s := by
  refine wpAny_call (codeAny_call_builtin slot_bjoin.plain en_bjoin (slot_bjoin.check _ _ _ _ _ _ _ _ rfl (ar_bjoin _ _) ?_))
  unfold Builtin.«bytes.join» Bytes.joinM
  dsimp only
  refine wpAny_bind (wpAny_of_eq (a := (.bytes sep u, .ref l)) (by rfl) ?_)
  refine wpAny_ite_true (by rfl) ?_
  refine wpAny_bind ?_
  unfold Bytes.joinItems
  refine wpAny_bind (wpAny_typeOf (T := "list") ⟨_, hl, rfl⟩ ?_)
  refine wpAny_ite_true (by rfl) ?_
  refine wpAny_pure ?_
  refine wpAny_bind (wpAny_seqItems hl rfl ?_)
  dsimp only
  refine wpAny_ite_true (by rfl) ?_
  match xs, hne, hl, hfit, hsz, h1, h with
  | [(x, t)], hne, hl, hfit, hsz, h1, h =>
    refine wpAny_bind (wpAny_of_eq (a := .type "bytes") (by rfl) ?_)
    refine wpAny_ite_true (by decide +kernel) ?_
    refine wpAny_bind (wpAny_rule (wpAny_pure ?_))
    exact h1 x t rfl
  | [], hne, hl, hfit, hsz, h1, h => exact absurd rfl hne
  | a :: b :: r, hne, hl, hfit, hsz, h1, h =>
    refine wpAny_bind ?_
    generalize a :: b :: r = xs at hl hfit hsz h ⊢
    have hlen : (bvals xs).toArray.size = xs.length := by simp
    rw [hlen, KPc.range_list]
    refine wpAny_forIn_list _ (fun rest st s' => s' = s ∧ ∃ i, i ≤ xs.length ∧ rest = List.range' i (xs.length - i) 1 ∧ st = (((xs.take i).map (·.1)).toArray, (xs.take i).map fun p => (Value.bytes p.1 p.2, none))) _ ?_ ?_ _ _ ⟨rfl, 0, Nat.zero_le _, by simp, by simp⟩
    · rintro x rest st s' ⟨rfl, i, hi, hr, rfl⟩
      have hlt : i < xs.length := by
        by_cases q : i < xs.length
        · exact q
        · have : xs.length - i = 0 := by omega
          rw [this] at hr
          cases hr
      have hr2 : xs.length - i = (xs.length - (i + 1)) + 1 := by omega
      rw [hr2, List.range'_succ] at hr
      have hx : i = x := (List.cons.inj hr).1.symm
      have hrest := (List.cons.inj hr).2
      subst hx hrest
      refine wpAny_bind (wpAny_seqItems hl rfl ?_)
      dsimp only
      have hat : (bvals xs).toArray.getD i .none = .bytes xs[i].1 xs[i].2 := by simp [Array.getD, hlt]
      have hnext : xs.take (i + 1) = xs.take i ++ [xs[i]] := by rw [List.take_add_one]; simp [hlt]
      refine wpAny_ite_false ?_ ?_
      · have : (List.map (fun p : Array UInt8 × Tok => ((Value.bytes p.1 p.2 : Value), (none : Option Value))) (xs.take i)).any (fun x => x.1.onHeap) = false := by
          rw [List.any_eq_false]
          intro q hq
          obtain ⟨p, _, rfl⟩ := List.mem_map.mp hq
          simp [Value.onHeap]
        rw [this]
        decide
      · rw [hat]
        refine wpAny_bind (wpAny_holding (wpAny_of_eq take_eq ?_))
        dsimp only
        refine wpAny_bind (wpAny_seqItems hl rfl ?_)
        dsimp only
        refine wpAny_ite_false ?_ ?_
        · simp
        · exact wpAny_pure ⟨rfl, i + 1, hlt, rfl, by rw [hnext, List.map_append, List.map_append]; simp only [List.map_cons, List.map_nil, List.push_toArray]⟩
    · rintro st s' ⟨rfl, i, hi, hr, rfl⟩
      have hin : i = xs.length := by
        have := congrArg List.length hr
        simp only [List.length_nil, List.length_range'] at this
        omega
      subst hin
      rw [List.take_length]
      refine wpAny_bind (wpAny_of_eq (a := sep) (by rfl) ?_)
      dsimp only
      refine wpAny_ite_false ?_ ?_
      · simpa using hfit
      · refine wpAny_bind (wpAny_mkBytes ?_ hsz)
        refine wpAny_bind (wpAny_holding (wpAny_point ?_))
        refine wpAny_bind (wp_joinLetGo _ _ (fun p hp => ?_) (wpAny_pure h))
        obtain ⟨q, _, rfl⟩ := List.mem_map.mp hp
        rfl
end
end Mine
end

section
open PySem PySem.W PyProof.Rows PySem.Calls PySem.Spec
set_option maxRecDepth 100000
namespace Mine
open PySem.Builtin PySem.Builtin.Re
section
variable {M : Model} {prog : Program} {w : World} {A : Around} {E : Value → Shared → Prop} {s : Shared} {h₀ : Heap} {L : Addr} {m : Str → Option Value} {news : List (Addr × Obj)}
theorem wp_push {l : Addr} {its : Array Value} {n : Nat} {x : Value} {Q : Unit → Shared → Prop} (F : Fr h₀ L s.heap m) (N : News h₀ L s.heap ((l, listOf its n) :: news)) (hl : ∀ p ∈ news, p.1 ≠ l) (hsz : its.size ≤ 1000)
    (h : ∀ h', Fr h₀ L h' m → News h₀ L h' ((l, listOf (its.push x) (n + 1)) :: news) → Q () { s with heap := h' }) : wpAny M A (updateSeq l (·.push x)) Q E s := by
  have z := news_upd (pre := []) (f := Obj.mapSeq (·.push x)) (o' := listOf (its.push x) (n + 1)) F N (fun _ hp => nomatch hp) hl (mapSeq_push _ _ _ _ _) rfl
  refine wpAny_updateSeq (N _ (.head _)).1 rfl (h _ z.1 z.2) (by rw [sizeLine_eq]; omega) (by simp only [Array.size_push, sizeLine_eq]; omega)
theorem text_bytes (b : Array UInt8) (t : Tok) : reTextOf (.bytes b t) = pure (b.map (·.toNat), 1) := by
  unfold reTextOf
  rw [KBy.quiet_eq]
  rfl
theorem no_coll_bytes (b : Array UInt8) (t : Tok) : reNoCollectionInside (.bytes b t) 1 = pure () := by
  unfold reNoCollectionInside
  rw [KBy.isInstance_eq]
  rfl
theorem lit_bytes (b : Array UInt8) (t : Tok) : reLiteralCannotBeTurned (.bytes b t) = pure () := by
  unfold reLiteralCannotBeTurned
  rw [KBy.isInstance_eq]
  rfl
abbrev targ (p : Addr) (T : Array UInt8) (v : Tok) (code : Array Nat) : ReTarget := { pattern := .ref p, string := .bytes T v, code, text := T.map (·.toNat), kind := 1, groups := 0, pos := 0, lim := (T.map (·.toNat)).size }
theorem wp_target {p c : Addr} {T : Array UInt8} {v : Tok} {pat flags : Value} {k0 : Tok} {items : Array Value} {n : Nat} {code : Array Nat} {Q : ReTarget → Shared → Prop}
    (hp : s.heap.get? p = some (patObj pat flags (.int 1 k0) c)) (hc : s.heap.get? c = some { cls := .type "tuple", data := .seq items n }) (hcode : (items.map reRawOf).map Int.toNat = code)
    (h : Q (targ p T v code) s) : wpAny M A (reWholeTarget (.ref p) (.bytes T v)) Q E s := by
  unfold reWholeTarget
  refine wpAny_bind (wpAny_fieldsOf hp rfl ?_)
  refine wpAny_bind (wpAny_of_eq (text_bytes T v) ?_)
  dsimp only
  refine wpAny_ite_false (by rfl) (wpAny_ite_false (by rfl) ?_)
  refine wpAny_bind (wpAny_of_eq (no_coll_bytes _ _) ?_)
  refine wpAny_bind (wpAny_bind (wpAny_seqItems hc rfl (wpAny_pure ?_)))
  refine wpAny_pure ?_
  dsimp only [Option.getD]
  rw [hcode]
  exact h
theorem named_sub (a b : Value) : reNamed "re.Pattern.sub" "sub" ["repl", "string", "count"] 2 [a, b] [] = pure [some a, some b, none] := by rfl
theorem look_call : typeLookup (.type "bytes") "__call__" = pure none := by rw [typeLookup_type, builtinLookup_eq_fast]; kernel_rfl
abbrev subArgs (p : Addr) (T : Array UInt8) (v u : Tok) (k d st : Int) (must : Bool) (l : Addr) : Args :=
  ⟨[.ref p, .bytes T v, .bytes #[] u, rawInt 0, rawInt 0, rawInt k, rawInt d, rawInt st, .bool must, .ref l, .bool false], []⟩
theorem plain_loop : plainId "re.Pattern.sub.loop" = true := by decide +kernel

variable {p c : Addr} {T : Array UInt8} {v u : Tok} {pat flags : Value} {k0 : Tok} {items : Array Value} {nn : Nat} {code : Array Nat}
theorem loop_hit {R : Result → Shared → Prop} {k d st : Nat} {must : Bool} {l : Addr} {xs : List (Array UInt8 × Tok)} {n : Nat} {fm : Sre.M} {j : Nat}
    (hp : h₀.get? p = some (patObj pat flags (.int 1 k0) c)) (hc : h₀.get? c = some { cls := .type "tuple", data := .seq items nn }) (hcode : (items.map reRawOf).map Int.toNat = code)
    (F : Fr h₀ L s.heap m) (N : News h₀ L s.heap ((l, listOf (bvals xs).toArray n) :: news)) (hl : ∀ q ∈ news, q.1 ≠ l) (hxs : xs.length ≤ 100) (hT : T.size ≤ 1000)
    (hd : drv j (Sre.forSearch code (T.map (·.toNat)) 0 st (T.map (·.toNat)).size must) = some fm) (hj : j ≤ 2 ^ 64) (hm : fm.outcome = some .matched)
    (h : ∀ h' t1 n' tk, Fr h₀ L h' m → News h₀ L h' ((l, listOf (bvals (xs ++ (if d < fm.start then [((T.map (·.toNat)).extract d fm.start |>.map (·.toUInt8), t1)] else []) ++ [(#[], u)])).toArray n') :: news) →
      codeAny (model prog w) A (.builtin "re.Pattern.sub.loop" (subArgs p T v u (k + 1) fm.handed fm.handed (fm.handed == fm.start) l)) R { s with heap := h', toks := tk }) :
    codeAny (model prog w) A (.builtin "re.Pattern.sub.loop" (subArgs p T v u k d st must l)) R s := by
  refine codeAny_builtin en_loop ?_
  rw [Around.under_plainId plain_loop]
  unfold Builtin.«re.Pattern.sub.loop»
  dsimp only
  refine wpAny_bind (wp_target (F.keep _ _ hp) (F.keep _ _ hc) hcode ?_)
  refine wpAny_ite_true (by rfl) ?_
  refine wpAny_bind (wpAny_of_eq (lit_bytes _ _) ?_)
  dsimp only
  refine wpAny_bind (wpAny_ite_false (by rfl) ?_)
  unfold reNextFound
  refine (wp_toEnd (r := some fm) hd hj (by unfold endsIn; rw [hm]) ?_)
  dsimp only
  have push1 : ∀ {s : Shared} {xs : List (Array UInt8 × Tok)} {n : Nat} {b : Array UInt8} {t : Tok} {Q : Unit → Shared → Prop} (F : Fr h₀ L s.heap m) (N : News h₀ L s.heap ((l, listOf (bvals xs).toArray n) :: news)), xs.length ≤ 200 →
      (∀ h', Fr h₀ L h' m → News h₀ L h' ((l, listOf (bvals (xs ++ [(b, t)])).toArray (n + 1)) :: news) → Q () { s with heap := h' }) → wpAny (model prog w) A.in1 (updateSeq l (·.push (.bytes b t))) Q (fun e s' => R (.error e) s') s := by
    intro s xs n b t Q F N hxs h
    refine wp_push F N hl (by simp; omega) fun h' F' N' => h h' F' ?_
    have e : (bvals (xs ++ [(b, t)])).toArray = (bvals xs).toArray.push (.bytes b t) := by simp
    rw [e]
    exact N'
  by_cases hds : (d : Int).toNat < fm.start
  · rw [if_pos hds]
    have hds' : d < fm.start := by simpa using hds
    simp only [if_pos hds'] at h
    refine wpAny_bind (wpAny_mkBytes ?_ ?_)
    · refine wpAny_bind (push1 F N (by omega) fun h1 F1 N1 => ?_)
      refine wpAny_ite_true (by rfl) ?_
      refine wpAny_bind (wpAny_pure ?_)
      refine wpAny_ite_true (by rfl) ?_
      refine wpAny_bind (push1 F1 N1 (by simp; omega) fun h2 F2 N2 => ?_)
      exact wpAny_pure ⟨plainId_quiet plain_loop _, h h2 _ _ _ F2 N2⟩
    · rw [sizeLine_eq]
      simp
      omega
  · rw [if_neg hds]
    have hds' : ¬ d < fm.start := by simpa using hds
    simp only [if_neg hds', List.append_nil] at h
    refine wpAny_ite_true (by rfl) ?_
    refine wpAny_bind (wpAny_pure ?_)
    refine wpAny_ite_true (by rfl) ?_
    refine wpAny_bind (push1 F N (by omega) fun h2 F2 N2 => ?_)
    exact wpAny_pure ⟨plainId_quiet plain_loop _, h h2 0 _ _ F2 N2⟩
theorem pushed {xs : List (Array UInt8 × Tok)} {x : Array UInt8} {t : Tok} : (bvals xs).toArray.push (.bytes x t) = (bvals (xs ++ [(x, t)])).toArray := by simp
theorem loop_end {R : Result → Shared → Prop} {k d st : Nat} {must : Bool} {l : Addr} {xs : List (Array UInt8 × Tok)} {n : Nat} {fm : Sre.M} {j : Nat} {ys : List (Array UInt8)}
    (hp : h₀.get? p = some (patObj pat flags (.int 1 k0) c)) (hc : h₀.get? c = some { cls := .type "tuple", data := .seq items nn }) (hcode : (items.map reRawOf).map Int.toNat = code)
    (F : Fr h₀ L s.heap m) (N : News h₀ L s.heap ((l, listOf (bvals xs).toArray n) :: news)) (hl : ∀ q ∈ news, q.1 ≠ l) (hxs : xs.length ≤ 100) (hT : T.size ≤ 1000)
    (hd : drv j (Sre.forSearch code (T.map (·.toNat)) 0 st (T.map (·.toNat)).size must) = some fm) (hj : j ≤ 2 ^ 64) (hm : fm.outcome = some .failed)
    (hys : ys = xs.map (·.1) ++ (if d < (T.map (·.toNat)).size then [(T.map (·.toNat)).extract d (T.map (·.toNat)).size |>.map (·.toUInt8)] else [])) (hne : ys ≠ [])
    (hfit : Bytes.tooLong (ys.toArray.foldl (· + ·.size) 0) = false) (hsz : (Bytes.joined #[] ys).size ≤ 1000)
    (hone : ∀ y, ys = [y] → Bytes.joined #[] ys = y)
    (h : ∀ h' t tk, Fr h₀ L h' m → News h₀ L h' news → R (.ok (.ret (.bytes (Bytes.joined #[] ys) t))) { s with heap := h', toks := tk }) :
    codeAny (model prog w) A (.builtin "re.Pattern.sub.loop" (subArgs p T v u k d st must l)) R s := by
  refine codeAny_builtin en_loop ?_
  rw [Around.under_plainId plain_loop]
  unfold Builtin.«re.Pattern.sub.loop»
  dsimp only
  refine wpAny_bind (wp_target (F.keep _ _ hp) (F.keep _ _ hc) hcode ?_)
  refine wpAny_ite_true (by rfl) ?_
  refine wpAny_bind (wpAny_of_eq (lit_bytes _ _) ?_)
  dsimp only
  refine wpAny_bind (wpAny_ite_false (by rfl) ?_)
  unfold reNextFound
  refine (wp_toEnd (r := none) hd hj (by unfold endsIn; rw [hm]) ?_)
  dsimp only
  have e1 : (d : Int).toNat = d := Int.toNat_natCast d
  have e2 : (T.map (·.toNat)).size = T.size := by simp
  rw [e1]
  by_cases hds : d < (T.map (·.toNat)).size
  · rw [if_pos hds]
    have hds' : d < (T.map (·.toNat)).size := hds
    rw [if_pos hds'] at hys
    refine wpAny_bind (wpAny_mkBytes ?_ (by rw [sizeLine_eq]; simp; omega))
    refine wpAny_bind (wp_push F N hl (by simp; omega) fun h1 F1 N1 => ?_)
    rw [pushed] at N1
    refine wpAny_bind (wpAny_mkBytes ?_ (by rw [sizeLine_eq]; simp))
    have hsep : (((T.map (·.toNat)).extract 0 0).map (·.toUInt8)) = #[] := by simp
    rw [hsep]
    have hzs : ((xs ++ [(((T.map (·.toNat)).extract d (T.map (·.toNat)).size).map (·.toUInt8), s.toks)])).map (·.1) = ys := by rw [hys]; simp
    have hzne : (xs ++ [(((T.map (·.toNat)).extract d (T.map (·.toNat)).size).map (·.toUInt8), s.toks)]) ≠ [] := fun e => hne (by rw [← hzs, e]; rfl)
    refine wpAny_bind (wpAny_seqItems (N1 _ (.head _)).1 rfl ?_)
    refine wpAny_ite_false ?_ ?_
    · have : (bvals ((xs ++ [(((T.map (·.toNat)).extract d (T.map (·.toNat)).size).map (·.toUInt8), s.toks)]))).toArray.isEmpty = false := by
        cases hz : (xs ++ [(((T.map (·.toNat)).extract d (T.map (·.toNat)).size).map (·.toUInt8), s.toks)]) with
        | nil => exact absurd hz hzne
        | cons a r => rfl
      simpa using hzne
    · refine wpAny_bind (wp_join (xs := (xs ++ [(((T.map (·.toNat)).extract d (T.map (·.toNat)).size).map (·.toUInt8), s.toks)])) hzne (N1 _ (.head _)).1 ?_ ?_ ?_ ?_)
      · rw [hzs]; simpa using hfit
      · rw [hzs, sizeLine_eq]; omega
      · intro x t e
        rw [e] at hzs
        refine wpAny_ite_false (by rfl) (wpAny_pure ?_)
        have hj := hone x hzs.symm
        rw [← hj]
        exact h _ _ _ F1 (fun q hq => N1 q (.tail _ hq))
      · rw [hzs]
        refine wpAny_ite_false (by rfl) (wpAny_pure ?_)
        exact h _ _ _ F1 (fun q hq => N1 q (.tail _ hq))
  · rw [if_neg hds]
    have hds' : ¬ d < (T.map (·.toNat)).size := hds
    rw [if_neg hds', List.append_nil] at hys
    refine wpAny_bind (wpAny_mkBytes ?_ (by rw [sizeLine_eq]; simp))
    have hsep : (((T.map (·.toNat)).extract 0 0).map (·.toUInt8)) = #[] := by simp
    rw [hsep]
    have hzs : (xs).map (·.1) = ys := by exact hys.symm
    have hzne : xs ≠ [] := fun e => hne (by rw [← hzs, e]; rfl)
    refine wpAny_bind (wpAny_seqItems (N _ (.head _)).1 rfl ?_)
    refine wpAny_ite_false ?_ ?_
    · have : (bvals (xs)).toArray.isEmpty = false := by
        cases hz : xs with
        | nil => exact absurd hz hzne
        | cons a r => rfl
      simpa using hzne
    · refine wpAny_bind (wp_join (xs := xs) hzne (N _ (.head _)).1 ?_ ?_ ?_ ?_)
      · rw [hzs]; simpa using hfit
      · rw [hzs, sizeLine_eq]; omega
      · intro x t e
        rw [e] at hzs
        refine wpAny_ite_false (by rfl) (wpAny_pure ?_)
        have hj := hone x hzs.symm
        rw [← hj]
        exact h _ _ _ F (fun q hq => N q (.tail _ hq))
      · rw [hzs]
        refine wpAny_ite_false (by rfl) (wpAny_pure ?_)
        exact h _ _ _ F (fun q hq => N q (.tail _ hq))
theorem joined_one (y : Array UInt8) : Bytes.joined #[] [y] = y := by
  simp [Bytes.joined]
def subFin (ys : List (Array UInt8)) : Option (Array UInt8) :=
  if ys = [] then none else if Bytes.tooLong (ys.toArray.foldl (· + ·.size) 0) = true then none else if 1000 < (Bytes.joined #[] ys).size then none else some (Bytes.joined #[] ys)
def subOf (code : Array Nat) (T : Array UInt8) : Option (Array UInt8) :=
  let X := T.map (·.toNat)
  let tail (d : Nat) : List (Array UInt8) := if d < X.size then [(X.extract d X.size).map (·.toUInt8)] else []
  match drv 100 (Sre.forSearch code X 0 0 X.size false) with
  | none => none
  | some fm => match fm.outcome with
    | some .failed => subFin (tail 0)
    | some .matched => match drv 100 (Sre.forSearch code X 0 fm.handed X.size (fm.handed == fm.start)) with
      | none => none
      | some f2 => match f2.outcome with
        | some .failed => subFin ((if 0 < fm.start then [(X.extract 0 fm.start).map (·.toUInt8)] else []) ++ [#[]] ++ tail fm.handed)
        | _ => none
    | _ => none
theorem subFin_some {ys : List (Array UInt8)} {r : Array UInt8} (h : subFin ys = some r) : ys ≠ [] ∧ Bytes.tooLong (ys.toArray.foldl (· + ·.size) 0) = false ∧ (Bytes.joined #[] ys).size ≤ 1000 ∧ r = Bytes.joined #[] ys := by
  unfold subFin at h
  split at h
  · cases h
  · rename_i h1
    split at h
    · cases h
    · rename_i h2
      split at h
      · cases h
      · rename_i h3
        cases h
        exact ⟨h1, Bool.not_eq_true _ ▸ h2, by omega, rfl⟩
theorem wp_sub {Q : Value → Shared → Prop} {r : Array UInt8}
    (hp : h₀.get? p = some (patObj pat flags (.int 1 k0) c)) (hc : h₀.get? c = some { cls := .type "tuple", data := .seq items nn }) (hcode : (items.map reRawOf).map Int.toNat = code)
    (F : Fr h₀ L s.heap m) (N : News h₀ L s.heap news) (hT : T.size ≤ 1000) (hr : subOf code T = some r)
    (h : ∀ h' t tk, Fr h₀ L h' m → News h₀ L h' news → Q (.bytes r t) { s with heap := h', toks := tk }) :
    wpAny (model prog w) A (call (.builtin "re.Pattern.sub") [.ref p, .bytes #[] u, .bytes T v]) Q E s := by
  refine wpAny_call (codeAny_call_builtin slot_sub.plain en_sub (slot_sub.check _ _ _ _ _ _ _ _ ⟨_, F.keep _ _ hp, rfl⟩ (ar_sub _ _ _) ?_))
  unfold Builtin.«re.Pattern.sub» reSubstitute
  dsimp only
  rw [named_sub]
  refine wpAny_bind (wpAny_pure ?_)
  dsimp only
  refine wpAny_bind (wpAny_pure ?_)
  refine wpAny_bind (wpAny_of_eq (KBy.special_eq look_call) ?_)
  refine wpAny_ite_false (by rfl) ?_
  refine wpAny_bind (wpAny_of_eq (a := none) (by rfl) ?_)
  dsimp only
  refine wpAny_bind (wpAny_of_eq KBy.quiet_eq ?_)
  dsimp only
  refine wpAny_bind (wpAny_pure ?_)
  refine wpAny_ite_false (by rfl) ?_
  refine wpAny_ite_true (by simp) ?_
  refine wpAny_bind (wpAny_pure ?_)
  dsimp only
  refine wpAny_bind (wpAny_holding (wp_target (F.keep _ _ hp) (F.keep _ _ hc) hcode ?_))
  refine wpAny_ite_false (by rfl) ?_
  refine wpAny_bind (newList_K F N (fun l h1 F1 N1 hl1 => ?_) (by rw [sizeLine_eq]; exact Nat.zero_le _))
  refine wpAny_pure ⟨plainId_quiet plain_loop _, ?_⟩
  have hl : ∀ q ∈ news, q.1 ≠ l := fun q hq => Nat.ne_of_lt (hl1 q hq)
  have N1' : News h₀ L h1 ((l, listOf (bvals []).toArray 0) :: news) := N1
  show codeAny _ _ (.builtin "re.Pattern.sub.loop" (subArgs p T v u (0 : Nat) (0 : Nat) (0 : Nat) false l)) _ _
  unfold subOf at hr
  dsimp only at hr
  split at hr
  · cases hr
  · rename_i fm hd
    split at hr
    · rename_i ho
      obtain ⟨a1, a2, a3, rfl⟩ := subFin_some hr
      exact loop_end hp hc hcode F1 N1' hl (Nat.zero_le _) hT hd (by decide) ho rfl (by simpa using a1) (by simpa using a2) (by simpa using a3) (fun y e => by rw [e]; exact joined_one y) fun h' t tk F' N' => by simpa using h h' t tk F' N'
    · rename_i ho
      split at hr
      · cases hr
      · rename_i f2 hd2
        split at hr
        · rename_i ho2
          obtain ⟨a1, a2, a3, rfl⟩ := subFin_some hr
          refine loop_hit hp hc hcode F1 N1' hl (Nat.zero_le _) hT hd (by decide) ho fun h2 t1 n2 tk2 F2 N2 => ?_
          refine loop_end (k := 1) hp hc hcode F2 N2 hl ?_ hT hd2 (by decide) ho2 ?_ a1 a2 a3 (fun y e => by rw [e]; exact joined_one y) h
          · split <;> simp
          · split <;> simp
        · cases hr
    · cases hr
end
def quotedCode : Array Nat := #[14, 8, 1, 2, 4294967295, 1, 1, 34, 0, 16, 34, 28, 22, 0, 4294967295, 7, 11, 13, 7, 21, 16, 34, 16, 92, 0, 15, 8, 6, 16, 92, 2, 15, 2, 0, 1, 16, 34, 1]
theorem sub0 : subOf quotedCode #[40] = some #[40] := by decide +kernel
theorem sub1 : subOf quotedCode #[41] = some #[41] := by decide +kernel
theorem sub2 : subOf quotedCode #[41, 34, 40, 34, 40] = some #[41, 40] := by decide +kernel
theorem sub3 : subOf quotedCode #[34, 92, 34, 40, 34] = some #[] := by decide +kernel
theorem sub4 : subOf quotedCode #[40, 34, 41, 34] = some #[40] := by decide +kernel
theorem sub5 : subOf quotedCode #[34, 40, 34, 41] = some #[41] := by decide +kernel
theorem sub6 : subOf quotedCode #[41, 40, 34, 92, 92, 34, 40] = some #[41, 40, 40] := by decide +kernel
theorem sub7 : subOf quotedCode #[34, 41, 41, 92, 34, 34, 41, 41, 40] = some #[41, 41, 40] := by decide +kernel
theorem sub8 : subOf quotedCode #[40, 41, 34, 40, 34] = some #[40, 41] := by decide +kernel
end Mine
end

section
open PySem PySem.W PyProof.Rows PySem.Calls PySem.Spec
set_option maxRecDepth 100000
namespace Mine

abbrev Led := List (Addr × Obj)
abbrev MTop (mean : ExcName → Option Value) (mg mb : Str → Option Value) (h : Heap) : Prop :=
  Top Mine.hd.view_39 (looseW Mine.hd.view_39 [Str.ofString "_quoted", Str.ofString "_paren_depth", Str.ofString "_name_disallowed_re", Str.ofString "_value_disallowed_re"]) mean mg mb h

abbrev MCall (w : World) (mean : ExcName → Option Value) (mg mb : Str → Option Value) (D : Nat) (f : Addr) (vs : List Value) (news : Led) (Ret : Value → Led → Prop) : Prop :=
  ∀ (dp un : Nat) (gd : Option (List Code)) (cn : Str) (cs : Scope) (a : Addr) (ccd : Value) (cl : List (Str × Addr)) (outer : List Env) (A₀ : Around) (base h₀ : Heap) (L : Addr) (m : Str → Option Value) (s : Shared) (Q E : Value → Shared → Prop),
    Below A₀ base outer h₀ → Fr h₀ L s.heap m → (Mine.hd.heap_39 w.params).In h₀ → News h₀ L s.heap news → MTop mean mg mb h₀ → cs.kind = .function →
    dp + D < recursionLimit → un + 20 * D < cLine →
    (∀ v add h' tk', Ret v add → (∀ p ∈ news, ∀ q ∈ add, @Ne Nat p.1 q.1) → Fr h₀ L h' m → News h₀ L h' (add ++ news) → Q v { s with heap := h', toks := tk' }) →
    wpAny (model PySem.Challenge.rw_wj0069_01.row.prog w) (ktrTop dp un gd cn cs L a ccd cl outer) (call (.ref f) vs) Q E s

abbrev MCallK (w : World) (mean : ExcName → Option Value) (mg mb : Str → Option Value) (D : Nat) (f : Addr) (vs : List Value) (kw : List (Str × Value)) (news : Led) (Ret : Value → Led → Prop) : Prop :=
  ∀ (dp un : Nat) (gd : Option (List Code)) (cn : Str) (cs : Scope) (a : Addr) (ccd : Value) (cl : List (Str × Addr)) (outer : List Env) (A₀ : Around) (base h₀ : Heap) (L : Addr) (m : Str → Option Value) (s : Shared) (Q E : Value → Shared → Prop),
    Below A₀ base outer h₀ → Fr h₀ L s.heap m → (Mine.hd.heap_39 w.params).In h₀ → News h₀ L s.heap news → MTop mean mg mb h₀ → cs.kind = .function →
    dp + D < recursionLimit → un + 20 * D < cLine →
    (∀ v add h' tk', Ret v add → (∀ p ∈ news, ∀ q ∈ add, @Ne Nat p.1 q.1) → Fr h₀ L h' m → News h₀ L h' (add ++ news) → Q v { s with heap := h', toks := tk' }) →
    wpAny (model PySem.Challenge.rw_wj0069_01.row.prog w) (ktrTop dp un gd cn cs L a ccd cl outer) (call (.ref f) vs kw) Q E s
theorem st_gen {prog : Program} {w : World} {A : Around} {E : Value → Shared → Prop} {α : Type} {t : Sem α} {Q : α → Shared → Prop} {h : Heap} {g d k o} (H : ∀ k, wpAny (model prog w) A t Q E ⟨h, g, d, k, o⟩) : wpAny (model prog w) A t Q E ⟨h, g, d, k, o⟩ := H k
def Hold (P : Prop) : Prop := P
theorem hold_it {P : Prop} (h : Hold P) : P := h
def subCost (a b : Str) : Int := if a = b then 0 else if Txt.lower a = Txt.lower b then 1 else 2
end Mine
end

section
open PySem PySem.W PyProof.Rows PySem.Calls PySem.Spec
set_option compiler.extract_closed false
local macro_rules | `(tactic| ktr_units) => `(tactic| ((try simp only [units_under_make, units_in1, units_deeper, Around.mark_units, units_caller]); (try dsimp only [ktrTop]); omega))
local macro_rules | `(tactic| walk_at $_) => `(tactic| (k_here; (with_reducible show wpAny _ _ _ _ _ _); (fail_if_success (with_reducible show wpAny _ _ (subscriptTail _ _ _ _) _ _ _)); dsimp only))
local macro_rules | `(tactic| walk_at "execs cons") => `(tactic| (k_here; (with_reducible show wpAny _ _ (execs (_ :: _) _) _ _ _); (try dsimp only); refine Mine.st_gen ?_; intro k'; refine wpAny_execs_cons ?_; (try k_fold)))

section
open PySem PySem.W PyProof.Rows PySem.Calls PySem.Spec
set_option maxRecDepth 100000
namespace Mine
set_option maxHeartbeats 4000000 in
theorem sub_spec (w : World) (mean : ExcName → Option Value) (mg mb : Str → Option Value) (news : Led) (a b : Str) (ta tb : Tok) (ha : a.length ≤ 10) (hb : b.length ≤ 10) :
    MCall w mean mg mb 2 65 [.str a ta, .str b tb] news (fun v add => add = [] ∧ ∃ t, v = .int (subCost a b) t) := by
  w_top off
  (have kf9 : ∀ (P : Params) (h : Heap), PySem.Challenge.rw_wj0069_01 = PySem.Challenge.rw_wj0069_01 → (Mine.hd.heap_39 P).In h → True := by (k_fill; intros; trivial))
  intro dp un gd cn cs a' ccd cl outer A₀ base h₀ L m s Q E hB hF hK hN hT hk hdp hun hret
  (refine wpAny_call ?_; k_dflt ( (refine' code_def (binds := [(Str.ofString "ch_a", .str a ta), (Str.ofString "ch_b", .str b tb)]) ?k1 ?k2 ?k3 ?k4 ?k5 ?kA ?kF ?kK ?k6 ?k7 ?k8 ?k9 ?kB ?_ ?c2 ?c3 ?c4 ?c5; (case kA => exact rfl); (case kF => exact rfl); (case kK => assumption); (case k1 => k_asm); (case k2 => k_asm); (case k3 => k_asm); (case k4 => k_asm); (case k5 => k_asm); (case k6 => k_is); (case k7 => k_is); (case k8 => ktr_room); (case k9 => first | exact BindsTo.of_eq rfl | exact binds_K (by k_in) rfl (by k_is) rfl rfl rfl | (refine' kp_binds ?kx ?ke; (case kx => k_in); (case ke => exact fun _ => rfl))); (case c5 => decide); (case kB => exact locs rfl); (case c2 => exact rfl); (case c3 => exact rfl); (case c4 => exact rfl); k_whole; intro g' L' h' FG' F' N' B' X' T'; (simp only [List.reverse_cons, List.reverse_nil, List.nil_append, List.cons_append] at F'); (try dsimp only); (try k_lift B'); (try k_fold))))
  k_steps
  all_goals refine hret _ [] _ _ ?_ (fun _ _ _ hq => nomatch hq) (by assumption) (by assumption)
  all_goals refine ⟨rfl, _, congrArg (fun i => Value.int i _) ?_⟩
  all_goals simp_all [subCost]
def locName (l e : Option Str) : Str := match e with
  | none => l.getD (Str.ofString "C")
  | some e => l.getD (Str.ofString "C") ++ Str.ofString "." ++ e
set_option maxHeartbeats 4000000 in
theorem build_nn (w : World) (mean : ExcName → Option Value) (mg mb : Str → Option Value) (news : Led) (x : Addr) (hx : (x, ({ cls := .type "tuple", data := .seq #[.none, .none] } : Obj)) ∈ news) :
    MCall w mean mg mb 2 45 [.ref x] news (fun v add => add = [] ∧ ∃ t, v = .str (Str.ofString "C") t) := by
  w_top off
  (have kf9 : ∀ (P : Params) (h : Heap), PySem.Challenge.rw_wj0069_01 = PySem.Challenge.rw_wj0069_01 → (Mine.hd.heap_39 P).In h → True := by (k_fill; intros; trivial))
  intro dp un gd cn cs a' ccd cl outer A₀ base h₀ L m s Q E hB hF hK hN hT hk hdp hun hret
  (refine wpAny_call ?_; k_dflt ( (refine' code_def (binds := [(Str.ofString "localetuple", .ref x)]) ?k1 ?k2 ?k3 ?k4 ?k5 ?kA ?kF ?kK ?k6 ?k7 ?k8 ?k9 ?kB ?_ ?c2 ?c3 ?c4 ?c5; (case kA => exact rfl); (case kF => exact rfl); (case kK => assumption); (case k1 => k_asm); (case k2 => k_asm); (case k3 => k_asm); (case k4 => k_asm); (case k5 => k_asm); (case k6 => k_is); (case k7 => k_is); (case k8 => ktr_room); (case k9 => first | exact BindsTo.of_eq rfl | exact binds_K (by k_in) rfl (by k_is) rfl rfl rfl | (refine' kp_binds ?kx ?ke; (case kx => k_in); (case ke => exact fun _ => rfl))); (case c5 => decide); (case kB => exact locs rfl); (case c2 => exact rfl); (case c3 => exact rfl); (case c4 => exact rfl); k_whole; intro g' L' h' FG' F' N' B' X' T'; (simp only [List.reverse_cons, List.reverse_nil, List.nil_append, List.cons_append] at F'); (try dsimp only); (try k_lift B'); (try k_fold))))
  k_steps
  refine hret _ [] _ _ ?_ (fun _ _ _ hq => nomatch hq) (by assumption) (by assumption)
  exact ⟨rfl, _, rfl⟩
set_option maxHeartbeats 4000000 in
theorem build_ss (w : World) (mean : ExcName → Option Value) (mg mb : Str → Option Value) (news : Led) (x : Addr) (l e : Str) (tl te : Tok) (hl : l.length ≤ 100) (he : e.length ≤ 100) (hx : (x, ({ cls := .type "tuple", data := .seq #[.str l tl, .str e te] } : Obj)) ∈ news) :
    MCall w mean mg mb 2 45 [.ref x] news (fun v add => add = [] ∧ ∃ t, v = .str (l ++ Str.ofString "." ++ e) t) := by
  w_top off
  (have kf9 : ∀ (P : Params) (h : Heap), PySem.Challenge.rw_wj0069_01 = PySem.Challenge.rw_wj0069_01 → (Mine.hd.heap_39 P).In h → True := by (k_fill; intros; trivial))
  intro dp un gd cn cs a' ccd cl outer A₀ base h₀ L m s Q E hB hF hK hN hT hk hdp hun hret
  (refine wpAny_call ?_; k_dflt ( (refine' code_def (binds := [(Str.ofString "localetuple", .ref x)]) ?k1 ?k2 ?k3 ?k4 ?k5 ?kA ?kF ?kK ?k6 ?k7 ?k8 ?k9 ?kB ?_ ?c2 ?c3 ?c4 ?c5; (case kA => exact rfl); (case kF => exact rfl); (case kK => assumption); (case k1 => k_asm); (case k2 => k_asm); (case k3 => k_asm); (case k4 => k_asm); (case k5 => k_asm); (case k6 => k_is); (case k7 => k_is); (case k8 => ktr_room); (case k9 => first | exact BindsTo.of_eq rfl | exact binds_K (by k_in) rfl (by k_is) rfl rfl rfl | (refine' kp_binds ?kx ?ke; (case kx => k_in); (case ke => exact fun _ => rfl))); (case c5 => decide); (case kB => exact locs rfl); (case c2 => exact rfl); (case c3 => exact rfl); (case c4 => exact rfl); k_whole; intro g' L' h' FG' F' N' B' X' T'; (simp only [List.reverse_cons, List.reverse_nil, List.nil_append, List.cons_append] at F'); (try dsimp only); (try k_lift B'); (try k_fold))))
  k_steps
  refine hret _ [] _ _ ?_ (fun _ _ _ hq => nomatch hq) (by assumption) (by assumption)
  exact ⟨rfl, _, rfl⟩
set_option maxHeartbeats 4000000 in
theorem build_sn (w : World) (mean : ExcName → Option Value) (mg mb : Str → Option Value) (news : Led) (x : Addr) (l : Str) (tl : Tok) (hx : (x, ({ cls := .type "tuple", data := .seq #[.str l tl, .none] } : Obj)) ∈ news) :
    MCall w mean mg mb 2 45 [.ref x] news (fun v add => add = [] ∧ ∃ t, v = .str l t) := by
  w_top off
  (have kf9 : ∀ (P : Params) (h : Heap), PySem.Challenge.rw_wj0069_01 = PySem.Challenge.rw_wj0069_01 → (Mine.hd.heap_39 P).In h → True := by (k_fill; intros; trivial))
  intro dp un gd cn cs a' ccd cl outer A₀ base h₀ L m s Q E hB hF hK hN hT hk hdp hun hret
  (refine wpAny_call ?_; k_dflt ( (refine' code_def (binds := [(Str.ofString "localetuple", .ref x)]) ?k1 ?k2 ?k3 ?k4 ?k5 ?kA ?kF ?kK ?k6 ?k7 ?k8 ?k9 ?kB ?_ ?c2 ?c3 ?c4 ?c5; (case kA => exact rfl); (case kF => exact rfl); (case kK => assumption); (case k1 => k_asm); (case k2 => k_asm); (case k3 => k_asm); (case k4 => k_asm); (case k5 => k_asm); (case k6 => k_is); (case k7 => k_is); (case k8 => ktr_room); (case k9 => first | exact BindsTo.of_eq rfl | exact binds_K (by k_in) rfl (by k_is) rfl rfl rfl | (refine' kp_binds ?kx ?ke; (case kx => k_in); (case ke => exact fun _ => rfl))); (case c5 => decide); (case kB => exact locs rfl); (case c2 => exact rfl); (case c3 => exact rfl); (case c4 => exact rfl); k_whole; intro g' L' h' FG' F' N' B' X' T'; (simp only [List.reverse_cons, List.reverse_nil, List.nil_append, List.cons_append] at F'); (try dsimp only); (try k_lift B'); (try k_fold))))
  k_steps
  refine hret _ [] _ _ ?_ (fun _ _ _ hq => nomatch hq) (by assumption) (by assumption)
  exact ⟨rfl, _, rfl⟩
end Mine
end

section
open PySem PySem.W PyProof.Rows PySem.Calls PySem.Spec
set_option maxRecDepth 100000
namespace Mine
open PySem.Builtin.Re
theorem in_49 {P : Params} {h : Heap} (X : (Mine.hd.heap_39 P).In h) : ∃ pat flags k0 items, h.get? 50 = some (patObj pat flags (.int 1 k0) 49) ∧ h.get? 49 = some { cls := .type "tuple", data := .seq items 0 } ∧ (items.map reRawOf).map Int.toNat = quotedCode := by
  w_top off
  (have kf9 : ∀ (P : Params) (h : Heap), PySem.Challenge.rw_wj0069_01 = PySem.Challenge.rw_wj0069_01 → (Mine.hd.heap_39 P).In h → True := by (k_fill; intros; trivial))
  exact ⟨_, _, _, _, X 50 _ (by k_is), X 49 _ (by k_is), by decide +kernel⟩
theorem in_76 {P : Params} {h : Heap} (X : (Mine.hd.heap_39 P).In h) : ∃ pat flags k0 items, h.get? 77 = some (patObj pat flags (.int 0 k0) 76) ∧ h.get? 76 = some { cls := .type "tuple", data := .seq items 0 } ∧ (items.map reRawOf).map Int.toNat = nameCode := by
  w_top off
  (have kf9 : ∀ (P : Params) (h : Heap), PySem.Challenge.rw_wj0069_01 = PySem.Challenge.rw_wj0069_01 → (Mine.hd.heap_39 P).In h → True := by (k_fill; intros; trivial))
  exact ⟨_, _, _, _, X 77 _ (by k_is), X 76 _ (by k_is), by decide +kernel⟩
theorem in_81 {P : Params} {h : Heap} (X : (Mine.hd.heap_39 P).In h) : ∃ pat flags k0 items, h.get? 82 = some (patObj pat flags (.int 0 k0) 81) ∧ h.get? 81 = some { cls := .type "tuple", data := .seq items 0 } ∧ (items.map reRawOf).map Int.toNat = valueCode := by
  w_top off
  (have kf9 : ∀ (P : Params) (h : Heap), PySem.Challenge.rw_wj0069_01 = PySem.Challenge.rw_wj0069_01 → (Mine.hd.heap_39 P).In h → True := by (k_fill; intros; trivial))
  exact ⟨_, _, _, _, X 82 _ (by k_is), X 81 _ (by k_is), by decide +kernel⟩
section
variable {prog : Program} {w : World} {A : Around} {E : Value → Shared → Prop} {s : Shared} {h₀ : Heap} {L : Addr} {m : Str → Option Value} {news : List (Addr × Obj)} {P : Params}
theorem getm_sub {pl : Sem Bool} {Q : Value × List Value → Shared → Prop} (F : Fr h₀ L s.heap m) (X : (Mine.hd.heap_39 P).In h₀) (h : Q (.builtin "re.Pattern.sub", [.ref 50]) s) : wpAny (model prog w) A (getMethod (.ref 50) (Str.ofString "sub") pl) Q E s := by
  obtain ⟨pat, flags, k0, items, hp, _, _⟩ := in_49 X
  exact getMethod_builtin (T := "re.Pattern") ⟨_, F.keep _ _ hp, rfl⟩ plain_pat slot_sub ty_sub (fun a e => by cases e; exact ⟨_, F.keep _ _ hp, rfl⟩) h
theorem getm_search_n {pl : Sem Bool} {Q : Value × List Value → Shared → Prop} (F : Fr h₀ L s.heap m) (X : (Mine.hd.heap_39 P).In h₀) (h : Q (.builtin "re.Pattern.search", [.ref 77]) s) : wpAny (model prog w) A (getMethod (.ref 77) (Str.ofString "search") pl) Q E s := by
  obtain ⟨pat, flags, k0, items, hp, _, _⟩ := in_76 X
  exact getMethod_builtin (T := "re.Pattern") ⟨_, F.keep _ _ hp, rfl⟩ plain_pat slot_search ty_search (fun a e => by cases e; exact ⟨_, F.keep _ _ hp, rfl⟩) h
theorem getm_search_v {pl : Sem Bool} {Q : Value × List Value → Shared → Prop} (F : Fr h₀ L s.heap m) (X : (Mine.hd.heap_39 P).In h₀) (h : Q (.builtin "re.Pattern.search", [.ref 82]) s) : wpAny (model prog w) A (getMethod (.ref 82) (Str.ofString "search") pl) Q E s := by
  obtain ⟨pat, flags, k0, items, hp, _, _⟩ := in_81 X
  exact getMethod_builtin (T := "re.Pattern") ⟨_, F.keep _ _ hp, rfl⟩ plain_pat slot_search ty_search (fun a e => by cases e; exact ⟨_, F.keep _ _ hp, rfl⟩) h
theorem call_sub {u v : Tok} {T r : Array UInt8} {Q : Value → Shared → Prop} (F : Fr h₀ L s.heap m) (X : (Mine.hd.heap_39 P).In h₀) (N : News h₀ L s.heap news) (hT : T.size ≤ 1000) (hr : subOf quotedCode T = some r)
    (h : ∀ h' t tk, Fr h₀ L h' m → News h₀ L h' news → Q (.bytes r t) { s with heap := h', toks := tk }) : wpAny (model prog w) A (call (.builtin "re.Pattern.sub") [.ref 50, .bytes #[] u, .bytes T v]) Q E s := by
  obtain ⟨pat, flags, k0, items, hp, hc, hcode⟩ := in_49 X
  exact wp_sub hp hc hcode F N hT hr h
theorem call_search_n {x : Str} {t : Tok} {Q : Value → Shared → Prop} (F : Fr h₀ L s.heap m) (X : (Mine.hd.heap_39 P).In h₀) (hx : printable x = true) (h : Q .none s) : wpAny (model prog w) A (call (.builtin "re.Pattern.search") [.ref 77, .str x t]) Q E s := by
  obtain ⟨pat, flags, k0, items, hp, hc, hcode⟩ := in_76 X
  exact wp_search (F.keep _ _ hp) (F.keep _ _ hc) hcode (.inl rfl) hx h
theorem call_search_v {x : Str} {t : Tok} {Q : Value → Shared → Prop} (F : Fr h₀ L s.heap m) (X : (Mine.hd.heap_39 P).In h₀) (hx : printable x = true) (h : Q .none s) : wpAny (model prog w) A (call (.builtin "re.Pattern.search") [.ref 82, .str x t]) Q E s := by
  obtain ⟨pat, flags, k0, items, hp, hc, hcode⟩ := in_81 X
  exact wp_search (F.keep _ _ hp) (F.keep _ _ hc) hcode (.inr rfl) hx h
end
local macro_rules | `(tactic| walk_at "getMethod ref") => `(tactic| refine hold_it ?_)
local macro_rules | `(tactic| walk_at "call builtin:re.Pattern.sub") => `(tactic| refine hold_it ?_)
local macro_rules | `(tactic| walk_at "getMethod bytes") => `(tactic| (k_here; refine getm_bcount ?_))
local macro_rules | `(tactic| walk_at "call builtin:bytes.count") => `(tactic| (k_here; refine wp_bcount (by rfl) ?_))
set_option maxHeartbeats 4000000 in
theorem paren_spec (w : World) (mean : ExcName → Option Value) (mg mb : Str → Option Value) (news : Led) (d r : Array UInt8) (td : Tok) (k : Int) (tk : Tok) (hd : d.size ≤ 1000) (hr : subOf quotedCode d = some r) :
    MCall w mean mg mb 2 58 [.bytes d td, .int k tk] news (fun v add => add = [] ∧ ∃ t, v = .int (k + cnt r #[40] - cnt r #[41]) t) := by
  w_top off
  (have kf9 : ∀ (P : Params) (h : Heap), PySem.Challenge.rw_wj0069_01 = PySem.Challenge.rw_wj0069_01 → (Mine.hd.heap_39 P).In h → True := by (k_fill; intros; trivial))
  intro dp un gd cn cs a' ccd cl outer A₀ base h₀ L m s Q E hB hF hK hN hT hk hdp hun hret
  (refine wpAny_call ?_; k_dflt ( (refine' code_def (binds := [(Str.ofString "data", .bytes d td), (Str.ofString "depth", .int k tk)]) ?k1 ?k2 ?k3 ?k4 ?k5 ?kA ?kF ?kK ?k6 ?k7 ?k8 ?k9 ?kB ?_ ?c2 ?c3 ?c4 ?c5; (case kA => exact rfl); (case kF => exact rfl); (case kK => assumption); (case k1 => k_asm); (case k2 => k_asm); (case k3 => k_asm); (case k4 => k_asm); (case k5 => k_asm); (case k6 => k_is); (case k7 => k_is); (case k8 => ktr_room); (case k9 => first | exact BindsTo.of_eq rfl | exact binds_K (by k_in) rfl (by k_is) rfl rfl rfl | (refine' kp_binds ?kx ?ke; (case kx => k_in); (case ke => exact fun _ => rfl))); (case c5 => decide); (case kB => exact locs rfl); (case c2 => exact rfl); (case c3 => exact rfl); (case c4 => exact rfl); k_whole; intro g' L' h' FG' F' N' B' X' T'; (simp only [List.reverse_cons, List.reverse_nil, List.nil_append, List.cons_append] at F'); (try dsimp only); (try k_lift B'); (try k_fold))))
  (repeat' (first | (unfold Hold; first | ((with_reducible show wpAny _ _ (call (Value.builtin _) _) _ _ _); k_dflt (refine' call_sub ?k1BC20 ?k2BC20 ?k3BC20 ?k4BC20 ?k5BC20 ?_; (case k1BC20 => k_asm); (case k2BC20 => k_asm); (case k3BC20 => k_asm); (case k4BC20 => assumption); (case k5BC20 => assumption); k_whole); intro h' t' tk' F' N'; (try k_sweep)) | ((with_reducible show wpAny _ _ (getMethod _ _ _) _ _ _); k_dflt (refine' getm_sub ?k1BC21 ?k2BC21 ?_; (case k1BC21 => k_asm); (case k2BC21 => k_asm); k_whole)) | fail "no block") | (k_unfold; (try dsimp only)) | (k_end; kc_close) | walk1 | (dsimp only; walk1) | (leave1; (try dsimp only)) | fail "no step"))
  refine hret _ [] _ _ ?_ (fun _ _ _ hq => nomatch hq) (by assumption) (by assumption)
  exact ⟨rfl, _, rfl⟩
end Mine
end

section
open PySem PySem.W PyProof.Rows PySem.Calls PySem.Spec
set_option maxRecDepth 100000
namespace Mine
local macro_rules | `(tactic| walk_at "getMethod ref") => `(tactic| refine hold_it ?_)
local macro_rules | `(tactic| walk_at "call builtin:re.Pattern.search") => `(tactic| refine hold_it ?_)
set_option maxHeartbeats 4000000 in
theorem conv_spec (w : World) (mean : ExcName → Option Value) (mg mb : Str → Option Value) (news : Led) (x : Addr) (v : Str) (tv : Tok) (b : Bool) (hv : printable v = true) :
    MCallK w mean mg mb 2 104 [.ref x, .str v tv] [(Str.ofString "name", .bool b)] news (fun r add => add = [] ∧ ∃ t, r = .str v t) := by
  w_top off
  (have kf9 : ∀ (P : Params) (h : Heap), PySem.Challenge.rw_wj0069_01 = PySem.Challenge.rw_wj0069_01 → (Mine.hd.heap_39 P).In h → True := by (k_fill; intros; trivial))
  intro dp un gd cn cs a' ccd cl outer A₀ base h₀ L m s Q E hB hF hK hN hT hk hdp hun hret
  (refine wpAny_call ?_; k_dflt ( (refine' code_def (binds := [(Str.ofString "self", .ref x), (Str.ofString "value", .str v tv), (Str.ofString "name", .bool b)]) ?k1 ?k2 ?k3 ?k4 ?k5 ?kA ?kF ?kK ?k6 ?k7 ?k8 ?k9 ?kB ?_ ?c2 ?c3 ?c4 ?c5; (case kA => exact rfl); (case kF => exact rfl); (case kK => assumption); (case k1 => k_asm); (case k2 => k_asm); (case k3 => k_asm); (case k4 => k_asm); (case k5 => k_asm); (case k6 => k_is); (case k7 => k_is); (case k8 => ktr_room); (case k9 => first | exact BindsTo.of_eq rfl | exact binds_K (by k_in) rfl (by k_is) rfl rfl rfl | (refine' kp_binds ?kx ?ke; (case kx => k_in); (case ke => exact fun _ => rfl))); (case c5 => decide); (case kB => exact locs rfl); (case c2 => exact rfl); (case c3 => exact rfl); (case c4 => exact rfl); k_whole; intro g' L' h' FG' F' N' B' X' T'; (simp only [List.reverse_cons, List.reverse_nil, List.nil_append, List.cons_append] at F'); (try dsimp only); (try k_lift B'); (try k_fold))))
  (repeat' (first | (unfold Hold; first | ((with_reducible show wpAny _ _ (call (Value.builtin _) _) _ _ _); k_dflt (first | (refine' call_search_n ?k1BC30 ?k2BC30 ?k3BC30 ?_; (case k1BC30 => k_asm); (case k2BC30 => k_asm); (case k3BC30 => assumption); k_whole) | (refine' call_search_v ?k1BC30 ?k2BC30 ?k3BC30 ?_; (case k1BC30 => k_asm); (case k2BC30 => k_asm); (case k3BC30 => assumption); k_whole))) | ((with_reducible show wpAny _ _ (getMethod _ _ _) _ _ _); k_dflt (first | (refine' getm_search_n ?k1BC31 ?k2BC31 ?_; (case k1BC31 => k_asm); (case k2BC31 => k_asm); k_whole) | (refine' getm_search_v ?k1BC31 ?k2BC31 ?_; (case k1BC31 => k_asm); (case k2BC31 => k_asm); k_whole))) | fail "no block") | (k_unfold; (try dsimp only)) | (k_end; kc_close) | walk1 | (dsimp only; walk1) | (leave1; (try dsimp only)) | fail "no step"))
  all_goals refine hret _ [] _ _ ?_ (fun _ _ _ hq => nomatch hq) (by assumption) (by assumption)
  all_goals exact ⟨rfl, _, rfl⟩

section
variable {prog : Program} {w : World} {A : Around} {E : Value → Shared → Prop} {s : Shared} {env : Env} {h₀ : Heap} {target : Expr} {body : List Stmt} {Q : Flow → Shared → Prop}
def StepC (h₀ : Heap) (L : Addr) (led : Led) (Jn : (Str → Option Value) → Prop) (s₁ : Shared) (Q : Flow → Shared → Prop) (f : Flow) (s₂ : Shared) : Prop := match f with
  | .ret v => Q (.ret v) s₂
  | .brk => Q .next s₂
  | _ => ∃ h' tk m₂, s₂ = { s₁ with heap := h', toks := tk } ∧ Fr h₀ L h' m₂ ∧ News h₀ L h' led ∧ Jn m₂
theorem unr_const {P : Nat → Value → Prop} {fp : List Addr} {n : Nat} {news : Led} (Inv : Nat → (Str → Option Value) → Prop)
    (turn : ∀ i v m₁ h tk own, i < n → P i v → Inv i m₁ → Fr h₀ env.locals h m₁ → News h₀ env.locals h (own ++ news) →
      wpAny (model prog w) A (assign target env v) (fun _ s₂ => wpAny (model prog w) A (execs body env) (StepC h₀ env.locals (own ++ news) (Inv (i + 1)) { s with heap := h, toks := tk } Q) E s₂) E { s with heap := h, toks := tk })
    (done : ∀ m₁ h tk, Inv n m₁ → Fr h₀ env.locals h m₁ → News h₀ env.locals h news → Q .next { s with heap := h, toks := tk }) :
    ∀ k i m₁, i + k = n → Inv i m₁ → Unr prog w A E h₀ env target body Q P fp s k i m₁ news
  | 0, i, m₁, e, hi => fun h' tk F N => done m₁ h' tk (by have : i = n := by omega
                                                          subst this; exact hi) F N
  | k + 1, i, m₁, e, hi => fun v h₁ tk₁ own hP hown F N => by
    refine wpAny_mono (turn i v m₁ h₁ tk₁ own (by omega) hP hi F N) (fun _ s₂ h₂ => wpAny_mono h₂ (fun f s₃ h₃ => ?_) fun _ _ e => e) fun _ _ e => e
    have fin : (∃ h' tk m₂, s₃ = { { s with heap := h₁, toks := tk₁ } with heap := h', toks := tk } ∧ Fr h₀ env.locals h' m₂ ∧ News h₀ env.locals h' (own ++ news) ∧ Inv (i + 1) m₂) →
        LoopStep2 h₀ env.locals own news (Unr prog w A E h₀ env target body Q P fp s k (i + 1)) { s with heap := h₁, toks := tk₁ } .next s₃ := by
      rintro ⟨h', tk, m₂, rfl, F', N', hI⟩
      exact LoopStep2.intro F' N' rfl (unr_const Inv turn done k (i + 1) m₂ (by omega) hI)
    cases f with
    | ret v => exact h₃
    | brk => exact h₃
    | cont => exact fin h₃
    | next => exact fin h₃
theorem iter_const {l : Addr} {vs : List Value} {nn : Nat} {m₀ : Str → Option Value} {news : Led} (Inv : Nat → (Str → Option Value) → Prop)
    (hh : A.handled = none) (hl : (l, listOf vs.toArray nn) ∈ news) (F : Fr h₀ env.locals s.heap m₀) (N : News h₀ env.locals s.heap news) (h0 : Inv 0 m₀)
    (turn : ∀ i v m₁ h tk own, i < vs.length → vs[i]? = some v → Inv i m₁ → Fr h₀ env.locals h m₁ → News h₀ env.locals h (own ++ news) →
      wpAny (model prog w) A (assign target env v) (fun _ s₂ => wpAny (model prog w) A (execs body env) (StepC h₀ env.locals (own ++ news) (Inv (i + 1)) { s with heap := h, toks := tk } Q) E s₂) E { s with heap := h, toks := tk })
    (done : ∀ m₁ h tk, Inv vs.length m₁ → Fr h₀ env.locals h m₁ → News h₀ env.locals h news → Q .next { s with heap := h, toks := tk }) :
    wpAny (model prog w) A (pyIter (.ref l)) (fun it s₂ => UnrAt prog w A h₀ env target body Q E it s₂) E s := by
  have hol := (N _ hl).1
  refine Iter_list_unr (items := vs.toArray) hh ⟨_, hol, rfl, nn, rfl⟩ F N (N _ hl).2.1 ?_
  have e : vs.toArray.size = vs.length := by simp
  rw [e]
  refine unr_const (n := vs.length) Inv ?_ ?_ vs.length 0 m₀ (by omega) h0
  · intro i v m₁ h tk own hi hP hI F' N'
    exact turn i v m₁ h tk own hi (by simpa using hP) hI F' N'
  · intro m₁ h tk hI F' N'
    exact done m₁ h tk hI F' N'
end
section
variable {prog : Program} {w : World} {A : Around} {E : Value → Shared → Prop} {s : Shared} {env : Env} {h₀ : Heap} {target : Expr} {body : List Stmt} {Q : Flow → Shared → Prop}
theorem iter_constS {l : Addr} {vs : List Value} {nn : Nat} {m₀ : Str → Option Value} {news : Led} (stored : List Str)
    (hh : A.handled = none) (hl : (l, listOf vs.toArray nn) ∈ news) (F : Fr h₀ env.locals s.heap m₀) (N : News h₀ env.locals s.heap news)
    (turn : ∀ (i : Nat) v (u : Str → Option Value) h tk own, vs[i]? = some v → Fr h₀ env.locals h (fun y => if stored.contains y then u y else m₀ y) → News h₀ env.locals h (own ++ news) →
      wpAny (model prog w) A (assign target env v) (fun _ s₂ => wpAny (model prog w) A (execs body env) (StepC h₀ env.locals (own ++ news) (fun m' => ∀ y, stored.contains y = false → m' y = m₀ y) { s with heap := h, toks := tk } Q) E s₂) E { s with heap := h, toks := tk })
    (done : ∀ (u : Str → Option Value) h tk, Fr h₀ env.locals h (fun y => if stored.contains y then u y else m₀ y) → News h₀ env.locals h news → Q .next { s with heap := h, toks := tk }) :
    wpAny (model prog w) A (pyIter (.ref l)) (fun it s₂ => UnrAt prog w A h₀ env target body Q E it s₂) E s := by
  have form : ∀ {h : Heap} {m₁ : Str → Option Value}, (∀ y, stored.contains y = false → m₁ y = m₀ y) → Fr h₀ env.locals h m₁ → Fr h₀ env.locals h (fun y => if stored.contains y then m₁ y else m₀ y) := by
    intro h m₁ hm F
    have e : (fun y => if stored.contains y then m₁ y else m₀ y) = m₁ := by
      funext y
      cases q : stored.contains y with
      | true => simp
      | false => simp only [Bool.false_eq_true, if_false]; exact (hm y q).symm
    rw [e]
    exact F
  refine iter_const (fun _ m₁ => ∀ y, stored.contains y = false → m₁ y = m₀ y) hh hl F N (fun _ _ => rfl) ?_ ?_
  · intro i v m₁ h tk own _ hv hm F' N'
    exact turn i v m₁ h tk own hv (form hm F') N'
  · intro m₁ h tk hm F' N'
    exact done m₁ h tk (form hm F') N'
end
def RowIs (led : Led) (v : Value) (p : Str × Str) : Prop := ∃ a tn tx, v = .ref a ∧ (a, ({ cls := .type "tuple", data := .seq #[.str p.1 tn, .str p.2 tx] } : Obj)) ∈ led
def RowsAre (led : Led) (vs : List Value) (ps : List (Str × Str)) : Prop := vs.length = ps.length ∧ ∀ (i : Nat) (v : Value), vs[i]? = some v → ∃ p, ps[i]? = some p ∧ RowIs led v p
theorem RowIs.mono {led led' : Led} {v : Value} {p : Str × Str} (h : RowIs led v p) (hs : ∀ q ∈ led, q ∈ led') : RowIs led' v p :=
  let ⟨a, tn, tx, e, hm⟩ := h; ⟨a, tn, tx, e, hs _ hm⟩
theorem RowsAre.mono {led led' : Led} {vs : List Value} {ps : List (Str × Str)} (h : RowsAre led vs ps) (hs : ∀ q ∈ led, q ∈ led') : RowsAre led' vs ps :=
  ⟨h.1, fun i v e => let ⟨p, hp, r⟩ := h.2 i v e; ⟨p, hp, r.mono hs⟩⟩
theorem use_conv {w : World} {mean : ExcName → Option Value} {mg mb : Str → Option Value} {dp un : Nat} {gd : Option (List Code)} {cn : Str} {cs : Scope} {a : Addr} {ccd : Value} {cl : List (Str × Addr)} {outer : List Env} {A₀ : Around} {base h₀ : Heap} {L : Addr} {m : Str → Option Value} {s : Shared} {Q E : Value → Shared → Prop} {news : Led}
    {x : Addr} {v : Str} {tv : Tok} {b : Bool} (B : Below A₀ base outer h₀) (F : Fr h₀ L s.heap m) (X : (Mine.hd.heap_39 w.params).In h₀) (N : News h₀ L s.heap news) (T : MTop mean mg mb h₀) (hk : cs.kind = .function)
    (hd : dp + 2 < recursionLimit) (hu : un + 20 * 2 < cLine) (hv : printable v = true) (ret : ∀ t h' tk', Fr h₀ L h' m → News h₀ L h' news → Q (.str v t) { s with heap := h', toks := tk' }) :
    wpAny (model PySem.Challenge.rw_wj0069_01.row.prog w) (ktrTop dp un gd cn cs L a ccd cl outer) (call (.ref 104) [.ref x, .str v tv] [(Str.ofString "name", .bool b)]) Q E s :=
  conv_spec w mean mg mb news x v tv b hv dp un gd cn cs a ccd cl outer A₀ base h₀ L m s Q E B F X N T hk hd hu fun r add h' tk' hr _ F' N' => by
    obtain ⟨rfl, t, rfl⟩ := hr
    exact ret t h' tk' F' N'
end Mine
end

section
open PySem PySem.W PyProof.Rows PySem.Calls PySem.Spec
set_option maxRecDepth 100000
namespace Mine
set_option hygiene false in
local macro_rules | `(tactic| walk_at "call ref") => `(tactic| refine hold_it ?_)
local macro_rules | `(tactic| walk_at "exec For Tuple Name cons nil") => `(tactic| refine hold_it ?_)
local macro_rules | `(tactic| k_mem) => `(tactic| assumption)
theorem typ_list {prog : Program} {w : World} {A : Around} {E : Value → Shared → Prop} {Q : Value → Shared → Prop} {s : Shared} {h₀ : Heap} {L l : Addr} {news : Led} {its : Array Value} {n : Nat} (N : News h₀ L s.heap news) (hm : (l, listOf its n) ∈ news)
    (hq : Q (.type "list") s) : wpAny (model prog w) A (call (.type "type") [.ref l]) Q E s := kto_cont (T := "list") ⟨_, (N _ hm).1, rfl⟩ (by decide +kernel) hq
local macro_rules | `(tactic| walk_at "call type:type") => `(tactic| refine hold_it ?_)
def tabDict (h : Int) (t : Tok) (l : Addr) : Obj := dictOf [⟨h, .str (Str.ofString "_headers") t, .ref l⟩] 1
set_option maxHeartbeats 4000000 in
theorem head_spec (w : World) (mean : ExcName → Option Value) (mg mb : Str → Option Value) (news : Led) (l : Addr) (vs : List Value) (nn : Nat) (ps : List (Str × Str)) (hl : (l, listOf vs.toArray nn) ∈ news) (hr : RowsAre news vs ps)
    (hp : ∀ p ∈ ps, printable p.1 = true ∧ printable p.2 = true) :
    MCall w mean mg mb 5 203 [.ref l] news (fun v add => ∃ x d h t, v = .ref x ∧ add = [(x, instObj 203 d), (d, tabDict h t l)]) := by
  w_top off
  (have kf9 : ∀ (P : Params) (h : Heap), PySem.Challenge.rw_wj0069_01 = PySem.Challenge.rw_wj0069_01 → (Mine.hd.heap_39 P).In h → True := by (k_fill; intros; trivial))
  intro dp un gd cn cs a' ccd cl outer A₀ base h₀ L m s Q E hB hF hK hN hT hk hdp hun hret
  have hMk : KstMark := kstMark
  k_dflt (refine' call_cls ?k1 ?k2 ?k3 ?k4 ?k5 ?k6 ?_; (case k1 => k_asm); (case k2 => k_asm); (case k3 => k_asm); (case k4 => k_is); (case k5 => k_is); (case k6 => k_is); k_whole)
  intro x' d' h' F' N' l1 l2
  replace l1 := allLt_of l1
  k_lt2 l2
  (k_dflt ( (refine' code_def (binds := [(Str.ofString "self", .ref x'), (Str.ofString "headers", .ref l)]) ?k1 ?k2 ?k3 ?k4 ?k5 ?kA ?kF ?kK ?k6 ?k7 ?k8 ?k9 ?kB ?_ ?c2 ?c3 ?c4 ?c5; (case kA => exact rfl); (case kF => exact rfl); (case kK => assumption); (case k1 => k_asm); (case k2 => k_asm); (case k3 => k_asm); (case k4 => k_asm); (case k5 => k_asm); (case k6 => k_is); (case k7 => k_is); (case k8 => ktr_room); (case k9 => first | exact BindsTo.of_eq rfl | exact binds_K (by k_in) rfl (by k_is) rfl rfl rfl | (refine' kp_binds ?kx ?ke; (case kx => k_in); (case ke => exact fun _ => rfl))); (case c5 => decide); (case kB => exact locs rfl); (case c2 => exact rfl); (case c3 => exact rfl); (case c4 => exact rfl); k_whole; intro g' L' h' FG' F' N' B' X' T'; (simp only [List.reverse_cons, List.reverse_nil, List.nil_append, List.cons_append] at F'); (try dsimp only); (try k_lift B'); (try k_fold))))
  (repeat' (first | (unfold Hold; first | (k_here; (with_reducible show wpAny _ _ (call (Value.type "type") [Value.ref _]) _ _ _); k_dflt (refine' typ_list ?NBC40 ?mBC40 ?_; (case NBC40 => k_asm); (case mBC40 => k_mem); k_whole)) | ((with_reducible show wpAny _ _ (exec (Stmt.For _ _ _ _ _) _) _ _ _); (rename Fr _ _ _ _ => lF'); (with_unfolding_all refine' For_unrF lF' ?_ ?gBC41; (case gBC41 => exact fun _ => rfl); k_whole)) | ((with_reducible show wpAny _ _ (call (Value.ref _) _ _) _ _ _); with_unfolding_all (refine' use_conv ?k1BC42 ?k2BC42 ?k3BC42 ?k4BC42 ?k5BC42 ?k6BC42 ?k7BC42 ?k8BC42 ?k9BC42 ?_; (case k1BC42 => k_asm); (case k2BC42 => k_asm); (case k3BC42 => k_asm); (case k4BC42 => k_asm); (case k5BC42 => k_asm); (case k6BC42 => first | exact rfl | assumption); (case k7BC42 => ktr_room); (case k8BC42 => ktr_units); (case k9BC42 => assumption); k_whole); intro t' h' tk' F' N'; (try dsimp only); (try k_sweep)) | fail "no block") | (k_unfold; (try dsimp only)) | (k_end; kc_close) | walk1 | (dsimp only; walk1) | (leave1; (try dsimp only)) | fail "no step"))
  rename Fr _ _ _ _ => lF'
  rename News _ _ _ _ => lN'
  refine iter_constS [Str.ofString "k", Str.ofString "v"] (by rfl) (List.mem_append_right [_, _] hl) lF' lN' ?_ ?_
  · intro i v u h1 tk1 own hv F1 N1
    obtain ⟨p, hpi, b, tn, tx, rfl, hb⟩ := hr.2 i v hv
    have hpp := hp p (List.mem_of_getElem? hpi)
    have hp1 := hpp.1
    have hp2 := hpp.2
    have hb' : (b, ({ cls := .type "tuple", data := .seq #[.str p.1 tn, .str p.2 tx] } : Obj)) ∈ own ++ ((x', instObj 203 d') :: (d', dictOf [] 0) :: news) := List.mem_append_right _ (.tail _ (.tail _ hb))
    (repeat' (first | (unfold Hold; first | (k_here; (with_reducible show wpAny _ _ (call (Value.type "type") [Value.ref _]) _ _ _); k_dflt (refine' typ_list ?NBC40 ?mBC40 ?_; (case NBC40 => k_asm); (case mBC40 => k_mem); k_whole)) | ((with_reducible show wpAny _ _ (exec (Stmt.For _ _ _ _ _) _) _ _ _); (rename Fr _ _ _ _ => lF'); (with_unfolding_all refine' For_unrF lF' ?_ ?gBC41; (case gBC41 => exact fun _ => rfl); k_whole)) | ((with_reducible show wpAny _ _ (call (Value.ref _) _ _) _ _ _); with_unfolding_all (refine' use_conv ?k1BC42 ?k2BC42 ?k3BC42 ?k4BC42 ?k5BC42 ?k6BC42 ?k7BC42 ?k8BC42 ?k9BC42 ?_; (case k1BC42 => k_asm); (case k2BC42 => k_asm); (case k3BC42 => k_asm); (case k4BC42 => k_asm); (case k5BC42 => k_asm); (case k6BC42 => first | exact rfl | assumption); (case k7BC42 => ktr_room); (case k8BC42 => ktr_units); (case k9BC42 => assumption); k_whole); intro t' h' tk' F' N'; (try dsimp only); (try k_sweep)) | fail "no block") | (k_unfold; (try dsimp only)) | (k_end; kc_close) | walk1 | (dsimp only; walk1) | (leave1; (try dsimp only)) | fail "no step"))
    refine ⟨_, _, _, rfl, by assumption, by assumption, fun y hy => ?_⟩
    simp only [List.contains_cons, List.contains_nil, Bool.or_false, Bool.or_eq_false_iff, beq_eq_false_iff_ne, ne_eq] at hy
    simp [hy.1, hy.2]
  · intro u h1 tk1 F1 N1
    (repeat' (first | (unfold Hold; first | (k_here; (with_reducible show wpAny _ _ (call (Value.type "type") [Value.ref _]) _ _ _); k_dflt (refine' typ_list ?NBC40 ?mBC40 ?_; (case NBC40 => k_asm); (case mBC40 => k_mem); k_whole)) | ((with_reducible show wpAny _ _ (exec (Stmt.For _ _ _ _ _) _) _ _ _); (rename Fr _ _ _ _ => lF'); (with_unfolding_all refine' For_unrF lF' ?_ ?gBC41; (case gBC41 => exact fun _ => rfl); k_whole)) | ((with_reducible show wpAny _ _ (call (Value.ref _) _ _) _ _ _); with_unfolding_all (refine' use_conv ?k1BC42 ?k2BC42 ?k3BC42 ?k4BC42 ?k5BC42 ?k6BC42 ?k7BC42 ?k8BC42 ?k9BC42 ?_; (case k1BC42 => k_asm); (case k2BC42 => k_asm); (case k3BC42 => k_asm); (case k4BC42 => k_asm); (case k5BC42 => k_asm); (case k6BC42 => first | exact rfl | assumption); (case k7BC42 => ktr_room); (case k8BC42 => ktr_units); (case k9BC42 => assumption); k_whole); intro t' h' tk' F' N'; (try dsimp only); (try k_sweep)) | fail "no block") | (k_unfold; (try dsimp only)) | (k_end; kc_close) | walk1 | (dsimp only; walk1) | (leave1; (try dsimp only)) | fail "no step"))
    refine hret _ [_, _] _ _ ⟨x', d', _, _, rfl, rfl⟩ ?_ (by assumption) (by assumption)
    intro q hq q' hq'
    have hlt := kst_ltOf l1 q hq
    rcases List.mem_cons.mp hq' with rfl | hq'
    · exact Nat.ne_of_lt (Nat.lt_trans hlt l2)
    · rcases List.mem_cons.mp hq' with rfl | hq'
      · exact Nat.ne_of_lt hlt
      · cases hq'
end Mine
end

section
open PySem PySem.W PyProof.Rows PySem.Calls PySem.Spec
set_option maxRecDepth 100000
namespace Mine
set_option hygiene false in
local macro_rules | `(tactic| walk_at "call ref") => `(tactic| refine hold_it ?_)
local macro_rules | `(tactic| k_mem) => `(tactic| assumption)
section
open PyProof.Rows
variable {prog : Program} {w : World} {A : Around} {h₀ : Heap} {L : Addr} {m : Str → Option Value} {env : Env} {ct elt : Expr} {x : Str} {scope : Scope} {cl : List (Str × Addr)} {s : Shared} {S : Led → Prop} {P : Nat → Value → Prop} {Fin : List Value → Led → Prop} {news : Led}
theorem restT_gen {n : Nat} (Y : Nat → List Value → Prop) (h0 : Y 0 [])
    (turn : ∀ i v I oI C oC D m₂ ys h tk (E' : Value → Shared → Prop), i < n → P i v → Y i ys → LCg.NsObj oC m₂ → m₂ x = some v → Fr h₀ L h m → News h₀ L h ((I, oI) :: (C, oC) :: (D, LCg.lst ys) :: news) → LCg.Off3 I C D news → ((@Ne Nat I C) ∧ (@Ne Nat I D) ∧ (@Ne Nat C D)) →
      wpAny (model prog w) A (isTrue ct (compEnvC scope cl C env) (eval ct (compEnvC scope cl C env))) (fun b s' => if b = true then wpAny (model prog w) A (eval elt (compEnvC scope cl C env)) (LCg.CompEnd h₀ L m { s with heap := h, toks := tk } I oI C oC D (LCg.lst ys) S (fun y news' => news' = news ∧ Y (i + 1) (ys ++ [y]))) E' s'
        else LCg.CompEnd h₀ L m { s with heap := h, toks := tk } I oI C oC D (LCg.lst ys) S (fun _ news' => news' = news ∧ Y (i + 1) ys) Value.none s') E' { s with heap := h, toks := tk })
    (fin : ∀ ys, Y n ys → Fin ys news) : LCt.CompRestT prog w A h₀ L m env ct elt x scope cl s S P Fin n 0 [] news := by
  have key : ∀ (j i : Nat) (ys : List Value), i + j = n → Y i ys → LCt.CompRestT prog w A h₀ L m env ct elt x scope cl s S P Fin j i ys news := by
    intro j
    induction j with
    | zero =>
      intro i ys hi hy
      have e : i = n := by omega
      subst e
      exact LCt.CompRestT.zero (fin ys hy)
    | succ j ih =>
      intro i ys hi hy
      refine LCt.CompRestT.succ ?_
      intro v I oI C oC D m₂ h tk E' hv hC hx F N off ne
      refine wpAny_mono (turn i v I oI C oC D m₂ ys h tk E' (by omega) hv hy hC hx F N off ne) (fun b s₂ hq => ?_) fun _ _ e => e
      cases b with
      | true =>
        simp only [if_true] at hq ⊢
        refine wpAny_mono hq (fun y s₃ hr => ?_) fun _ _ e => e
        obtain ⟨h', tk', nw, e, F', N', off', hS, rfl, hY⟩ := hr
        exact ⟨h', tk', _, e, F', N', off', hS, ih (i + 1) _ (by omega) hY⟩
      | false =>
        simp only [Bool.false_eq_true, if_false] at hq ⊢
        obtain ⟨h', tk', nw, e, F', N', off', hS, rfl, hY⟩ := hq
        exact ⟨h', tk', _, e, F', N', off', hS, ih (i + 1) _ (by omega) hY⟩
  exact key n 0 [] (by omega) h0
theorem restU_gen {n : Nat} (Y : Nat → List Value → Prop) (h0 : Y 0 [])
    (turn : ∀ i v I oI C oC D m₂ ys h tk (E' : Value → Shared → Prop), i < n → P i v → Y i ys → LCg.NsObj oC m₂ → m₂ x = some v → Fr h₀ L h m → News h₀ L h ((I, oI) :: (C, oC) :: (D, LCg.lst ys) :: news) → LCg.Off3 I C D news → ((@Ne Nat I C) ∧ (@Ne Nat I D) ∧ (@Ne Nat C D)) →
      wpAny (model prog w) A (eval elt (compEnvC scope cl C env)) (LCg.CompEnd h₀ L m { s with heap := h, toks := tk } I oI C oC D (LCg.lst ys) S (fun y news' => news' = news ∧ Y (i + 1) (ys ++ [y]))) E' { s with heap := h, toks := tk })
    (fin : ∀ ys, Y n ys → Fin ys news) : LCg.CompRest prog w A h₀ L m env elt x scope cl s S P Fin n 0 [] news := by
  have key : ∀ (j i : Nat) (ys : List Value), i + j = n → Y i ys → LCg.CompRest prog w A h₀ L m env elt x scope cl s S P Fin j i ys news := by
    intro j
    induction j with
    | zero =>
      intro i ys hi hy
      have e : i = n := by omega
      subst e
      exact LCg.CompRest.zero (fin ys hy)
    | succ j ih =>
      intro i ys hi hy
      refine LCg.CompRest.succ ?_
      intro v I oI C oC D m₂ h tk E' hv hC hx F N off ne
      refine wpAny_mono (turn i v I oI C oC D m₂ ys h tk E' (by omega) hv hy hC hx F N off ne) (fun y s₃ hr => ?_) fun _ _ e => e
      obtain ⟨h', tk', nw, e, F', N', off', hS, rfl, hY⟩ := hr
      exact ⟨h', tk', _, e, F', N', off', hS, ih (i + 1) _ (by omega) hY⟩
  exact key n 0 [] (by omega) h0
end
theorem off1_mem {D : Addr} : ∀ {l : Led}, LCg.Off1 D l → ∀ p ∈ l, @Ne Nat p.1 D
  | [], _, _, hp => nomatch hp
  | _ :: _, h, p, hp => by
    rcases List.mem_cons.mp hp with rfl | hp
    · exact h.1
    · exact off1_mem h.2 p hp
theorem take_next {α : Type} {l : List α} {i : Nat} {a : α} (h : l[i]? = some a) : l.take (i + 1) = l.take i ++ [a] := by
  rw [List.take_add_one, h]; rfl
theorem keep_next {α β : Type} {l : List α} {i : Nat} {a : α} (k : α → Bool) (f : α → β) (h : l[i]? = some a) (hk : k a = true) : ((l.take (i + 1)).filter k).map f = ((l.take i).filter k).map f ++ [f a] := by
  rw [take_next h, List.filter_append, List.map_append]; simp [hk]
theorem drop_next {α β : Type} {l : List α} {i : Nat} {a : α} (k : α → Bool) (f : α → β) (h : l[i]? = some a) (hk : k a = false) : ((l.take (i + 1)).filter k).map f = ((l.take i).filter k).map f := by
  rw [take_next h, List.filter_append, List.map_append]; simp [hk]
local macro_rules | `(tactic| walk_at "eval ListComp") => `(tactic| refine hold_it ?_)
set_option maxHeartbeats 4000000 in
theorem getall_spec (w : World) (mean : ExcName → Option Value) (mg mb : Str → Option Value) (news : Led) (x d l : Addr) (hh : Int) (t tw : Tok) (vs : List Value) (nn : Nat) (ps : List (Str × Str)) (wd : Str)
    (hx : (x, instObj 203 d) ∈ news) (hd : (d, tabDict hh t l) ∈ news) (hl : (l, listOf vs.toArray nn) ∈ news) (hr : RowsAre news vs ps) (hn : vs.length ≤ 1000) (hps : ∀ p ∈ ps, p.1.length ≤ 1000) (hp : printable (Txt.lower wd) = true) (hw : wd.length ≤ 100) :
    MCall w mean mg mb 5 142 [.ref x, .str wd tw] news (fun v add => ∃ r ys n, v = .ref r ∧ add = [(r, listOf ys.toArray n)] ∧ StrsAre ys ((ps.filter fun p => Txt.lower p.1 == Txt.lower wd).map (·.2))) := by
  w_top off
  (have kf9 : ∀ (P : Params) (h : Heap), PySem.Challenge.rw_wj0069_01 = PySem.Challenge.rw_wj0069_01 → (Mine.hd.heap_39 P).In h → True := by (k_fill; intros; trivial))
  intro dp un gd cn cs a' ccd cl outer A₀ base h₀ L m s Q E hB hF hK hN hT hk hdp hun hret
  have hMk : KstMark := kstMark
  refine wpAny_call ?_
  k_dflt (refine' code_defC (binds := [(Str.ofString "self", .ref x), (Str.ofString "name", .str wd tw)]) ?k1 ?k2 ?k3 ?k4 ?k5 ?kA ?kF ?kK ?k6 ?k7 ?k8 ?k9 ?kB ?kD ?_ ?c2 ?c3 ?c4; (case kA => exact rfl); (case kF => exact rfl); (case kK => assumption); (case k1 => k_asm); (case k2 => k_asm); (case k3 => k_asm); (case k4 => k_asm); (case k5 => k_asm); (case k6 => k_is); (case k7 => k_is); (case k8 => ktr_room); (case k9 => exact BindsTo.of_eq rfl); (case kB => exact rfl); (case kD => decide +kernel); (case c2 => exact rfl); (case c3 => exact rfl); (case c4 => exact rfl); k_whole; intro g' L' h' tk' cells' FG' F' N' Y' B' X' T' l1; (have l1' : ∀ p ∈ news, @LT.lt Nat _ p.1 (L' + 1) := fun p hp => Nat.lt_succ_of_lt (l1 p hp)); k_cells Y'; (try simp only [List.cons_append, List.nil_append] at N'); (try dsimp only); (try k_lift B'); (try k_fold))
  (repeat' (first | (unfold Hold; first | ((with_reducible show wpAny _ _ (eval (Expr.ListComp _ _ _ _) _) _ _ _); k_dflt (refine LCt.ListComp_T (F₀ := by k_asm) (by with_unfolding_all rfl) (by decide) (by rfl) (by decide) (by rfl) ?_)) | ((with_reducible show wpAny _ _ (call (Value.ref _) _ _) _ _ _); with_unfolding_all (refine' use_conv ?k1BC51 ?k2BC51 ?k3BC51 ?k4BC51 ?k5BC51 ?k6BC51 ?k7BC51 ?k8BC51 ?k9BC51 ?_; (case k1BC51 => k_asm); (case k2BC51 => k_asm); (case k3BC51 => k_asm); (case k4BC51 => k_asm); (case k5BC51 => k_asm); (case k6BC51 => first | exact rfl | assumption); (case k7BC51 => ktr_room); (case k8BC51 => ktr_units); (case k9BC51 => assumption); k_whole); intro t' h' tk' F' N'; (try dsimp only); (try k_sweep)) | fail "no block") | (k_unfold; (try dsimp only)) | (k_end; kc_close) | walk1 | (dsimp only; walk1) | (leave1; (try dsimp only)) | fail "no step"))
  rename Fr _ _ _ _ => lF'
  rename News _ _ _ _ => lN'
  k_dflt refine LCt.CompSrcT.ledger (by rfl) lF' lN' (List.Mem.tail _ hl) (by rw [sizeLine_eq, List.size_toArray]; omega) ?_
  intro g9
  have e9 : vs.toArray.size = vs.length := by simp
  rw [e9]
  refine restT_gen (fun i ys => StrsAre ys (((ps.take i).filter fun p => Txt.lower p.1 == Txt.lower wd).map (·.2))) .nil ?_ ?_
  · intro i v I oI C oC D m₂ ys h9 tk9 E9 hi hv hY hC hx9 F9 N9 off9 ne9
    obtain ⟨p, hpi, b, tn, tx, rfl, hb⟩ := hr.2 i v (by simpa using hv)
    have hpl := hps p (List.mem_of_getElem? hpi)
    (repeat' (first | (unfold Hold; first | ((with_reducible show wpAny _ _ (eval (Expr.ListComp _ _ _ _) _) _ _ _); k_dflt (refine LCt.ListComp_T (F₀ := by k_asm) (by with_unfolding_all rfl) (by decide) (by rfl) (by decide) (by rfl) ?_)) | ((with_reducible show wpAny _ _ (call (Value.ref _) _ _) _ _ _); with_unfolding_all (refine' use_conv ?k1BC51 ?k2BC51 ?k3BC51 ?k4BC51 ?k5BC51 ?k6BC51 ?k7BC51 ?k8BC51 ?k9BC51 ?_; (case k1BC51 => k_asm); (case k2BC51 => k_asm); (case k3BC51 => k_asm); (case k4BC51 => k_asm); (case k5BC51 => k_asm); (case k6BC51 => first | exact rfl | assumption); (case k7BC51 => ktr_room); (case k8BC51 => ktr_units); (case k9BC51 => assumption); k_whole); intro t' h' tk' F' N'; (try dsimp only); (try k_sweep)) | fail "no block") | (k_unfold; (try dsimp only)) | (k_end; kc_close) | walk1 | (dsimp only; walk1) | (leave1; (try dsimp only)) | fail "no step"))
    · refine ⟨_, _, _, rfl, by assumption, by assumption, off9, .inr ⟨_, List.Mem.tail _ hl, rfl, _, rfl⟩, rfl, ?_⟩
      rw [keep_next _ _ hpi (by assumption)]
      exact kct_snoc hY
    · refine ⟨_, _, _, rfl, by assumption, by assumption, off9, .inr ⟨_, List.Mem.tail _ hl, rfl, _, rfl⟩, rfl, ?_⟩
      rw [drop_next _ _ hpi (by assumption)]
      exact hY
  · intro ys hY
    rw [hr.1, List.take_length] at hY
    (repeat' (first | (unfold Hold; first | ((with_reducible show wpAny _ _ (eval (Expr.ListComp _ _ _ _) _) _ _ _); k_dflt (refine LCt.ListComp_T (F₀ := by k_asm) (by with_unfolding_all rfl) (by decide) (by rfl) (by decide) (by rfl) ?_)) | ((with_reducible show wpAny _ _ (call (Value.ref _) _ _) _ _ _); with_unfolding_all (refine' use_conv ?k1BC51 ?k2BC51 ?k3BC51 ?k4BC51 ?k5BC51 ?k6BC51 ?k7BC51 ?k8BC51 ?k9BC51 ?_; (case k1BC51 => k_asm); (case k2BC51 => k_asm); (case k3BC51 => k_asm); (case k4BC51 => k_asm); (case k5BC51 => k_asm); (case k6BC51 => first | exact rfl | assumption); (case k7BC51 => ktr_room); (case k8BC51 => ktr_units); (case k9BC51 => assumption); k_whole); intro t' h' tk' F' N'; (try dsimp only); (try k_sweep)) | fail "no block") | (k_unfold; (try dsimp only)) | (k_end; kc_close) | walk1 | (dsimp only; walk1) | (leave1; (try dsimp only)) | fail "no step"))
    rename _ ∧ LCg.Off1 _ _ => hoff
    rename News h₀ _ _ _ => kN9
    refine hret _ [_] _ _ ⟨_, ys, ys.length, rfl, rfl, hY⟩ ?_ (by assumption) ?_
    · intro q hq q' hq'
      rcases List.mem_cons.mp hq' with rfl | hq'
      · exact off1_mem hoff.2 q hq
      · cases hq'
    · intro q hq
      refine kN9 q ?_
      rcases List.mem_cons.mp hq with rfl | hq
      · exact List.mem_cons_self
      · exact .tail _ (.tail _ hq)
end Mine
end

section
open PySem PySem.W PyProof.Rows PySem.Calls PySem.Spec
set_option maxRecDepth 100000
namespace Mine
def mn (a b : Int) : Int := if b < a then b else a
section
variable {prog : Program} {w : World} {A : Around} {E : Value → Shared → Prop} {s : Shared} {value slice : Expr} {x : Str} {t : Tok} {h₀ : Heap} {L : Addr} {m : Str → Option Value} {news : List (Addr × Obj)} {Q : Value → Shared → Prop}
theorem slice_idx (n : Nat) : (Builtin.Str.strSliceIndices (some 0) none 1 n).length = n ∧ (Builtin.Str.strSliceIndices none none 1 n).length = n := by
  constructor <;> simp [Builtin.Str.strSliceIndices, sliceRange] <;> omega
theorem slice_0 (x : Str) : Txt.slice x (some 0) none = x := by
  unfold Txt.slice
  rw [if_pos]
  rw [(slice_idx x.length).1]; simp
theorem slice_n (x : Str) : Txt.slice x none none = x := by
  unfold Txt.slice
  rw [if_pos]
  rw [(slice_idx x.length).2]; simp
theorem sl_nn {h : Heap} {g d k o} (hF : Fr h₀ L h m) (hN : News h₀ L h news) (hsz : x.length ≤ 1000)
    (hs : subscripted slice false (.str x t) (.ref h.objs.size) = operate [.ref h.objs.size, .str x t] (getItem (.str x t) (.ref h.objs.size))) (H : ∀ h' t' k, Fr h₀ L h' m → News h₀ L h' news → Q (.str x t') ⟨h', g, d, k, o⟩) :
    wpAny (model prog w) A (subscriptTail value slice (.str x t) (.ref h.objs.size)) Q E ⟨h.push { cls := .type "slice", data := .fields #[.none, .none, .none] }, g, d, k, o⟩ :=
  kba_turn (value' := PySem.Expr.Name (PySem.Str.ofString "_") ⟨0, 0, 0, 0⟩) (fun _ => rfl) (slice_strN_nn (s := ⟨h, g, d, k, o⟩) hF hN (by rw [slice_n]; exact H) hs (fun _ => rfl) (by rw [sizeLine_eq]; omega))
theorem sl_sn {h : Heap} {g d k o} {i : Int} {ui : Tok} (hF : Fr h₀ L h m) (hN : News h₀ L h news) (hi : i = 0) (hsz : x.length ≤ 1000)
    (hs : subscripted slice false (.str x t) (.ref h.objs.size) = operate [.ref h.objs.size, .str x t] (getItem (.str x t) (.ref h.objs.size))) (H : ∀ h' t' k, Fr h₀ L h' m → News h₀ L h' news → Q (.str x t') ⟨h', g, d, k, o⟩) :
    wpAny (model prog w) A (subscriptTail value slice (.str x t) (.ref h.objs.size)) Q E ⟨h.push { cls := .type "slice", data := .fields #[.int i ui, .none, .none] }, g, d, k, o⟩ :=
  kba_turn (value' := PySem.Expr.Name (PySem.Str.ofString "_") ⟨0, 0, 0, 0⟩) (fun _ => rfl) (slice_strN_sn (s := ⟨h, g, d, k, o⟩) hF hN (by subst hi; rw [slice_0]; exact H) hs (fun _ => rfl) (by rw [sizeLine_eq]; omega))
theorem sl_ns {h : Heap} {g d k o} {j : Int} {uj : Tok} {y : Str} (hF : Fr h₀ L h m) (hN : News h₀ L h news) (e : Txt.slice x none (some j) = y) (hsz : x.length ≤ 1000)
    (hs : subscripted slice false (.str x t) (.ref h.objs.size) = operate [.ref h.objs.size, .str x t] (getItem (.str x t) (.ref h.objs.size))) (H : ∀ h' t' k, Fr h₀ L h' m → News h₀ L h' news → Q (.str y t') ⟨h', g, d, k, o⟩) :
    wpAny (model prog w) A (subscriptTail value slice (.str x t) (.ref h.objs.size)) Q E ⟨h.push { cls := .type "slice", data := .fields #[.none, .int j uj, .none] }, g, d, k, o⟩ :=
  kba_turn (value' := PySem.Expr.Name (PySem.Str.ofString "_") ⟨0, 0, 0, 0⟩) (fun _ => rfl) (slice_strN_ns (s := ⟨h, g, d, k, o⟩) hF hN (by rw [e]; exact H) hs (fun _ => rfl) (by rw [sizeLine_eq]; omega))
theorem ints_of_get : ∀ {us : List Value} {ns : List Int}, us.length = ns.length → (∀ (i : Nat) (v : Value), us[i]? = some v → ∃ (t : Tok) (n : Int), ns[i]? = some n ∧ v = Value.int n t) → IntsAre us ns
  | [], [], _, _ => .nil
  | [], _ :: _, h, _ => nomatch h
  | _ :: _, [], h, _ => nomatch h
  | v :: us, n :: ns, h, H => by
    obtain ⟨t, k, hk, rfl⟩ := H 0 v rfl
    have e : n = k := by simpa using hk
    subst e
    exact .cons _ _ (ints_of_get (by simpa using h) fun i v hv => H (i + 1) v (by simpa using hv))
def row0 (n : Nat) : List Int := (List.range n).map fun (i : Nat) => (2 : Int) + (i : Int) * 2
theorem l2_range {r : Addr} {b : Int} {t₀ u₀ v₀ : Tok} {n : Nat} (hh : A.handled = none) (F : Fr h₀ L s.heap m) (N : News h₀ L s.heap news) (hr : IsRange s.heap r 2 b 2 t₀ u₀ v₀) (hb : b = 2 * ((n : Int) + 1)) (hz : n ≤ 20)
    (h : ∀ D us c h' tk, Fr h₀ L h' m → News h₀ L h' ((D, listOf (List.toArray us) c) :: news) → (∀ p ∈ news, p.1 < D) → IntsAre us (row0 n) → Q (.ref D) { s with heap := h', toks := tk }) :
    wpAny (model prog w) A (call (.type "list") [.ref r]) Q E s := by
  have hn : Builtin.Range.rangeSize 2 b 2 = (n : Int) := by
    subst hb; unfold Builtin.Range.rangeSize; simp only [show (2 : Int) > 0 by decide, if_true]; split <;> omega
  have hsmall : Builtin.Range.small 2 b 2 = true := by
    subst hb; unfold Builtin.Range.small; rw [hn]; unfold Builtin.Range.rangeFitsLong; (have : (n : Int) ≤ 20 := by omega); simp; omega
  refine call_list_range hh hr hsmall hn (by omega) fun h' tk acc c hk hD hI => ?_
  have hD' : h'.get? s.heap.objs.size = some (listOf (List.toArray acc.toList) c) := by
    rw [Array.toArray_toList]
    exact hD
  refine h _ acc.toList c h' tk (F.keeps hk) (news_pushed F N hk hD' rfl) (fun p hp => Heap.lt_size (N p hp).1) (ints_of_get (by rw [Array.length_toList, hI.1]; simp [row0]) fun j v hj => ?_)
  have hj' : acc[j]? = some v := by rw [← hj, Array.getElem?_toList]
  obtain ⟨t, rfl⟩ := hI.2 j v hj'
  have hjn : j < n := by
    have := (Array.getElem?_eq_some_iff.mp hj').1
    rw [hI.1] at this; exact this
  exact ⟨t, _, by simp [row0, hjn], rfl⟩
theorem min_mn {a b : Int} {t u : Tok} (F : Fr h₀ L s.heap m) (N : News h₀ L s.heap news) (hh : A.handled = none)
    (h : ∀ h' tk t', Fr h₀ L h' m → News h₀ L h' news → Q (.int (mn a b) t') { s with heap := h', toks := tk }) : wpAny (model prog w) A (call (.builtin "min") [.int a t, .int b u]) Q E s :=
  min_two_N hh F N fun h' tk F' N' => h h' tk _ F' N'
theorem min_op {a b : Int} {t u : Tok} (F : Fr h₀ L s.heap m) (N : News h₀ L s.heap news) (hh : A.handled = none)
    (h : ∀ h' tk t' v, v = mn a b → Fr h₀ L h' m → News h₀ L h' news → Q (.int v t') { s with heap := h', toks := tk }) : wpAny (model prog w) A (call (.builtin "min") [.int a t, .int b u]) Q E s :=
  min_two_N hh F N fun h' tk F' N' => h h' tk _ _ rfl F' N'
theorem tok_gen {α : Type} {t : Sem α} {Q : α → Shared → Prop} {h : Heap} {g d k o} (H : ∀ k, wpAny (model prog w) A t Q E ⟨h, g, d, k, o⟩) : wpAny (model prog w) A t Q E ⟨h, g, d, k, o⟩ := H k
end
def lval (a bc : Str) (row : List Int) (d r i : Int) : Int := mn (mn r (row.getD i.toNat 0) + 2) (d + subCost bc (Txt.item a i))
def lstep (a bc : Str) (st : List Int × Int × Int × Int) (i : Int) : List Int × Int × Int × Int :=
  (st.1.set i.toNat (lval a bc st.1 st.2.1 st.2.2.1 i), st.1.getD i.toNat 0, lval a bc st.1 st.2.1 st.2.2.1 i, if lval a bc st.1 st.2.1 st.2.2.1 i < st.2.2.2 then lval a bc st.1 st.2.1 st.2.2.1 i else st.2.2.2)
theorem lrun_snoc {α : Type} {f : α → Int → α} {st0 st st' : α} {pre : List Int} {k : Int} (h : st = pre.foldl f st0) (e : st' = f st k) : st' = (pre ++ [k]).foldl f st0 := by
  rw [List.foldl_append, ← h]; exact e
def lrow (a bc : Str) (row : List Int) (k : Int) : List Int × Int × Int × Int := (rangeKs 0 a.length).foldl (lstep a bc) (row, k * 2, k * 2, 9223372036854775807)
def lcol (a b : Str) (st : List Int × Int) (k : Int) : List Int × Int := ((lrow a (Txt.item b k) st.1 k).1, (lrow a (Txt.item b k) st.1 k).2.2.1)
def lcols (a b : Str) (n : Nat) : List Int × Int := (rangeKs 0 n).foldl (lcol a b) (row0 a.length, 0)
def levP (a b : Str) : Int := (lcols a b b.length).2
def LevOK (a b : Str) (mc : Int) : Prop := ∀ j, j < b.length → (lrow a (Txt.item b (j : Int)) (lcols a b j).1 (j : Int)).2.2.2 ≤ mc
theorem rk_snoc {pre : List Int} {k : Int} (h : pre = rangeKs 0 pre.length) (hk : k = 0 + (pre.length : Int)) : pre ++ [k] = rangeKs 0 (pre ++ [k]).length := by
  rw [List.length_append]
  show _ = (List.range (pre.length + 1)).map _
  rw [List.range_succ, List.map_append]
  rw [show (List.range pre.length).map (fun i => (0 : Int) + ((i : Nat) : Int)) = pre from h.symm, hk]
  rfl
theorem lev_ok {a b : Str} {mc k d' r' m' r : Int} {pre row row' : List Int} {n : Nat} (hM : LevOK a b mc) (h1 : pre = rangeKs 0 pre.length) (hl : pre.length < n) (hn : n = b.length) (hk : k = 0 + (pre.length : Int)) (h2 : (row, r) = pre.foldl (lcol a b) (row0 a.length, 0))
    (h3 : (row', d', r', m') = (rangeKs 0 a.length).foldl (lstep a (Txt.item b k)) (row, k * 2, k * 2, 9223372036854775807)) : m' ≤ mc := by
  have h := hM pre.length (by omega)
  have e : k = (pre.length : Int) := by omega
  subst e
  have e2 : lcols a b pre.length = (row, r) := by
    unfold lcols; rw [← h1]; exact h2.symm
  rw [e2] at h
  unfold lrow at h
  rw [← h3] at h
  exact h
theorem lev_col {a b : Str} {k d' r' m' r : Int} {row row' : List Int} (h3 : (row', d', r', m') = (rangeKs 0 a.length).foldl (lstep a (Txt.item b k)) (row, k * 2, k * 2, 9223372036854775807)) : (row', r') = lcol a b (row, r) k := by
  unfold lcol lrow
  rw [← h3]
theorem lstep_lt {a bc : Str} {row : List Int} {d r m i v : Int} (e : v = lval a bc row d r i) (h : v < m) : (row.set i.toNat v, row.getD i.toNat 0, v, v) = lstep a bc (row, d, r, m) i := by
  subst e; unfold lstep; dsimp only; rw [if_pos h]
theorem lstep_ge {a bc : Str} {row : List Int} {d r m i v : Int} (e : v = lval a bc row d r i) (h : ¬ v < m) : (row.set i.toNat v, row.getD i.toNat 0, v, m) = lstep a bc (row, d, r, m) i := by
  subst e; unfold lstep; dsimp only; rw [if_neg h]
theorem lev_out {a b : Str} {row : List Int} {r : Int} (h : (row, r) = (rangeKs 0 b.length).foldl (lcol a b) (row0 a.length, 0)) : r = levP a b := by
  unfold levP lcols; rw [← h]
theorem use_sub {w : World} {mean : ExcName → Option Value} {mg mb : Str → Option Value} {dp un : Nat} {gd : Option (List Code)} {cn : Str} {cs : Scope} {a : Addr} {ccd : Value} {cl : List (Str × Addr)} {outer : List Env} {A₀ : Around} {base h₀ : Heap} {L : Addr} {m : Str → Option Value} {s : Shared} {Q E : Value → Shared → Prop} {news : Led}
    {x y : Str} {tx ty : Tok} (B : Below A₀ base outer h₀) (F : Fr h₀ L s.heap m) (X : (Mine.hd.heap_39 w.params).In h₀) (N : News h₀ L s.heap news) (T : MTop mean mg mb h₀) (hk : cs.kind = .function)
    (hd : dp + 2 < recursionLimit) (hu : un + 20 * 2 < cLine) (hx : x.length ≤ 10) (hy : y.length ≤ 10) (ret : ∀ t h' tk', Fr h₀ L h' m → News h₀ L h' news → Q (.int (subCost x y) t) { s with heap := h', toks := tk' }) :
    wpAny (model PySem.Challenge.rw_wj0069_01.row.prog w) (ktrTop dp un gd cn cs L a ccd cl outer) (call (.ref 65) [.str x tx, .str y ty]) Q E s :=
  sub_spec w mean mg mb news x y tx ty hx hy dp un gd cn cs a ccd cl outer A₀ base h₀ L m s Q E B F X N T hk hd hu fun r add h' tk' hr _ F' N' => by
    obtain ⟨rfl, t, rfl⟩ := hr
    exact ret t h' tk' F' N'
set_option hygiene false in
local macro_rules | `(tactic| walk_at "call ref") => `(tactic| refine hold_it ?_)
local macro_rules | `(tactic| walk_at "InvEndN") => `(tactic| refine hold_it ?_)
local macro_rules | `(tactic| walk_at "call builtin:min") => `(tactic| refine hold_it ?_)
local macro_rules | `(tactic| walk_at "WhlIf") => `(tactic| refine hold_it ?_)
local macro_rules | `(tactic| walk_at "subscriptTail Name Slice str ref") => `(tactic| refine hold_it ?_)
local macro_rules | `(tactic| walk_at "call type:list") => `(tactic| refine hold_it ?_)
local macro_rules | `(tactic| walk_at "pyIter ref") => `(tactic| first
  | k_state_given ["a", "bchar", "row!", "distance!", "result!", "minimum!"] (fun a bc row0 d0 r0 m0 pre row d r m => row.length = a.length ∧ (row, d, r, m) = pre.foldl (lstep a bc) (row0, d0, r0, m0)) "row" "distance" "result" "minimum"
  | k_state_given ["a", "b", "row!", "result!"] (fun a b row0 r0 pre row r => row.length = a.length ∧ pre = rangeKs 0 pre.length ∧ (row, r) = pre.foldl (lcol a b) (row0, r0)) "row" "result")
local macro_rules | `(tactic| kst_p) => `(tactic| ((try dsimp only) <;> (repeat' refine And.intro ?_ ?_) <;> first | (with_reducible assumption) | (with_reducible rfl) | (simp only [row0, List.length_map, List.length_range]; done) | (simp [rangeKs]; done) | (rw [List.length_set]; with_reducible assumption) | exact rk_snoc (by with_reducible assumption) (by with_reducible assumption) | (refine lrun_snoc (by with_reducible assumption) ?_; first | exact lev_col (by assumption) | exact lstep_lt (by assumption) (by with_reducible assumption) | exact lstep_ge (by assumption) (by with_reducible assumption) | exact lstep_ge (by assumption) (Int.not_lt.mpr (by with_reducible assumption)))))
local macro_rules | `(tactic| walk_at "exec While BoolOp cons nil") => `(tactic| (k_here; k_dflt (refine whl_start 1 ?_); refine whl_turn (by passes_own) ?_))

theorem wp_execs_app {M : Model} {Γ : PySem.Ctx} {env : Env} {rest : List Stmt} {Q : Flow → Shared → Prop} {E : Value → Shared → Prop} (Mid : Shared → Prop)
    (h2 : ∀ p s, Mid s → Sem.wp M Γ (execs rest env) (fun a _ s' => Q a s') (fun e _ s' => E e s') p s) :
    ∀ (l : List Stmt) p s, Sem.wp M Γ (execs l env) (fun f _ s' => match f with | .next => Mid s' | f => Q f s') (fun e _ s' => E e s') p s → Sem.wp M Γ (execs (l ++ rest) env) (fun a _ s' => Q a s') (fun e _ s' => E e s') p s
  | [], p, s, h => h2 p s h
  | st :: l, p, s, h => by
    rw [execs_cons, Sem.wp_bind'] at h
    rw [List.cons_append, execs_cons, Sem.wp_bind']
    refine Sem.wp_mono M Γ _ (fun f p' s' h' => ?_) (fun _ _ _ h' => h') _ _ h
    cases f with
    | next => exact wp_execs_app Mid h2 l p' s' h'
    | _ => exact h'
def MidL (g : Heap) (L : Addr) (s : Shared) (mE : Str → Option Value) (x y : Str) (news : Led) (s' : Shared) : Prop :=
  ∃ h' tk' p t1 t2 t3, s' = { s with heap := h', toks := tk' } ∧ Fr g L h' (fun z => if z = Str.ofString "b" then some (.str y t1) else if z = Str.ofString "a" then some (.str x t2) else if z = Str.ofString "post" then some (.int p t3) else mE z) ∧ News g L h' news
theorem midL_0 {g : Heap} {L : Addr} {s s' : Shared} {mE : Str → Option Value} {x y : Str} {news : Led} {h' : Heap} {tk' : Nat} {p : Int} {t1 t2 t3 : Tok} (e : s' = { s with heap := h', toks := tk' })
    (F : Fr g L h' (fun z => if z = Str.ofString "b" then some (.str y t1) else if z = Str.ofString "a" then some (.str x t2) else mE z)) (hp : mE (Str.ofString "post") = some (.int p t3)) (N : News g L h' news) : MidL g L s mE x y news s' := by
  refine ⟨h', tk', p, t1, t2, t3, e, ?_, N⟩
  have : (fun z => if z = Str.ofString "b" then some (Value.str y t1) else if z = Str.ofString "a" then some (Value.str x t2) else if z = Str.ofString "post" then some (Value.int p t3) else mE z) = (fun z => if z = Str.ofString "b" then some (.str y t1) else if z = Str.ofString "a" then some (.str x t2) else mE z) := by
    funext z
    by_cases h : z = Str.ofString "post"
    · subst h; rw [if_pos rfl, hp]
    · rw [if_neg h]
  rw [this]; exact F
theorem midL_2 {g : Heap} {L : Addr} {s s' : Shared} {mE : Str → Option Value} {x y : Str} {news : Led} {h' : Heap} {tk' : Nat} {p q : Int} {t1 t2 t3 t4 : Tok} (e : s' = { s with heap := h', toks := tk' })
    (F : Fr g L h' (fun z => if z = Str.ofString "b" then some (.str y t1) else if z = Str.ofString "a" then some (.str x t2) else if z = Str.ofString "post" then some (.int p t3) else if z = Str.ofString "post" then some (.int q t4) else mE z)) (N : News g L h' news) : MidL g L s mE x y news s' := by
  refine ⟨h', tk', p, t1, t2, t3, e, ?_, N⟩
  have : (fun z => if z = Str.ofString "b" then some (Value.str y t1) else if z = Str.ofString "a" then some (Value.str x t2) else if z = Str.ofString "post" then some (Value.int p t3) else mE z) = (fun z => if z = Str.ofString "b" then some (.str y t1) else if z = Str.ofString "a" then some (.str x t2) else if z = Str.ofString "post" then some (.int p t3) else if z = Str.ofString "post" then some (.int q t4) else mE z) := by
    funext z
    by_cases h : z = Str.ofString "post"
    · rw [if_pos h, if_pos h]
    · rw [if_neg h, if_neg h, if_neg h]
  rw [this]; exact F
theorem cut3 {prog : Program} {w : World} {A : Around} {E : Value → Shared → Prop} {s : Shared} {env : Env} {s1 s2 s3 : Stmt} {rest : List Stmt} {Q : Flow → Shared → Prop} {g : Heap} {L : Addr} {mE : Str → Option Value} {news : Led} (x y : Str) (_ : Fr g L s.heap mE) (_ : News g L s.heap news)
    (h1 : wpAny (model prog w) A (execs [s1, s2, s3] env) (fun f s' => match f with | .next => MidL g L s mE x y news s' | f => Q f s') E s)
    (h2 : ∀ h' tk' p t1 t2 t3, Fr g L h' (fun z => if z = Str.ofString "b" then some (.str y t1) else if z = Str.ofString "a" then some (.str x t2) else if z = Str.ofString "post" then some (.int p t3) else mE z) → News g L h' news → wpAny (model prog w) A (execs rest env) Q E { s with heap := h', toks := tk' }) :
    wpAny (model prog w) A (execs (s1 :: s2 :: s3 :: rest) env) Q E s := fun Γ p hΓ =>
  wp_execs_app (MidL g L s mE x y news) (fun p' s' hm => by
    obtain ⟨h', tk', q, t1, t2, t3, rfl, F, N⟩ := hm
    exact h2 h' tk' q t1 t2 t3 F N Γ p' hΓ) [s1, s2, s3] p s (h1 Γ p hΓ)
def Hold1 (P : Prop) : Prop := P
theorem hold_1 {P : Prop} (h : Hold1 P) : P := h
local macro_rules | `(tactic| walk_at "execs cons") => `(tactic| (k_here; (with_reducible show wpAny _ _ (execs (Stmt.While _ _ _ _ :: Stmt.Assign _ _ _ :: Stmt.Assign _ _ _ :: Stmt.If _ _ _ _ :: _) _) _ _ _); refine hold_1 ?_))
local macro_rules | `(tactic| walk_at "exec While BoolOp cons nil") => `(tactic| (k_here; k_dflt (refine whl_start 3 ?_); refine whl_turn (by passes_own) ?_))
local macro_rules | `(tactic| walk_at "ite") => `(tactic| (k_here; first | (refine ite_isFalse (by with_reducible assumption) ?_) | (refine ite_pos (by with_reducible assumption) ?_) | (refine ite_pos (bne_iff_ne.mpr (by omega)) ?_) | (refine ite_pos (by omega) ?_) | (refine ite_neg (by omega) ?_)))
def Strip (a b a' b' : Str) : Prop :=
  (a' = a ∧ b' = b ∧ (Txt.item a (0 - 1) == Txt.item b (0 - 1)) = false) ∨
  ((Txt.item a (0 - 1) == Txt.item b (0 - 1)) = true ∧ Txt.slice a none (some (0 - 1)) = a' ∧ Txt.slice b none (some (0 - 1)) = b' ∧ 2 ≤ a.length ∧ 2 ≤ b.length ∧ (Txt.item a (0 - 1 - 1) == Txt.item b (0 - 1 - 1)) = false) ∨
  ((Txt.item a (0 - 1) == Txt.item b (0 - 1)) = true ∧ (Txt.item a (0 - 1 - 1) == Txt.item b (0 - 1 - 1)) = true ∧ 3 ≤ a.length ∧ 3 ≤ b.length ∧ (∃ a₁ b₁, Txt.slice a none (some (0 - 1)) = a₁ ∧ Txt.slice b none (some (0 - 1)) = b₁ ∧ 1 ≤ a₁.length ∧ 1 ≤ b₁.length ∧ a₁.length ≤ 20 ∧ b₁.length ≤ 20) ∧ Txt.slice a none (some (0 - 1 - 1)) = a' ∧ Txt.slice b none (some (0 - 1 - 1)) = b' ∧ (Txt.item a (0 - 1 - 1 - 1) == Txt.item b (0 - 1 - 1 - 1)) = false)
set_option maxHeartbeats 4000000 in
theorem lev_spec (w : World) (mean : ExcName → Option Value) (mg mb : Str → Option Value) (news : Led) (a b a9 b9 : Str) (ta tb tc : Tok) (mc : Int) (ha : a.length ≤ 20) (hb : b.length ≤ 20) (ha1 : 1 ≤ a.length) (hb1 : 1 ≤ b.length) (hab : (a == b) = false) (h0 : (Txt.item a 0 == Txt.item b 0) = false) (hst : Strip a b a9 b9)
    (za : a9.length ≤ 20) (zb : b9.length ≤ 20) (za1 : 1 ≤ a9.length) (zb1 : 1 ≤ b9.length) (hle : a9.length ≤ b9.length) (hmc : 2 * ((b9.length : Int) - a9.length) ≤ mc) (hmd : mc ≤ 1000) (hM : LevOK a9 b9 mc) :
    MCall w mean mg mb 5 72 [.str a ta, .str b tb, .int mc tc] news (fun v add => add = [] ∧ ∃ t, v = .int (levP a9 b9) t) := by
  w_top off
  (have kf9 : ∀ (P : Params) (h : Heap), PySem.Challenge.rw_wj0069_01 = PySem.Challenge.rw_wj0069_01 → (Mine.hd.heap_39 P).In h → True := by (k_fill; intros; trivial))
  intro dp un gd cn cs a' ccd cl outer A₀ base h₀ L m s Q E hB hF hK hN hT hk hdp hun hret
  have hMk : KstMark := kstMark
  (refine wpAny_call ?_; k_dflt ( (refine' code_def (binds := [(Str.ofString "a", .str a ta), (Str.ofString "b", .str b tb), (Str.ofString "max_cost", .int mc tc)]) ?k1 ?k2 ?k3 ?k4 ?k5 ?kA ?kF ?kK ?k6 ?k7 ?k8 ?k9 ?kB ?_ ?c2 ?c3 ?c4 ?c5; (case kA => exact rfl); (case kF => exact rfl); (case kK => assumption); (case k1 => k_asm); (case k2 => k_asm); (case k3 => k_asm); (case k4 => k_asm); (case k5 => k_asm); (case k6 => k_is); (case k7 => k_is); (case k8 => ktr_room); (case k9 => first | exact BindsTo.of_eq rfl | exact binds_K (by k_in) rfl (by k_is) rfl rfl rfl | (refine' kp_binds ?kx ?ke; (case kx => k_in); (case ke => exact fun _ => rfl))); (case c5 => decide); (case kB => exact locs rfl); (case c2 => exact rfl); (case c3 => exact rfl); (case c4 => exact rfl); k_whole; intro g' L' h' FG' F' N' B' X' T'; (simp only [List.reverse_cons, List.reverse_nil, List.nil_append, List.cons_append] at F'); (try dsimp only); (try k_lift B'); (try k_fold))))
  (repeat' (first | (unfold Hold; first | ((rename News _ _ _ _ => nE'); (try simp only [List.push_toArray] at nE'); (with_reducible show InvEndN _ _ _ _ _ _ _); first | (refine kst_end ⟨_, _, _, _, _, _, _, _, _⟩ (by assumption) nE' (by kst_inAny) (by first | (intro p hp; kst_mem) | kst_anyIn) (by rfl) (by kst_facts) (by kst_all) (by kst_same) (by kst_p)) | (refine kst_end ⟨_, _, _, _, _⟩ (by assumption) nE' (by kst_inAny) (by first | (intro p hp; kst_mem) | kst_anyIn) (by rfl) (by kst_facts) (by kst_all) (by kst_same) (by kst_p))) | ((with_reducible show wpAny _ _ (call (Value.type _) _) _ _ _); (rename IsRange _ _ _ _ _ _ _ _ => rgX); (with_unfolding_all refine' l2_range ?k0BD21 ?k1BD21 ?k2BD21 ?k3BD21 ?k4BD21 ?k5BD21 ?_; (case k0BD21 => rfl); (case k1BD21 => k_asm); (case k2BD21 => k_asm); (case k3BD21 => exact rgX); (case k4BD21 => rfl); (case k5BD21 => assumption); k_whole); intro D' vs' c' h' tk' F' N' l1 hI'; (try k_lt l1); (try k_sweep)) | (k_here; (with_reducible show wpAny _ _ (subscriptTail _ (Expr.Slice none (some _) none _) _ _) _ _ _); (with_reducible rename Fr _ _ _ _ => F'); (with_reducible rename News _ _ _ _ => N'); first | (with_reducible refine sl_nn F' N' ?hzBD22 ?hsBD22 ?_; (case hzBD22 => omega); (case hsBD22 => with_unfolding_all rfl); intro _ _ _ _ _) | (with_reducible refine' sl_ns F' N' ?heBD22 ?hzBD22 ?hsBD22 ?_; (case heBD22 => with_reducible assumption); (case hzBD22 => omega); (case hsBD22 => with_unfolding_all rfl); intro _ _ _ _ _)) | (k_here; (with_reducible show wpAny _ _ (subscriptTail _ (Expr.Slice (some _) none none _) _ _) _ _ _); (with_reducible rename Fr _ _ _ _ => F'); (with_reducible rename News _ _ _ _ => N'); with_reducible refine sl_sn F' N' ?hiBD23 ?hzBD23 ?hsBD23 ?_; (case hiBD23 => rfl); (case hzBD23 => omega); (case hsBD23 => with_unfolding_all rfl); intro _ _ _ _ _) | ((with_reducible show wpAny _ _ (call (Value.ref _) _) _ _ _); with_unfolding_all (refine' use_sub ?k1BD24 ?k2BD24 ?k3BD24 ?k4BD24 ?k5BD24 ?k6BD24 ?k7BD24 ?k8BD24 ?k9BD24 ?kABD24 ?_; (case k1BD24 => k_asm); (case k2BD24 => k_asm); (case k3BD24 => k_asm); (case k4BD24 => k_asm); (case k5BD24 => k_asm); (case k6BD24 => first | exact rfl | assumption); (case k7BD24 => ktr_room); (case k8BD24 => ktr_units); (case k9BD24 => omega); (case kABD24 => omega); k_whole); intro t' h' tk' F' N'; (try dsimp only); (try k_sweep)) | (k_here; (with_reducible show wpAny _ _ (call (Value.builtin _) [Value.int (mn _ _ + _) _, Value.int _ _]) _ _ _); k_dflt (refine' min_op ?q1BD25 ?q2BD25 ?q3BD25 ?_; (case q1BD25 => k_asm); (case q2BD25 => k_asm); (case q3BD25 => with_unfolding_all rfl); k_whole); intro h' tk' t' v' e' F' N') | (k_here; (with_reducible show wpAny _ _ (call (Value.builtin _) [Value.int _ _, Value.int _ _]) _ _ _); k_dflt (refine' min_mn ?q1BD26 ?q2BD26 ?q3BD26 ?_; (case q1BD26 => k_asm); (case q2BD26 => k_asm); (case q3BD26 => with_unfolding_all rfl); k_whole); intro h' tk' t' F' N') | (k_here; (first | (refine WhlIf.yes (by with_unfolding_all rfl) ?_) | (refine WhlIf.no (by with_unfolding_all rfl) ?_)); refine tok_gen ?_; intro _) | fail "no block") | (k_unfold; (try dsimp only)) | (k_end; kc_close) | walk1 | (dsimp only; walk1) | (leave1; (try dsimp only)) | fail "no step"))
  unfold Hold1
  refine cut3 a9 b9 (by with_reducible assumption) (by with_reducible assumption) ?_ ?_
  · rcases hst with ⟨rfl, rfl, e1⟩ | ⟨e1, e2, e3, e4, e5, e6⟩ | ⟨e1, e2, e3, e4, ⟨a1, b1, f1, f2, f3, f4, f5, f6⟩, e6, e7, e8⟩
    all_goals (repeat' (first | (unfold Hold; first | ((rename News _ _ _ _ => nE'); (try simp only [List.push_toArray] at nE'); (with_reducible show InvEndN _ _ _ _ _ _ _); first | (refine kst_end ⟨_, _, _, _, _, _, _, _, _⟩ (by assumption) nE' (by kst_inAny) (by first | (intro p hp; kst_mem) | kst_anyIn) (by rfl) (by kst_facts) (by kst_all) (by kst_same) (by kst_p)) | (refine kst_end ⟨_, _, _, _, _⟩ (by assumption) nE' (by kst_inAny) (by first | (intro p hp; kst_mem) | kst_anyIn) (by rfl) (by kst_facts) (by kst_all) (by kst_same) (by kst_p))) | ((with_reducible show wpAny _ _ (call (Value.type _) _) _ _ _); (rename IsRange _ _ _ _ _ _ _ _ => rgX); (with_unfolding_all refine' l2_range ?k0BD21 ?k1BD21 ?k2BD21 ?k3BD21 ?k4BD21 ?k5BD21 ?_; (case k0BD21 => rfl); (case k1BD21 => k_asm); (case k2BD21 => k_asm); (case k3BD21 => exact rgX); (case k4BD21 => rfl); (case k5BD21 => assumption); k_whole); intro D' vs' c' h' tk' F' N' l1 hI'; (try k_lt l1); (try k_sweep)) | (k_here; (with_reducible show wpAny _ _ (subscriptTail _ (Expr.Slice none (some _) none _) _ _) _ _ _); (with_reducible rename Fr _ _ _ _ => F'); (with_reducible rename News _ _ _ _ => N'); first | (with_reducible refine sl_nn F' N' ?hzBD22 ?hsBD22 ?_; (case hzBD22 => omega); (case hsBD22 => with_unfolding_all rfl); intro _ _ _ _ _) | (with_reducible refine' sl_ns F' N' ?heBD22 ?hzBD22 ?hsBD22 ?_; (case heBD22 => with_reducible assumption); (case hzBD22 => omega); (case hsBD22 => with_unfolding_all rfl); intro _ _ _ _ _)) | (k_here; (with_reducible show wpAny _ _ (subscriptTail _ (Expr.Slice (some _) none none _) _ _) _ _ _); (with_reducible rename Fr _ _ _ _ => F'); (with_reducible rename News _ _ _ _ => N'); with_reducible refine sl_sn F' N' ?hiBD23 ?hzBD23 ?hsBD23 ?_; (case hiBD23 => rfl); (case hzBD23 => omega); (case hsBD23 => with_unfolding_all rfl); intro _ _ _ _ _) | ((with_reducible show wpAny _ _ (call (Value.ref _) _) _ _ _); with_unfolding_all (refine' use_sub ?k1BD24 ?k2BD24 ?k3BD24 ?k4BD24 ?k5BD24 ?k6BD24 ?k7BD24 ?k8BD24 ?k9BD24 ?kABD24 ?_; (case k1BD24 => k_asm); (case k2BD24 => k_asm); (case k3BD24 => k_asm); (case k4BD24 => k_asm); (case k5BD24 => k_asm); (case k6BD24 => first | exact rfl | assumption); (case k7BD24 => ktr_room); (case k8BD24 => ktr_units); (case k9BD24 => omega); (case kABD24 => omega); k_whole); intro t' h' tk' F' N'; (try dsimp only); (try k_sweep)) | (k_here; (with_reducible show wpAny _ _ (call (Value.builtin _) [Value.int (mn _ _ + _) _, Value.int _ _]) _ _ _); k_dflt (refine' min_op ?q1BD25 ?q2BD25 ?q3BD25 ?_; (case q1BD25 => k_asm); (case q2BD25 => k_asm); (case q3BD25 => with_unfolding_all rfl); k_whole); intro h' tk' t' v' e' F' N') | (k_here; (with_reducible show wpAny _ _ (call (Value.builtin _) [Value.int _ _, Value.int _ _]) _ _ _); k_dflt (refine' min_mn ?q1BD26 ?q2BD26 ?q3BD26 ?_; (case q1BD26 => k_asm); (case q2BD26 => k_asm); (case q3BD26 => with_unfolding_all rfl); k_whole); intro h' tk' t' F' N') | (k_here; (first | (refine WhlIf.yes (by with_unfolding_all rfl) ?_) | (refine WhlIf.no (by with_unfolding_all rfl) ?_)); refine tok_gen ?_; intro _) | fail "no block") | (k_unfold; (try dsimp only)) | (k_end; kc_close) | walk1 | (dsimp only; walk1) | (leave1; (try dsimp only)) | fail "no step"))
    all_goals (rename Fr _ _ _ _ => f9; rename News _ _ _ _ => n9; first | exact ⟨_, _, _, _, _, _, rfl, f9, n9⟩ | exact midL_0 rfl f9 rfl n9 | exact midL_2 rfl f9 n9)
  · intro h' tk' p t1 t2 t3 F' N'
    (repeat' (first | (unfold Hold; first | ((rename News _ _ _ _ => nE'); (try simp only [List.push_toArray] at nE'); (with_reducible show InvEndN _ _ _ _ _ _ _); first | (refine kst_end ⟨_, _, _, _, _, _, _, _, _⟩ (by assumption) nE' (by kst_inAny) (by first | (intro p hp; kst_mem) | kst_anyIn) (by rfl) (by kst_facts) (by kst_all) (by kst_same) (by kst_p)) | (refine kst_end ⟨_, _, _, _, _⟩ (by assumption) nE' (by kst_inAny) (by first | (intro p hp; kst_mem) | kst_anyIn) (by rfl) (by kst_facts) (by kst_all) (by kst_same) (by kst_p))) | ((with_reducible show wpAny _ _ (call (Value.type _) _) _ _ _); (rename IsRange _ _ _ _ _ _ _ _ => rgX); (with_unfolding_all refine' l2_range ?k0BD21 ?k1BD21 ?k2BD21 ?k3BD21 ?k4BD21 ?k5BD21 ?_; (case k0BD21 => rfl); (case k1BD21 => k_asm); (case k2BD21 => k_asm); (case k3BD21 => exact rgX); (case k4BD21 => rfl); (case k5BD21 => assumption); k_whole); intro D' vs' c' h' tk' F' N' l1 hI'; (try k_lt l1); (try k_sweep)) | (k_here; (with_reducible show wpAny _ _ (subscriptTail _ (Expr.Slice none (some _) none _) _ _) _ _ _); (with_reducible rename Fr _ _ _ _ => F'); (with_reducible rename News _ _ _ _ => N'); first | (with_reducible refine sl_nn F' N' ?hzBD22 ?hsBD22 ?_; (case hzBD22 => omega); (case hsBD22 => with_unfolding_all rfl); intro _ _ _ _ _) | (with_reducible refine' sl_ns F' N' ?heBD22 ?hzBD22 ?hsBD22 ?_; (case heBD22 => with_reducible assumption); (case hzBD22 => omega); (case hsBD22 => with_unfolding_all rfl); intro _ _ _ _ _)) | (k_here; (with_reducible show wpAny _ _ (subscriptTail _ (Expr.Slice (some _) none none _) _ _) _ _ _); (with_reducible rename Fr _ _ _ _ => F'); (with_reducible rename News _ _ _ _ => N'); with_reducible refine sl_sn F' N' ?hiBD23 ?hzBD23 ?hsBD23 ?_; (case hiBD23 => rfl); (case hzBD23 => omega); (case hsBD23 => with_unfolding_all rfl); intro _ _ _ _ _) | ((with_reducible show wpAny _ _ (call (Value.ref _) _) _ _ _); with_unfolding_all (refine' use_sub ?k1BD24 ?k2BD24 ?k3BD24 ?k4BD24 ?k5BD24 ?k6BD24 ?k7BD24 ?k8BD24 ?k9BD24 ?kABD24 ?_; (case k1BD24 => k_asm); (case k2BD24 => k_asm); (case k3BD24 => k_asm); (case k4BD24 => k_asm); (case k5BD24 => k_asm); (case k6BD24 => first | exact rfl | assumption); (case k7BD24 => ktr_room); (case k8BD24 => ktr_units); (case k9BD24 => omega); (case kABD24 => omega); k_whole); intro t' h' tk' F' N'; (try dsimp only); (try k_sweep)) | (k_here; (with_reducible show wpAny _ _ (call (Value.builtin _) [Value.int (mn _ _ + _) _, Value.int _ _]) _ _ _); k_dflt (refine' min_op ?q1BD25 ?q2BD25 ?q3BD25 ?_; (case q1BD25 => k_asm); (case q2BD25 => k_asm); (case q3BD25 => with_unfolding_all rfl); k_whole); intro h' tk' t' v' e' F' N') | (k_here; (with_reducible show wpAny _ _ (call (Value.builtin _) [Value.int _ _, Value.int _ _]) _ _ _); k_dflt (refine' min_mn ?q1BD26 ?q2BD26 ?q3BD26 ?_; (case q1BD26 => k_asm); (case q2BD26 => k_asm); (case q3BD26 => with_unfolding_all rfl); k_whole); intro h' tk' t' F' N') | (k_here; (first | (refine WhlIf.yes (by with_unfolding_all rfl) ?_) | (refine WhlIf.no (by with_unfolding_all rfl) ?_)); refine tok_gen ?_; intro _) | fail "no block") | (k_unfold; (try dsimp only)) | (k_end; kc_close) | walk1 | (dsimp only; walk1) | (leave1; (try dsimp only)) | fail "no step"))
    · exfalso
      have h9 := lev_ok hM (by assumption) (by assumption) (by show Int.toNat _ = _; omega) (by assumption) (by assumption) (by assumption)
      omega
    · refine hret _ [] _ _ ?_ (fun _ _ _ hq => nomatch hq) (by assumption) ?_
      · exact ⟨rfl, _, congrArg (fun i => Value.int i _) (lev_out (by assumption))⟩
      · rename News h₀ L _ _ => n9
        exact fun q hq => n9 q (.tail _ hq)
end Mine
end

section
open PySem PySem.W PyProof.Rows PySem.Calls PySem.Spec
set_option maxRecDepth 100000
namespace Mine
theorem pick_ex {vs : List Value} {ns : List Int} (h : IntsAre vs ns) (lo hi st : Option Int) : ∃ (vs' : List Value) (ns' : List Int), slicePick vs.toArray lo hi st = vs'.toArray ∧ IntsAre vs' ns' :=
  ⟨_, _, (Array.toArray_toList).symm, h.pick lo hi st⟩
theorem slice3K {prog : Program} {w : World} {A : Around} {E : Value → Shared → Prop} {s : Shared} {h₀ : Heap} {L : Addr} {m : Str → Option Value} {news : Led} {value slice : Expr} {l : Addr} {vs : List Value} {ns : List Int} {vl vu vk : Value} {lo hi st : Option Int} {ops : List Value} {Q : Value → Shared → Prop}
    (F : Fr h₀ L s.heap m) (N : News h₀ L s.heap news) (hl : s.heap.IsList l vs.toArray) (pl : IsPart vl lo) (pu : IsPart vu hi) (pk : IsPart vk st) (h0 : st ≠ some 0) (hI : IntsAre vs ns)
    (h : ∀ (D : Addr) ws ms h', Fr h₀ L h' m → News h₀ L h' ((D, listOf (List.toArray ws) 0) :: news) → (∀ p ∈ news, p.1 < D) → IntsAre ws ms → Q (.ref D) { s with heap := h' })
    (hs : subscripted slice false (.ref l) (.ref s.heap.objs.size) = operate ops (getItem (.ref l) (.ref s.heap.objs.size)))
    (ht : ∀ r, letTemporaryGo value (.ref l) r = pure ())
    (hsz : vs.length ≤ 1000) :
    wpAny (model prog w) A (subscriptTail value slice (.ref l) (.ref s.heap.objs.size)) Q E { s with heap := s.heap.push { cls := .type "slice", data := .fields #[vl, vu, vk] } } := by
  obtain ⟨ws, ms, e, hI'⟩ := pick_ex hI lo hi st
  refine slice_list3 F N hl pl pu pk h0 (fun h' F' N' => ?_) hs ht (by rw [sizeLine_eq, List.size_toArray]; omega)
  rw [e] at N'
  exact h _ ws ms h' F' N' (fun p hp => Nat.lt_succ_of_lt (Heap.lt_size (N p hp).1)) hI'
abbrev MCallS (w : World) (mean : ExcName → Option Value) (mg mb : Str → Option Value) (D : Nat) (f : Addr) (vs : List Value) (sl : Addr) (svs : List Value) (news : Led) (Ret : Value → Led → Prop) : Prop :=
  ∀ (dp un : Nat) (gd : Option (List Code)) (cn : Str) (cs : Scope) (a : Addr) (ccd : Value) (cl : List (Str × Addr)) (outer : List Env) (A₀ : Around) (base h₀ : Heap) (L : Addr) (m : Str → Option Value) (s : Shared) (Q E : Value → Shared → Prop),
    Below A₀ base outer h₀ → Fr h₀ L s.heap m → (Mine.hd.heap_39 w.params).In h₀ → News h₀ L s.heap news → MTop mean mg mb h₀ → cs.kind = .function →
    dp + D < recursionLimit → un + 20 * D < cLine → h₀.IsList sl svs.toArray →
    (∀ v add h' tk', Ret v add → (∀ p ∈ news, ∀ q ∈ add, @Ne Nat p.1 q.1) → Fr h₀ L h' m → News h₀ L h' (add ++ news) → Q v { s with heap := h', toks := tk' }) →
    wpAny (model PySem.Challenge.rw_wj0069_01.row.prog w) (ktrTop dp un gd cn cs L a ccd cl outer) (call (.ref f) vs) Q E s
local macro_rules | `(tactic| walk_at "exec For Name Subscript cons nil") => `(tactic| refine hold_it ?_)
local macro_rules | `(tactic| walk_at "exec For Name Call cons nil") => `(tactic| refine hold_it ?_)
local macro_rules | `(tactic| walk_at "pyIter ref") => `(tactic| k_state (fun pre told => told.length = 4) "told")
local macro_rules | `(tactic| walk_at "pyIter ref") => `(tactic| (k_here; (rename IsRange _ _ _ _ _ _ _ _ => rgX); k_state_short (fun pre told => told.length = 4) "told"))
local macro_rules | `(tactic| walk_at "InvEndN") => `(tactic| refine hold_it ?_)
local macro_rules | `(tactic| walk_at "subscriptTail Name Slice ref ref") => `(tactic| refine hold_it ?_)
set_option maxHeartbeats 4000000 in
theorem drawn_spec (w : World) (mean : ExcName → Option Value) (mg mb : Str → Option Value) (news : Led) (x sl : Addr) (svs : List Value) (sns : List Int) (t1 t2 t3 t4 : Tok) (hs : IntsAre svs sns) (hz : svs.length ≤ 100)
    (hx : (x, ({ cls := .type "tuple", data := .seq #[.int 3 t1, .int 4 t2, .int 8 t3, .int 4 t4] } : Obj)) ∈ news) :
    MCallS w mean mg mb 2 214 [.ref sl, .ref x] sl svs news (fun v add => ∃ r vs ns n, v = .ref r ∧ add = [(r, listOf (List.toArray vs) n)] ∧ IntsAre vs ns ∧ ns.length = 4) := by
  w_top off
  (have kf9 : ∀ (P : Params) (h : Heap), PySem.Challenge.rw_wj0069_01 = PySem.Challenge.rw_wj0069_01 → (Mine.hd.heap_39 P).In h → True := by (k_fill; intros; trivial))
  intro dp un gd cn cs a' ccd cl outer A₀ base h₀ L m s Q E hB hF hK hN hT hk hdp hun hsl hret
  have hMk : KstMark := kstMark
  (refine wpAny_call ?_; k_dflt ( (refine' code_def (binds := [(Str.ofString "script", .ref sl), (Str.ofString "first", .ref x)]) ?k1 ?k2 ?k3 ?k4 ?k5 ?kA ?kF ?kK ?k6 ?k7 ?k8 ?k9 ?kB ?_ ?c2 ?c3 ?c4 ?c5; (case kA => exact rfl); (case kF => exact rfl); (case kK => assumption); (case k1 => k_asm); (case k2 => k_asm); (case k3 => k_asm); (case k4 => k_asm); (case k5 => k_asm); (case k6 => k_is); (case k7 => k_is); (case k8 => ktr_room); (case k9 => first | exact BindsTo.of_eq rfl | exact binds_K (by k_in) rfl (by k_is) rfl rfl rfl | (refine' kp_binds ?kx ?ke; (case kx => k_in); (case ke => exact fun _ => rfl))); (case c5 => decide); (case kB => exact locs rfl); (case c2 => exact rfl); (case c3 => exact rfl); (case c4 => exact rfl); k_whole; intro g' L' h' FG' F' N' B' X' T'; (simp only [List.reverse_cons, List.reverse_nil, List.nil_append, List.cons_append] at F'); (try dsimp only); (try k_lift B'); (try k_fold))))
  rename Fr h₀ L _ m => FG9
  have hsl9 := hsl.at fun o e => FG9.keep _ _ e
  (repeat' (first | (unfold Hold; first | ((with_reducible show InvEndN _ _ _ _ _ _ _); (rename News _ _ _ _ => nE'); (try simp only [List.push_toArray] at nE'); (refine kst_end ⟨_, _, _⟩ (by assumption) nE' (by kst_inAny) (by first | (intro p hp; kst_mem) | kst_anyIn) (by rfl) (by kst_facts) (by kst_all) (by kst_same) (by kst_p))) | (k_here; (with_reducible show wpAny _ _ (subscriptTail _ (Expr.Slice _ _ (some _) _) _ _) _ _ _); k_dflt (refine' slice3K ?FBE21 ?NBE21 ?lBE21 ?pBE21 ?qBE21 ?kBE21 ?oBE21 ?iBE21 ?_ ?sBE21 ?tBE21 ?zBE21; (case FBE21 => k_asm); (case NBE21 => k_asm); (case lBE21 => kmk_list); (case pBE21 => kmk_part); (case qBE21 => kmk_part); (case kBE21 => kmk_part); (case oBE21 => intro hz; injection hz with hz; omega); (case iBE21 => assumption); (case sBE21 => with_unfolding_all rfl); (case tBE21 => kmk_pure); (case zBE21 => omega)); intro D' ws' ms' h' F' N' l1 hI'; (try k_lt l1)) | ((with_reducible show wpAny _ _ (exec (Stmt.For _ _ _ _ _) _) _ _ _); (rename Fr _ _ _ _ => lF'); (with_unfolding_all refine' For_invVF lF' ?k1BE22 ?k2BE22 ?_; (case k1BE22 => exact rfl); (case k2BE22 => exact rfl); k_whole)) | ((with_reducible show wpAny _ _ (exec (Stmt.For _ _ _ _ _) _) _ _ _); (rename Fr _ _ _ _ => lF'); (with_unfolding_all refine' For_invVF lF' ?k1BE23 ?k2BE23 ?_; (case k1BE23 => exact rfl); (case k2BE23 => exact rfl); k_whole)) | fail "no block") | (k_unfold; (try dsimp only)) | (k_end; kc_close) | walk1 | (dsimp only; walk1) | (leave1; (try dsimp only)) | fail "no step"))
  rename News h₀ L _ _ => n9
  rename ∀ q ∈ news, q.1 < _ => l9
  refine hret _ [_] _ _ ?_ ?_ (by assumption) n9
  · exact ⟨_, _, _, _, rfl, rfl, by assumption, by assumption⟩
  · intro p hp q hq
    rcases List.mem_cons.mp hq with rfl | hq
    · exact Nat.ne_of_lt (l9 p hp)
    · cases hq
end Mine
end

section
open PySem PySem.W PyProof.Rows PySem.Calls PySem.Spec
set_option maxRecDepth 100000
namespace Mine
theorem use_nn {w : World} {mean : ExcName → Option Value} {mg mb : Str → Option Value} {dp un : Nat} {gd : Option (List Code)} {cn : Str} {cs : Scope} {a : Addr} {ccd : Value} {cl : List (Str × Addr)} {outer : List Env} {A₀ : Around} {base h₀ : Heap} {L : Addr} {m : Str → Option Value} {s : Shared} {Q E : Value → Shared → Prop} {news : Led} {x : Addr}
    (B : Below A₀ base outer h₀) (F : Fr h₀ L s.heap m) (X : (Mine.hd.heap_39 w.params).In h₀) (N : News h₀ L s.heap news) (T : MTop mean mg mb h₀) (hk : cs.kind = .function)
    (hd : dp + 2 < recursionLimit) (hu : un + 20 * 2 < cLine) (hx : (x, ({ cls := .type "tuple", data := .seq #[.none, .none] } : Obj)) ∈ news) (ret : ∀ t h' tk', Fr h₀ L h' m → News h₀ L h' news → Q (.str (Str.ofString "C") t) { s with heap := h', toks := tk' }) :
    wpAny (model PySem.Challenge.rw_wj0069_01.row.prog w) (ktrTop dp un gd cn cs L a ccd cl outer) (call (.ref 45) [.ref x]) Q E s :=
  build_nn w mean mg mb news x hx dp un gd cn cs a ccd cl outer A₀ base h₀ L m s Q E B F X N T hk hd hu fun r add h' tk' hr _ F' N' => by
    obtain ⟨rfl, t, rfl⟩ := hr
    exact ret t h' tk' F' N'
theorem use_sn {w : World} {mean : ExcName → Option Value} {mg mb : Str → Option Value} {dp un : Nat} {gd : Option (List Code)} {cn : Str} {cs : Scope} {a : Addr} {ccd : Value} {cl : List (Str × Addr)} {outer : List Env} {A₀ : Around} {base h₀ : Heap} {L : Addr} {m : Str → Option Value} {s : Shared} {Q E : Value → Shared → Prop} {news : Led} {x : Addr} {l : Str} {tl : Tok}
    (B : Below A₀ base outer h₀) (F : Fr h₀ L s.heap m) (X : (Mine.hd.heap_39 w.params).In h₀) (N : News h₀ L s.heap news) (T : MTop mean mg mb h₀) (hk : cs.kind = .function)
    (hd : dp + 2 < recursionLimit) (hu : un + 20 * 2 < cLine) (hx : (x, ({ cls := .type "tuple", data := .seq #[.str l tl, .none] } : Obj)) ∈ news) (ret : ∀ t h' tk', Fr h₀ L h' m → News h₀ L h' news → Q (.str l t) { s with heap := h', toks := tk' }) :
    wpAny (model PySem.Challenge.rw_wj0069_01.row.prog w) (ktrTop dp un gd cn cs L a ccd cl outer) (call (.ref 45) [.ref x]) Q E s :=
  build_sn w mean mg mb news x l tl hx dp un gd cn cs a ccd cl outer A₀ base h₀ L m s Q E B F X N T hk hd hu fun r add h' tk' hr _ F' N' => by
    obtain ⟨rfl, t, rfl⟩ := hr
    exact ret t h' tk' F' N'
theorem use_ss {w : World} {mean : ExcName → Option Value} {mg mb : Str → Option Value} {dp un : Nat} {gd : Option (List Code)} {cn : Str} {cs : Scope} {a : Addr} {ccd : Value} {cl : List (Str × Addr)} {outer : List Env} {A₀ : Around} {base h₀ : Heap} {L : Addr} {m : Str → Option Value} {s : Shared} {Q E : Value → Shared → Prop} {news : Led} {x : Addr} {l e : Str} {tl te : Tok}
    (B : Below A₀ base outer h₀) (F : Fr h₀ L s.heap m) (X : (Mine.hd.heap_39 w.params).In h₀) (N : News h₀ L s.heap news) (T : MTop mean mg mb h₀) (hk : cs.kind = .function)
    (hd : dp + 2 < recursionLimit) (hu : un + 20 * 2 < cLine) (hx : (x, ({ cls := .type "tuple", data := .seq #[.str l tl, .str e te] } : Obj)) ∈ news) (hl : l.length ≤ 100) (he : e.length ≤ 100) (ret : ∀ t h' tk', Fr h₀ L h' m → News h₀ L h' news → Q (.str (l ++ Str.ofString "." ++ e) t) { s with heap := h', toks := tk' }) :
    wpAny (model PySem.Challenge.rw_wj0069_01.row.prog w) (ktrTop dp un gd cn cs L a ccd cl outer) (call (.ref 45) [.ref x]) Q E s :=
  build_ss w mean mg mb news x l e tl te hl he hx dp un gd cn cs a ccd cl outer A₀ base h₀ L m s Q E B F X N T hk hd hu fun r add h' tk' hr _ F' N' => by
    obtain ⟨rfl, t, rfl⟩ := hr
    exact ret t h' tk' F' N'
def dot (a b : Str) : Str := a ++ Str.ofString "." ++ b
theorem dot_len (a b : Str) : (dot a b).length = a.length + 1 + b.length := by
  unfold dot; rw [Str.length_append, Str.length_append]; rfl
theorem dot_ne (a b : Str) : dot a b ≠ a := fun h => by
  have := congrArg Str.length h
  rw [dot_len] at this; omega
theorem dot_ne1 {a b : Str} (h : a ++ Str.ofString "." ++ b = a) : False := dot_ne a b h
local macro_rules | `(tactic| k_mem) => `(tactic| assumption)
set_option hygiene false in
local macro_rules | `(tactic| walk_at "call ref") => `(tactic| refine hold_it ?_)
theorem bne_len {a b : Str} (h : a.length ≠ b.length) : (a != b) = true := bne_iff_ne.mpr fun e => h (congrArg Str.length e)
theorem w_ne1 (f : Str) : (Str.ofString "C." ++ f != Str.ofString "C") = true := bne_len (by
  rw [Str.length_append]; show 2 + _ ≠ 1; omega)
theorem w_ne2 (a b : Str) : (a ++ Str.ofString "." ++ b != a) = true := bne_len (by
  rw [Str.length_append, Str.length_append]; show _ + 1 + _ ≠ _; omega)
theorem w_eq (a : Str) : ¬ (a != a) = true := by simp
def word1 (f : Str) : Str := Str.ofString "C." ++ f
def word2 (f e : Str) : Str := Str.ofString "C." ++ f ++ Str.ofString "." ++ e
local macro_rules | `(tactic| walk_at "ite") => `(tactic| (k_here; first | (refine ite_pos (w_ne1 _) ?_) | (refine ite_pos (w_ne2 _ _) ?_) | (refine ite_neg (w_eq _) ?_)))
theorem news_sub {h₀ h : Heap} {L : Addr} {news : Led} {D : Addr} {o : Obj} {led : Led} (N : News h₀ L h led) (h1 : (D, o) ∈ led) (h2 : ∀ p ∈ news, p ∈ led) : News h₀ L h ([(D, o)] ++ news) := fun p hp => by
  rcases List.mem_cons.mp hp with rfl | hp
  · exact N _ h1
  · exact N _ (h2 p hp)
theorem off_of {news : Led} {D : Addr} {o : Obj} (h : ∀ p ∈ news, @Ne Nat p.1 D) : ∀ p ∈ news, ∀ q ∈ [(D, o)], @Ne Nat p.1 q.1 := fun p hp q hq => by
  rcases List.mem_cons.mp hq with rfl | hq
  · exact h p hp
  · cases hq
set_option maxHeartbeats 4000000 in
theorem stations_n (w : World) (mean : ExcName → Option Value) (mg mb : Str → Option Value) (c1 c2 c3 c4 : Addr) (o1 o2 o3 o4 : Obj) (f : Str) (tf : Tok) (hf : f.length ≤ 10) :
    MCall w mean mg mb 5 221 [.str f tf, .none] [(c1, o1), (c2, o2), (c3, o3), (c4, o4)] (fun v add => ∃ r t1 t2 n, v = .ref r ∧ add = [(r, listOf #[.str (Str.ofString "C") t1, .str (word1 f) t2] n)]) := by
  w_top off
  (have kf9 : ∀ (P : Params) (h : Heap), PySem.Challenge.rw_wj0069_01 = PySem.Challenge.rw_wj0069_01 → (Mine.hd.heap_39 P).In h → True := by (k_fill; intros; trivial))
  intro dp un gd cn cs a' ccd cl outer A₀ base h₀ L m s Q E hB hF hK hN hT hk hdp hun hret
  have hMk : KstMark := kstMark
  (refine wpAny_call ?_; k_dflt ( (refine' code_def (binds := [(Str.ofString "first", .str f tf), (Str.ofString "second", .none)]) ?k1 ?k2 ?k3 ?k4 ?k5 ?kA ?kF ?kK ?k6 ?k7 ?k8 ?k9 ?kB ?_ ?c2 ?c3 ?c4 ?c5; (case kA => exact rfl); (case kF => exact rfl); (case kK => assumption); (case k1 => k_asm); (case k2 => k_asm); (case k3 => k_asm); (case k4 => k_asm); (case k5 => k_asm); (case k6 => k_is); (case k7 => k_is); (case k8 => ktr_room); (case k9 => first | exact BindsTo.of_eq rfl | exact binds_K (by k_in) rfl (by k_is) rfl rfl rfl | (refine' kp_binds ?kx ?ke; (case kx => k_in); (case ke => exact fun _ => rfl))); (case c5 => decide); (case kB => exact locs rfl); (case c2 => exact rfl); (case c3 => exact rfl); (case c4 => exact rfl); k_whole; intro g' L' h' FG' F' N' B' X' T'; (simp only [List.reverse_cons, List.reverse_nil, List.nil_append, List.cons_append] at F'); (try dsimp only); (try k_lift B'); (try k_fold))))
  (repeat' (first | (unfold Hold; first | ((with_reducible show wpAny _ _ (call (Value.ref _) _) _ _ _); with_unfolding_all (first | (refine' use_nn ?k1BE30 ?k2BE30 ?k3BE30 ?k4BE30 ?k5BE30 ?k6BE30 ?k7BE30 ?k8BE30 ?k9BE30 ?_; (case k1BE30 => k_asm); (case k2BE30 => k_asm); (case k3BE30 => k_asm); (case k4BE30 => k_asm); (case k5BE30 => k_asm); (case k6BE30 => first | exact rfl | assumption); (case k7BE30 => ktr_room); (case k8BE30 => ktr_units); (case k9BE30 => k_mem); k_whole) | (refine' use_sn ?k1BE30 ?k2BE30 ?k3BE30 ?k4BE30 ?k5BE30 ?k6BE30 ?k7BE30 ?k8BE30 ?k9BE30 ?_; (case k1BE30 => k_asm); (case k2BE30 => k_asm); (case k3BE30 => k_asm); (case k4BE30 => k_asm); (case k5BE30 => k_asm); (case k6BE30 => first | exact rfl | assumption); (case k7BE30 => ktr_room); (case k8BE30 => ktr_units); (case k9BE30 => k_mem); k_whole) | (refine' use_ss ?k1BE30 ?k2BE30 ?k3BE30 ?k4BE30 ?k5BE30 ?k6BE30 ?k7BE30 ?k8BE30 ?k9BE30 ?kABE30 ?kBBE30 ?_; (case k1BE30 => k_asm); (case k2BE30 => k_asm); (case k3BE30 => k_asm); (case k4BE30 => k_asm); (case k5BE30 => k_asm); (case k6BE30 => first | exact rfl | assumption); (case k7BE30 => ktr_room); (case k8BE30 => ktr_units); (case k9BE30 => k_mem); (case kABE30 => first | omega | (with_unfolding_all decide) | (rw [Str.length_append]; show 2 + _ ≤ _; omega)); (case kBBE30 => omega); k_whole)); intro t' h' tk' F' N'; (try dsimp only); (try k_sweep)) | fail "no block") | (k_unfold; (try dsimp only)) | (k_end; kc_close) | walk1 | (dsimp only; walk1) | (leave1; (try dsimp only)) | fail "no step"))
  rename News h₀ L _ _ => n9
  refine' hret _ [_] _ _ ⟨_, _, _, _, rfl, rfl⟩ (off_of ?ka) ?kb (news_sub n9 ?kc ?kd)
  case kc => with_unfolding_all k_mem
  case kb => assumption
  case ka => exact List.forall_mem_cons.mpr ⟨by dsimp only; omega, List.forall_mem_cons.mpr ⟨by dsimp only; omega, List.forall_mem_cons.mpr ⟨by dsimp only; omega, List.forall_mem_cons.mpr ⟨by dsimp only; omega, fun _ h => nomatch h⟩⟩⟩⟩
  case kd => simp
set_option maxHeartbeats 4000000 in
theorem stations_s (w : World) (mean : ExcName → Option Value) (mg mb : Str → Option Value) (c1 c2 c3 c4 : Addr) (o1 o2 o3 o4 : Obj) (f e : Str) (tf te : Tok) (hf : f.length ≤ 10) (he : e.length ≤ 10) :
    MCall w mean mg mb 5 221 [.str f tf, .str e te] [(c1, o1), (c2, o2), (c3, o3), (c4, o4)] (fun v add => ∃ r t1 t2 t3 n, v = .ref r ∧ add = [(r, listOf #[.str (Str.ofString "C") t1, .str (word1 f) t2, .str (word2 f e) t3] n)]) := by
  w_top off
  (have kf9 : ∀ (P : Params) (h : Heap), PySem.Challenge.rw_wj0069_01 = PySem.Challenge.rw_wj0069_01 → (Mine.hd.heap_39 P).In h → True := by (k_fill; intros; trivial))
  intro dp un gd cn cs a' ccd cl outer A₀ base h₀ L m s Q E hB hF hK hN hT hk hdp hun hret
  have hMk : KstMark := kstMark
  (refine wpAny_call ?_; k_dflt ( (refine' code_def (binds := [(Str.ofString "first", .str f tf), (Str.ofString "second", .str e te)]) ?k1 ?k2 ?k3 ?k4 ?k5 ?kA ?kF ?kK ?k6 ?k7 ?k8 ?k9 ?kB ?_ ?c2 ?c3 ?c4 ?c5; (case kA => exact rfl); (case kF => exact rfl); (case kK => assumption); (case k1 => k_asm); (case k2 => k_asm); (case k3 => k_asm); (case k4 => k_asm); (case k5 => k_asm); (case k6 => k_is); (case k7 => k_is); (case k8 => ktr_room); (case k9 => first | exact BindsTo.of_eq rfl | exact binds_K (by k_in) rfl (by k_is) rfl rfl rfl | (refine' kp_binds ?kx ?ke; (case kx => k_in); (case ke => exact fun _ => rfl))); (case c5 => decide); (case kB => exact locs rfl); (case c2 => exact rfl); (case c3 => exact rfl); (case c4 => exact rfl); k_whole; intro g' L' h' FG' F' N' B' X' T'; (simp only [List.reverse_cons, List.reverse_nil, List.nil_append, List.cons_append] at F'); (try dsimp only); (try k_lift B'); (try k_fold))))
  (repeat' (first | (unfold Hold; first | ((with_reducible show wpAny _ _ (call (Value.ref _) _) _ _ _); with_unfolding_all (first | (refine' use_nn ?k1BE30 ?k2BE30 ?k3BE30 ?k4BE30 ?k5BE30 ?k6BE30 ?k7BE30 ?k8BE30 ?k9BE30 ?_; (case k1BE30 => k_asm); (case k2BE30 => k_asm); (case k3BE30 => k_asm); (case k4BE30 => k_asm); (case k5BE30 => k_asm); (case k6BE30 => first | exact rfl | assumption); (case k7BE30 => ktr_room); (case k8BE30 => ktr_units); (case k9BE30 => k_mem); k_whole) | (refine' use_sn ?k1BE30 ?k2BE30 ?k3BE30 ?k4BE30 ?k5BE30 ?k6BE30 ?k7BE30 ?k8BE30 ?k9BE30 ?_; (case k1BE30 => k_asm); (case k2BE30 => k_asm); (case k3BE30 => k_asm); (case k4BE30 => k_asm); (case k5BE30 => k_asm); (case k6BE30 => first | exact rfl | assumption); (case k7BE30 => ktr_room); (case k8BE30 => ktr_units); (case k9BE30 => k_mem); k_whole) | (refine' use_ss ?k1BE30 ?k2BE30 ?k3BE30 ?k4BE30 ?k5BE30 ?k6BE30 ?k7BE30 ?k8BE30 ?k9BE30 ?kABE30 ?kBBE30 ?_; (case k1BE30 => k_asm); (case k2BE30 => k_asm); (case k3BE30 => k_asm); (case k4BE30 => k_asm); (case k5BE30 => k_asm); (case k6BE30 => first | exact rfl | assumption); (case k7BE30 => ktr_room); (case k8BE30 => ktr_units); (case k9BE30 => k_mem); (case kABE30 => first | omega | (with_unfolding_all decide) | (rw [Str.length_append]; show 2 + _ ≤ _; omega)); (case kBBE30 => omega); k_whole)); intro t' h' tk' F' N'; (try dsimp only); (try k_sweep)) | fail "no block") | (k_unfold; (try dsimp only)) | (k_end; kc_close) | walk1 | (dsimp only; walk1) | (leave1; (try dsimp only)) | fail "no step"))
  rename News h₀ L _ _ => n9
  refine' hret _ [_] _ _ ⟨_, _, _, _, _, rfl, rfl⟩ (off_of ?ka) ?kb (news_sub n9 ?kc ?kd)
  case kc => with_unfolding_all k_mem
  case kb => assumption
  case ka => exact List.forall_mem_cons.mpr ⟨by dsimp only; omega, List.forall_mem_cons.mpr ⟨by dsimp only; omega, List.forall_mem_cons.mpr ⟨by dsimp only; omega, List.forall_mem_cons.mpr ⟨by dsimp only; omega, fun _ h => nomatch h⟩⟩⟩⟩
  case kd => simp
end Mine
end

section
open PySem PySem.W PyProof.Rows PySem.Calls PySem.Spec
set_option maxRecDepth 100000
namespace Mine
section
variable {h₀ h : Heap} {L D : Addr} {news add led : Led} {o : Obj}
theorem ns_nil (N : News h₀ L h led) (h2 : ∀ p ∈ news, p ∈ led) : News h₀ L h ([] ++ news) := fun p hp => N p (h2 p hp)
theorem ns_cons (N : News h₀ L h led) (h1 : (D, o) ∈ led) (t : News h₀ L h (add ++ news)) : News h₀ L h (((D, o) :: add) ++ news) := fun p hp => by
  rcases List.mem_cons.mp hp with rfl | hp
  · exact N _ h1
  · exact t p hp
theorem of_nil : ∀ p ∈ news, ∀ q ∈ ([] : Led), @Ne Nat p.1 q.1 := fun _ _ _ hq => nomatch hq
theorem of_cons (h1 : ∀ p ∈ news, @Ne Nat p.1 D) (t : ∀ p ∈ news, ∀ q ∈ add, @Ne Nat p.1 q.1) : ∀ p ∈ news, ∀ q ∈ (D, o) :: add, @Ne Nat p.1 q.1 := fun p hp q hq => by
  rcases List.mem_cons.mp hq with rfl | hq
  · exact h1 p hp
  · exact t p hp q hq
theorem ne5 {a1 a2 a3 a4 a5 : Addr} {o1 o2 o3 o4 o5 : Obj} (h1 : @Ne Nat a1 D) (h2 : @Ne Nat a2 D) (h3 : @Ne Nat a3 D) (h4 : @Ne Nat a4 D) (h5 : @Ne Nat a5 D) : ∀ p ∈ [(a1, o1), (a2, o2), (a3, o3), (a4, o4), (a5, o5)], @Ne Nat p.1 D :=
  List.forall_mem_cons.mpr ⟨h1, List.forall_mem_cons.mpr ⟨h2, List.forall_mem_cons.mpr ⟨h3, List.forall_mem_cons.mpr ⟨h4, List.forall_mem_cons.mpr ⟨h5, fun _ h => nomatch h⟩⟩⟩⟩⟩
end
def LevG (a b : Str) (mc r : Int) : Prop := ∀ (w : World) (mean : ExcName → Option Value) (mg mb : Str → Option Value) (news : Led) (ta tb tc : Tok),
  MCall w mean mg mb 5 72 [.str a ta, .str b tb, .int mc tc] news (fun v add => add = [] ∧ ∃ t, v = .int r t)
theorem use_lev {w : World} {mean : ExcName → Option Value} {mg mb : Str → Option Value} {dp un : Nat} {gd : Option (List Code)} {cn : Str} {cs : Scope} {a : Addr} {ccd : Value} {cl : List (Str × Addr)} {outer : List Env} {A₀ : Around} {base h₀ : Heap} {L : Addr} {m : Str → Option Value} {s : Shared} {Q E : Value → Shared → Prop} {news : Led} {x y : Str} {mc r : Int} {ta tb tc : Tok}
    (B : Below A₀ base outer h₀) (F : Fr h₀ L s.heap m) (X : (Mine.hd.heap_39 w.params).In h₀) (N : News h₀ L s.heap news) (T : MTop mean mg mb h₀) (hk : cs.kind = .function)
    (hd : dp + 5 < recursionLimit) (hu : un + 20 * 5 < cLine) (hl : LevG x y mc r) (ret : ∀ t h' tk', Fr h₀ L h' m → News h₀ L h' news → Q (.int r t) { s with heap := h', toks := tk' }) :
    wpAny (model PySem.Challenge.rw_wj0069_01.row.prog w) (ktrTop dp un gd cn cs L a ccd cl outer) (call (.ref 72) [.str x ta, .str y tb, .int mc tc]) Q E s :=
  hl w mean mg mb news ta tb tc dp un gd cn cs a ccd cl outer A₀ base h₀ L m s Q E B F X N T hk hd hu fun r add h' tk' hr _ F' N' => by
    obtain ⟨rfl, t, rfl⟩ := hr
    exact ret t h' tk' F' N'
end Mine
end

section
open PySem PySem.W PyProof.Rows PySem.Calls PySem.Spec
set_option maxRecDepth 100000
namespace Mine
local macro_rules | `(tactic| walk_at "idle") => `(tactic| fail "idle")
abbrev Bt (k : Nat) (x : Int) : Prop := Builtin.Int.intBits x ≤ k
theorem mul_bt {a b : Int} {m n : Nat} (ha : Bt m a) (hb : Bt n b) (h : m + n ≤ 134217728 := by decide) : IntMulOk a b := IntMulOk.of_le ha hb h
theorem bt_mul {a b : Int} {m n : Nat} (ha : Bt m a) (hb : Bt n b) : Bt (m + n) (a * b) := intBits_mul_le ha hb
theorem bt_two : Bt 2 2 := by decide
section
variable {prog : Program} {w : World} {A : Around} {E : Value → Shared → Prop} {s : Shared} {h₀ : Heap} {L l : Addr} {m : Str → Option Value} {news : Led} {value slice : Expr} {vs : List Value} {nn : Nat} {Q : Value → Shared → Prop}
theorem mul_opq {a b : Int} {t u : Tok} {k l : Nat} (ha : Bt k a) (hb : Bt l b) (hkl : k + l ≤ 4000) (h : ∀ v, v = a * b → Bt (k + l) v → Q (.int v s.toks) { s with toks := s.toks + 1 }) :
    wpAny (model prog w) A (binaryOp .Mult (.int a t) (.int b u)) Q E s :=
  PyProof.Rows.mul_int (h _ rfl (bt_mul ha hb)) (mul_bt ha hb (by omega))
theorem pick_five (vs : List Value) : (slicePick vs.toArray none (some 5) none).toList = vs.take 5 := by
  rw [slicePick_plain]
  have e : (5 : Int) = ((5 : Nat) : Int) := rfl
  simp only [Option.elim, e, clipAt_nat, List.size_toArray, List.drop_zero, Nat.sub_zero]
  exact kmk_take_min vs 5
theorem cut_five {u' : Tok} {its : List Value} {ops : List Value} (F : Fr h₀ L s.heap m) (N : News h₀ L s.heap news) (hm : (l, listOf vs.toArray nn) ∈ news) (hi : vs.take 5 = its) (hz : vs.length ≤ 1000) (hs : subscripted slice false (.ref l) (.ref s.heap.objs.size) = operate ops (getItem (.ref l) (.ref s.heap.objs.size)))
    (h : ∀ D h', Fr h₀ L h' m → News h₀ L h' ((D, listOf its.toArray 0) :: news) → (∀ p ∈ news, p.1 < D) → Q (.ref D) { s with heap := h' }) :
    wpAny (model prog w) A (subscriptTail value slice (.ref l) (.ref s.heap.objs.size)) Q E { s with heap := s.heap.push { cls := .type "slice", data := .fields #[.none, .int 5 u', .none] } } :=
  kba_turn (value' := PySem.Expr.Name (PySem.Str.ofString "_") ⟨0, 0, 0, 0⟩) (fun _ => rfl) (kmk_slice3_lit (its := vs.toArray) (zs := its) F N (News.isList N hm) .none (.int ..) .none (by decide) ((pick_five vs).trans hi) h hs (fun _ => rfl) (by rw [sizeLine_eq, List.size_toArray]; omega))
end
local macro_rules | `(tactic| walk_at "binaryOp Mult int int") => `(tactic| refine hold_it ?_)
local macro_rules | `(tactic| walk_at "subscriptTail Name Slice ref ref") => `(tactic| refine hold_it ?_)
def three (a b c d e : Int) : Int := a * c * e + 2 * b * c * d - c * c * c - a * d * d - b * b * e
theorem ne1 {D a1 : Addr} {o1 : Obj} (h1 : @Ne Nat a1 D) : ∀ p ∈ [(a1, o1)], @Ne Nat p.1 D := List.forall_mem_cons.mpr ⟨h1, fun _ h => nomatch h⟩
set_option maxHeartbeats 8000000 in
theorem squares_spec (w : World) (mean : ExcName → Option Value) (mg mb : Str → Option Value) (rl : Addr) (vs : List Value) (nr : Nat) (a b c d e : Int) (ta tb tc td te : Tok) (hv : vs.take 5 = [.int a ta, .int b tb, .int c tc, .int d td, .int e te]) (hz : vs.length ≤ 1000)
    (ha : Bt 400 a) (hb : Bt 400 b) (hc : Bt 400 c) (hd : Bt 400 d) (he : Bt 400 e) :
    MCall w mean mg mb 8 240 [.ref rl] [(rl, listOf vs.toArray nr)]
      (fun v add => ∃ r n t1 t2 t3, v = .ref r ∧ add = [(r, listOf #[.int a t1, .int (a * c - b * b) t2, .int (three a b c d e) t3] n)]) := by
  w_top off
  (have kf9 : ∀ (P : Params) (h : Heap), PySem.Challenge.rw_wj0069_01 = PySem.Challenge.rw_wj0069_01 → (Mine.hd.heap_39 P).In h → True := by (k_fill; intros; trivial))
  intro dp un gd cn cs a' ccd cl outer A₀ base h₀ L m s Q E hB hF hK hN hT hk hdp hun hret
  have hMk : KstMark := kstMark
  (refine wpAny_call ?_; k_dflt ( (refine' code_def (binds := [(Str.ofString "row", .ref rl)]) ?k1 ?k2 ?k3 ?k4 ?k5 ?kA ?kF ?kK ?k6 ?k7 ?k8 ?k9 ?kB ?_ ?c2 ?c3 ?c4 ?c5; (case kA => exact rfl); (case kF => exact rfl); (case kK => assumption); (case k1 => k_asm); (case k2 => k_asm); (case k3 => k_asm); (case k4 => k_asm); (case k5 => k_asm); (case k6 => k_is); (case k7 => k_is); (case k8 => ktr_room); (case k9 => first | exact BindsTo.of_eq rfl | exact binds_K (by k_in) rfl (by k_is) rfl rfl rfl | (refine' kp_binds ?kx ?ke; (case kx => k_in); (case ke => exact fun _ => rfl))); (case c5 => decide); (case kB => exact locs rfl); (case c2 => exact rfl); (case c3 => exact rfl); (case c4 => exact rfl); k_whole; intro g' L' h' FG' F' N' B' X' T'; (simp only [List.reverse_cons, List.reverse_nil, List.nil_append, List.cons_append] at F'); (try dsimp only); (try k_lift B'); (try k_fold))))
  (repeat' (first | (unfold Hold; first | (k_here; (with_reducible show wpAny _ _ (binaryOp Operator.Mult _ _) _ _ _); (with_reducible refine' mul_opq ?q1BE60 ?q2BE60 ?q3BE60 ?_); (case q1BE60 => first | (with_reducible assumption) | (with_reducible exact bt_two)); (case q2BE60 => with_reducible assumption); (case q3BE60 => decide); intro v' e' b'; (try dsimp only)) | (k_here; (with_reducible show wpAny _ _ (subscriptTail _ (Expr.Slice _ _ _ _) (Value.ref _) (Value.ref _)) _ _ _); (rename Fr _ _ _ _ => sF9); (rename News _ _ _ _ => sN9); (refine' cut_five (s := ⟨_, _, _, _, _⟩) sF9 sN9 ?q1BE61 ?q2BE61 ?q3BE61 ?q4BE61 ?_; (case q1BE61 => k_mem); (case q2BE61 => with_reducible assumption); (case q3BE61 => with_reducible assumption); (case q4BE61 => with_unfolding_all rfl)); k_whole; intro D' h' F' N' l1; (try k_lt l1); (try dsimp only); (try k_sweep)) | fail "no block") | (k_unfold; (try dsimp only)) | (k_end; kc_close) | walk1 | (dsimp only; walk1) | (leave1; (try dsimp only)) | fail "no step"))
  rename News h₀ L _ _ => n9
  refine' hret _ [_] _ _ ⟨_, _, _, _, _, rfl, ?eq⟩ (of_cons ?a1 of_nil) ?kb (ns_cons n9 ?k1 (ns_nil n9 ?kd))
  case k1 => with_unfolding_all k_mem
  case kb => assumption
  case kd => simp
  case a1 => exact ne1 (by omega)
  case eq => subst_vars; rfl
end Mine
end

section
open PySem PySem.W PyProof.Rows PySem.Calls PySem.Spec
set_option maxRecDepth 100000
namespace Mine
abbrev tupO (its : Array Value) (n : Nat) : Obj := { cls := .type "tuple", data := .seq its n }
section
variable {prog : Program} {w : World} {A : Around} {E : Value → Shared → Prop} {s : Shared} {env : Env} {h₀ : Heap} {x : Str} {body : List Stmt} {Q : Flow → Shared → Prop}
theorem tup_iter {l : Addr} {vs : List Value} {nn : Nat} {m₀ : Str → Option Value} {news : Led} (J : Nat → (Str → Option Value) → Led → Prop)
    (hh : A.handled = none) (hl : (l, tupO vs.toArray nn) ∈ news) (F : Fr h₀ env.locals s.heap m₀) (N : News h₀ env.locals s.heap news) (hj : J 0 m₀ news)
    (turn : ∀ i v m₁ nx h tk own, vs[i]? = some v → OwnOff own (nx.map (·.1)) → (l, tupO vs.toArray nn) ∈ nx → J i m₁ nx → Fr h₀ env.locals h (fun y => if y = x then some v else m₁ y) → News h₀ env.locals h (nx ++ own) →
      wpAny (model prog w) A (execs body env) (InvPostG h₀ env.locals (fun m' nx' => (l, tupO vs.toArray nn) ∈ nx' ∧ J (i + 1) m' nx') own { s with heap := h, toks := tk } Q) E { s with heap := h, toks := tk })
    (done : ∀ m₁ nx h tk, J vs.length m₁ nx → Fr h₀ env.locals h m₁ → News h₀ env.locals h nx → Q .next { s with heap := h, toks := tk }) :
    wpAny (model prog w) A (pyIter (.ref l)) (fun it s₂ => LoopAtV prog w A h₀ env x body Q E it s₂) E s := by
  have hol := (N _ hl).1
  have hlt : s.heap.IsTuple l vs.toArray := ⟨_, hol, rfl, nn, rfl⟩
  have hne : l ≠ s.heap.objs.size := Nat.ne_of_lt (Heap.lt_size hol)
  have hnw : ∀ p ∈ news, p.1 ≠ s.heap.objs.size := fun p hp => Nat.ne_of_lt (Heap.lt_size (N p hp).1)
  refine wpAny_pyIter_tuple hlt ?_
  have W := Walks.tuple (prog := prog) (w := w) hh s.heap.objs.size l hne vs.toArray
  have e0 : vs.toArray.size = vs.length := by simp
  rw [e0] at W
  refine ⟨_, _, _, _, _, _, m₀, news, (fun i m nx => (l, tupO vs.toArray nn) ∈ nx ∧ J i m nx), rfl, W, ?_, ?_, ?_, ⟨⟨_, Heap.get?_push_size _ rfl, rfl, rfl⟩, hlt.at fun o e => Heap.get?_push_of_some _ e⟩, F.push _, (fun p hp => ⟨Heap.get?_push_of_some _ (N p hp).1, (N p hp).2⟩), ⟨hl, hj⟩, ?_, ?_⟩
  · intro hm
    rcases List.mem_cons.mp hm with e | hm
    · exact absurd F.ns.lt (e ▸ Nat.lt_irrefl _)
    · exact (N _ hl).2.1 ((List.mem_singleton.mp hm).symm)
  · intro b hb
    rw [List.mem_singleton.mp hb]
    exact next_is_new F
  · intro p hp hI
    exact hnw p hp (List.mem_singleton.mp hI)
  · rintro i v m₁ nx s₁ own ⟨h1, tk1, rfl⟩ hin hP ⟨hl1, hJ⟩ hoff hown hget hfp hst F1 N1
    have hv : vs[i]? = some v := by simpa using hP
    have hI0 : h₀.get? s.heap.objs.size = none := next_is_new F
    obtain ⟨⟨oI, hoI, _⟩, _⟩ := id hst
    -- the iterator alone is its own
    have hmine : (s.heap.objs.size, oI) ∈ own := hfp _ (List.mem_cons.mpr (.inl rfl)) hI0 _ hoI
    have hN1 : News h₀ env.locals h1 (nx ++ [(s.heap.objs.size, oI)]) := fun p hp => by
      rcases List.mem_append.mp hp with hp | hp
      · exact N1 p (List.mem_append.mpr (.inr hp))
      · rw [List.mem_singleton.mp hp]; exact N1 _ (List.mem_append.mpr (.inl hmine))
    have hsep : OwnOff [(s.heap.objs.size, oI)] (nx.map (·.1)) := fun p hp b hb e => by
      obtain ⟨q, hq, rfl⟩ := List.mem_map.mp hb
      rw [List.mem_singleton.mp hp] at e
      exact hoff q hq (List.mem_singleton.mpr e.symm)
    refine wpAny_mono (turn i v m₁ nx h1 tk1 _ hv hsep hl1 hJ F1 hN1) (fun f s₂ p => ?_) fun _ _ e => e
    have fin : InvEndG h₀ env.locals (fun m' nx' => (l, tupO vs.toArray nn) ∈ nx' ∧ J (i + 1) m' nx') [(s.heap.objs.size, oI)] { s with heap := h1, toks := tk1 } s₂ →
        LoopStepU h₀ env.locals [s.heap.objs.size] own (fun m nx => (l, tupO vs.toArray nn) ∈ nx ∧ J (i + 1) m nx) { s with heap := h1, toks := tk1 } .next s₂ := by
      rintro ⟨h', tk, m', news', nx', e, F', N', hn, ho, ha, hm⟩
      have hlo : h1.get? l = some (tupO vs.toArray nn) := (N1 _ (List.mem_append.mpr (.inr hl1))).1
      refine ⟨rfl, h', tk, m', nx', e, F', fun p hp => ?_, fun p hp hq => ha _ (List.mem_singleton.mpr rfl) p.1 (List.mem_map.mpr ⟨p, hp, rfl⟩) (List.mem_singleton.mp hq).symm, hm⟩
      rcases List.mem_append.mp hp with h | h
      · have h2 : h1.get? p.1 = some p.2 := hget p h
        rcases List.mem_cons.mp (hown p h) with h3 | h3
        · have : p = (s.heap.objs.size, oI) := by
            rw [h3, hoI] at h2
            exact Prod.ext h3 (Option.some.inj h2).symm
          rw [this]
          exact N' _ (ho _ (List.mem_singleton.mpr rfl))
        · have h4 := List.mem_singleton.mp h3
          rw [h4, hlo] at h2
          have : p = (l, tupO vs.toArray nn) := Prod.ext h4 (Option.some.inj h2).symm
          rw [this]
          exact N' _ (hn _ hm.1)
      · exact N' p (hn p h)
    cases f with
    | ret v => exact .ret p
    | brk => exact .brk p
    | next => exact .next (fin p)
    | cont => exact .cont (fin p)
  · rintro h' tk m' nx F' N' _ ⟨_, hJ⟩
    exact done m' nx h' tk hJ F' N'
theorem rng_iter {r : Addr} {b₀ : Int} {t₀ u₀ v₀ : Tok} {n : Nat} {m₀ : Str → Option Value} {news : Led} (J : Nat → (Str → Option Value) → Led → Prop)
    (hh : A.handled = none) (hr : IsRange s.heap r 0 b₀ 1 t₀ u₀ v₀) (hb : b₀ = (n : Int)) (hn : n ≤ 1000) (F : Fr h₀ env.locals s.heap m₀) (N : News h₀ env.locals s.heap news) (hj : J 0 m₀ news)
    (turn : ∀ i t m₁ nx h tk own, i < n → OwnOff own (nx.map (·.1)) → J i m₁ nx → Fr h₀ env.locals h (fun y => if y = x then some (.int (i : Int) t) else m₁ y) → News h₀ env.locals h (nx ++ own) →
      wpAny (model prog w) A (execs body env) (InvPostG h₀ env.locals (J (i + 1)) own { s with heap := h, toks := tk } Q) E { s with heap := h, toks := tk })
    (done : ∀ m₁ nx h tk, J n m₁ nx → Fr h₀ env.locals h m₁ → News h₀ env.locals h nx → Q .next { s with heap := h, toks := tk }) :
    wpAny (model prog w) A (pyIter (.ref r)) (fun it s₂ => LoopAtV prog w A h₀ env x body Q E it s₂) E s := by
  have hsz : Builtin.Range.rangeSize 0 b₀ 1 = (n : Int) := by
    subst hb; unfold Builtin.Range.rangeSize; simp only [show (1 : Int) > 0 by decide, if_true]; split <;> omega
  have hsmall : Builtin.Range.small 0 b₀ 1 = true := by
    subst hb; unfold Builtin.Range.small; rw [hsz]; unfold Builtin.Range.rangeFitsLong; (have : (n : Int) ≤ 1000 := by omega); simp; omega
  refine wpAny_pyIter_range hr hsmall ?_
  have W : Walks prog w A s.heap.objs.size [s.heap.objs.size] [s.heap.objs.size] n (fun i v => i < n ∧ ∃ t, v = .int (0 + i * 1) t)
      (fun i h => IsRangeIter h s.heap.objs.size (0 + (i : Nat) * 1) ((n : Int) - (i : Nat)) 1) := (Walks.range hh _ 0 1 n).bound
  refine kdr_loop J W (fun _ h => h) (fun _ h => h) (fun i h hi b hb => ?_) (fun hm => ?_) (fun b hb => ?_) (fun p hp hI => ?_) (by show IsRangeIter _ _ _ _ _; rw [hsz]; simpa using Heap.get?_push_size _ rfl) (F.push _) (fun p hp => ⟨Heap.get?_push_of_some _ (N p hp).1, (N p hp).2⟩) hj ?_ ?_
  · rw [List.mem_singleton.mp hb]
    exact ⟨_, hi⟩
  · exact absurd F.ns.lt ((List.mem_singleton.mp hm) ▸ Nat.lt_irrefl _)
  · rw [List.mem_singleton.mp hb]
    exact next_is_new F
  · exact absurd (Heap.lt_size (N p hp).1) ((List.mem_singleton.mp hI) ▸ Nat.lt_irrefl _)
  · rintro i v m₁ nx h tk own hi ⟨_, t, rfl⟩ hoff hJ F₁ N₁
    have e1 : (0 : Int) + (i : Int) * 1 = (i : Int) := by omega
    rw [e1] at F₁
    exact turn i t m₁ nx h tk own hi hoff hJ F₁ N₁
  · rintro m₁ nx h tk hJ F₁ N₁
    exact done m₁ nx h tk hJ F₁ N₁
theorem map_form {m₁ m₀ : Str → Option Value} {st : List Str} (h : ∀ y, st.contains y = false → m₁ y = m₀ y) : m₁ = fun y => if st.contains y then m₁ y else m₀ y := by
  funext y
  cases q : st.contains y with
  | true => simp
  | false => simp only [Bool.false_eq_true, if_false]; exact h y q
theorem map_form1 {m₁ m₀ : Str → Option Value} {st : List Str} {z : Str} {v : Value} (hz : m₁ z = some v) (h : ∀ y, y ≠ z → st.contains y = false → m₁ y = m₀ y) : m₁ = fun y => if y = z then some v else if st.contains y then m₁ y else m₀ y := by
  funext y
  by_cases e : y = z
  · subst e; simp [hz]
  · rw [if_neg e]
    cases q : st.contains y with
    | true => simp
    | false => simp only [Bool.false_eq_true, if_false]; exact h y e q
theorem fr_set {h₀ h : Heap} {L : Addr} {m₁ m₂ : Str → Option Value} {x : Str} {v : Value} (F : Fr h₀ L h (fun y => if y = x then some v else m₁ y)) (e : m₁ = m₂) : Fr h₀ L h (fun y => if y = x then some v else m₂ y) := e ▸ F
theorem rng_one {r : Addr} {b₀ : Int} {t₀ u₀ v₀ : Tok} {n : Nat} {m₀ : Str → Option Value} {news : Led} (z : Str) (stored : List Str) (J : Nat → Value → Led → Prop) {vz : Value}
    (hh : A.handled = none) (hr : IsRange s.heap r 0 b₀ 1 t₀ u₀ v₀) (hb : b₀ = (n : Int)) (hn : n ≤ 1000) (F : Fr h₀ env.locals s.heap m₀) (N : News h₀ env.locals s.heap news) (hz : m₀ z = some vz) (hj : J 0 vz news)
    (turn : ∀ i t vz (u : Str → Option Value) nx h tk own, i < n → OwnOff own (nx.map (·.1)) → J i vz nx → Fr h₀ env.locals h (fun y => if y = x then some (.int (i : Int) t) else if y = z then some vz else if stored.contains y then u y else m₀ y) → News h₀ env.locals h (nx ++ own) →
      wpAny (model prog w) A (execs body env) (InvPostG h₀ env.locals (fun m' nx' => ∃ vz', m' z = some vz' ∧ (∀ y, y ≠ z → stored.contains y = false → m' y = m₀ y) ∧ J (i + 1) vz' nx') own { s with heap := h, toks := tk } Q) E { s with heap := h, toks := tk })
    (done : ∀ vz (u : Str → Option Value) nx h tk, J n vz nx → Fr h₀ env.locals h (fun y => if y = z then some vz else if stored.contains y then u y else m₀ y) → News h₀ env.locals h nx → Q .next { s with heap := h, toks := tk }) :
    wpAny (model prog w) A (pyIter (.ref r)) (fun it s₂ => LoopAtV prog w A h₀ env x body Q E it s₂) E s := by
  refine rng_iter (fun i m nx => ∃ vz, m z = some vz ∧ (∀ y, y ≠ z → stored.contains y = false → m y = m₀ y) ∧ J i vz nx) hh hr hb hn F N ⟨vz, hz, fun _ _ _ => rfl, hj⟩ ?_ ?_
  · rintro i t m₁ nx h tk own hi hoff ⟨vz, h1, h2, h3⟩ F1 N1
    exact turn i t vz m₁ nx h tk own hi hoff h3 (fr_set F1 (map_form1 h1 h2)) N1
  · rintro m₁ nx h tk ⟨vz, h1, h2, h3⟩ F1 N1
    exact done vz m₁ nx h tk h3 (map_form1 h1 h2 ▸ F1) N1
theorem rng_none {r : Addr} {b₀ : Int} {t₀ u₀ v₀ : Tok} {n : Nat} {m₀ : Str → Option Value} {news : Led} (stored : List Str) (J : Nat → Led → Prop)
    (hh : A.handled = none) (hr : IsRange s.heap r 0 b₀ 1 t₀ u₀ v₀) (hb : b₀ = (n : Int)) (hn : n ≤ 1000) (F : Fr h₀ env.locals s.heap m₀) (N : News h₀ env.locals s.heap news) (hj : J 0 news)
    (turn : ∀ i t (u : Str → Option Value) nx h tk own, i < n → OwnOff own (nx.map (·.1)) → J i nx → Fr h₀ env.locals h (fun y => if y = x then some (.int (i : Int) t) else if stored.contains y then u y else m₀ y) → News h₀ env.locals h (nx ++ own) →
      wpAny (model prog w) A (execs body env) (InvPostG h₀ env.locals (fun m' nx' => (∀ y, stored.contains y = false → m' y = m₀ y) ∧ J (i + 1) nx') own { s with heap := h, toks := tk } Q) E { s with heap := h, toks := tk })
    (done : ∀ (u : Str → Option Value) nx h tk, J n nx → Fr h₀ env.locals h (fun y => if stored.contains y then u y else m₀ y) → News h₀ env.locals h nx → Q .next { s with heap := h, toks := tk }) :
    wpAny (model prog w) A (pyIter (.ref r)) (fun it s₂ => LoopAtV prog w A h₀ env x body Q E it s₂) E s := by
  refine rng_iter (fun i m nx => (∀ y, stored.contains y = false → m y = m₀ y) ∧ J i nx) hh hr hb hn F N ⟨fun _ _ => rfl, hj⟩ ?_ ?_
  · rintro i t m₁ nx h tk own hi hoff ⟨h2, h3⟩ F1 N1
    exact turn i t m₁ nx h tk own hi hoff h3 (fr_set F1 (map_form h2)) N1
  · rintro m₁ nx h tk ⟨h2, h3⟩ F1 N1
    exact done m₁ nx h tk h3 (map_form h2 ▸ F1) N1
theorem tup_none {l : Addr} {vs : List Value} {nn : Nat} {m₀ : Str → Option Value} {news : Led} (stored : List Str) (J : Nat → Led → Prop)
    (hh : A.handled = none) (hl : (l, tupO vs.toArray nn) ∈ news) (F : Fr h₀ env.locals s.heap m₀) (N : News h₀ env.locals s.heap news) (hj : J 0 news)
    (turn : ∀ i v (u : Str → Option Value) nx h tk own, vs[i]? = some v → OwnOff own (nx.map (·.1)) → (l, tupO vs.toArray nn) ∈ nx → J i nx → Fr h₀ env.locals h (fun y => if y = x then some v else if stored.contains y then u y else m₀ y) → News h₀ env.locals h (nx ++ own) →
      wpAny (model prog w) A (execs body env) (InvPostG h₀ env.locals (fun m' nx' => (l, tupO vs.toArray nn) ∈ nx' ∧ (∀ y, stored.contains y = false → m' y = m₀ y) ∧ J (i + 1) nx') own { s with heap := h, toks := tk } Q) E { s with heap := h, toks := tk })
    (done : ∀ (u : Str → Option Value) nx h tk, J vs.length nx → Fr h₀ env.locals h (fun y => if stored.contains y then u y else m₀ y) → News h₀ env.locals h nx → Q .next { s with heap := h, toks := tk }) :
    wpAny (model prog w) A (pyIter (.ref l)) (fun it s₂ => LoopAtV prog w A h₀ env x body Q E it s₂) E s := by
  refine tup_iter (fun i m nx => (∀ y, stored.contains y = false → m y = m₀ y) ∧ J i nx) hh hl F N ⟨fun _ _ => rfl, hj⟩ ?_ ?_
  · rintro i v m₁ nx h tk own hv hoff hl1 ⟨h2, h3⟩ F1 N1
    exact turn i v m₁ nx h tk own hv hoff hl1 h3 (fr_set F1 (map_form h2)) N1
  · rintro m₁ nx h tk ⟨h2, h3⟩ F1 N1
    exact done m₁ nx h tk h3 (map_form h2 ▸ F1) N1
end
end Mine
end

section
open PySem PySem.W PyProof.Rows PySem.Calls PySem.Spec
set_option maxRecDepth 100000
namespace Mine
def digs (m : Nat) : List Nat := (Str.ofString (toString ((m : Nat) : Int))).cps.toList
def fmt (k : Int) : Str := ⟨((if k < 0 then [45] else []) ++ digs k.natAbs).toArray⟩
theorem digs_eq (m : Nat) : digs m = (Nat.toDigits 10 m).map Char.toNat := KIN.signs_num m
theorem digs_all (m : Nat) : NumText.AllDigits (digs m) := by
  intro c hc
  rw [digs_eq] at hc
  obtain ⟨ch, hch, e⟩ := List.mem_map.mp hc
  have r := digit_range (Nat.isDigit_of_mem_toDigits (by decide) (by decide) hch)
  rw [← e]
  exact r
theorem digs_ne (m : Nat) : digs m ≠ [] := by
  rw [digs_eq]
  intro e
  have h := toDigits_len_ge 10 m
  rw [List.map_eq_nil_iff.mp e] at h
  exact absurd h (by decide)
theorem digs_len {m : Nat} (h : m < 10 ^ 250) : (digs m).length ≤ 250 := by
  rw [digs_eq, List.length_map]
  exact toDigits_len_pow (by decide) (by decide) h
theorem fmt_len {k : Int} (h : k.natAbs < 10 ^ 250) : (fmt k).length ≤ 300 := by
  show (((if k < 0 then [45] else []) ++ digs k.natAbs).toArray).size ≤ 300
  rw [List.size_toArray, List.length_append]
  have := digs_len h
  split <;> simp <;> omega
theorem int_fmt {k : Int} (h : k.natAbs < 10 ^ 250) : PySem.intText? (fmt k) = some k := by
  have hl := fmt_len h
  by_cases hk : k < 0
  · have hx : (fmt k).cps.toList = 45 :: digs k.natAbs := by simp [fmt, hk]
    rw [PySem.intText_neg hx (digs_all _) (digs_ne _) (by omega), digs_eq, KIN.val_back]
    congr 1; omega
  · have hx : (fmt k).cps.toList = digs k.natAbs := by simp [fmt, hk]
    have e := PySem.intText_digits (x := fmt k) (by rw [hx]; exact digs_all _) (by rw [hx]; exact digs_ne _) (by omega)
    rw [hx, digs_eq, KIN.val_back] at e
    rw [e]; congr 1; omega
theorem fmt_printable (k : Int) : printable (fmt k) = true := by
  unfold printable
  rw [Array.all_eq_true']
  intro c hc
  have hc' : c ∈ (if k < 0 then [45] else []) ++ digs k.natAbs := by
    have := Array.mem_toList_iff.mpr hc
    simpa [fmt] using this
  rcases List.mem_append.mp hc' with h | h
  · split at h
    · rw [List.mem_singleton.mp h]; decide
    · cases h
  · have r := digs_all _ c h
    simp only [Bool.and_eq_true]
    constructor
    · exact Nat.ble_eq.mpr (by omega)
    · simp only [Nat.blt]; exact Nat.ble_eq.mpr (by omega)
theorem log_lt {n : Nat} (h : n < 10 ^ 250) : n.log2 < 1920 := by
  by_cases h0 : n = 0
  · subst h0; decide
  · have := (Nat.log2_lt (k := 850) h0).mpr (Nat.lt_of_lt_of_le h (by decide +kernel)); omega
section
variable {prog : Program} {w : World} {A : Around} {E : Value → Shared → Prop} {s : Shared}
theorem after_fmt {M : Model} {l : List Nat} {p : List Value} {r : List Nat} {f : Nat → List Value × Builtin.Str.Writer × List Nat → Sem (ForInStep (List Value × Builtin.Str.Writer × List Nat))} {Q : List Value × Builtin.Str.Writer × List Nat → Shared → Prop} {wr : Builtin.Str.Writer} {N : Nat} {o : Option Value} {c : Builtin.Str.Percent} {n : Int} {d : List Nat}
    (hn : n.natAbs < 10 ^ 250) (g : KPc.Good wr Str.empty N) (h1 : c.alt = false) (h2 : c.type = 100) (h3 : c.prec = none) (hd : d = digs n.natAbs) (ho : o = none)
    (h : ∀ w', KPc.Good w' (fmt n) (N + 300) → wpAny M A (forIn l (p, w', r) f) Q E s) :
    wpAny M A (forIn l (p, wr.add ⟨(Builtin.Str.percentInt c (decide (n < 0)) d).toArray⟩ o, r) f) Q E s := by
  have e : (⟨(Builtin.Str.percentInt c (decide (n < 0)) d).toArray⟩ : Str) = ⟨(fmt n).cps.toList.toArray⟩ := by
    unfold Builtin.Str.percentInt fmt
    simp [h1, h2, h3, hd]
  rw [e]
  exact KPc.after_str0 g (fmt_len hn) (KPc.obj_none ho) h
local macro_rules | `(tactic| kpc_piece) => `(tactic| (refine after_fmt (by with_reducible assumption) (by kpc_g) rfl rfl rfl rfl (by kpc_none) ?_; intro _ _))
theorem meets_d (n : Int) (t u : Tok) (hn : n.natAbs < 10 ^ 250) : n.natAbs.log2 < 1920 → ((n.natAbs : Nat) : Int).natAbs.log2 < 1920 →
    Meets (Builtin.«str.__mod__» ⟨[.str (Str.mk #[37, 100]) t, .int n u], []⟩) (fun _ R s => ∀ t' k, R (.ok (.ret (.str (fmt n) t'))) { s with toks := k }) := by
  kpc_run
theorem mod_d {n : Int} {t u : Tok} {Q : Value → Shared → Prop} (hn : n.natAbs < 10 ^ 250) (h : ∀ t' k, Q (.str (fmt n) t') { s with toks := k }) : wpAny (model prog w) A (binaryOp .Mod (.str (Str.ofString "%d") t) (.int n u)) Q E s :=
  KPc.mod_lit (X' := Str.mk #[37, 100]) (by decide +kernel) (log_lt hn) (meets_d n t u hn) h
end
end Mine
end

section
open PySem PySem.W PyProof.Rows PySem.Calls PySem.Spec
set_option maxRecDepth 100000
namespace Mine
def GoodName (ws : List Str) (nm : Str) (th : Nat) : Prop := printable nm = true ∧ nm.length ≤ 1000 ∧ ∀ (j : Nat) (w : Str), ws[j]? = some w → (Txt.lower nm == Txt.lower w) = (th == j)
abbrev Row := Nat × Int
inductive PsOK (ws : List Str) : List (Str × Str) → List Row → Prop
  | nil : PsOK ws [] []
  | cons {nm : Str} {th : Nat} {k : Int} {ps rows} : GoodName ws nm th → k.natAbs < 10 ^ 250 → PsOK ws ps rows → PsOK ws ((nm, fmt k) :: ps) ((th, k) :: rows)
theorem PsOK.length {ws ps rows} (h : PsOK ws ps rows) : ps.length = rows.length := by
  induction h with
  | nil => rfl
  | cons _ _ _ ih => rw [List.length_cons, List.length_cons, ih]
theorem PsOK.snoc {ws ps rows nm th k} (h : PsOK ws ps rows) (g : GoodName ws nm th) (hk : k.natAbs < 10 ^ 250) : PsOK ws (ps ++ [(nm, fmt k)]) (rows ++ [(th, k)]) := by
  induction h with
  | nil => exact .cons g hk .nil
  | cons a b _ ih => exact .cons a b ih
theorem PsOK.printable {ws ps rows} (h : PsOK ws ps rows) : ∀ p ∈ ps, printable p.1 = true ∧ printable p.2 = true := by
  induction h with
  | nil => exact fun _ hp => nomatch hp
  | cons g _ _ ih =>
    intro p hp
    rcases List.mem_cons.mp hp with rfl | hp
    · exact ⟨g.1, fmt_printable _⟩
    · exact ih p hp
theorem PsOK.len {ws ps rows} (h : PsOK ws ps rows) : ∀ p ∈ ps, p.1.length ≤ 1000 := by
  induction h with
  | nil => exact fun _ hp => nomatch hp
  | cons g _ _ ih =>
    intro p hp
    rcases List.mem_cons.mp hp with rfl | hp
    · exact g.2.1
    · exact ih p hp
theorem PsOK.filter {ws ps rows} (h : PsOK ws ps rows) {j : Nat} {wd : Str} (hw : ws[j]? = some wd) :
    (ps.filter fun p => Txt.lower p.1 == Txt.lower wd).map (·.2) = ((rows.filter fun r => r.1 == j).map (·.2)).map fmt := by
  induction h with
  | nil => rfl
  | @cons nm th k _ _ g _ _ ih =>
    have e := g.2.2 j wd hw
    rw [List.filter_cons, List.filter_cons]
    dsimp only
    rw [e]
    by_cases q : (th == j) = true
    · simp only [q, if_true, List.map_cons, ih]
    · simp only [q, if_false, Bool.false_eq_true, ih]
theorem PsOK.small {ws ps rows} (h : PsOK ws ps rows) : ∀ r ∈ rows, r.2.natAbs < 10 ^ 250 := by
  induction h with
  | nil => exact fun _ hp => nomatch hp
  | cons _ hk _ ih =>
    intro p hp
    rcases List.mem_cons.mp hp with rfl | hp
    · exact hk
    · exact ih p hp
def RowsOK (ws : List Str) (led : Led) (vs : List Value) (rows : List Row) : Prop := ∃ ps, RowsAre led vs ps ∧ PsOK ws ps rows
theorem RowsAre.snoc {led : Led} {vs : List Value} {ps : List (Str × Str)} {v : Value} {p : Str × Str} (h : RowsAre led vs ps) (hv : RowIs led v p) : RowsAre led (vs ++ [v]) (ps ++ [p]) := by
  refine ⟨by simp [h.1], fun i u hu => ?_⟩
  by_cases hi : i < vs.length
  · rw [List.getElem?_append_left hi] at hu
    obtain ⟨q, hq, hr⟩ := h.2 i u hu
    exact ⟨q, by rw [List.getElem?_append_left (by rw [← h.1]; exact hi)]; exact hq, hr⟩
  · have e : i = vs.length := by
      have := (List.getElem?_eq_some_iff.mp hu).1
      simp at this; omega
    subst e
    have : u = v := by simpa using hu.symm
    subst this
    exact ⟨p, by rw [h.1]; simp, hv⟩
theorem RowsOK.mono {ws led led' vs rows} (h : RowsOK ws led vs rows) (hs : ∀ q ∈ led, q ∈ led') : RowsOK ws led' vs rows :=
  let ⟨ps, h1, h2⟩ := h; ⟨ps, h1.mono hs, h2⟩
theorem RowsOK.snoc {ws led vs rows v nm th k} (h : RowsOK ws led vs rows) (hv : RowIs led v (nm, fmt k)) (g : GoodName ws nm th) (hk : k.natAbs < 10 ^ 250) : RowsOK ws led (vs ++ [v]) (rows ++ [(th, k)]) :=
  let ⟨_, h1, h2⟩ := h; ⟨_, h1.snoc hv, h2.snoc g hk⟩
theorem RowsOK.length {ws led vs rows} (h : RowsOK ws led vs rows) : vs.length = rows.length :=
  let ⟨_, h1, h2⟩ := h; h1.1.trans h2.length
def crowdOf (rows : List Row) (j : Nat) : Int := ((rows.filter fun r => r.1 == j).map (·.2)).sum
def turnP (n : Nat) (P : List (List Int)) (base : Int) (h : Nat) (crowd : Int) (rows : List Row) (net : Int) : List Row :=
  if -1 < (h : Int) + net ∧ (h : Int) + net < (n : Int) then
    rows ++ [(((h : Int) + net).toNat, crowd * base ^ ((P.getD (min ((h : Int) + net) (h : Int)).toNat []).getD (((h : Int) + net - (h : Int)).natAbs) 0).toNat)]
  else rows
def newRows (n : Nat) (P : List (List Int)) (base : Int) (nets : List Int) (T : List Row) (H : Nat) : List Row :=
  (List.range H).foldl (fun acc h => nets.foldl (turnP n P base h (crowdOf T h)) acc) []
def homeRows (n : Nat) (P : List (List Int)) (base : Int) (nets : List Int) : Nat → List Row
  | 0 => [(0, 1)]
  | i + 1 => newRows n P base nets (homeRows n P base nets i) (min (i + 1) (min (5 - i + 1) n))
def homeVals (n : Nat) (P : List (List Int)) (base : Int) (nets : List Int) (i : Nat) : List Int := (List.range (i + 1)).map fun j => crowdOf (homeRows n P base nets j) 0
def PricesAre (led : Led) (pvs : List Value) (P : List (List Int)) : Prop :=
  pvs.length = P.length ∧ ∀ (i : Nat) v, pvs[i]? = some v → ∃ a us n row, v = .ref a ∧ (a, listOf (List.toArray us) n) ∈ led ∧ IntsAre us row ∧ P[i]? = some row
theorem PricesAre.mono {led led' pvs P} (h : PricesAre led pvs P) (hs : ∀ q ∈ led, q ∈ led') : PricesAre led' pvs P :=
  ⟨h.1, fun i v e => let ⟨a, us, n, row, h1, h2, h3, h4⟩ := h.2 i v e; ⟨a, us, n, row, h1, hs _ h2, h3, h4⟩⟩
def TextNet (b : Array UInt8) (net : Int) : Prop := b.size ≤ 1000 ∧ ∃ r, subOf quotedCode b = some r ∧ cnt r #[40] - cnt r #[41] = net
theorem use_paren {w : World} {mean : ExcName → Option Value} {mg mb : Str → Option Value} {dp un : Nat} {gd : Option (List Code)} {cn : Str} {cs : Scope} {a : Addr} {ccd : Value} {cl : List (Str × Addr)} {outer : List Env} {A₀ : Around} {base h₀ : Heap} {L : Addr} {m : Str → Option Value} {s : Shared} {Q E : Value → Shared → Prop} {news : Led}
    {b : Array UInt8} {tb tk : Tok} {k net : Int} (B : Below A₀ base outer h₀) (F : Fr h₀ L s.heap m) (X : (Mine.hd.heap_39 w.params).In h₀) (N : News h₀ L s.heap news) (T : MTop mean mg mb h₀) (hk : cs.kind = .function)
    (hd : dp + 2 < recursionLimit) (hu : un + 20 * 2 < cLine) (hb : TextNet b net) (ret : ∀ t h' tk', Fr h₀ L h' m → News h₀ L h' news → Q (.int (k + net) t) { s with heap := h', toks := tk' }) :
    wpAny (model PySem.Challenge.rw_wj0069_01.row.prog w) (ktrTop dp un gd cn cs L a ccd cl outer) (call (.ref 58) [.bytes b tb, .int k tk]) Q E s := by
  obtain ⟨hs, r, hr, rfl⟩ := hb
  exact paren_spec w mean mg mb news b r tb k tk hs hr dp un gd cn cs a ccd cl outer A₀ base h₀ L m s Q E B F X N T hk hd hu fun v add h' tk' hv _ F' N' => by
    obtain ⟨rfl, t, rfl⟩ := hv
    have e : k + cnt r #[40] - cnt r #[41] = k + (cnt r #[40] - cnt r #[41]) := by omega
    rw [e]
    exact ret t h' tk' F' N'
theorem use_head {w : World} {mean : ExcName → Option Value} {mg mb : Str → Option Value} {dp un : Nat} {gd : Option (List Code)} {cn : Str} {cs : Scope} {a : Addr} {ccd : Value} {cl : List (Str × Addr)} {outer : List Env} {A₀ : Around} {base h₀ : Heap} {L : Addr} {m : Str → Option Value} {s : Shared} {Q E : Value → Shared → Prop} {news : Led}
    {ws : List Str} {l : Addr} {vs : List Value} {rows : List Row} {nn : Nat} (B : Below A₀ base outer h₀) (F : Fr h₀ L s.heap m) (X : (Mine.hd.heap_39 w.params).In h₀) (N : News h₀ L s.heap news) (T : MTop mean mg mb h₀) (hk : cs.kind = .function)
    (hd : dp + 5 < recursionLimit) (hu : un + 20 * 5 < cLine) (hl : (l, listOf vs.toArray nn) ∈ news) (hr : RowsOK ws news vs rows)
    (ret : ∀ x d hh t h' tk', (∀ p ∈ news, @Ne Nat p.1 x) → (∀ p ∈ news, @Ne Nat p.1 d) → Fr h₀ L h' m → News h₀ L h' ((x, instObj 203 d) :: (d, tabDict hh t l) :: news) → Q (.ref x) { s with heap := h', toks := tk' }) :
    wpAny (model PySem.Challenge.rw_wj0069_01.row.prog w) (ktrTop dp un gd cn cs L a ccd cl outer) (call (.ref 203) [.ref l]) Q E s := by
  obtain ⟨ps, h1, h2⟩ := hr
  exact head_spec w mean mg mb news l vs nn ps hl h1 h2.printable dp un gd cn cs a ccd cl outer A₀ base h₀ L m s Q E B F X N T hk hd hu fun v add h' tk' hv hne F' N' => by
    obtain ⟨x, d, hh, t, rfl, rfl⟩ := hv
    exact ret x d hh t h' tk' (fun p hp => hne p hp _ (List.mem_cons_self ..)) (fun p hp => hne p hp _ (.tail _ (List.mem_cons_self ..))) F' N'
theorem use_getall {w : World} {mean : ExcName → Option Value} {mg mb : Str → Option Value} {dp un : Nat} {gd : Option (List Code)} {cn : Str} {cs : Scope} {a : Addr} {ccd : Value} {cl : List (Str × Addr)} {outer : List Env} {A₀ : Around} {base h₀ : Heap} {L : Addr} {m : Str → Option Value} {s : Shared} {Q E : Value → Shared → Prop} {news : Led}
    {ws : List Str} {x d l : Addr} {hh : Int} {t tw : Tok} {vs : List Value} {nn : Nat} {rows : List Row} {wd : Str} {j : Nat} (B : Below A₀ base outer h₀) (F : Fr h₀ L s.heap m) (X : (Mine.hd.heap_39 w.params).In h₀) (N : News h₀ L s.heap news) (T : MTop mean mg mb h₀) (hk : cs.kind = .function)
    (hd : dp + 5 < recursionLimit) (hu : un + 20 * 5 < cLine) (hx : (x, instObj 203 d) ∈ news) (hdd : (d, tabDict hh t l) ∈ news) (hl : (l, listOf vs.toArray nn) ∈ news) (hr : RowsOK ws news vs rows) (hw : ws[j]? = some wd) (hn : rows.length ≤ 1000)
    (hp : printable (Txt.lower wd) = true) (hz : wd.length ≤ 100)
    (ret : ∀ r ys n h' tk', (∀ p ∈ news, @Ne Nat p.1 r) → StrsAre ys (((rows.filter fun r => r.1 == j).map (·.2)).map fmt) → (∀ k ∈ (rows.filter fun r => r.1 == j).map (·.2), k.natAbs < 10 ^ 250) → Fr h₀ L h' m → News h₀ L h' ((r, listOf (List.toArray ys) n) :: news) → Q (.ref r) { s with heap := h', toks := tk' }) :
    wpAny (model PySem.Challenge.rw_wj0069_01.row.prog w) (ktrTop dp un gd cn cs L a ccd cl outer) (call (.ref 142) [.ref x, .str wd tw]) Q E s := by
  obtain ⟨ps, h1, h2⟩ := hr
  exact getall_spec w mean mg mb news x d l hh t tw vs nn ps wd hx hdd hl h1 (by rw [h1.1, h2.length]; exact hn) h2.len hp hz dp un gd cn cs a ccd cl outer A₀ base h₀ L m s Q E B F X N T hk hd hu fun v add h' tk' hv hne F' N' => by
    obtain ⟨r, ys, n, rfl, rfl, hS⟩ := hv
    rw [h2.filter hw] at hS
    refine ret r ys n h' tk' (fun p hp => hne p hp _ (List.mem_cons_self ..)) hS (fun k hk => ?_) F' N'
    obtain ⟨q, hq, rfl⟩ := List.mem_map.mp hk
    exact h2.small q ((List.mem_filter.mp hq).1)
end Mine
end

section
open PySem PySem.W PyProof.Rows PySem.Calls PySem.Spec
set_option maxRecDepth 100000
namespace Mine
theorem allObj_mono {ws : List (Addr × String)} {k k' : Led → Prop} (H : ∀ its, k its → k' its) (h : AllObj ws k) : AllObj ws k' := by
  induction ws generalizing k k' with
  | nil => exact H _ h
  | cons w r ih => exact fun o ho => ih (fun its => H _) (h o ho)
section
variable {prog : Program} {w : World} {A : Around} {E : Value → Shared → Prop} {s : Shared} {env : Env} {h₀ : Heap} {target : Expr} {body : List Stmt} {Q : Flow → Shared → Prop}
theorem post_mono {L : Addr} {s₁ : Shared} {its : Led} {r r' : (Str → Option Value) → Led → Prop} {f : Flow} {s₂ : Shared} (H : ∀ m n, r m n → r' m n) (h : UnrPostW h₀ L s₁ its r Q f s₂) : UnrPostW h₀ L s₁ its r' Q f s₂ := by
  have e : UnrEndW h₀ L s₁ its r s₂ → UnrEndW h₀ L s₁ its r' s₂ := fun ⟨h', tk, m', n', a, b, c, d, e⟩ => ⟨h', tk, m', n', a, b, c, d, H _ _ e⟩
  cases f with
  | ret v => exact h
  | brk => exact h
  | next => exact e h
  | cont => exact e h
theorem items_turns {ws : List (Addr × String)} {keep : Led} {xs : List Itm} (J : Nat → (Str → Option Value) → Led → Prop)
    (turn : ∀ i a m₁ nx, xs[i]? = some a → SubL keep nx → J i m₁ nx → ∀ v h tk, a.Is v h → Fr h₀ env.locals h m₁ → AllObj ws (fun its => News h₀ env.locals h (its ++ nx) →
      wpAny (model prog w) A (assign target env v) (fun _ s₂ => wpAny (model prog w) A (execs body env) (UnrPostW h₀ env.locals { s with heap := h, toks := tk } its (fun m' n' => SubL keep n' ∧ J (i + 1) m' n') Q) E s₂) E { s with heap := h, toks := tk }))
    (done : ∀ m₁ nx h tk, J xs.length m₁ nx → Fr h₀ env.locals h m₁ → News h₀ env.locals h nx → Q .next { s with heap := h, toks := tk }) :
    ∀ (r : List Itm) (i : Nat) m₁ nx, xs.drop i = r → i ≤ xs.length → SubL keep nx → J i m₁ nx → ItemsRest prog w A E h₀ env target body Q s ws keep r m₁ nx
  | [], i, m₁, nx, e, hi, _, hj => by
    have : i = xs.length := Nat.le_antisymm hi (List.drop_eq_nil_iff.mp e)
    subst this
    exact fun h tk F N => done m₁ nx h tk hj F N
  | a :: r, i, m₁, nx, e, hi, hk, hj => by
    have hlt : i < xs.length := by
      have := congrArg List.length e
      rw [List.length_drop, List.length_cons] at this; omega
    have ha : xs[i]? = some a := by
      rw [List.drop_eq_getElem_cons hlt] at e
      rw [List.getElem?_eq_getElem hlt, (List.cons.inj e).1]
    have hr : xs.drop (i + 1) = r := by
      rw [List.drop_eq_getElem_cons hlt] at e
      exact (List.cons.inj e).2
    intro v h tk hv F
    refine allObj_mono (fun its H N => ?_) (turn i a m₁ nx ha hk hj v h tk hv F)
    refine wpAny_mono (H N) (fun _ s₂ h₂ => wpAny_mono h₂ (fun f s₃ h₃ => ?_) fun _ _ x => x) fun _ _ x => x
    exact post_mono (fun m' n' hm => ⟨hm.1, items_turns J turn done r (i + 1) m' n' hr hlt hm.1 hm.2⟩) h₃
theorem list_none {l : Addr} {vs : List Value} {nn : Nat} {m₀ : Str → Option Value} {news : Led} (stored : List Str) (J : Nat → Led → Prop)
    (hh : A.handled = none) (hl : (l, listOf vs.toArray nn) ∈ news) (F : Fr h₀ env.locals s.heap m₀) (N : News h₀ env.locals s.heap news) (hj : J 0 news)
    (turn : ∀ i v (u : Str → Option Value) nx h tk I o, vs[i]? = some v → (l, listOf vs.toArray nn) ∈ nx → J i nx → (∀ p ∈ news, p.1 < I) → o.cls = .type "list_iterator" → Fr h₀ env.locals h (fun y => if stored.contains y then u y else m₀ y) → News h₀ env.locals h ((I, o) :: nx) →
      wpAny (model prog w) A (assign target env v) (fun _ s₂ => wpAny (model prog w) A (execs body env) (UnrPostW h₀ env.locals { s with heap := h, toks := tk } [(I, o)] (fun m' n' => (l, listOf vs.toArray nn) ∈ n' ∧ (∀ y, stored.contains y = false → m' y = m₀ y) ∧ J (i + 1) n') Q) E s₂) E { s with heap := h, toks := tk })
    (done : ∀ (u : Str → Option Value) nx h tk, J vs.length nx → Fr h₀ env.locals h (fun y => if stored.contains y then u y else m₀ y) → News h₀ env.locals h nx → Q .next { s with heap := h, toks := tk }) :
    wpAny (model prog w) A (pyIter (.ref l)) (fun it s₂ => TurnsAt prog w A h₀ env target body Q E it s₂) E s := by
  refine iter_listTurns (lo := listOf vs.toArray nn) (vs := vs) hh F N hl rfl rfl fun I hI => ?_
  refine items_turns (fun i m nx => (∀ y, stored.contains y = false → m y = m₀ y) ∧ J i nx) ?_ ?_ _ 0 _ _ rfl (Nat.zero_le _) ⟨hl, trivial⟩ ⟨fun _ _ => rfl, hj⟩
  · rintro i a m₁ nx ha ⟨hk, _⟩ ⟨hm, hJ⟩ v h tk hv F1
    refine .cons fun o ho => .nil fun N1 => ?_
    rw [List.getElem?_map] at ha
    cases e : vs[i]? with
    | none => rw [e] at ha; cases ha
    | some x =>
      rw [e] at ha
      cases ha
      have hx : v = x := hv
      subst hx
      refine wpAny_mono (turn i v m₁ nx h tk I o e hk hJ hI ho (map_form hm ▸ F1) N1) (fun _ s₂ h₂ => wpAny_mono h₂ (fun f s₃ h₃ => ?_) fun _ _ x => x) fun _ _ x => x
      exact post_mono (fun m' n' q => ⟨⟨q.1, trivial⟩, q.2⟩) h₃
  · rintro m₁ nx h tk ⟨hm, hJ⟩ F1 N1
    rw [List.length_map] at hJ
    exact done m₁ nx h tk hJ (map_form hm ▸ F1) N1
theorem enum_none {elts : List Expr} {k : Nat} {pos : Pos} {l : Addr} {vs : List Value} {nn : Nat} {m₀ : Str → Option Value} {news : Led} (stored : List Str) (J : Nat → Led → Prop)
    (hh : A.handled = none) (hl : (l, listOf vs.toArray nn) ∈ news) (F : Fr h₀ env.locals s.heap m₀) (N : News h₀ env.locals s.heap news) (hj : J 0 news)
    (turn : ∀ i v (u : Str → Option Value) nx h tk I o1 o2 T t, vs[i]? = some v → (l, listOf vs.toArray nn) ∈ nx → J i nx → (∀ p ∈ news, p.1 < I) → o1.cls = .type "enumerate" → o2.cls = .type "list_iterator" → IsTup h T #[.int (i : Int) t, v] → Fr h₀ env.locals h (fun y => if stored.contains y then u y else m₀ y) → News h₀ env.locals h ((I + 1, o1) :: (I, o2) :: nx) →
      wpAny (model prog w) A (assign (.Tuple elts k pos) env (.ref T)) (fun _ s₂ => wpAny (model prog w) A (execs body env) (UnrPostW h₀ env.locals { s with heap := h, toks := tk } [(I + 1, o1), (I, o2)] (fun m' n' => (l, listOf vs.toArray nn) ∈ n' ∧ (∀ y, stored.contains y = false → m' y = m₀ y) ∧ J (i + 1) n') Q) E s₂) E { s with heap := h, toks := tk })
    (done : ∀ (u : Str → Option Value) nx h tk, J vs.length nx → Fr h₀ env.locals h (fun y => if stored.contains y then u y else m₀ y) → News h₀ env.locals h nx → Q .next { s with heap := h, toks := tk }) :
    wpAny (model prog w) A (call (.type "enumerate") [.ref l]) (fun xv s₁ => wpAny (model prog w) A (pyIter xv) (fun it s₂ => TurnsAt prog w A h₀ env (.Tuple elts k pos) body Q E it s₂) E s₁) E s := by
  refine ktu_enum (lo := listOf vs.toArray nn) (vs := vs) hh F N hl rfl rfl rfl fun I hI => ?_
  refine items_turns (fun i m nx => (∀ y, stored.contains y = false → m y = m₀ y) ∧ J i nx) ?_ ?_ _ 0 _ _ rfl (Nat.zero_le _) ⟨hl, trivial⟩ ⟨fun _ _ => rfl, hj⟩
  · rintro i a m₁ nx ha ⟨hk, _⟩ ⟨hm, hJ⟩ v h tk hv F1
    refine .cons fun o ho => .cons fun o2 ho2 => .nil fun N1 => ?_
    have hi : i < vs.length := by
      have := (List.getElem?_eq_some_iff.mp ha).1
      rwa [enumItems_length] at this
    have e := List.getElem?_eq_getElem hi
    have e2 := enumItems_get vs 0 i e
    rw [ha] at e2
    cases e2
    obtain ⟨T, t, rfl, hT⟩ := hv
    rw [Nat.zero_add] at hT
    refine wpAny_mono (turn i _ m₁ nx h tk I o o2 T t e hk hJ hI ho ho2 hT (map_form hm ▸ F1) N1) (fun _ s₂ h₂ => wpAny_mono h₂ (fun f s₃ h₃ => ?_) fun _ _ x => x) fun _ _ x => x
    exact post_mono (fun m' n' q => ⟨⟨q.1, trivial⟩, q.2⟩) h₃
  · rintro m₁ nx h tk ⟨hm, hJ⟩ F1 N1
    rw [enumItems_length] at hJ
    exact done m₁ nx h tk hJ (map_form hm ▸ F1) N1
end
section
variable {prog : Program} {w : World} {A : Around} {E : Value → Shared → Prop} {s : Shared} {h₀ : Heap} {L l : Addr} {m : Str → Option Value} {news : Led} {value slice : Expr} {vs : List Value} {nn : Nat} {Q : Value → Shared → Prop}
theorem pick_two {vs : List Value} {i : Nat} (hi : i ≤ vs.length) : (slicePick vs.toArray (some (i : Int)) (some ((i : Int) + 2)) none).toList = (vs.drop i).take 2 := by
  rw [slicePick_plain]
  have e : ((i : Int) + 2) = ((i + 2 : Nat) : Int) := by omega
  simp only [Option.elim, e, clipAt_nat, List.size_toArray]
  rw [Nat.min_eq_left hi, show min (i + 2) vs.length - i = min 2 (vs.drop i).length by rw [List.length_drop]; omega]
  exact kmk_take_min (vs.drop i) 2
theorem cut_two {i : Nat} {u u' : Tok} {ops : List Value} (F : Fr h₀ L s.heap m) (N : News h₀ L s.heap news) (hm : (l, listOf vs.toArray nn) ∈ news) (hi : i ≤ vs.length) (hz : vs.length ≤ 1000) (hs : subscripted slice false (.ref l) (.ref s.heap.objs.size) = operate ops (getItem (.ref l) (.ref s.heap.objs.size)))
    (h : ∀ D h', Fr h₀ L h' m → News h₀ L h' ((D, listOf (List.toArray ((vs.drop i).take 2)) 0) :: news) → (∀ p ∈ news, p.1 < D) → Q (.ref D) { s with heap := h' }) :
    wpAny (model prog w) A (subscriptTail value slice (.ref l) (.ref s.heap.objs.size)) Q E { s with heap := s.heap.push { cls := .type "slice", data := .fields #[.int (i : Int) u, .int ((i : Int) + 2) u', .none] } } :=
  kba_turn (value' := PySem.Expr.Name (PySem.Str.ofString "_") ⟨0, 0, 0, 0⟩) (fun _ => rfl) (kmk_slice3_lit (its := vs.toArray) (zs := (vs.drop i).take 2) F N (News.isList N hm) (.int ..) (.int ..) .none (by decide) (pick_two hi) h hs (fun _ => rfl) (by rw [sizeLine_eq, List.size_toArray]; omega))
theorem let_at {i : Nat} {u : Tok} {ns : List Int} {n : Int} (N : News h₀ L s.heap news) (hm : (l, listOf vs.toArray nn) ∈ news) (hI : IntsAre vs ns) (hn : ns[i]? = some n) (hz : ns.length ≤ 1000) (hs : subscripted slice false (.ref l) (.int (i : Int) u) = operate [.ref l, .int (i : Int) u] (getItem (.ref l) (.int (i : Int) u)))
    (h : ∀ t, Q (.int n t) s) : wpAny (model prog w) A (subscriptTail value slice (.ref l) (.int (i : Int) u)) Q E s := by
  obtain ⟨t, e⟩ := hI.get i n hn
  have hi : i < ns.length := (List.getElem?_eq_some_iff.mp hn).1
  have hl : s.heap.IsList l vs.toArray := News.isList N hm
  exact tail_any hl.typeIs slot_list_getitem.lookup (wpAny_getItem_list hl (by omega) (by omega) (x := .int _ t) (by simpa using e) (h t)) hs
end
def RJ (D rw : Addr) (oD : Obj) (K : Led) (row : List Int) (k : Nat) (nx : Led) : Prop :=
  ∃ (rv : List Value) (n : Nat), nx = (D, oD) :: (rw, listOf (List.toArray rv) n) :: K ∧ IntsAre rv (row.take k)
def TJ (pl : Addr) (news : Led) (P : List (List Int)) (i : Nat) (nx : Led) : Prop :=
  ∃ (pv : List Value) (n : Nat) (add : Led), nx = (pl, listOf (List.toArray pv) n) :: (add ++ news) ∧ PricesAre add pv (P.take i) ∧ (∀ q ∈ add, q.2.cls = .type "list") ∧ (∀ p ∈ add ++ news, @Ne Nat p.1 pl) ∧ (∀ p ∈ news, ∀ q ∈ add, @Ne Nat p.1 q.1)
theorem take_next' {α : Type} {l : List α} {k : Nat} {v : α} (h : l[k]? = some v) : l.take (k + 1) = l.take k ++ [v] := by
  rw [List.take_add_one, h]; rfl
theorem PricesAre.snoc {add : Led} {pv rv : List Value} {P : List (List Int)} {i n : Nat} {a : Addr} {row : List Int} (h : PricesAre add pv (P.take i)) (hr : IntsAre rv row) (hrow : P[i]? = some row) : PricesAre ((a, listOf (List.toArray rv) n) :: add) (pv ++ [.ref a]) (P.take (i + 1)) := by
  rw [take_next' hrow]
  refine ⟨by simp [h.1], fun j v hv => ?_⟩
  by_cases hj : j < pv.length
  · rw [List.getElem?_append_left hj] at hv
    obtain ⟨a', us, n', row', e, hm, hI, hp⟩ := h.2 j v hv
    exact ⟨a', us, n', row', e, .tail _ hm, hI, by rw [List.getElem?_append_left (by rw [← h.1]; exact hj)]; exact hp⟩
  · have e : j = pv.length := by
      have := (List.getElem?_eq_some_iff.mp hv).1
      simp at this; omega
    subst e
    have : v = .ref a := by simpa using hv.symm
    subst this
    exact ⟨a, rv, n, row, rfl, .head _, hr, by rw [h.1]; simp⟩
theorem tj_start {pl : Addr} {news : Led} {P : List (List Int)} {g h : Heap} {L : Addr} (_N : News g L h ((pl, listOf #[] 0) :: news)) (l9 : ∀ p ∈ news, p.1 < pl) : TJ pl news P 0 ((pl, listOf #[] 0) :: news) :=
  ⟨[], 0, [], rfl, ⟨rfl, fun _ _ h => by cases h⟩, (fun _ h => by cases h), fun p hp => Nat.ne_of_lt (l9 p hp), fun _ _ _ h => by cases h⟩
theorem rj_start {g h : Heap} {L D rw : Addr} {oD : Obj} {K : Led} {row : List Int} (_N : News g L h ((D, oD) :: (rw, listOf #[] 0) :: K)) : RJ D rw oD K row 0 ((D, oD) :: (rw, listOf #[] 0) :: K) := ⟨[], 0, rfl, .nil⟩
section
variable {g h' : Heap} {L : Addr} {m' m₀ : Str → Option Value} {st : List Str} {s₁ : Shared} {tk : Nat}
theorem in_end {I D rw : Addr} {o oD oR : Obj} {rv : List Value} {n k : Nat} {K : Led} {row : List Int} {v : Int} {t : Tok} (F : Fr g L h' m') (N : News g L h' ((I, o) :: (D, oD) :: (rw, listOf ((List.toArray rv).push (.int v t)) (n + 1)) :: K)) (hm : ∀ y, st.contains y = false → m' y = m₀ y)
    (hI : ∀ p ∈ (D, oD) :: (rw, oR) :: K, p.1 < I) (hr : IntsAre rv (row.take k)) (hk : row[k]? = some v) :
    UnrEndW g L s₁ [(I, o)] (fun m' n' => (D, oD) ∈ n' ∧ (∀ y, st.contains y = false → m' y = m₀ y) ∧ RJ D rw oD K row (k + 1) n') { s₁ with heap := h', toks := tk } := by
  refine ⟨h', tk, m', (D, oD) :: (rw, listOf (List.toArray (rv ++ [.int v t])) (n + 1)) :: K, rfl, F, ?_, ?_, .head _, hm, _, _, rfl, ?_⟩
  · rw [show (rv ++ [Value.int v t]).toArray = (List.toArray rv).push (.int v t) by simp]
    exact N
  · intro p hp q hq
    rw [List.mem_singleton.mp hq]
    rcases List.mem_cons.mp hp with rfl | hp
    · exact Nat.ne_of_lt (hI _ (.head _))
    · rcases List.mem_cons.mp hp with rfl | hp
      · exact Nat.ne_of_lt (hI (rw, oR) (.tail _ (.head _)))
      · exact Nat.ne_of_lt (hI _ (.tail _ (.tail _ hp)))
  · rw [take_next' hk]
    exact hr.append (.cons v t .nil)
theorem out_end {I D rw pl l : Addr} {o1 o2 oD oP oL : Obj} {rv pv : List Value} {rn n i : Nat} {add news : Led} {P : List (List Int)} {row : List Int} (F : Fr g L h' m')
    (N : News g L h' ((D, oD) :: (rw, listOf (List.toArray rv) rn) :: (I + 1, o1) :: (I, o2) :: (pl, listOf ((List.toArray pv).push (.ref rw)) (n + 1)) :: (add ++ news))) (hm : ∀ y, st.contains y = false → m' y = m₀ y) (hl : (l, oL) ∈ news)
    (ho1 : o1.cls = .type "enumerate") (ho2 : o2.cls = .type "list_iterator") (hI : ∀ p ∈ (pl, oP) :: news, p.1 < I) (lR : AllLt rw ((I + 1, o1) :: (I, o2) :: (pl, oL) :: (add ++ news)))
    (hP : PricesAre add pv (P.take i)) (hc : ∀ q ∈ add, q.2.cls = .type "list") (hne : ∀ p ∈ add ++ news, @Ne Nat p.1 pl) (hd : ∀ p ∈ news, ∀ q ∈ add, @Ne Nat p.1 q.1) (hr : IntsAre rv row) (hrow : P[i]? = some row) :
    UnrEndW g L s₁ [(I + 1, o1), (I, o2)] (fun m' n' => (l, oL) ∈ n' ∧ (∀ y, st.contains y = false → m' y = m₀ y) ∧ TJ pl news P (i + 1) n') { s₁ with heap := h', toks := tk } := by
  have lt := kst_ltOf lR
  have lI : I < rw := lt (I, o2) (.tail _ (.head _))
  have lI1 : I + 1 < rw := lt (I + 1, o1) (.head _)
  have cls : ∀ q ∈ add, @Ne Nat q.1 (I + 1) ∧ @Ne Nat q.1 I := fun q hq => by
    have h1 := (N q (.tail _ (.tail _ (.tail _ (.tail _ (.tail _ (List.mem_append_left _ hq))))))).1
    constructor
    · intro e
      have h2 := (N (I + 1, o1) (.tail _ (.tail _ (.head _)))).1
      have e' : q.1 = I + 1 := e
      rw [e'] at h1
      have := Option.some.inj (h1.symm.trans h2)
      have c := hc q hq
      rw [this, ho1] at c
      exact absurd c (by decide)
    · intro e
      have h2 := (N (I, o2) (.tail _ (.tail _ (.tail _ (.head _))))).1
      have e' : q.1 = I := e
      rw [e'] at h1
      have := Option.some.inj (h1.symm.trans h2)
      have c := hc q hq
      rw [this, ho2] at c
      exact absurd c (by decide)
  have key : ∀ p ∈ (pl, listOf (List.toArray (pv ++ [.ref rw])) (n + 1)) :: (((rw, listOf (List.toArray rv) rn) :: add) ++ news), @Ne Nat p.1 (I + 1) ∧ @Ne Nat p.1 I := fun p hp => by
    rcases List.mem_cons.mp hp with rfl | hp
    · have : @LT.lt Nat _ pl I := hI (pl, oP) (.head _)
      exact ⟨Nat.ne_of_lt (Nat.lt_succ_of_lt this), Nat.ne_of_lt this⟩
    · rcases List.mem_append.mp hp with hp | hp
      · rcases List.mem_cons.mp hp with rfl | hp
        · exact ⟨(Nat.ne_of_lt lI1).symm, (Nat.ne_of_lt lI).symm⟩
        · exact cls p hp
      · have : @LT.lt Nat _ p.1 I := hI p (.tail _ hp)
        exact ⟨Nat.ne_of_lt (Nat.lt_succ_of_lt this), Nat.ne_of_lt this⟩
  refine ⟨h', tk, m', (pl, listOf (List.toArray (pv ++ [.ref rw])) (n + 1)) :: (((rw, listOf (List.toArray rv) rn) :: add) ++ news), rfl, F, ?_, ?_, .tail _ (List.mem_append_right _ hl), hm, _, _, _, rfl, hP.snoc hr hrow, ?_, ?_, ?_⟩
  · rw [show (pv ++ [Value.ref rw]).toArray = (List.toArray pv).push (.ref rw) by simp]
    intro p hp
    rcases List.mem_append.mp hp with hp | hp
    · exact N p (.tail _ (.tail _ (by
        rcases List.mem_cons.mp hp with rfl | hp
        · exact .head _
        · rw [List.mem_singleton.mp hp]; exact .tail _ (.head _))))
    · rcases List.mem_cons.mp hp with rfl | hp
      · exact N _ (.tail _ (.tail _ (.tail _ (.tail _ (.head _)))))
      · rcases List.mem_cons.mp hp with rfl | hp
        · exact N _ (.tail _ (.head _))
        · exact N p (.tail _ (.tail _ (.tail _ (.tail _ (.tail _ hp)))))
  · intro p hp q hq
    rcases List.mem_cons.mp hq with rfl | hq
    · exact (key p hp).1
    · rw [List.mem_singleton.mp hq]; exact (key p hp).2
  · intro q hq
    rcases List.mem_cons.mp hq with rfl | hq
    · rfl
    · exact hc q hq
  · intro p hp
    rcases List.mem_cons.mp hp with rfl | hp
    · exact (Nat.ne_of_lt (lt (pl, oL) (.tail _ (.tail _ (.head _))))).symm
    · exact hne p hp
  · intro p hp q hq
    rcases List.mem_cons.mp hq with rfl | hq
    · exact Nat.ne_of_lt (lt p (.tail _ (.tail _ (.tail _ (List.mem_append_right _ hp)))))
    · exact hd p hp q hq
end
theorem pne_st {y z : Str} {st : List Str} (h : st.contains y = false) (hz : st.contains z = true) : ¬ y = z := fun e => by rw [e, hz] at h; cases h
structure PriceOK (ws : List Str) (ls : List Int) (P : List (List Int)) : Prop where
  few : ws.length ≤ 3
  short : ∀ x ∈ ws, x.length ≤ 20
  llen : ls.length ≤ 10
  plen : P.length = ws.length
  rows : ∀ (i : Nat) x, ws[i]? = some x → ∃ (l : Int) (row : List Int), ls[i]? = some l ∧ P[i]? = some row ∧ row.length = ((ws.drop i).take 2).length ∧ ∀ (k : Nat) y, ((ws.drop i).take 2)[k]? = some y → ∃ p, row[k]? = some p ∧ LevG (Txt.lower x) (Txt.upper y) (l + 2 * ((y.length : Int) - (x.length : Int))) p
local macro_rules | `(tactic| k_mem) => `(tactic| first | assumption | (refine List.Mem.tail _ (List.mem_append_right _ ?_); assumption) | (refine List.Mem.tail _ ?_; k_mem))
local macro_rules | `(tactic| walk_at "call ref") => `(tactic| refine hold_it ?_)
local macro_rules | `(tactic| walk_at "exec For Tuple Call cons nil") => `(tactic| refine hold_it ?_)
local macro_rules | `(tactic| walk_at "exec For Name Subscript cons nil") => `(tactic| refine hold_it ?_)
local macro_rules | `(tactic| walk_at "call type:enumerate") => `(tactic| refine hold_it ?_)
local macro_rules | `(tactic| walk_at "pyIter ref") => `(tactic| refine hold_it ?_)
local macro_rules | `(tactic| k_all) => `(tactic| assumption)
local macro_rules | `(tactic| walk_at "subscriptTail") => `(tactic| refine hold_it ?_)
set_option maxHeartbeats 8000000 in
theorem prices_spec (w : World) (mean : ExcName → Option Value) (mg mb : Str → Option Value) (news : Led) (wl ll : Addr) (wvs lvs : List Value) (nw nl : Nat) (ws : List Str) (ls : List Int) (P : List (List Int))
    (hwl : (wl, listOf wvs.toArray nw) ∈ news) (hws : StrsAre wvs ws) (hll : (ll, listOf lvs.toArray nl) ∈ news) (hls : IntsAre lvs ls) (ok : PriceOK ws ls P) :
    MCall w mean mg mb 8 228 [.ref wl, .ref ll] news (fun v add => ∃ r pvs n tl, v = .ref r ∧ add = (r, listOf (List.toArray pvs) n) :: tl ∧ PricesAre tl pvs P) := by
  w_top off
  (have kf9 : ∀ (P : Params) (h : Heap), PySem.Challenge.rw_wj0069_01 = PySem.Challenge.rw_wj0069_01 → (Mine.hd.heap_39 P).In h → True := by (k_fill; intros; trivial))
  intro dp un gd cn cs a' ccd cl outer A₀ base h₀ L m s Q E hB hF hK hN hT hk hdp hun hret
  have hMk : KstMark := kstMark
  (refine wpAny_call ?_; k_dflt ( (refine' code_def (binds := [(Str.ofString "words", .ref wl), (Str.ofString "letters", .ref ll)]) ?k1 ?k2 ?k3 ?k4 ?k5 ?kA ?kF ?kK ?k6 ?k7 ?k8 ?k9 ?kB ?_ ?c2 ?c3 ?c4 ?c5; (case kA => exact rfl); (case kF => exact rfl); (case kK => assumption); (case k1 => k_asm); (case k2 => k_asm); (case k3 => k_asm); (case k4 => k_asm); (case k5 => k_asm); (case k6 => k_is); (case k7 => k_is); (case k8 => ktr_room); (case k9 => first | exact BindsTo.of_eq rfl | exact binds_K (by k_in) rfl (by k_is) rfl rfl rfl | (refine' kp_binds ?kx ?ke; (case kx => k_in); (case ke => exact fun _ => rfl))); (case c5 => decide); (case kB => exact locs rfl); (case c2 => exact rfl); (case c3 => exact rfl); (case c4 => exact rfl); k_whole; intro g' L' h' FG' F' N' B' X' T'; (simp only [List.reverse_cons, List.reverse_nil, List.nil_append, List.cons_append] at F'); (try dsimp only); (try k_lift B'); (try k_fold))))
  have hwn := hws.length
  have hwf := ok.few
  (repeat' (first | (unfold Hold; first | ((with_reducible show wpAny _ _ (exec (Stmt.For _ _ _ _ _) _) _ _ _); (rename Fr _ _ _ _ => lF'); (with_unfolding_all refine' For_turns lF' ?_; k_whole)) | ((with_reducible show wpAny _ _ (call (Value.ref _) _) _ _ _); with_unfolding_all (refine' use_lev ?k1BE51 ?k2BE51 ?k3BE51 ?k4BE51 ?k5BE51 ?k6BE51 ?k7BE51 ?k8BE51 ?k9BE51 ?_; (case k1BE51 => k_asm); (case k2BE51 => k_asm); (case k3BE51 => k_asm); (case k4BE51 => k_asm); (case k5BE51 => k_asm); (case k6BE51 => first | exact rfl | assumption); (case k7BE51 => ktr_room); (case k8BE51 => ktr_units); (case k9BE51 => assumption); k_whole); intro t' h' tk' F' N'; (try dsimp only); (try k_sweep)) | (k_here; (with_reducible show wpAny _ _ (subscriptTail _ _ (Value.ref _) (Value.int _ _)) _ _ _); k_dflt (refine' let_at ?q1BE52 ?q2BE52 ?q3BE52 ?q4BE52 ?q5BE52 ?q6BE52 ?_; (case q1BE52 => k_asm); (case q2BE52 => k_mem); (case q3BE52 => assumption); (case q4BE52 => assumption); (case q5BE52 => omega); (case q6BE52 => with_unfolding_all rfl); intro t')) | (k_here; (with_reducible show wpAny _ _ (subscriptTail _ (Expr.Slice _ _ _ _) (Value.ref _) (Value.ref _)) _ _ _); (rename Fr _ _ _ _ => sF9); (rename News _ _ _ _ => sN9); (refine' cut_two (s := ⟨_, _, _, _, _⟩) sF9 sN9 ?q1BE53 ?q2BE53 ?q3BE53 ?q4BE53 ?_; (case q1BE53 => k_mem); (case q2BE53 => omega); (case q3BE53 => omega); (case q4BE53 => with_unfolding_all rfl)); k_whole; intro D' h' F' N' l4; (try dsimp only); (try k_sweep)) | fail "no block") | (k_unfold; (try dsimp only)) | (k_end; kc_close) | walk1 | (dsimp only; walk1) | (leave1; (try dsimp only)) | fail "no step"))
  unfold Hold
  rename Fr _ _ _ _ => F9
  rename News _ _ _ _ => N9
  rename ∀ p ∈ news, p.1 < _ => l9
  have hst := tj_start (P := P) N9 l9
  with_unfolding_all refine' enum_none (nn := nw) (vs := wvs) [Str.ofString "place", Str.ofString "word", Str.ofString "row", Str.ofString "other", Str.ofString "due"] (TJ _ news P) (by rfl) (.tail _ hwl) F9 N9 hst ?turn ?done
  case turn =>
    clear hst N9 F9
    intro i v u nx h tk I o1 o2 T t hv hl9 hJ hI ho1 ho2 hT F1 N1
    obtain ⟨pv, n, add, rfl, hP, hc, hne, hd⟩ := hJ
    obtain ⟨x, tx, rfl, hx⟩ := hws.item i v hv
    obtain ⟨l, row, hl, hrow, hlen, hlev⟩ := ok.rows i x hx
    have hxl := ok.short x (List.mem_of_getElem? hx)
    have hi : i < wvs.length := (List.getElem?_eq_some_iff.mp hv).1
    have hlsz := ok.llen
    have lI : @LT.lt Nat _ _ _ := hI (_, _) (.head _)
    (repeat' (first | (unfold Hold; first | ((with_reducible show wpAny _ _ (exec (Stmt.For _ _ _ _ _) _) _ _ _); (rename Fr _ _ _ _ => lF'); (with_unfolding_all refine' For_turns lF' ?_; k_whole)) | ((with_reducible show wpAny _ _ (call (Value.ref _) _) _ _ _); with_unfolding_all (refine' use_lev ?k1BE51 ?k2BE51 ?k3BE51 ?k4BE51 ?k5BE51 ?k6BE51 ?k7BE51 ?k8BE51 ?k9BE51 ?_; (case k1BE51 => k_asm); (case k2BE51 => k_asm); (case k3BE51 => k_asm); (case k4BE51 => k_asm); (case k5BE51 => k_asm); (case k6BE51 => first | exact rfl | assumption); (case k7BE51 => ktr_room); (case k8BE51 => ktr_units); (case k9BE51 => assumption); k_whole); intro t' h' tk' F' N'; (try dsimp only); (try k_sweep)) | (k_here; (with_reducible show wpAny _ _ (subscriptTail _ _ (Value.ref _) (Value.int _ _)) _ _ _); k_dflt (refine' let_at ?q1BE52 ?q2BE52 ?q3BE52 ?q4BE52 ?q5BE52 ?q6BE52 ?_; (case q1BE52 => k_asm); (case q2BE52 => k_mem); (case q3BE52 => assumption); (case q4BE52 => assumption); (case q5BE52 => omega); (case q6BE52 => with_unfolding_all rfl); intro t')) | (k_here; (with_reducible show wpAny _ _ (subscriptTail _ (Expr.Slice _ _ _ _) (Value.ref _) (Value.ref _)) _ _ _); (rename Fr _ _ _ _ => sF9); (rename News _ _ _ _ => sN9); (refine' cut_two (s := ⟨_, _, _, _, _⟩) sF9 sN9 ?q1BE53 ?q2BE53 ?q3BE53 ?q4BE53 ?_; (case q1BE53 => k_mem); (case q2BE53 => omega); (case q3BE53 => omega); (case q4BE53 => with_unfolding_all rfl)); k_whole; intro D' h' F' N' l4; (try dsimp only); (try k_sweep)) | fail "no block") | (k_unfold; (try dsimp only)) | (k_end; kc_close) | walk1 | (dsimp only; walk1) | (leave1; (try dsimp only)) | fail "no step"))
    unfold Hold
    rename Fr _ _ _ _ => F2
    rename News _ _ _ _ => N2
    rename _ ∧ _ ∧ _ ∧ AllLt _ _ => lR
    rename ∀ p ∈ (_, listOf #[] 0) :: _, p.1 < _ => l4
    obtain ⟨lR1, lR2, lR3, lR4⟩ := id lR
    have hRa : ∀ p ∈ add ++ news, @Ne Nat p.1 _ := fun p hp => Nat.ne_of_lt (kst_ltOf lR4 p hp)
    have lD : @LT.lt Nat _ _ _ := l4 _ (.head _)
    have hst2 := rj_start (row := row) N2
    with_unfolding_all refine' list_none (nn := 0) (vs := (wvs.drop i).take 2) [Str.ofString "other", Str.ofString "due"] (RJ _ _ _ _ row) (by rfl) (.head _) F2 N2 hst2 ?turn2 ?done2
    case turn2 =>
      clear hst2 N2 F2
      intro k v2 u2 nx2 h2 tk2 I2 o3 hv2 hl2 hJ2 hI2 ho3 F3 N3
      obtain ⟨rv, rn, rfl, hR⟩ := hJ2
      obtain ⟨y, ty, rfl, hy⟩ := ((hws.drop' i).take' 2).item k v2 hv2
      obtain ⟨p, hp, hlv⟩ := hlev k y hy
      have hyl := ok.short y (List.mem_of_mem_drop (List.mem_of_mem_take (List.mem_of_getElem? hy)))
      clear hlev hv hv2
      have lI2 : @LT.lt Nat _ _ _ := hI2 (_, _) (.tail _ (.head _))
      (repeat' (first | (unfold Hold; first | ((with_reducible show wpAny _ _ (exec (Stmt.For _ _ _ _ _) _) _ _ _); (rename Fr _ _ _ _ => lF'); (with_unfolding_all refine' For_turns lF' ?_; k_whole)) | ((with_reducible show wpAny _ _ (call (Value.ref _) _) _ _ _); with_unfolding_all (refine' use_lev ?k1BE51 ?k2BE51 ?k3BE51 ?k4BE51 ?k5BE51 ?k6BE51 ?k7BE51 ?k8BE51 ?k9BE51 ?_; (case k1BE51 => k_asm); (case k2BE51 => k_asm); (case k3BE51 => k_asm); (case k4BE51 => k_asm); (case k5BE51 => k_asm); (case k6BE51 => first | exact rfl | assumption); (case k7BE51 => ktr_room); (case k8BE51 => ktr_units); (case k9BE51 => assumption); k_whole); intro t' h' tk' F' N'; (try dsimp only); (try k_sweep)) | (k_here; (with_reducible show wpAny _ _ (subscriptTail _ _ (Value.ref _) (Value.int _ _)) _ _ _); k_dflt (refine' let_at ?q1BE52 ?q2BE52 ?q3BE52 ?q4BE52 ?q5BE52 ?q6BE52 ?_; (case q1BE52 => k_asm); (case q2BE52 => k_mem); (case q3BE52 => assumption); (case q4BE52 => assumption); (case q5BE52 => omega); (case q6BE52 => with_unfolding_all rfl); intro t')) | (k_here; (with_reducible show wpAny _ _ (subscriptTail _ (Expr.Slice _ _ _ _) (Value.ref _) (Value.ref _)) _ _ _); (rename Fr _ _ _ _ => sF9); (rename News _ _ _ _ => sN9); (refine' cut_two (s := ⟨_, _, _, _, _⟩) sF9 sN9 ?q1BE53 ?q2BE53 ?q3BE53 ?q4BE53 ?_; (case q1BE53 => k_mem); (case q2BE53 => omega); (case q3BE53 => omega); (case q4BE53 => with_unfolding_all rfl)); k_whole; intro D' h' F' N' l4; (try dsimp only); (try k_sweep)) | fail "no block") | (k_unfold; (try dsimp only)) | (k_end; kc_close) | walk1 | (dsimp only; walk1) | (leave1; (try dsimp only)) | fail "no step"))
      rename Fr _ _ _ _ => F4
      rename News _ _ _ _ => N4
      refine in_end F4 N4 (fun z hz => ?_) hI2 hR hp
      have z1 : ¬ z = Str.ofString "other" := pne_st hz (by decide)
      have z2 : ¬ z = Str.ofString "due" := pne_st hz (by decide)
      simp only [z1, z2, hz, if_false, Bool.false_eq_true]
    case done2 =>
      clear hst2 N2 F2 hlev
      have hpv : pv.length ≤ 3 := by rw [hP.1, List.length_take, ok.plen]; omega
      intro u2 nx2 h2 tk2 hJ2 F3 N3
      obtain ⟨rv, rn, rfl, hR⟩ := hJ2
      have hR2 : IntsAre rv row := by
        rwa [List.take_of_length_le (by rw [hlen, List.length_take, List.length_drop, List.length_take, List.length_drop, hwn]; exact Nat.le_refl _)] at hR
      (repeat' (first | (unfold Hold; first | ((with_reducible show wpAny _ _ (exec (Stmt.For _ _ _ _ _) _) _ _ _); (rename Fr _ _ _ _ => lF'); (with_unfolding_all refine' For_turns lF' ?_; k_whole)) | ((with_reducible show wpAny _ _ (call (Value.ref _) _) _ _ _); with_unfolding_all (refine' use_lev ?k1BE51 ?k2BE51 ?k3BE51 ?k4BE51 ?k5BE51 ?k6BE51 ?k7BE51 ?k8BE51 ?k9BE51 ?_; (case k1BE51 => k_asm); (case k2BE51 => k_asm); (case k3BE51 => k_asm); (case k4BE51 => k_asm); (case k5BE51 => k_asm); (case k6BE51 => first | exact rfl | assumption); (case k7BE51 => ktr_room); (case k8BE51 => ktr_units); (case k9BE51 => assumption); k_whole); intro t' h' tk' F' N'; (try dsimp only); (try k_sweep)) | (k_here; (with_reducible show wpAny _ _ (subscriptTail _ _ (Value.ref _) (Value.int _ _)) _ _ _); k_dflt (refine' let_at ?q1BE52 ?q2BE52 ?q3BE52 ?q4BE52 ?q5BE52 ?q6BE52 ?_; (case q1BE52 => k_asm); (case q2BE52 => k_mem); (case q3BE52 => assumption); (case q4BE52 => assumption); (case q5BE52 => omega); (case q6BE52 => with_unfolding_all rfl); intro t')) | (k_here; (with_reducible show wpAny _ _ (subscriptTail _ (Expr.Slice _ _ _ _) (Value.ref _) (Value.ref _)) _ _ _); (rename Fr _ _ _ _ => sF9); (rename News _ _ _ _ => sN9); (refine' cut_two (s := ⟨_, _, _, _, _⟩) sF9 sN9 ?q1BE53 ?q2BE53 ?q3BE53 ?q4BE53 ?_; (case q1BE53 => k_mem); (case q2BE53 => omega); (case q3BE53 => omega); (case q4BE53 => with_unfolding_all rfl)); k_whole; intro D' h' F' N' l4; (try dsimp only); (try k_sweep)) | fail "no block") | (k_unfold; (try dsimp only)) | (k_end; kc_close) | walk1 | (dsimp only; walk1) | (leave1; (try dsimp only)) | fail "no step"))
      rename Fr _ _ _ _ => F4
      rename News _ _ _ _ => N4
      refine out_end F4 N4 (fun z hz => ?_) hwl ho1 ho2 hI lR hP hc hne hd hR2 hrow
      have z0 : [Str.ofString "other", Str.ofString "due"].contains z = false := Bool.eq_false_iff.mpr fun h => by
        rcases List.mem_cons.mp (List.contains_iff_mem.mp h) with e | h
        · exact pne_st hz (by decide) e
        · rcases List.mem_cons.mp h with e | h
          · exact pne_st hz (by decide) e
          · cases h
      have z1 : ¬ z = Str.ofString "row" := pne_st hz (by decide)
      have z2 : ¬ z = Str.ofString "word" := pne_st hz (by decide)
      have z3 : ¬ z = Str.ofString "place" := pne_st hz (by decide)
      simp only [z0, z1, z2, z3, hz, if_false, Bool.false_eq_true]
  case done =>
    clear hst N9 F9
    intro u nx h tk hJ F1 N1
    obtain ⟨pv, n, add, rfl, hP, hc, hne, hd⟩ := hJ
    have hP2 : PricesAre add pv P := by
      rwa [List.take_of_length_le (by rw [ok.plen, hwn]; exact Nat.le_refl _)] at hP
    (repeat' (first | (unfold Hold; first | ((with_reducible show wpAny _ _ (exec (Stmt.For _ _ _ _ _) _) _ _ _); (rename Fr _ _ _ _ => lF'); (with_unfolding_all refine' For_turns lF' ?_; k_whole)) | ((with_reducible show wpAny _ _ (call (Value.ref _) _) _ _ _); with_unfolding_all (refine' use_lev ?k1BE51 ?k2BE51 ?k3BE51 ?k4BE51 ?k5BE51 ?k6BE51 ?k7BE51 ?k8BE51 ?k9BE51 ?_; (case k1BE51 => k_asm); (case k2BE51 => k_asm); (case k3BE51 => k_asm); (case k4BE51 => k_asm); (case k5BE51 => k_asm); (case k6BE51 => first | exact rfl | assumption); (case k7BE51 => ktr_room); (case k8BE51 => ktr_units); (case k9BE51 => assumption); k_whole); intro t' h' tk' F' N'; (try dsimp only); (try k_sweep)) | (k_here; (with_reducible show wpAny _ _ (subscriptTail _ _ (Value.ref _) (Value.int _ _)) _ _ _); k_dflt (refine' let_at ?q1BE52 ?q2BE52 ?q3BE52 ?q4BE52 ?q5BE52 ?q6BE52 ?_; (case q1BE52 => k_asm); (case q2BE52 => k_mem); (case q3BE52 => assumption); (case q4BE52 => assumption); (case q5BE52 => omega); (case q6BE52 => with_unfolding_all rfl); intro t')) | (k_here; (with_reducible show wpAny _ _ (subscriptTail _ (Expr.Slice _ _ _ _) (Value.ref _) (Value.ref _)) _ _ _); (rename Fr _ _ _ _ => sF9); (rename News _ _ _ _ => sN9); (refine' cut_two (s := ⟨_, _, _, _, _⟩) sF9 sN9 ?q1BE53 ?q2BE53 ?q3BE53 ?q4BE53 ?_; (case q1BE53 => k_mem); (case q2BE53 => omega); (case q3BE53 => omega); (case q4BE53 => with_unfolding_all rfl)); k_whole; intro D' h' F' N' l4; (try dsimp only); (try k_sweep)) | fail "no block") | (k_unfold; (try dsimp only)) | (k_end; kc_close) | walk1 | (dsimp only; walk1) | (leave1; (try dsimp only)) | fail "no step"))
    rename News h₀ L _ _ => n9
    rename Fr h₀ L _ _ => f9
    refine hret _ ((_, _) :: add) _ _ ⟨_, pv, n, add, rfl, rfl, hP2⟩ (fun p hp q hq => ?_) f9 n9
    rcases List.mem_cons.mp hq with rfl | hq
    · exact hne p (List.mem_append_right _ hp)
    · exact hd p hp q hq
end Mine
end

section
open PySem PySem.W PyProof.Rows PySem.Calls PySem.Spec
set_option maxRecDepth 100000
namespace Mine
structure HomeOK (ws : List Str) (P : List (List Int)) (base : Int) (nets : List Int) : Prop where
  len : 2 ≤ ws.length ∧ ws.length ≤ 3
  short : ∀ w ∈ ws, w.length ≤ 20 ∧ printable (Txt.lower w) = true
  up : ∀ (i : Nat) w, ws[i]? = some w → GoodName ws (Txt.upper w) i ∧ GoodName ws (Txt.lower w) i ∧ GoodName ws w i
  price : ∀ (i : Nat), i < ws.length → ∃ row, P[i]? = some row ∧ (i + 1 < ws.length → row.length = 2) ∧ 1 ≤ row.length ∧ ∀ p ∈ row, 0 ≤ p ∧ p ≤ 20
  plen : P.length = ws.length
  base3 : base.natAbs ≤ 3
  nets1 : nets.length = 4 ∧ ∀ k ∈ nets, -1 ≤ k ∧ k ≤ 1
  bound : ∀ i, i ≤ 5 → ∀ j, j < 3 → (crowdOf (homeRows ws.length P base nets i) j).natAbs < 10 ^ 100
  few : ∀ i, i ≤ 5 → (homeRows ws.length P base nets i).length ≤ 100
section
variable {prog : Program} {w : World} {A : Around} {E : Value → Shared → Prop} {s : Shared} {h₀ : Heap} {L : Addr} {m : Str → Option Value} {news : Led} {Q : Value → Shared → Prop} {value slice : Expr}
theorem word_at {wl : Addr} {wvs : List Value} {nw : Nat} {ws : List Str} {P : List (List Int)} {base : Int} {nets : List Int} {i : Int} {u : Tok} (ok : HomeOK ws P base nets) (hws : StrsAre wvs ws) (N : News h₀ L s.heap news) (hwl : (wl, listOf wvs.toArray nw) ∈ news)
    (h0 : 0 ≤ i) (h1 : i < (ws.length : Int)) (hs : subscripted slice false (.ref wl) (.int i u) = operate [.ref wl, .int i u] (getItem (.ref wl) (.int i u)))
    (h : ∀ x t, ws[i.toNat]? = some x → x.length ≤ 20 → printable (Txt.lower x) = true → Q (.str x t) s) :
    wpAny (model prog w) A (subscriptTail value slice (.ref wl) (.int i u)) Q E s := by
  have hl3 := ok.len.2
  refine KTb.item_list (ws := ws) (News.isList N hwl) hws h0 h1 (by omega) (fun t' hlt => ?_) hs
  have e : ws[i.toNat]? = some (ws.getD i.toNat Str.empty) := by
    rw [List.getD_eq_getElem?_getD, List.getElem?_eq_getElem hlt]; rfl
  have hm := ok.short _ (List.mem_of_getElem? e)
  exact h _ t' e hm.1 hm.2
theorem rows_one {ws : List Str} {P : List (List Int)} {base : Int} {nets : List Int} {led : Led} {a : Addr} {x : Str} {t t' : Tok} {nn : Nat} (ok : HomeOK ws P base nets) (hx : ws[(0 : Int).toNat]? = some x) (hm : (a, tupO #[.str x t, .str (Str.ofString "1") t'] nn) ∈ led) (hn : nn = 0) : RowsOK ws led [.ref a] [(0, 1)] := by
  subst hn
  have e : Str.ofString "1" = fmt 1 := by decide +kernel
  have := RowsOK.snoc (ws := ws) (led := led) (vs := []) (rows := []) (v := .ref a) (nm := x) (th := 0) (k := 1) ⟨[], ⟨rfl, fun i v h => nomatch h⟩, .nil⟩ ⟨a, t, t', rfl, by rw [← e]; exact hm⟩ (ok.up 0 x hx).2.2 (by decide +kernel)
  exact this
end
theorem ne_lt {D : Addr} {l : Led} (h : AllLt D l) : ∀ p ∈ l, @Ne Nat p.1 D := fun p hp => Nat.ne_of_lt (kst_ltOf h p hp)
theorem ne_app {D : Addr} {l own : Led} {a : List Addr} (h : ∀ p ∈ l, @Ne Nat p.1 D) (ho : OwnOff own a) (hD : D ∈ a) : ∀ p ∈ l ++ own, @Ne Nat p.1 D := fun p hp => by
  rcases List.mem_append.mp hp with hp | hp
  · exact h p hp
  · exact ho p hp D hD
def OJ (ws : List Str) (P : List (List Int)) (base : Int) (nets : List Int) (news : Led) (HO : Addr) (i : Nat) (vz : Value) (nx : Led) : Prop :=
  ∃ (x d l : Addr) (hh : Int) (t : Tok) (vs : List Value) (nn : Nat) (hv : List Value) (hn : Nat) (tl : Led), vz = .ref x ∧ nx = (HO, listOf (List.toArray hv) hn) :: tl ∧ (x, instObj 203 d) ∈ tl ∧ (d, tabDict hh t l) ∈ tl ∧ (l, listOf (List.toArray vs) nn) ∈ tl ∧
    RowsOK ws tl vs (homeRows ws.length P base nets i) ∧ IntsAre hv (homeVals ws.length P base nets i) ∧ (∀ p ∈ news, p ∈ tl) ∧ (∀ p ∈ tl, @Ne Nat p.1 HO)
theorem oj_start {ws : List Str} {P : List (List Int)} {base : Int} {nets : List Int} {news : Led} {g h : Heap} {L HO x d l D : Addr} {hh : Int} {t t1 t2 t3 : Tok} {w0 : Str} {c : Nat} (ok : HomeOK ws P base nets) (hx : ws[(0 : Int).toNat]? = some w0)
    (_N : News g L h ((HO, listOf #[.int 1 t1] 0) :: (x, instObj 203 d) :: (d, tabDict hh t l) :: (l, listOf #[.ref D] c) :: (D, tupO #[.str w0 t2, .str (Str.ofString "1") t3] 0) :: news))
    (l9 : AllLt HO ((x, instObj 203 d) :: (d, tabDict hh t l) :: (l, listOf #[.ref D] c) :: (D, tupO #[.str w0 t2, .str (Str.ofString "1") t3] 0) :: news)) :
    OJ ws P base nets news HO 0 (.ref x) ((HO, listOf #[.int 1 t1] 0) :: (x, instObj 203 d) :: (d, tabDict hh t l) :: (l, listOf #[.ref D] c) :: (D, tupO #[.str w0 t2, .str (Str.ofString "1") t3] 0) :: news) := by
  refine ⟨x, d, l, hh, t, [_], c, [_], 0, _, rfl, rfl, .head _, .tail _ (.head _), .tail _ (.tail _ (.head _)), ?_, ?_, fun p hp => .tail _ (.tail _ (.tail _ (.tail _ hp))), ne_lt l9⟩
  · exact rows_one ok hx (.tail _ (.tail _ (.tail _ (.head _)))) rfl
  · exact .cons 1 _ .nil
theorem RowsOK.cons {ws led vs rows q} (h : RowsOK ws led vs rows) : RowsOK ws (q :: led) vs rows := h.mono fun _ hp => .tail _ hp
theorem RowsOK.app {ws led own vs rows} (h : RowsOK ws led vs rows) : RowsOK ws (led ++ own) vs rows := h.mono fun _ hp => List.mem_append_left _ hp
def PJ (ws : List Str) (D : Addr) (K R : Led) (rowsJ : Nat → List Row) (lim : Nat → Nat) (j : Nat) (nx : Led) : Prop :=
  ∃ (pv : List Value) (n : Nat) (add tl : Led), nx = (D, listOf (List.toArray pv) n) :: tl ∧ tl = add ++ K ∧ (∀ p ∈ add, ∀ q ∈ K, @Ne Nat p.1 q.1) ∧ (∀ p ∈ tl, @Ne Nat p.1 D) ∧ RowsOK ws (add ++ R) pv (rowsJ j) ∧ pv.length ≤ lim j
def rowsM (n : Nat) (P : List (List Int)) (base : Int) (nets : List Int) (T : List Row) (j : Nat) : List Row := (List.range j).foldl (fun acc h => nets.foldl (turnP n P base h (crowdOf T h)) acc) []
theorem pj_start {ws : List Str} {n : Nat} {P : List (List Int)} {base : Int} {nets : List Int} {T : List Row} {g h : Heap} {L D : Addr} {K : Led} (_N : News g L h ((D, listOf #[] 0) :: K)) (hne : ∀ p ∈ K, @Ne Nat p.1 D) :
    PJ ws D K [] (rowsM n P base nets T) (fun j => 4 * j) 0 ((D, listOf #[] 0) :: K) :=
  ⟨[], 0, [], K, rfl, rfl, (fun _ h => by cases h), hne, ⟨[], ⟨rfl, fun _ _ h => by cases h⟩, .nil⟩, Nat.le_refl _⟩
def storedO : List Str := [Str.ofString "step", Str.ofString "table", Str.ofString "pairs", Str.ofString "height", Str.ofString "crowd", Str.ofString "text", Str.ofString "there", Str.ofString "more", Str.ofString "name"]
local macro_rules | `(tactic| k_mem) => `(tactic| assumption)
set_option hygiene false in
local macro_rules | `(tactic| walk_at "call ref") => `(tactic| refine hold_it ?_)
set_option hygiene false in
local macro_rules | `(tactic| walk_at "pyIter ref") => `(tactic| (k_here; refine hold_it ?_))
local macro_rules | `(tactic| walk_at "exec For Name Call cons nil") => `(tactic| refine hold_it ?_)
local macro_rules | `(tactic| walk_at "exec For Name Name cons nil") => `(tactic| refine hold_it ?_)
local macro_rules | `(tactic| walk_at "subscriptTail") => `(tactic| refine hold_it ?_)
theorem imin (a b : Nat) : min (a : Int) (b : Int) = ((min a b : Nat) : Int) := by omega
theorem len_of {prog : Program} {w : World} {A : Around} {E : Value → Shared → Prop} {s : Shared} {h₀ : Heap} {L : Addr} {l : Addr} {news : Led} {us : List Value} {k c : Nat} {Q : Value → Shared → Prop} (N : News h₀ L s.heap news) (hm : (l, listOf us.toArray c) ∈ news) (e : us.length = k) (hfit : k ≤ 1000)
    (h : ∀ t tk, Q (.int (k : Int) t) { s with toks := tk }) : wpAny (model prog w) A (call (.builtin "len") [.ref l]) Q E s :=
  kst_len N hm e (by omega) (h _ _)
theorem min3 {prog : Program} {w : World} {A : Around} {E : Value → Shared → Prop} {s : Shared} {h₀ : Heap} {L : Addr} {m : Str → Option Value} {news : Led} {a b c : Int} {t u x : Tok} {Q : Value → Shared → Prop} (F : Fr h₀ L s.heap m) (N : News h₀ L s.heap news) (hh : A.handled = none)
    (h : ∀ h' tk t', Fr h₀ L h' m → News h₀ L h' news → Q (.int (min a (min b c)) t') { s with heap := h', toks := tk }) : wpAny (model prog w) A (call (.builtin "min") [.int a t, .int b u, .int c x]) Q E s := by
  refine min_three_ints hh fun h' tk hk => ?_
  have key := fun t' => h h' tk t' (F.grownK hk) (N.grown hk)
  by_cases h1 : b < a <;> by_cases h2 : c < b <;> by_cases h3 : c < a <;> simp only [h1, h2, h3, if_true, if_false] <;>
    first
    | (rw [show min a (min b c) = c by omega] at key; exact key _)
    | (rw [show min a (min b c) = b by omega] at key; exact key _)
    | (rw [show min a (min b c) = a by omega] at key; exact key _)
theorem min2 {prog : Program} {w : World} {A : Around} {E : Value → Shared → Prop} {s : Shared} {h₀ : Heap} {L : Addr} {m : Str → Option Value} {news : Led} {a b : Int} {t u : Tok} {Q : Value → Shared → Prop} (F : Fr h₀ L s.heap m) (N : News h₀ L s.heap news) (hh : A.handled = none)
    (h : ∀ h' tk t', Fr h₀ L h' m → News h₀ L h' news → Q (.int (min a b) t') { s with heap := h', toks := tk }) : wpAny (model prog w) A (call (.builtin "min") [.int a t, .int b u]) Q E s := by
  refine min_two_N hh F N fun h' tk F' N' => ?_
  have e : (if b < a then b else a) = min a b := by split <;> omega
  rw [e]
  exact h h' tk _ F' N'
local macro_rules | `(tactic| walk_at "call builtin:min") => `(tactic| refine hold_it ?_)
local macro_rules | `(tactic| k_mem) => `(tactic| first | assumption | (refine List.Mem.tail _ (List.mem_append_left _ ?_); assumption) | (refine List.Mem.tail _ ?_; k_mem))
local macro_rules | `(tactic| walk_at "call builtin:len") => `(tactic| (k_here; (with_reducible show wpAny _ _ (call (Value.builtin "len") [Value.ref _]) _ _ _); k_dflt (refine' len_of ?q1 ?q2 ?q3 ?q4 ?_; (case q1 => k_asm); (case q2 => k_mem); (case q3 => exact StrsAre.length (by assumption)); (case q4 => omega); k_whole); intro t' tk'))
local macro_rules | `(tactic| walk_at "call type:range") => `(tactic| refine hold_it ?_)
section
variable {prog : Program} {w : World} {A : Around} {E : Value → Shared → Prop} {s : Shared} {h₀ : Heap} {L : Addr} {m : Str → Option Value} {led : Led} {Q : Value → Shared → Prop} {value slice : Expr}
theorem row_at {pl : Addr} {pvs : List Value} {np : Nat} {ws : List Str} {P : List (List Int)} {base : Int} {nets : List Int} {i : Int} {u : Tok} {tl own : Led} {q : Addr × Obj} (ok : HomeOK ws P base nets) (hps : PricesAre tl pvs P) (N : News h₀ L s.heap (q :: (tl ++ own))) (hpl : (pl, listOf pvs.toArray np) ∈ tl)
    (h0 : 0 ≤ i) (h1 : i < (ws.length : Int)) (hs : subscripted slice false (.ref pl) (.int i u) = operate [.ref pl, .int i u] (getItem (.ref pl) (.int i u)))
    (h : ∀ a us n row, (a, listOf (List.toArray us) n) ∈ tl → IntsAre us row → P[i.toNat]? = some row → (i + 1 < ws.length → row.length = 2) → 1 ≤ row.length → (∀ p ∈ row, 0 ≤ p ∧ p ≤ 20) → Q (.ref a) s) :
    wpAny (model prog w) A (subscriptTail value slice (.ref pl) (.int i u)) Q E s := by
  have hl3 := ok.len.2
  have hlt : i.toNat < pvs.length := by rw [hps.1, ok.plen]; omega
  obtain ⟨a, us, n, row, e, hm, hI, hr⟩ := hps.2 i.toNat _ (List.getElem?_eq_getElem hlt)
  obtain ⟨row', hr', c1, c2, c3⟩ := ok.price i.toNat (by omega)
  have er : row = row' := Option.some.inj (hr.symm.trans hr')
  subst er
  have hl : s.heap.IsList pl pvs.toArray := News.isList N (.tail _ (List.mem_append_left _ hpl))
  exact tail_any hl.typeIs slot_list_getitem.lookup (wpAny_getItem_list hl h0 (by omega) (x := .ref a) (by simp only [List.getElem?_toArray]; rw [List.getElem?_eq_getElem hlt, e]) (h a us n row hm hI hr (fun q => c1 (by omega)) c2 c3)) hs
theorem cell_at {a : Addr} {us : List Value} {n : Nat} {row : List Int} {i : Int} {u : Tok} {tl own : Led} {q : Addr × Obj} (N : News h₀ L s.heap (q :: (tl ++ own))) (hm : (a, listOf us.toArray n) ∈ tl) (hI : IntsAre us row) (hb : ∀ p ∈ row, 0 ≤ p ∧ p ≤ 20)
    (h0 : 0 ≤ i) (h1 : i < (row.length : Int)) (h2 : i < 1000) (hs : subscripted slice false (.ref a) (.int i u) = operate [.ref a, .int i u] (getItem (.ref a) (.int i u)))
    (h : ∀ t, 0 ≤ row.getD i.toNat 0 → row.getD i.toNat 0 ≤ 20 → Q (.int (row.getD i.toNat 0) t) s) :
    wpAny (model prog w) A (subscriptTail value slice (.ref a) (.int i u)) Q E s := by
  have hlt : i.toNat < row.length := by omega
  obtain ⟨t, e⟩ := hI.get i.toNat (row.getD i.toNat 0) (by simp [hlt])
  have hl : s.heap.IsList a us.toArray := News.isList N (.tail _ (List.mem_append_left _ hm))
  have hb' := hb (row.getD i.toNat 0) (by rw [List.getD_eq_getElem?_getD, List.getElem?_eq_getElem hlt]; exact List.getElem_mem hlt)
  exact tail_any hl.typeIs slot_list_getitem.lookup (wpAny_getItem_list hl h0 (by omega) (x := .int _ t) (by simpa using e) (h t hb'.1 hb'.2)) hs
end
theorem pow_le3 {b : Int} (hb : b.natAbs ≤ 3) (n : Nat) : (b ^ n).natAbs ≤ 3 ^ n := by
  rw [Int.natAbs_pow]
  exact Nat.pow_le_pow_left hb n
theorem pow_small {b p : Int} (hb : b.natAbs ≤ 3) (h1 : p ≤ 20) : (b ^ p.toNat).natAbs ≤ 3 ^ 20 :=
  Nat.le_trans (pow_le3 hb _) (Nat.pow_le_pow_right (by decide) (by omega))
theorem pow_bits {b p : Int} (hb : b.natAbs ≤ 3) (h1 : p ≤ 20) : Builtin.Int.intBits (b ^ p.toNat) ≤ 64 :=
  intBits_le_iff.mpr (Nat.lt_of_le_of_lt (pow_small hb h1) (by decide))
theorem more_small {c b p : Int} (hc : c.natAbs < 10 ^ 100) (hb : b.natAbs ≤ 3) (h1 : p ≤ 20) : (c * b ^ p.toNat).natAbs < 10 ^ 250 := by
  rw [Int.natAbs_mul]
  exact Nat.lt_of_lt_of_le (Nat.mul_lt_mul_of_lt_of_le hc (pow_small hb h1) (by decide)) (by decide +kernel)
local macro_rules | `(tactic| walk_at "binaryOp Pow int int") => `(tactic| refine hold_it ?_)
local macro_rules | `(tactic| walk_at "binaryOp Mult int int") => `(tactic| refine hold_it ?_)
local macro_rules | `(tactic| walk_at "binaryOp Mod str int") => `(tactic| refine hold_it ?_)
local macro_rules | `(tactic| k_all) => `(tactic| assumption)
local macro_rules | `(tactic| walk_at "eval ListComp") => `(tactic| refine hold_it ?_)
local macro_rules | `(tactic| walk_at "CompSrc") => `(tactic| refine hold_it ?_)
theorem pj_mid {ws : List Str} {g h : Heap} {L D D2 r : Addr} {o1 o2 : Obj} {pv : List Value} {pn : Nat} {tl R : Led} {rows : List Row} {rowsJ : Nat → List Row} {lim : Nat → Nat} (N : News g L h ((D2, o2) :: (r, o1) :: (D, listOf (List.toArray pv) pn) :: tl)) (n1 : @Ne Nat D2 D) (n2 : @Ne Nat r D) (hne : ∀ p ∈ tl, @Ne Nat p.1 D)
    (hR : RowsOK ws R pv rows) (he : rowsJ 0 = rows) (hl : pv.length ≤ lim 0) :
    News g L h ((D, listOf (List.toArray pv) pn) :: (D2, o2) :: (r, o1) :: tl) ∧ PJ ws D ((D2, o2) :: (r, o1) :: tl) R rowsJ lim 0 ((D, listOf (List.toArray pv) pn) :: (D2, o2) :: (r, o1) :: tl) := by
  refine ⟨fun p hp => N p ?_, pv, pn, [], _, rfl, rfl, (fun _ h => by cases h), fun p hp => ?_, by rw [he]; exact hR, hl⟩
  · rcases List.mem_cons.mp hp with rfl | hp
    · exact .tail _ (.tail _ (.head _))
    · rcases List.mem_cons.mp hp with rfl | hp
      · exact .head _
      · rcases List.mem_cons.mp hp with rfl | hp
        · exact .tail _ (.head _)
        · exact .tail _ (.tail _ (.tail _ hp))
  · rcases List.mem_cons.mp hp with rfl | hp
    · exact n1
    · rcases List.mem_cons.mp hp with rfl | hp
      · exact n2
      · exact hne p hp
theorem end_add {ws : List Str} {D D2 tl : Addr} {tO : Obj} {K R : Led} {rowsJ : Nat → List Row} {lim : Nat → Nat} {k : Nat} {g h' : Heap} {L : Addr} {m' m₀ : Str → Option Value} {own tl3 add3 : Led} {s₁ : Shared} {tk pn : Nat} {pv : List Value} {nm : Str} {t1 t2 : Tok} {v : Int} {th : Nat} {st : List Str} {o : Obj}
    (F : Fr g L h' m') (N : News g L h' ((D2, tupO #[.str nm t1, .str (fmt v) t2] 0) :: (D, listOf ((List.toArray pv).push (.ref D2)) (pn + 1)) :: (tl3 ++ own))) (hm : ∀ y, st.contains y = false → m' y = m₀ y) (hT : (tl, tO) ∈ tl3)
    (he3 : tl3 = add3 ++ K) (hd3 : ∀ p ∈ add3, ∀ q ∈ K, @Ne Nat p.1 q.1) (hne3 : ∀ p ∈ tl3, @Ne Nat p.1 D) (hR3 : RowsOK ws (add3 ++ R) pv (rowsJ k)) (hl3 : pv.length ≤ lim k) (hlim : lim k + 1 ≤ lim (k + 1)) (hoff : OwnOff own (((D, o) :: tl3).map (·.1))) (l1 : AllLt D2 ((D, o) :: (tl3 ++ own)))
    (hrow : rowsJ (k + 1) = rowsJ k ++ [(th, v)]) (hg : GoodName ws nm th) (hv : v.natAbs < 10 ^ 250) :
    InvEndG g L (fun m' nx' => (tl, tO) ∈ nx' ∧ (∀ y, st.contains y = false → m' y = m₀ y) ∧ PJ ws D K R rowsJ lim (k + 1) nx') own s₁ { s₁ with heap := h', toks := tk } := by
  have hlt := kst_ltOf l1
  refine ⟨h', tk, m', _, (D, listOf (List.toArray (pv ++ [.ref D2])) (pn + 1)) :: (D2, tupO #[.str nm t1, .str (fmt v) t2] 0) :: tl3, rfl, F, N, fun p hp => ?_, fun p hp => .tail _ (.tail _ (List.mem_append_right _ hp)), fun p hp b hb e => ?_, .tail _ (.tail _ hT), hm, pv ++ [.ref D2], pn + 1, (D2, tupO #[.str nm t1, .str (fmt v) t2] 0) :: add3, _, rfl, by rw [he3]; rfl, fun p hp q hq => ?_, fun p hp => ?_, ?_, ?_⟩
  · rcases List.mem_cons.mp hp with rfl | hp
    · rw [show (pv ++ [Value.ref D2]).toArray = (List.toArray pv).push (.ref D2) by simp]
      exact .tail _ (.head _)
    · rcases List.mem_cons.mp hp with rfl | hp
      · exact .head _
      · exact .tail _ (.tail _ (List.mem_append_left _ hp))
  · have h1 : p.1 < D2 := hlt p (.tail _ (List.mem_append_right _ hp))
    rcases List.mem_cons.mp hb with rfl | hb
    · exact hoff p hp _ (List.mem_cons_self ..) e
    · rcases List.mem_cons.mp hb with rfl | hb
      · exact absurd e (Nat.ne_of_lt h1)
      · exact hoff p hp b (.tail _ hb) e
  · rcases List.mem_cons.mp hp with rfl | hp
    · exact (Nat.ne_of_lt (hlt q (.tail _ (List.mem_append_left _ (by rw [he3]; exact List.mem_append_right _ hq))))).symm
    · exact hd3 p hp q hq
  · rcases List.mem_cons.mp hp with rfl | hp
    · exact (Nat.ne_of_lt (hlt (D, o) (List.mem_cons_self ..))).symm
    · exact hne3 p hp
  · rw [hrow]
    exact (hR3.mono fun p hp => .tail _ hp).snoc ⟨D2, t1, t2, rfl, .head _⟩ hg hv
  · rw [List.length_append, List.length_singleton]; omega
theorem end_same {ws : List Str} {D tl : Addr} {tO : Obj} {K R : Led} {rowsJ : Nat → List Row} {lim : Nat → Nat} {k : Nat} {g h' : Heap} {L : Addr} {m' m₀ : Str → Option Value} {own tl3 add3 : Led} {s₁ : Shared} {tk pn : Nat} {pv : List Value} {st : List Str} {o : Obj}
    (F : Fr g L h' m') (N : News g L h' ((D, listOf (List.toArray pv) pn) :: (tl3 ++ own))) (hm : ∀ y, st.contains y = false → m' y = m₀ y) (hT : (tl, tO) ∈ tl3)
    (he3 : tl3 = add3 ++ K) (hd3 : ∀ p ∈ add3, ∀ q ∈ K, @Ne Nat p.1 q.1) (hne3 : ∀ p ∈ tl3, @Ne Nat p.1 D) (hR3 : RowsOK ws (add3 ++ R) pv (rowsJ k)) (hl3 : pv.length ≤ lim k) (hlim : lim k ≤ lim (k + 1)) (hoff : OwnOff own (((D, o) :: tl3).map (·.1))) (hrow : rowsJ (k + 1) = rowsJ k) :
    InvEndG g L (fun m' nx' => (tl, tO) ∈ nx' ∧ (∀ y, st.contains y = false → m' y = m₀ y) ∧ PJ ws D K R rowsJ lim (k + 1) nx') own s₁ { s₁ with heap := h', toks := tk } := by
  refine ⟨h', tk, m', _, (D, listOf (List.toArray pv) pn) :: tl3, rfl, F, N, fun p hp => ?_, fun p hp => .tail _ (List.mem_append_right _ hp), fun p hp b hb => hoff p hp b hb, .tail _ hT, hm, pv, pn, add3, _, rfl, he3, hd3, hne3, ?_, Nat.le_trans hl3 hlim⟩
  · rcases List.mem_cons.mp hp with rfl | hp
    · exact .head _
    · exact .tail _ (List.mem_append_left _ hp)
  · rw [hrow]; exact hR3
theorem end_mid {ws : List Str} {D : Addr} {K2 K3 R : Led} {rowsJ rowsI : Nat → List Row} {lim limI : Nat → Nat} {j k : Nat} {g h' : Heap} {L : Addr} {m' m₀ : Str → Option Value} {own9 tl9 add9 nx3 : Led} {s₁ : Shared} {tk : Nat} {st : List Str} {o : Obj}
    (hJ3 : PJ ws D K3 (add9 ++ R) rowsI limI k nx3) (F : Fr g L h' m') (N : News g L h' nx3) (hm : ∀ y, st.contains y = false → m' y = m₀ y) (he9 : tl9 = add9 ++ K2) (hd9 : ∀ p ∈ add9, ∀ q ∈ K2, @Ne Nat p.1 q.1) (hoff : OwnOff own9 (((D, o) :: tl9).map (·.1)))
    (hK3 : ∀ p ∈ tl9 ++ own9, p ∈ K3) (hrow : rowsJ (j + 1) = rowsI k) (hlim : limI k ≤ lim (j + 1)) :
    InvEndG g L (fun m' nx' => (∀ y, st.contains y = false → m' y = m₀ y) ∧ PJ ws D K2 R rowsJ lim (j + 1) nx') own9 s₁ { s₁ with heap := h', toks := tk } := by
  obtain ⟨pv, n, add3, tl3, rfl, rfl, hd3, hne3, hR3, hl3⟩ := hJ3
  have s2 : ∀ p ∈ K2, p ∈ K3 := fun p hp => hK3 p (List.mem_append_left _ (by rw [he9]; exact List.mem_append_right _ hp))
  have s9 : ∀ p ∈ add9, p ∈ K3 := fun p hp => hK3 p (List.mem_append_left _ (by rw [he9]; exact List.mem_append_left _ hp))
  have so : ∀ p ∈ own9, p ∈ K3 := fun p hp => hK3 p (List.mem_append_right _ hp)
  refine ⟨h', tk, m', _, (D, listOf (List.toArray pv) n) :: ((add3 ++ add9) ++ K2), rfl, F, N, fun p hp => ?_, fun p hp => .tail _ (List.mem_append_right _ (so p hp)), fun p hp b hb e => ?_, hm, pv, n, add3 ++ add9, _, rfl, rfl, fun p hp q hq => ?_, fun p hp => ?_, ?_, Nat.le_trans hl3 hlim⟩
  · rcases List.mem_cons.mp hp with rfl | hp
    · exact .head _
    · refine .tail _ ?_
      rcases List.mem_append.mp hp with hp | hp
      · rcases List.mem_append.mp hp with hp | hp
        · exact List.mem_append_left _ hp
        · exact List.mem_append_right _ (s9 p hp)
      · exact List.mem_append_right _ (s2 p hp)
  · rcases List.mem_cons.mp hb with rfl | hb
    · exact hoff p hp _ (List.mem_cons_self ..) e
    · obtain ⟨q, hq, rfl⟩ := List.mem_map.mp hb
      rcases List.mem_append.mp hq with hq | hq
      · rcases List.mem_append.mp hq with hq | hq
        · exact hd3 q hq p (so p hp) e.symm
        · exact hoff p hp _ (.tail _ (List.mem_map.mpr ⟨q, by rw [he9]; exact List.mem_append_left _ hq, rfl⟩)) e
      · exact hoff p hp _ (.tail _ (List.mem_map.mpr ⟨q, by rw [he9]; exact List.mem_append_right _ hq, rfl⟩)) e
  · rcases List.mem_append.mp hp with hp | hp
    · exact hd3 p hp q (s2 q hq)
    · exact hd9 p hp q hq
  · rcases List.mem_append.mp hp with hp | hp
    · rcases List.mem_append.mp hp with hp | hp
      · exact hne3 p (List.mem_append_left _ hp)
      · exact hne3 p (List.mem_append_right _ (s9 p hp))
    · exact hne3 p (List.mem_append_right _ (s2 p hp))
  · rw [hrow, List.append_assoc]; exact hR3
theorem turn_in {n : Nat} {P : List (List Int)} {base crowd : Int} {j k : Nat} {nets : List Int} {net : Int} {R0 : List Row} {row : List Int} (hk : nets[k]? = some net) (h1 : -1 < (j : Int) + net) (h2 : (j : Int) + net < (n : Int)) (hr : P[(min ((j : Int) + net) (j : Int)).toNat]? = some row) :
    (nets.take (k + 1)).foldl (turnP n P base j crowd) R0 = (nets.take k).foldl (turnP n P base j crowd) R0 ++ [(((j : Int) + net).toNat, crowd * base ^ (row.getD (if (j : Int) + net - (j : Int) < 0 then -((j : Int) + net - (j : Int)) else (j : Int) + net - (j : Int)).toNat 0).toNat)] := by
  rw [take_next hk, List.foldl_append]
  show turnP n P base j crowd _ net = _
  unfold turnP
  rw [if_pos ⟨h1, h2⟩]
  have e1 : P.getD (min ((j : Int) + net) (j : Int)).toNat [] = row := by rw [List.getD_eq_getElem?_getD, hr]; rfl
  have e2 : (if (j : Int) + net - (j : Int) < 0 then -((j : Int) + net - (j : Int)) else (j : Int) + net - (j : Int)).toNat = ((j : Int) + net - (j : Int)).natAbs := by split <;> omega
  rw [e1, e2]
theorem turn_out {n : Nat} {P : List (List Int)} {base crowd : Int} {j k : Nat} {nets : List Int} {net : Int} {R0 : List Row} (hk : nets[k]? = some net) (h : ¬ (-1 < (j : Int) + net ∧ (j : Int) + net < (n : Int))) :
    (nets.take (k + 1)).foldl (turnP n P base j crowd) R0 = (nets.take k).foldl (turnP n P base j crowd) R0 := by
  rw [take_next hk, List.foldl_append]
  show turnP n P base j crowd _ net = _
  unfold turnP
  rw [if_neg h]
theorem pj_out {ws : List Str} {D HO : Addr} {oH : Obj} {tl' own nx : Led} {rowsJ : Nat → List Row} {lim : Nat → Nat} {j : Nat} {g h : Heap} {L : Addr} (hJ : PJ ws D ((HO, oH) :: (tl' ++ own)) [] rowsJ lim j nx) (N : News g L h nx) (hNe : ∀ p ∈ tl', @Ne Nat p.1 HO) (hoff : OwnOff own (((HO, oH) :: tl').map (·.1))) :
    ∃ (pv2 : List Value) (pn2 : Nat) (M2 : Led), News g L h ((HO, oH) :: (D, listOf (List.toArray pv2) pn2) :: (M2 ++ own)) ∧ RowsOK ws M2 pv2 (rowsJ j) ∧ pv2.length ≤ lim j ∧ (∀ p ∈ tl', p ∈ M2) ∧ (∀ p ∈ M2 ++ own, @Ne Nat p.1 HO) ∧ (∀ p ∈ M2 ++ own, @Ne Nat p.1 D) ∧ (@Ne Nat D HO) ∧
      OwnOff own (((HO, oH) :: (D, listOf (List.toArray pv2) pn2) :: M2).map (·.1)) := by
  obtain ⟨pv2, pn2, add2, T2, rfl, rfl, hd2, hne2, hR2, hl2⟩ := hJ
  have sa : ∀ p ∈ (add2 ++ tl') ++ own, p ∈ add2 ++ (HO, oH) :: (tl' ++ own) := fun p hp => by
    rw [List.append_assoc] at hp
    rcases List.mem_append.mp hp with hp | hp
    · exact List.mem_append_left _ hp
    · exact List.mem_append_right _ (.tail _ hp)
  have hHD : @Ne Nat HO D := hne2 (HO, oH) (List.mem_append_right _ (List.mem_cons_self ..))
  refine ⟨pv2, pn2, add2 ++ tl', fun p hp => N p ?_, ?_, hl2, fun p hp => List.mem_append_right _ hp, fun p hp => ?_, fun p hp => hne2 p (sa p hp), hHD.symm, fun p hp b hb e => ?_⟩
  · rcases List.mem_cons.mp hp with rfl | hp
    · exact .tail _ (List.mem_append_right _ (List.mem_cons_self ..))
    · rcases List.mem_cons.mp hp with rfl | hp
      · exact .head _
      · exact .tail _ (sa p hp)
  · rw [List.append_nil] at hR2
    exact hR2.mono fun p hp => List.mem_append_left _ hp
  · rcases List.mem_append.mp hp with hp | hp
    · rcases List.mem_append.mp hp with hp | hp
      · exact hd2 p hp (HO, oH) (List.mem_cons_self ..)
      · exact hNe p hp
    · exact hoff p hp HO (List.mem_cons_self ..)
  · rcases List.mem_cons.mp hb with rfl | hb
    · exact hoff p hp _ (List.mem_cons_self ..) e
    · rcases List.mem_cons.mp hb with rfl | hb
      · exact hne2 p (List.mem_append_right _ (.tail _ (List.mem_append_right _ hp))) e
      · obtain ⟨q, hq, rfl⟩ := List.mem_map.mp hb
        rcases List.mem_append.mp hq with hq | hq
        · exact hd2 q hq p (.tail _ (List.mem_append_right _ hp)) e.symm
        · exact hoff p hp _ (.tail _ (List.mem_map.mpr ⟨q, hq, rfl⟩)) e
theorem homeVals_succ {n : Nat} {P : List (List Int)} {base : Int} {nets : List Int} {i : Nat} : homeVals n P base nets (i + 1) = homeVals n P base nets i ++ [crowdOf (homeRows n P base nets (i + 1)) 0] := by
  unfold homeVals
  rw [List.range_succ (n := i + 1), List.map_append]
  rfl
theorem end_out {ws : List Str} {P : List (List Int)} {base : Int} {nets : List Int} {news M2 own : Led} {HO D D3 r x2 d2 : Addr} {o3 o4 o5 : Obj} {hh2 : Int} {t2 t : Tok} {hv pv2 : List Value} {hn pn2 i : Nat} {c : Int} {g h' : Heap} {L : Addr} {m' m₀ : Str → Option Value} {s₁ : Shared} {tk : Nat} {st : List Str} {z : Str}
    (F : Fr g L h' m') (N : News g L h' ((D3, o3) :: (r, o4) :: (x2, instObj 203 d2) :: (d2, tabDict hh2 t2 D) :: (HO, listOf ((List.toArray hv).push (.int c t)) (hn + 1)) :: (D, listOf (List.toArray pv2) pn2) :: (M2 ++ own)))
    (hz : m' z = some (.ref x2)) (hm : ∀ y, y ≠ z → st.contains y = false → m' y = m₀ y) (hR : RowsOK ws M2 pv2 (homeRows ws.length P base nets (i + 1))) (hI : IntsAre hv (homeVals ws.length P base nets i)) (hc : c = crowdOf (homeRows ws.length P base nets (i + 1)) 0) (into : ∀ p ∈ news, p ∈ M2)
    (n1 : ∀ p ∈ (HO, o5) :: (D, listOf (List.toArray pv2) pn2) :: (M2 ++ own), @Ne Nat p.1 x2) (n2 : ∀ p ∈ (HO, o5) :: (D, listOf (List.toArray pv2) pn2) :: (M2 ++ own), @Ne Nat p.1 d2) (hDH : @Ne Nat D HO) (hHO : ∀ p ∈ M2 ++ own, @Ne Nat p.1 HO)
    (hoff : OwnOff own (((HO, o5) :: (D, listOf (List.toArray pv2) pn2) :: M2).map (·.1))) :
    InvEndG g L (fun m' nx' => ∃ vz', m' z = some vz' ∧ (∀ y, y ≠ z → st.contains y = false → m' y = m₀ y) ∧ OJ ws P base nets news HO (i + 1) vz' nx') own s₁ { s₁ with heap := h', toks := tk } := by
  have so : ∀ p ∈ own, p ∈ (HO, o5) :: (D, listOf (List.toArray pv2) pn2) :: (M2 ++ own) := fun p hp => .tail _ (.tail _ (List.mem_append_right _ hp))
  refine ⟨h', tk, m', _, (HO, listOf (List.toArray (hv ++ [.int c t])) (hn + 1)) :: (x2, instObj 203 d2) :: (d2, tabDict hh2 t2 D) :: (D, listOf (List.toArray pv2) pn2) :: M2, rfl, F, N, fun p hp => ?_, fun p hp => .tail _ (.tail _ (.tail _ (.tail _ (.tail _ (.tail _ (List.mem_append_right _ hp)))))), fun p hp b hb e => ?_, .ref x2, hz, hm,
    x2, d2, D, hh2, t2, pv2, pn2, hv ++ [.int c t], hn + 1, _, rfl, rfl, .head _, .tail _ (.head _), .tail _ (.tail _ (.head _)), hR.mono fun p hp => .tail _ (.tail _ (.tail _ hp)), ?_, fun p hp => .tail _ (.tail _ (.tail _ (into p hp))), fun p hp => ?_⟩
  · rcases List.mem_cons.mp hp with rfl | hp
    · rw [show (hv ++ [Value.int c t]).toArray = (List.toArray hv).push (.int c t) by simp]
      exact .tail _ (.tail _ (.tail _ (.tail _ (.head _))))
    · rcases List.mem_cons.mp hp with rfl | hp
      · exact .tail _ (.tail _ (.head _))
      · rcases List.mem_cons.mp hp with rfl | hp
        · exact .tail _ (.tail _ (.tail _ (.head _)))
        · rcases List.mem_cons.mp hp with rfl | hp
          · exact .tail _ (.tail _ (.tail _ (.tail _ (.tail _ (.head _)))))
          · exact .tail _ (.tail _ (.tail _ (.tail _ (.tail _ (.tail _ (List.mem_append_left _ hp))))))
  · rcases List.mem_cons.mp hb with rfl | hb
    · exact hoff p hp _ (List.mem_cons_self ..) e
    · rcases List.mem_cons.mp hb with rfl | hb
      · exact n1 p (so p hp) e
      · rcases List.mem_cons.mp hb with rfl | hb
        · exact n2 p (so p hp) e
        · exact hoff p hp b (.tail _ hb) e
  · rw [homeVals_succ, ← hc]
    exact hI.append (.cons c t .nil)
  · rcases List.mem_cons.mp hp with rfl | hp
    · exact (n1 _ (List.mem_cons_self ..)).symm
    · rcases List.mem_cons.mp hp with rfl | hp
      · exact (n2 _ (List.mem_cons_self ..)).symm
      · rcases List.mem_cons.mp hp with rfl | hp
        · exact hDH
        · exact hHO p (List.mem_append_left _ hp)
theorem st_sub {a b : List Str} {y : Str} (h : ∀ z ∈ a, b.contains z = true) (hy : b.contains y = false) : a.contains y = false := by
  cases q : a.contains y with
  | false => rfl
  | true =>
    have := h y (List.contains_iff_mem.mp q)
    rw [hy] at this; cases this
theorem rowsM_succ {n : Nat} {P : List (List Int)} {base : Int} {nets : List Int} {T : List Row} {j k : Nat} (hk : nets.length = k) : rowsM n P base nets T (j + 1) = (nets.take k).foldl (turnP n P base j (crowdOf T j)) (rowsM n P base nets T j) := by
  unfold rowsM
  rw [List.range_succ, List.foldl_append, ← hk, List.take_length]
  rfl
theorem ne_st {st : List Str} {y z : Str} (h : st.contains y = false) (hz : st.contains z = true) : ¬ y = z := fun e => by rw [e, hz] at h; cases h
theorem bytes_at {b0 b1 b2 b3 : Array UInt8} {x0 x1 x2 x3 : Tok} : ∀ {k : Nat} {v : Value}, [Value.bytes b0 x0, .bytes b1 x1, .bytes b2 x2, .bytes b3 x3][k]? = some v → ∃ b t, v = .bytes b t ∧ [b0, b1, b2, b3][k]? = some b
  | 0, _, h => ⟨b0, x0, (Option.some.inj h).symm, rfl⟩
  | 1, _, h => ⟨b1, x1, (Option.some.inj h).symm, rfl⟩
  | 2, _, h => ⟨b2, x2, (Option.some.inj h).symm, rfl⟩
  | 3, _, h => ⟨b3, x3, (Option.some.inj h).symm, rfl⟩
  | _ + 4, _, h => by simp at h
theorem strs_at {ys : List Value} {ks : List Int} {i : Nat} {v : Value} (h : StrsAre ys (ks.map fmt)) (hv : ys[i]? = some v) : ∃ k t, ks[i]? = some k ∧ v = .str (fmt k) t := by
  have hlt := (List.getElem?_eq_some_iff.mp hv).1
  have hlk : i < ks.length := by rw [h.length, List.length_map] at hlt; exact hlt
  obtain ⟨t, e⟩ := h.get i (fmt ks[i]) (by simp [hlk])
  rw [hv] at e
  exact ⟨ks[i], t, List.getElem?_eq_getElem hlk, Option.some.inj e⟩
theorem ints_snoc {vs : List Value} {ks : List Int} {k : Int} {t : Tok} {i : Nat} (h : IntsAre vs (ks.take i)) (hk : ks[i]? = some k) : IntsAre (vs ++ [.int k t]) (ks.take (i + 1)) := by
  rw [take_next hk]
  exact h.append (.cons k t .nil)
theorem call_fmt {prog : Program} {w : World} {A : Around} {E : Value → Shared → Prop} {s : Shared} {Q : Value → Shared → Prop} {k : Int} {t : Tok} (hk : k.natAbs < 10 ^ 250) (h : ∀ t' tk, Q (.int k t') { s with toks := tk }) : wpAny (model prog w) A (call (.type "int") [.str (fmt k) t]) Q E s :=
  KIN.call_text (int_fmt hk) (by have := fmt_len hk; omega) (h _ _)
local macro_rules | `(tactic| walk_at "call type:int") => `(tactic| refine hold_it ?_)
set_option maxHeartbeats 8000000 in
theorem home_spec (w : World) (mean : ExcName → Option Value) (mg mb : Str → Option Value) (news : Led) (wl pl tl : Addr) (wvs pvs : List Value) (nw np nt : Nat) (ws : List Str) (P : List (List Int)) (base : Int) (nets : List Int) (b0 b1 b2 b3 : Array UInt8) (x0 x1 x2 x3 tb t5 : Tok)
    (hwl : (wl, listOf wvs.toArray nw) ∈ news) (hws : StrsAre wvs ws) (hpl : (pl, listOf pvs.toArray np) ∈ news) (hps : PricesAre news pvs P)
    (htl : (tl, tupO #[.bytes b0 x0, .bytes b1 x1, .bytes b2 x2, .bytes b3 x3] nt) ∈ news) (hn : ∀ (i : Nat) b, [b0, b1, b2, b3][i]? = some b → ∃ k, nets[i]? = some k ∧ TextNet b k)
    (ok : HomeOK ws P base nets) :
    MCall w mean mg mb 8 233 [.ref wl, .ref pl, .ref tl, .int base tb, .int 5 t5] news (fun v add => ∃ r vs n, v = .ref r ∧ add = [(r, listOf (List.toArray vs) n)] ∧ IntsAre vs (homeVals ws.length P base nets 5)) := by
  w_top off
  (have kf9 : ∀ (P : Params) (h : Heap), PySem.Challenge.rw_wj0069_01 = PySem.Challenge.rw_wj0069_01 → (Mine.hd.heap_39 P).In h → True := by (k_fill; intros; trivial))
  intro dp un gd cn cs a' ccd cl outer A₀ base' h₀ L m ⟨sH, sG, sD, sK, sO⟩ Q E hB hF hK hN hT hk hdp hun hret
  dsimp only at hF hN hret
  have hMk : KstMark := kstMark
  (refine wpAny_call ?_; k_dflt ( (refine' code_def (binds := [(Str.ofString "words", .ref wl), (Str.ofString "prices", .ref pl), (Str.ofString "texts", .ref tl), (Str.ofString "base", .int base tb), (Str.ofString "steps", .int 5 t5)]) ?k1 ?k2 ?k3 ?k4 ?k5 ?kA ?kF ?kK ?k6 ?k7 ?k8 ?k9 ?kB ?_ ?c2 ?c3 ?c4 ?c5; (case kA => exact rfl); (case kF => exact rfl); (case kK => assumption); (case k1 => k_asm); (case k2 => k_asm); (case k3 => k_asm); (case k4 => k_asm); (case k5 => k_asm); (case k6 => k_is); (case k7 => k_is); (case k8 => ktr_room); (case k9 => first | exact BindsTo.of_eq rfl | exact binds_K (by k_in) rfl (by k_is) rfl rfl rfl | (refine' kp_binds ?kx ?ke; (case kx => k_in); (case ke => exact fun _ => rfl))); (case c5 => decide); (case kB => exact locs rfl); (case c2 => exact rfl); (case c3 => exact rfl); (case c4 => exact rfl); k_whole; intro g' L' h' FG' F' N' B' X' T'; (simp only [List.reverse_cons, List.reverse_nil, List.nil_append, List.cons_append] at F'); (try dsimp only); (try k_lift B'); (try k_fold))))
  have hl2 := ok.len.1
  have hl3 := ok.len.2
  (repeat' (first | (unfold Hold; first | (k_here; (with_reducible show wpAny _ _ (call (Value.type "int") [Value.str (fmt _) _]) _ _ _); refine call_fmt (by with_reducible assumption) ?_; intro t' tk') | ((with_reducible show wpAny _ _ (eval (Expr.ListComp _ _ _ _) _) _ _ _); k_dflt (refine LCg.ListComp_U (F₀ := by k_asm) (by with_unfolding_all rfl) (by decide) (by rfl) (by decide) (by rfl) ?_)) | ((with_reducible show wpAny _ _ (binaryOp Operator.Mod _ _) _ _ _); refine mod_d (more_small (by assumption) (by assumption) (by assumption)) ?_; intro t' tk') | ((with_reducible show wpAny _ _ (binaryOp Operator.Mult _ _) _ _ _); (with_reducible refine mul_int ?_ (IntMulOk.of_right (pow_bits ?q1BH33 ?q2BH33))); (case q1BH33 => assumption); (case q2BH33 => assumption)) | ((with_reducible show wpAny _ _ (binaryOp Operator.Pow _ _) _ _ _); (with_reducible refine pow_int_small ?q1BH34 ?q2BH34 ?q3BH34 ?_); (case q1BH34 => omega); (case q2BH34 => omega); (case q3BH34 => omega)) | (k_here; (with_reducible show wpAny _ _ (subscriptTail (Expr.Subscript (Expr.Name (Str.ofString "prices") _) _ _) _ (Value.ref _) (Value.int _ _)) _ _ _); k_dflt (refine' cell_at ?q1BH35 ?q2BH35 ?q3BH35 ?q4BH35 ?q5BH35 ?q6BH35 ?q7BH35 ?q8BH35 ?_; (case q2BH35 => assumption); (case q1BH35 => k_asm); (case q3BH35 => assumption); (case q4BH35 => assumption); (case q5BH35 => omega); (case q6BH35 => omega); (case q7BH35 => omega); (case q8BH35 => with_unfolding_all rfl); intro t' h1' h2')) | (k_here; (with_reducible show wpAny _ _ (subscriptTail (Expr.Name (Str.ofString "prices") _) _ (Value.ref _) (Value.int _ _)) _ _ _); k_dflt (refine' row_at ?q1BH36 ?q2BH36 ?q3BH36 ?q4BH36 ?q5BH36 ?q6BH36 ?q7BH36 ?_; (case q1BH36 => assumption); (case q4BH36 => assumption); (case q2BH36 => assumption); (case q3BH36 => k_asm); (case q5BH36 => omega); (case q6BH36 => omega); (case q7BH36 => with_unfolding_all rfl); intro a' us' n' row' hm' hI' hr' hc' hd' he')) | ((with_reducible show wpAny _ _ (call (Value.type _) _) _ _ _); (rename Fr _ _ _ _ => F'); (rename News _ _ _ _ => N'); (with_unfolding_all refine range1_rows F' N' ?_; intro _ _ _ _ _ _ _ _ _)) | (k_here; (with_reducible show wpAny _ _ (call (Value.builtin _) [Value.int _ _, Value.int _ _]) _ _ _); k_dflt (refine' min2 ?q1BH38 ?q2BH38 ?q3BH38 ?_; (case q1BH38 => k_asm); (case q2BH38 => k_asm); (case q3BH38 => with_unfolding_all rfl); k_whole); intro h' tk' t' F' N') | (k_here; (with_reducible show wpAny _ _ (call (Value.builtin _) [Value.int _ _, Value.int _ _, Value.int _ _]) _ _ _); k_dflt (refine' min3 ?q1BH39 ?q2BH39 ?q3BH39 ?_; (case q1BH39 => k_asm); (case q2BH39 => k_asm); (case q3BH39 => with_unfolding_all rfl); k_whole); intro h' tk' t' F' N') | (k_here; (with_reducible show wpAny _ _ (subscriptTail (Expr.Name (Str.ofString "words") _) _ (Value.ref _) (Value.int _ _)) _ _ _); k_dflt (refine' word_at ?q1BH310 ?q2BH310 ?q3BH310 ?q4BH310 ?q5BH310 ?q6BH310 ?q7BH310 ?_; (case q1BH310 => assumption); (case q2BH310 => assumption); (case q3BH310 => k_asm); (case q4BH310 => k_mem); (case q5BH310 => omega); (case q6BH310 => omega); (case q7BH310 => with_unfolding_all rfl); intro x' t' hx' hl' hp')) | ((with_reducible show wpAny _ _ (exec (Stmt.For _ _ _ _ _) _) _ _ _); (rename Fr _ _ _ _ => lF'); (with_unfolding_all refine' For_invVF lF' ?k1BH311 ?k2BH311 ?_; (case k1BH311 => exact rfl); (case k2BH311 => exact rfl); k_whole)) | ((with_reducible show wpAny _ _ (exec (Stmt.For _ _ _ _ _) _) _ _ _); (rename Fr _ _ _ _ => lF'); (with_unfolding_all refine' For_invVF lF' ?k1BH312 ?k2BH312 ?_; (case k1BH312 => exact rfl); (case k2BH312 => exact rfl); k_whole)) | (k_here; (with_reducible show wpAny _ _ (call (Value.ref _) [Value.ref _, Value.str _ _]) _ _ _); with_unfolding_all (refine' use_getall ?k1BH313 ?k2BH313 ?k3BH313 ?k4BH313 ?k5BH313 ?k6BH313 ?k7BH313 ?k8BH313 ?k9BH313 ?kABH313 ?kBBH313 ?kCBH313 ?kDBH313 ?kEBH313 ?kFBH313 ?kGBH313 ?_; (case k1BH313 => k_asm); (case k2BH313 => k_asm); (case k3BH313 => k_asm); (case k4BH313 => k_asm); (case k5BH313 => k_asm); (case k6BH313 => first | exact rfl | assumption); (case k7BH313 => ktr_room); (case k8BH313 => ktr_units); (case k9BH313 => k_mem); (case kABH313 => k_mem); (case kBBH313 => k_mem); (case kCBH313 => first | assumption | (refine RowsOK.app ?_; assumption) | (refine RowsOK.cons (RowsOK.app ?_); assumption) | (refine RowsOK.cons (RowsOK.cons (RowsOK.app ?_)); assumption)); (case kDBH313 => assumption); (case kEBH313 => omega); (case kFBH313 => assumption); (case kGBH313 => omega); k_whole); intro r' ys' n' h' tk' l1 hS' hZ' F' N'; (try dsimp only); (try k_sweep)) | ((with_reducible show wpAny _ _ (call (Value.ref _) _) _ _ _); with_unfolding_all (refine' use_paren ?k1BH314 ?k2BH314 ?k3BH314 ?k4BH314 ?k5BH314 ?k6BH314 ?k7BH314 ?k8BH314 ?k9BH314 ?_; (case k1BH314 => k_asm); (case k2BH314 => k_asm); (case k3BH314 => k_asm); (case k4BH314 => k_asm); (case k5BH314 => k_asm); (case k6BH314 => first | exact rfl | assumption); (case k7BH314 => ktr_room); (case k8BH314 => ktr_units); (case k9BH314 => assumption); k_whole); intro t' h' tk' F' N'; (try dsimp only); (try k_sweep)) | fail "no block") | (k_unfold; (try dsimp only)) | (k_end; kc_close) | walk1 | (dsimp only; walk1) | (leave1; (try dsimp only)) | fail "no step"))
  unfold Hold
  with_unfolding_all refine' use_head (ws := ws) (rows := [(0, 1)]) (vs := [_]) ?k1 ?k2 ?k3 ?k4 ?k5 ?k6 ?k7 ?k8 ?k9 ?kA ?_
  case k1 => k_asm
  case k2 => k_asm
  case k3 => k_asm
  case k4 => k_asm
  case k5 => k_asm
  case k6 => exact rfl
  case k7 => ktr_room
  case k8 => ktr_units
  case k9 => exact .head _
  case kA => exact rows_one ok (by assumption) (.tail _ (.head _)) rfl
  k_whole
  intro x' d' hh' t' h' tk' n1 n2 F' N'
  (try dsimp only)
  (try k_sweep)
  (repeat' (first | (unfold Hold; first | (k_here; (with_reducible show wpAny _ _ (call (Value.type "int") [Value.str (fmt _) _]) _ _ _); refine call_fmt (by with_reducible assumption) ?_; intro t' tk') | ((with_reducible show wpAny _ _ (eval (Expr.ListComp _ _ _ _) _) _ _ _); k_dflt (refine LCg.ListComp_U (F₀ := by k_asm) (by with_unfolding_all rfl) (by decide) (by rfl) (by decide) (by rfl) ?_)) | ((with_reducible show wpAny _ _ (binaryOp Operator.Mod _ _) _ _ _); refine mod_d (more_small (by assumption) (by assumption) (by assumption)) ?_; intro t' tk') | ((with_reducible show wpAny _ _ (binaryOp Operator.Mult _ _) _ _ _); (with_reducible refine mul_int ?_ (IntMulOk.of_right (pow_bits ?q1BH33 ?q2BH33))); (case q1BH33 => assumption); (case q2BH33 => assumption)) | ((with_reducible show wpAny _ _ (binaryOp Operator.Pow _ _) _ _ _); (with_reducible refine pow_int_small ?q1BH34 ?q2BH34 ?q3BH34 ?_); (case q1BH34 => omega); (case q2BH34 => omega); (case q3BH34 => omega)) | (k_here; (with_reducible show wpAny _ _ (subscriptTail (Expr.Subscript (Expr.Name (Str.ofString "prices") _) _ _) _ (Value.ref _) (Value.int _ _)) _ _ _); k_dflt (refine' cell_at ?q1BH35 ?q2BH35 ?q3BH35 ?q4BH35 ?q5BH35 ?q6BH35 ?q7BH35 ?q8BH35 ?_; (case q2BH35 => assumption); (case q1BH35 => k_asm); (case q3BH35 => assumption); (case q4BH35 => assumption); (case q5BH35 => omega); (case q6BH35 => omega); (case q7BH35 => omega); (case q8BH35 => with_unfolding_all rfl); intro t' h1' h2')) | (k_here; (with_reducible show wpAny _ _ (subscriptTail (Expr.Name (Str.ofString "prices") _) _ (Value.ref _) (Value.int _ _)) _ _ _); k_dflt (refine' row_at ?q1BH36 ?q2BH36 ?q3BH36 ?q4BH36 ?q5BH36 ?q6BH36 ?q7BH36 ?_; (case q1BH36 => assumption); (case q4BH36 => assumption); (case q2BH36 => assumption); (case q3BH36 => k_asm); (case q5BH36 => omega); (case q6BH36 => omega); (case q7BH36 => with_unfolding_all rfl); intro a' us' n' row' hm' hI' hr' hc' hd' he')) | ((with_reducible show wpAny _ _ (call (Value.type _) _) _ _ _); (rename Fr _ _ _ _ => F'); (rename News _ _ _ _ => N'); (with_unfolding_all refine range1_rows F' N' ?_; intro _ _ _ _ _ _ _ _ _)) | (k_here; (with_reducible show wpAny _ _ (call (Value.builtin _) [Value.int _ _, Value.int _ _]) _ _ _); k_dflt (refine' min2 ?q1BH38 ?q2BH38 ?q3BH38 ?_; (case q1BH38 => k_asm); (case q2BH38 => k_asm); (case q3BH38 => with_unfolding_all rfl); k_whole); intro h' tk' t' F' N') | (k_here; (with_reducible show wpAny _ _ (call (Value.builtin _) [Value.int _ _, Value.int _ _, Value.int _ _]) _ _ _); k_dflt (refine' min3 ?q1BH39 ?q2BH39 ?q3BH39 ?_; (case q1BH39 => k_asm); (case q2BH39 => k_asm); (case q3BH39 => with_unfolding_all rfl); k_whole); intro h' tk' t' F' N') | (k_here; (with_reducible show wpAny _ _ (subscriptTail (Expr.Name (Str.ofString "words") _) _ (Value.ref _) (Value.int _ _)) _ _ _); k_dflt (refine' word_at ?q1BH310 ?q2BH310 ?q3BH310 ?q4BH310 ?q5BH310 ?q6BH310 ?q7BH310 ?_; (case q1BH310 => assumption); (case q2BH310 => assumption); (case q3BH310 => k_asm); (case q4BH310 => k_mem); (case q5BH310 => omega); (case q6BH310 => omega); (case q7BH310 => with_unfolding_all rfl); intro x' t' hx' hl' hp')) | ((with_reducible show wpAny _ _ (exec (Stmt.For _ _ _ _ _) _) _ _ _); (rename Fr _ _ _ _ => lF'); (with_unfolding_all refine' For_invVF lF' ?k1BH311 ?k2BH311 ?_; (case k1BH311 => exact rfl); (case k2BH311 => exact rfl); k_whole)) | ((with_reducible show wpAny _ _ (exec (Stmt.For _ _ _ _ _) _) _ _ _); (rename Fr _ _ _ _ => lF'); (with_unfolding_all refine' For_invVF lF' ?k1BH312 ?k2BH312 ?_; (case k1BH312 => exact rfl); (case k2BH312 => exact rfl); k_whole)) | (k_here; (with_reducible show wpAny _ _ (call (Value.ref _) [Value.ref _, Value.str _ _]) _ _ _); with_unfolding_all (refine' use_getall ?k1BH313 ?k2BH313 ?k3BH313 ?k4BH313 ?k5BH313 ?k6BH313 ?k7BH313 ?k8BH313 ?k9BH313 ?kABH313 ?kBBH313 ?kCBH313 ?kDBH313 ?kEBH313 ?kFBH313 ?kGBH313 ?_; (case k1BH313 => k_asm); (case k2BH313 => k_asm); (case k3BH313 => k_asm); (case k4BH313 => k_asm); (case k5BH313 => k_asm); (case k6BH313 => first | exact rfl | assumption); (case k7BH313 => ktr_room); (case k8BH313 => ktr_units); (case k9BH313 => k_mem); (case kABH313 => k_mem); (case kBBH313 => k_mem); (case kCBH313 => first | assumption | (refine RowsOK.app ?_; assumption) | (refine RowsOK.cons (RowsOK.app ?_); assumption) | (refine RowsOK.cons (RowsOK.cons (RowsOK.app ?_)); assumption)); (case kDBH313 => assumption); (case kEBH313 => omega); (case kFBH313 => assumption); (case kGBH313 => omega); k_whole); intro r' ys' n' h' tk' l1 hS' hZ' F' N'; (try dsimp only); (try k_sweep)) | ((with_reducible show wpAny _ _ (call (Value.ref _) _) _ _ _); with_unfolding_all (refine' use_paren ?k1BH314 ?k2BH314 ?k3BH314 ?k4BH314 ?k5BH314 ?k6BH314 ?k7BH314 ?k8BH314 ?k9BH314 ?_; (case k1BH314 => k_asm); (case k2BH314 => k_asm); (case k3BH314 => k_asm); (case k4BH314 => k_asm); (case k5BH314 => k_asm); (case k6BH314 => first | exact rfl | assumption); (case k7BH314 => ktr_room); (case k8BH314 => ktr_units); (case k9BH314 => assumption); k_whole); intro t' h' tk' F' N'; (try dsimp only); (try k_sweep)) | fail "no block") | (k_unfold; (try dsimp only)) | (k_end; kc_close) | walk1 | (dsimp only; walk1) | (leave1; (try dsimp only)) | fail "no step"))
  unfold Hold
  rename IsRange _ _ _ _ _ _ _ _ => rgX
  rename Fr _ _ _ _ => F9
  rename News _ _ _ _ => N9
  rename _ < _ ∧ _ => l9
  have hst := oj_start ok (by assumption) N9 l9
  with_unfolding_all refine' rng_one (n := 5) (Str.ofString "table") [Str.ofString "step", Str.ofString "table", Str.ofString "pairs", Str.ofString "height", Str.ofString "crowd", Str.ofString "text", Str.ofString "there", Str.ofString "more", Str.ofString "name"] (OJ ws P base nets news _) (by rfl) rgX rfl (by decide) F9 N9 (by rfl) hst ?turn ?done
  case turn =>
    clear l9 rgX hst N9 F9
    intro i t vz u nx h tk own hi hoff hJ F1 N1
    obtain ⟨x, d, l, hh, tt, vs, nn, hv, hn', tl', rfl, rfl, m1, m2, m3, hR, hI, hKn, hNe⟩ := hJ
    have hNo := ne_app hNe hoff (List.mem_cons_self ..)
    simp only [List.cons_append] at N1
    have hwl' : (wl, listOf wvs.toArray nw) ∈ tl' := hKn _ hwl
    have hpl' : (pl, listOf pvs.toArray np) ∈ tl' := hKn _ hpl
    have htl' : (tl, tupO #[.bytes b0 x0, .bytes b1 x1, .bytes b2 x2, .bytes b3 x3] nt) ∈ tl' := hKn _ htl
    (repeat' (first | (unfold Hold; first | (k_here; (with_reducible show wpAny _ _ (call (Value.type "int") [Value.str (fmt _) _]) _ _ _); refine call_fmt (by with_reducible assumption) ?_; intro t' tk') | ((with_reducible show wpAny _ _ (eval (Expr.ListComp _ _ _ _) _) _ _ _); k_dflt (refine LCg.ListComp_U (F₀ := by k_asm) (by with_unfolding_all rfl) (by decide) (by rfl) (by decide) (by rfl) ?_)) | ((with_reducible show wpAny _ _ (binaryOp Operator.Mod _ _) _ _ _); refine mod_d (more_small (by assumption) (by assumption) (by assumption)) ?_; intro t' tk') | ((with_reducible show wpAny _ _ (binaryOp Operator.Mult _ _) _ _ _); (with_reducible refine mul_int ?_ (IntMulOk.of_right (pow_bits ?q1BH33 ?q2BH33))); (case q1BH33 => assumption); (case q2BH33 => assumption)) | ((with_reducible show wpAny _ _ (binaryOp Operator.Pow _ _) _ _ _); (with_reducible refine pow_int_small ?q1BH34 ?q2BH34 ?q3BH34 ?_); (case q1BH34 => omega); (case q2BH34 => omega); (case q3BH34 => omega)) | (k_here; (with_reducible show wpAny _ _ (subscriptTail (Expr.Subscript (Expr.Name (Str.ofString "prices") _) _ _) _ (Value.ref _) (Value.int _ _)) _ _ _); k_dflt (refine' cell_at ?q1BH35 ?q2BH35 ?q3BH35 ?q4BH35 ?q5BH35 ?q6BH35 ?q7BH35 ?q8BH35 ?_; (case q2BH35 => assumption); (case q1BH35 => k_asm); (case q3BH35 => assumption); (case q4BH35 => assumption); (case q5BH35 => omega); (case q6BH35 => omega); (case q7BH35 => omega); (case q8BH35 => with_unfolding_all rfl); intro t' h1' h2')) | (k_here; (with_reducible show wpAny _ _ (subscriptTail (Expr.Name (Str.ofString "prices") _) _ (Value.ref _) (Value.int _ _)) _ _ _); k_dflt (refine' row_at ?q1BH36 ?q2BH36 ?q3BH36 ?q4BH36 ?q5BH36 ?q6BH36 ?q7BH36 ?_; (case q1BH36 => assumption); (case q4BH36 => assumption); (case q2BH36 => assumption); (case q3BH36 => k_asm); (case q5BH36 => omega); (case q6BH36 => omega); (case q7BH36 => with_unfolding_all rfl); intro a' us' n' row' hm' hI' hr' hc' hd' he')) | ((with_reducible show wpAny _ _ (call (Value.type _) _) _ _ _); (rename Fr _ _ _ _ => F'); (rename News _ _ _ _ => N'); (with_unfolding_all refine range1_rows F' N' ?_; intro _ _ _ _ _ _ _ _ _)) | (k_here; (with_reducible show wpAny _ _ (call (Value.builtin _) [Value.int _ _, Value.int _ _]) _ _ _); k_dflt (refine' min2 ?q1BH38 ?q2BH38 ?q3BH38 ?_; (case q1BH38 => k_asm); (case q2BH38 => k_asm); (case q3BH38 => with_unfolding_all rfl); k_whole); intro h' tk' t' F' N') | (k_here; (with_reducible show wpAny _ _ (call (Value.builtin _) [Value.int _ _, Value.int _ _, Value.int _ _]) _ _ _); k_dflt (refine' min3 ?q1BH39 ?q2BH39 ?q3BH39 ?_; (case q1BH39 => k_asm); (case q2BH39 => k_asm); (case q3BH39 => with_unfolding_all rfl); k_whole); intro h' tk' t' F' N') | (k_here; (with_reducible show wpAny _ _ (subscriptTail (Expr.Name (Str.ofString "words") _) _ (Value.ref _) (Value.int _ _)) _ _ _); k_dflt (refine' word_at ?q1BH310 ?q2BH310 ?q3BH310 ?q4BH310 ?q5BH310 ?q6BH310 ?q7BH310 ?_; (case q1BH310 => assumption); (case q2BH310 => assumption); (case q3BH310 => k_asm); (case q4BH310 => k_mem); (case q5BH310 => omega); (case q6BH310 => omega); (case q7BH310 => with_unfolding_all rfl); intro x' t' hx' hl' hp')) | ((with_reducible show wpAny _ _ (exec (Stmt.For _ _ _ _ _) _) _ _ _); (rename Fr _ _ _ _ => lF'); (with_unfolding_all refine' For_invVF lF' ?k1BH311 ?k2BH311 ?_; (case k1BH311 => exact rfl); (case k2BH311 => exact rfl); k_whole)) | ((with_reducible show wpAny _ _ (exec (Stmt.For _ _ _ _ _) _) _ _ _); (rename Fr _ _ _ _ => lF'); (with_unfolding_all refine' For_invVF lF' ?k1BH312 ?k2BH312 ?_; (case k1BH312 => exact rfl); (case k2BH312 => exact rfl); k_whole)) | (k_here; (with_reducible show wpAny _ _ (call (Value.ref _) [Value.ref _, Value.str _ _]) _ _ _); with_unfolding_all (refine' use_getall ?k1BH313 ?k2BH313 ?k3BH313 ?k4BH313 ?k5BH313 ?k6BH313 ?k7BH313 ?k8BH313 ?k9BH313 ?kABH313 ?kBBH313 ?kCBH313 ?kDBH313 ?kEBH313 ?kFBH313 ?kGBH313 ?_; (case k1BH313 => k_asm); (case k2BH313 => k_asm); (case k3BH313 => k_asm); (case k4BH313 => k_asm); (case k5BH313 => k_asm); (case k6BH313 => first | exact rfl | assumption); (case k7BH313 => ktr_room); (case k8BH313 => ktr_units); (case k9BH313 => k_mem); (case kABH313 => k_mem); (case kBBH313 => k_mem); (case kCBH313 => first | assumption | (refine RowsOK.app ?_; assumption) | (refine RowsOK.cons (RowsOK.app ?_); assumption) | (refine RowsOK.cons (RowsOK.cons (RowsOK.app ?_)); assumption)); (case kDBH313 => assumption); (case kEBH313 => omega); (case kFBH313 => assumption); (case kGBH313 => omega); k_whole); intro r' ys' n' h' tk' l1 hS' hZ' F' N'; (try dsimp only); (try k_sweep)) | ((with_reducible show wpAny _ _ (call (Value.ref _) _) _ _ _); with_unfolding_all (refine' use_paren ?k1BH314 ?k2BH314 ?k3BH314 ?k4BH314 ?k5BH314 ?k6BH314 ?k7BH314 ?k8BH314 ?k9BH314 ?_; (case k1BH314 => k_asm); (case k2BH314 => k_asm); (case k3BH314 => k_asm); (case k4BH314 => k_asm); (case k5BH314 => k_asm); (case k6BH314 => first | exact rfl | assumption); (case k7BH314 => ktr_room); (case k8BH314 => ktr_units); (case k9BH314 => assumption); k_whole); intro t' h' tk' F' N'; (try dsimp only); (try k_sweep)) | fail "no block") | (k_unfold; (try dsimp only)) | (k_end; kc_close) | walk1 | (dsimp only; walk1) | (leave1; (try dsimp only)) | fail "no step"))
    unfold Hold
    rename IsRange _ _ _ _ _ _ _ _ => rgX
    rename Fr _ _ _ _ => F9
    rename News _ _ _ _ => N9
    rename _ ∧ _ => l9
    with_unfolding_all have hst := pj_start (ws := ws) (n := ws.length) (P := P) (base := base) (nets := nets) (T := homeRows ws.length P base nets i) N9 (ne_lt l9)
    have hmin : min ((i : Int) + 1) (min (5 - (i : Int) + 1) (ws.length : Int)) = ((min (i + 1) (min (5 - i + 1) ws.length) : Nat) : Int) := by
      rw [show (5 : Int) - (i : Int) + 1 = ((5 - i + 1 : Nat) : Int) by omega, show (i : Int) + 1 = ((i + 1 : Nat) : Int) by omega, imin, imin]
    with_unfolding_all refine' rng_none (n := min (i + 1) (min (5 - i + 1) ws.length)) [Str.ofString "height", Str.ofString "crowd", Str.ofString "text", Str.ofString "there", Str.ofString "more", Str.ofString "name"] (PJ ws _ _ [] (rowsM ws.length P base nets (homeRows ws.length P base nets i)) (fun j => 4 * j)) (by rfl) rgX hmin (by omega) F9 N9 hst ?turn2 ?done2
    case turn2 =>
      clear l9 rgX hst N9 F9 hmin
      intro j t9 u9 nx9 h9 tk9 own9 hj9 hoff9 hJ9 F9 N9
      obtain ⟨pv, pn, add9, tl9, rfl, he9, hd9, hne9, hR9, hl9⟩ := hJ9
      have hNo9 := ne_app hne9 hoff9 (List.mem_cons_self ..)
      simp only [List.cons_append] at N9
      have into : ∀ p ∈ tl', p ∈ tl9 := fun p hp => by
        rw [he9]
        exact List.mem_append_right _ (.tail _ (List.mem_append_left _ hp))
      have m1' := into _ m1
      have m2' := into _ m2
      have m3' := into _ m3
      have hwl9 := into _ hwl'
      have hpl9 := into _ hpl'
      have htl9 := into _ htl'
      have hRt := hR.mono into
      have hfew := ok.few i (by omega)
      (repeat' (first | (unfold Hold; first | (k_here; (with_reducible show wpAny _ _ (call (Value.type "int") [Value.str (fmt _) _]) _ _ _); refine call_fmt (by with_reducible assumption) ?_; intro t' tk') | ((with_reducible show wpAny _ _ (eval (Expr.ListComp _ _ _ _) _) _ _ _); k_dflt (refine LCg.ListComp_U (F₀ := by k_asm) (by with_unfolding_all rfl) (by decide) (by rfl) (by decide) (by rfl) ?_)) | ((with_reducible show wpAny _ _ (binaryOp Operator.Mod _ _) _ _ _); refine mod_d (more_small (by assumption) (by assumption) (by assumption)) ?_; intro t' tk') | ((with_reducible show wpAny _ _ (binaryOp Operator.Mult _ _) _ _ _); (with_reducible refine mul_int ?_ (IntMulOk.of_right (pow_bits ?q1BH33 ?q2BH33))); (case q1BH33 => assumption); (case q2BH33 => assumption)) | ((with_reducible show wpAny _ _ (binaryOp Operator.Pow _ _) _ _ _); (with_reducible refine pow_int_small ?q1BH34 ?q2BH34 ?q3BH34 ?_); (case q1BH34 => omega); (case q2BH34 => omega); (case q3BH34 => omega)) | (k_here; (with_reducible show wpAny _ _ (subscriptTail (Expr.Subscript (Expr.Name (Str.ofString "prices") _) _ _) _ (Value.ref _) (Value.int _ _)) _ _ _); k_dflt (refine' cell_at ?q1BH35 ?q2BH35 ?q3BH35 ?q4BH35 ?q5BH35 ?q6BH35 ?q7BH35 ?q8BH35 ?_; (case q2BH35 => assumption); (case q1BH35 => k_asm); (case q3BH35 => assumption); (case q4BH35 => assumption); (case q5BH35 => omega); (case q6BH35 => omega); (case q7BH35 => omega); (case q8BH35 => with_unfolding_all rfl); intro t' h1' h2')) | (k_here; (with_reducible show wpAny _ _ (subscriptTail (Expr.Name (Str.ofString "prices") _) _ (Value.ref _) (Value.int _ _)) _ _ _); k_dflt (refine' row_at ?q1BH36 ?q2BH36 ?q3BH36 ?q4BH36 ?q5BH36 ?q6BH36 ?q7BH36 ?_; (case q1BH36 => assumption); (case q4BH36 => assumption); (case q2BH36 => assumption); (case q3BH36 => k_asm); (case q5BH36 => omega); (case q6BH36 => omega); (case q7BH36 => with_unfolding_all rfl); intro a' us' n' row' hm' hI' hr' hc' hd' he')) | ((with_reducible show wpAny _ _ (call (Value.type _) _) _ _ _); (rename Fr _ _ _ _ => F'); (rename News _ _ _ _ => N'); (with_unfolding_all refine range1_rows F' N' ?_; intro _ _ _ _ _ _ _ _ _)) | (k_here; (with_reducible show wpAny _ _ (call (Value.builtin _) [Value.int _ _, Value.int _ _]) _ _ _); k_dflt (refine' min2 ?q1BH38 ?q2BH38 ?q3BH38 ?_; (case q1BH38 => k_asm); (case q2BH38 => k_asm); (case q3BH38 => with_unfolding_all rfl); k_whole); intro h' tk' t' F' N') | (k_here; (with_reducible show wpAny _ _ (call (Value.builtin _) [Value.int _ _, Value.int _ _, Value.int _ _]) _ _ _); k_dflt (refine' min3 ?q1BH39 ?q2BH39 ?q3BH39 ?_; (case q1BH39 => k_asm); (case q2BH39 => k_asm); (case q3BH39 => with_unfolding_all rfl); k_whole); intro h' tk' t' F' N') | (k_here; (with_reducible show wpAny _ _ (subscriptTail (Expr.Name (Str.ofString "words") _) _ (Value.ref _) (Value.int _ _)) _ _ _); k_dflt (refine' word_at ?q1BH310 ?q2BH310 ?q3BH310 ?q4BH310 ?q5BH310 ?q6BH310 ?q7BH310 ?_; (case q1BH310 => assumption); (case q2BH310 => assumption); (case q3BH310 => k_asm); (case q4BH310 => k_mem); (case q5BH310 => omega); (case q6BH310 => omega); (case q7BH310 => with_unfolding_all rfl); intro x' t' hx' hl' hp')) | ((with_reducible show wpAny _ _ (exec (Stmt.For _ _ _ _ _) _) _ _ _); (rename Fr _ _ _ _ => lF'); (with_unfolding_all refine' For_invVF lF' ?k1BH311 ?k2BH311 ?_; (case k1BH311 => exact rfl); (case k2BH311 => exact rfl); k_whole)) | ((with_reducible show wpAny _ _ (exec (Stmt.For _ _ _ _ _) _) _ _ _); (rename Fr _ _ _ _ => lF'); (with_unfolding_all refine' For_invVF lF' ?k1BH312 ?k2BH312 ?_; (case k1BH312 => exact rfl); (case k2BH312 => exact rfl); k_whole)) | (k_here; (with_reducible show wpAny _ _ (call (Value.ref _) [Value.ref _, Value.str _ _]) _ _ _); with_unfolding_all (refine' use_getall ?k1BH313 ?k2BH313 ?k3BH313 ?k4BH313 ?k5BH313 ?k6BH313 ?k7BH313 ?k8BH313 ?k9BH313 ?kABH313 ?kBBH313 ?kCBH313 ?kDBH313 ?kEBH313 ?kFBH313 ?kGBH313 ?_; (case k1BH313 => k_asm); (case k2BH313 => k_asm); (case k3BH313 => k_asm); (case k4BH313 => k_asm); (case k5BH313 => k_asm); (case k6BH313 => first | exact rfl | assumption); (case k7BH313 => ktr_room); (case k8BH313 => ktr_units); (case k9BH313 => k_mem); (case kABH313 => k_mem); (case kBBH313 => k_mem); (case kCBH313 => first | assumption | (refine RowsOK.app ?_; assumption) | (refine RowsOK.cons (RowsOK.app ?_); assumption) | (refine RowsOK.cons (RowsOK.cons (RowsOK.app ?_)); assumption)); (case kDBH313 => assumption); (case kEBH313 => omega); (case kFBH313 => assumption); (case kGBH313 => omega); k_whole); intro r' ys' n' h' tk' l1 hS' hZ' F' N'; (try dsimp only); (try k_sweep)) | ((with_reducible show wpAny _ _ (call (Value.ref _) _) _ _ _); with_unfolding_all (refine' use_paren ?k1BH314 ?k2BH314 ?k3BH314 ?k4BH314 ?k5BH314 ?k6BH314 ?k7BH314 ?k8BH314 ?k9BH314 ?_; (case k1BH314 => k_asm); (case k2BH314 => k_asm); (case k3BH314 => k_asm); (case k4BH314 => k_asm); (case k5BH314 => k_asm); (case k6BH314 => first | exact rfl | assumption); (case k7BH314 => ktr_room); (case k8BH314 => ktr_units); (case k9BH314 => assumption); k_whole); intro t' h' tk' F' N'; (try dsimp only); (try k_sweep)) | fail "no block") | (k_unfold; (try dsimp only)) | (k_end; kc_close) | walk1 | (dsimp only; walk1) | (leave1; (try dsimp only)) | fail "no step"))
      unfold Hold
      with_unfolding_all refine' use_getall ?k1 ?k2 ?k3 ?k4 ?k5 ?k6 ?k7 ?k8 ?k9 ?kA ?kB ?kC ?kD ?kE ?kF ?kG ?_
      case k1 => k_asm
      case k2 => k_asm
      case k3 => k_asm
      case k4 => k_asm
      case k5 => k_asm
      case k6 => first | exact rfl | assumption
      case k7 => ktr_room
      case k8 => ktr_units
      case k9 => k_mem
      case kA => k_mem
      case kB => k_mem
      case kC => exact RowsOK.cons (RowsOK.app hRt)
      case kD => assumption
      case kE => omega
      case kF => assumption
      case kG => omega
      k_whole
      intro r' ys' n' h' tk' l9 hS' hZ' F' N'
      (try dsimp only)
      (try k_sweep)
      (repeat' (first | (unfold Hold; first | (k_here; (with_reducible show wpAny _ _ (call (Value.type "int") [Value.str (fmt _) _]) _ _ _); refine call_fmt (by with_reducible assumption) ?_; intro t' tk') | ((with_reducible show wpAny _ _ (eval (Expr.ListComp _ _ _ _) _) _ _ _); k_dflt (refine LCg.ListComp_U (F₀ := by k_asm) (by with_unfolding_all rfl) (by decide) (by rfl) (by decide) (by rfl) ?_)) | ((with_reducible show wpAny _ _ (binaryOp Operator.Mod _ _) _ _ _); refine mod_d (more_small (by assumption) (by assumption) (by assumption)) ?_; intro t' tk') | ((with_reducible show wpAny _ _ (binaryOp Operator.Mult _ _) _ _ _); (with_reducible refine mul_int ?_ (IntMulOk.of_right (pow_bits ?q1BH33 ?q2BH33))); (case q1BH33 => assumption); (case q2BH33 => assumption)) | ((with_reducible show wpAny _ _ (binaryOp Operator.Pow _ _) _ _ _); (with_reducible refine pow_int_small ?q1BH34 ?q2BH34 ?q3BH34 ?_); (case q1BH34 => omega); (case q2BH34 => omega); (case q3BH34 => omega)) | (k_here; (with_reducible show wpAny _ _ (subscriptTail (Expr.Subscript (Expr.Name (Str.ofString "prices") _) _ _) _ (Value.ref _) (Value.int _ _)) _ _ _); k_dflt (refine' cell_at ?q1BH35 ?q2BH35 ?q3BH35 ?q4BH35 ?q5BH35 ?q6BH35 ?q7BH35 ?q8BH35 ?_; (case q2BH35 => assumption); (case q1BH35 => k_asm); (case q3BH35 => assumption); (case q4BH35 => assumption); (case q5BH35 => omega); (case q6BH35 => omega); (case q7BH35 => omega); (case q8BH35 => with_unfolding_all rfl); intro t' h1' h2')) | (k_here; (with_reducible show wpAny _ _ (subscriptTail (Expr.Name (Str.ofString "prices") _) _ (Value.ref _) (Value.int _ _)) _ _ _); k_dflt (refine' row_at ?q1BH36 ?q2BH36 ?q3BH36 ?q4BH36 ?q5BH36 ?q6BH36 ?q7BH36 ?_; (case q1BH36 => assumption); (case q4BH36 => assumption); (case q2BH36 => assumption); (case q3BH36 => k_asm); (case q5BH36 => omega); (case q6BH36 => omega); (case q7BH36 => with_unfolding_all rfl); intro a' us' n' row' hm' hI' hr' hc' hd' he')) | ((with_reducible show wpAny _ _ (call (Value.type _) _) _ _ _); (rename Fr _ _ _ _ => F'); (rename News _ _ _ _ => N'); (with_unfolding_all refine range1_rows F' N' ?_; intro _ _ _ _ _ _ _ _ _)) | (k_here; (with_reducible show wpAny _ _ (call (Value.builtin _) [Value.int _ _, Value.int _ _]) _ _ _); k_dflt (refine' min2 ?q1BH38 ?q2BH38 ?q3BH38 ?_; (case q1BH38 => k_asm); (case q2BH38 => k_asm); (case q3BH38 => with_unfolding_all rfl); k_whole); intro h' tk' t' F' N') | (k_here; (with_reducible show wpAny _ _ (call (Value.builtin _) [Value.int _ _, Value.int _ _, Value.int _ _]) _ _ _); k_dflt (refine' min3 ?q1BH39 ?q2BH39 ?q3BH39 ?_; (case q1BH39 => k_asm); (case q2BH39 => k_asm); (case q3BH39 => with_unfolding_all rfl); k_whole); intro h' tk' t' F' N') | (k_here; (with_reducible show wpAny _ _ (subscriptTail (Expr.Name (Str.ofString "words") _) _ (Value.ref _) (Value.int _ _)) _ _ _); k_dflt (refine' word_at ?q1BH310 ?q2BH310 ?q3BH310 ?q4BH310 ?q5BH310 ?q6BH310 ?q7BH310 ?_; (case q1BH310 => assumption); (case q2BH310 => assumption); (case q3BH310 => k_asm); (case q4BH310 => k_mem); (case q5BH310 => omega); (case q6BH310 => omega); (case q7BH310 => with_unfolding_all rfl); intro x' t' hx' hl' hp')) | ((with_reducible show wpAny _ _ (exec (Stmt.For _ _ _ _ _) _) _ _ _); (rename Fr _ _ _ _ => lF'); (with_unfolding_all refine' For_invVF lF' ?k1BH311 ?k2BH311 ?_; (case k1BH311 => exact rfl); (case k2BH311 => exact rfl); k_whole)) | ((with_reducible show wpAny _ _ (exec (Stmt.For _ _ _ _ _) _) _ _ _); (rename Fr _ _ _ _ => lF'); (with_unfolding_all refine' For_invVF lF' ?k1BH312 ?k2BH312 ?_; (case k1BH312 => exact rfl); (case k2BH312 => exact rfl); k_whole)) | (k_here; (with_reducible show wpAny _ _ (call (Value.ref _) [Value.ref _, Value.str _ _]) _ _ _); with_unfolding_all (refine' use_getall ?k1BH313 ?k2BH313 ?k3BH313 ?k4BH313 ?k5BH313 ?k6BH313 ?k7BH313 ?k8BH313 ?k9BH313 ?kABH313 ?kBBH313 ?kCBH313 ?kDBH313 ?kEBH313 ?kFBH313 ?kGBH313 ?_; (case k1BH313 => k_asm); (case k2BH313 => k_asm); (case k3BH313 => k_asm); (case k4BH313 => k_asm); (case k5BH313 => k_asm); (case k6BH313 => first | exact rfl | assumption); (case k7BH313 => ktr_room); (case k8BH313 => ktr_units); (case k9BH313 => k_mem); (case kABH313 => k_mem); (case kBBH313 => k_mem); (case kCBH313 => first | assumption | (refine RowsOK.app ?_; assumption) | (refine RowsOK.cons (RowsOK.app ?_); assumption) | (refine RowsOK.cons (RowsOK.cons (RowsOK.app ?_)); assumption)); (case kDBH313 => assumption); (case kEBH313 => omega); (case kFBH313 => assumption); (case kGBH313 => omega); k_whole); intro r' ys' n' h' tk' l1 hS' hZ' F' N'; (try dsimp only); (try k_sweep)) | ((with_reducible show wpAny _ _ (call (Value.ref _) _) _ _ _); with_unfolding_all (refine' use_paren ?k1BH314 ?k2BH314 ?k3BH314 ?k4BH314 ?k5BH314 ?k6BH314 ?k7BH314 ?k8BH314 ?k9BH314 ?_; (case k1BH314 => k_asm); (case k2BH314 => k_asm); (case k3BH314 => k_asm); (case k4BH314 => k_asm); (case k5BH314 => k_asm); (case k6BH314 => first | exact rfl | assumption); (case k7BH314 => ktr_room); (case k8BH314 => ktr_units); (case k9BH314 => assumption); k_whole); intro t' h' tk' F' N'; (try dsimp only); (try k_sweep)) | fail "no block") | (k_unfold; (try dsimp only)) | (k_end; kc_close) | walk1 | (dsimp only; walk1) | (leave1; (try dsimp only)) | fail "no step"))
      unfold Hold
      rename Fr _ _ _ _ => lF'
      rename News _ _ _ _ => lN'
      have hlen' : ys'.length = ((List.filter (fun r => r.1 == ((j : Int)).toNat) (homeRows ws.length P base nets i)).map (·.2)).length := by rw [hS'.length, List.length_map]
      have hshort : ((List.filter (fun r => r.1 == ((j : Int)).toNat) (homeRows ws.length P base nets i)).map (·.2)).length ≤ 100 := by
        rw [List.length_map]; exact Nat.le_trans (List.length_filter_le ..) hfew
      k_dflt refine LCg.CompSrc.ledger (by rfl) lF' lN' (List.Mem.head _) (by rw [sizeLine_eq, List.size_toArray]; omega) ?_
      intro g8
      have e8 : ys'.toArray.size = ys'.length := by simp
      rw [e8]
      refine restU_gen (fun i' acc => IntsAre acc (((List.filter (fun r => r.1 == ((j : Int)).toNat) (homeRows ws.length P base nets i)).map (·.2)).take i')) .nil ?_ ?_
      · intro i' v I oI C oC D8 m₂ acc h8 tk8 E8 hi' hv' hY hC hx8 F8 N8 off8 ne8
        obtain ⟨k8, tv8, hk8, rfl⟩ := strs_at hS' (by simpa using hv')
        have hb8 := hZ' k8 (List.mem_of_getElem? hk8)
        (repeat' (first | (unfold Hold; first | (k_here; (with_reducible show wpAny _ _ (call (Value.type "int") [Value.str (fmt _) _]) _ _ _); refine call_fmt (by with_reducible assumption) ?_; intro t' tk') | ((with_reducible show wpAny _ _ (eval (Expr.ListComp _ _ _ _) _) _ _ _); k_dflt (refine LCg.ListComp_U (F₀ := by k_asm) (by with_unfolding_all rfl) (by decide) (by rfl) (by decide) (by rfl) ?_)) | ((with_reducible show wpAny _ _ (binaryOp Operator.Mod _ _) _ _ _); refine mod_d (more_small (by assumption) (by assumption) (by assumption)) ?_; intro t' tk') | ((with_reducible show wpAny _ _ (binaryOp Operator.Mult _ _) _ _ _); (with_reducible refine mul_int ?_ (IntMulOk.of_right (pow_bits ?q1BH33 ?q2BH33))); (case q1BH33 => assumption); (case q2BH33 => assumption)) | ((with_reducible show wpAny _ _ (binaryOp Operator.Pow _ _) _ _ _); (with_reducible refine pow_int_small ?q1BH34 ?q2BH34 ?q3BH34 ?_); (case q1BH34 => omega); (case q2BH34 => omega); (case q3BH34 => omega)) | (k_here; (with_reducible show wpAny _ _ (subscriptTail (Expr.Subscript (Expr.Name (Str.ofString "prices") _) _ _) _ (Value.ref _) (Value.int _ _)) _ _ _); k_dflt (refine' cell_at ?q1BH35 ?q2BH35 ?q3BH35 ?q4BH35 ?q5BH35 ?q6BH35 ?q7BH35 ?q8BH35 ?_; (case q2BH35 => assumption); (case q1BH35 => k_asm); (case q3BH35 => assumption); (case q4BH35 => assumption); (case q5BH35 => omega); (case q6BH35 => omega); (case q7BH35 => omega); (case q8BH35 => with_unfolding_all rfl); intro t' h1' h2')) | (k_here; (with_reducible show wpAny _ _ (subscriptTail (Expr.Name (Str.ofString "prices") _) _ (Value.ref _) (Value.int _ _)) _ _ _); k_dflt (refine' row_at ?q1BH36 ?q2BH36 ?q3BH36 ?q4BH36 ?q5BH36 ?q6BH36 ?q7BH36 ?_; (case q1BH36 => assumption); (case q4BH36 => assumption); (case q2BH36 => assumption); (case q3BH36 => k_asm); (case q5BH36 => omega); (case q6BH36 => omega); (case q7BH36 => with_unfolding_all rfl); intro a' us' n' row' hm' hI' hr' hc' hd' he')) | ((with_reducible show wpAny _ _ (call (Value.type _) _) _ _ _); (rename Fr _ _ _ _ => F'); (rename News _ _ _ _ => N'); (with_unfolding_all refine range1_rows F' N' ?_; intro _ _ _ _ _ _ _ _ _)) | (k_here; (with_reducible show wpAny _ _ (call (Value.builtin _) [Value.int _ _, Value.int _ _]) _ _ _); k_dflt (refine' min2 ?q1BH38 ?q2BH38 ?q3BH38 ?_; (case q1BH38 => k_asm); (case q2BH38 => k_asm); (case q3BH38 => with_unfolding_all rfl); k_whole); intro h' tk' t' F' N') | (k_here; (with_reducible show wpAny _ _ (call (Value.builtin _) [Value.int _ _, Value.int _ _, Value.int _ _]) _ _ _); k_dflt (refine' min3 ?q1BH39 ?q2BH39 ?q3BH39 ?_; (case q1BH39 => k_asm); (case q2BH39 => k_asm); (case q3BH39 => with_unfolding_all rfl); k_whole); intro h' tk' t' F' N') | (k_here; (with_reducible show wpAny _ _ (subscriptTail (Expr.Name (Str.ofString "words") _) _ (Value.ref _) (Value.int _ _)) _ _ _); k_dflt (refine' word_at ?q1BH310 ?q2BH310 ?q3BH310 ?q4BH310 ?q5BH310 ?q6BH310 ?q7BH310 ?_; (case q1BH310 => assumption); (case q2BH310 => assumption); (case q3BH310 => k_asm); (case q4BH310 => k_mem); (case q5BH310 => omega); (case q6BH310 => omega); (case q7BH310 => with_unfolding_all rfl); intro x' t' hx' hl' hp')) | ((with_reducible show wpAny _ _ (exec (Stmt.For _ _ _ _ _) _) _ _ _); (rename Fr _ _ _ _ => lF'); (with_unfolding_all refine' For_invVF lF' ?k1BH311 ?k2BH311 ?_; (case k1BH311 => exact rfl); (case k2BH311 => exact rfl); k_whole)) | ((with_reducible show wpAny _ _ (exec (Stmt.For _ _ _ _ _) _) _ _ _); (rename Fr _ _ _ _ => lF'); (with_unfolding_all refine' For_invVF lF' ?k1BH312 ?k2BH312 ?_; (case k1BH312 => exact rfl); (case k2BH312 => exact rfl); k_whole)) | (k_here; (with_reducible show wpAny _ _ (call (Value.ref _) [Value.ref _, Value.str _ _]) _ _ _); with_unfolding_all (refine' use_getall ?k1BH313 ?k2BH313 ?k3BH313 ?k4BH313 ?k5BH313 ?k6BH313 ?k7BH313 ?k8BH313 ?k9BH313 ?kABH313 ?kBBH313 ?kCBH313 ?kDBH313 ?kEBH313 ?kFBH313 ?kGBH313 ?_; (case k1BH313 => k_asm); (case k2BH313 => k_asm); (case k3BH313 => k_asm); (case k4BH313 => k_asm); (case k5BH313 => k_asm); (case k6BH313 => first | exact rfl | assumption); (case k7BH313 => ktr_room); (case k8BH313 => ktr_units); (case k9BH313 => k_mem); (case kABH313 => k_mem); (case kBBH313 => k_mem); (case kCBH313 => first | assumption | (refine RowsOK.app ?_; assumption) | (refine RowsOK.cons (RowsOK.app ?_); assumption) | (refine RowsOK.cons (RowsOK.cons (RowsOK.app ?_)); assumption)); (case kDBH313 => assumption); (case kEBH313 => omega); (case kFBH313 => assumption); (case kGBH313 => omega); k_whole); intro r' ys' n' h' tk' l1 hS' hZ' F' N'; (try dsimp only); (try k_sweep)) | ((with_reducible show wpAny _ _ (call (Value.ref _) _) _ _ _); with_unfolding_all (refine' use_paren ?k1BH314 ?k2BH314 ?k3BH314 ?k4BH314 ?k5BH314 ?k6BH314 ?k7BH314 ?k8BH314 ?k9BH314 ?_; (case k1BH314 => k_asm); (case k2BH314 => k_asm); (case k3BH314 => k_asm); (case k4BH314 => k_asm); (case k5BH314 => k_asm); (case k6BH314 => first | exact rfl | assumption); (case k7BH314 => ktr_room); (case k8BH314 => ktr_units); (case k9BH314 => assumption); k_whole); intro t' h' tk' F' N'; (try dsimp only); (try k_sweep)) | fail "no block") | (k_unfold; (try dsimp only)) | (k_end; kc_close) | walk1 | (dsimp only; walk1) | (leave1; (try dsimp only)) | fail "no step"))
        refine ⟨_, _, _, rfl, by assumption, by assumption, off8, .inr ⟨_, List.Mem.head _, rfl, _, rfl⟩, rfl, ints_snoc hY hk8⟩
      · intro acc hY
        rw [hlen', List.take_length] at hY
        (repeat' (first | (unfold Hold; first | (k_here; (with_reducible show wpAny _ _ (call (Value.type "int") [Value.str (fmt _) _]) _ _ _); refine call_fmt (by with_reducible assumption) ?_; intro t' tk') | ((with_reducible show wpAny _ _ (eval (Expr.ListComp _ _ _ _) _) _ _ _); k_dflt (refine LCg.ListComp_U (F₀ := by k_asm) (by with_unfolding_all rfl) (by decide) (by rfl) (by decide) (by rfl) ?_)) | ((with_reducible show wpAny _ _ (binaryOp Operator.Mod _ _) _ _ _); refine mod_d (more_small (by assumption) (by assumption) (by assumption)) ?_; intro t' tk') | ((with_reducible show wpAny _ _ (binaryOp Operator.Mult _ _) _ _ _); (with_reducible refine mul_int ?_ (IntMulOk.of_right (pow_bits ?q1BH33 ?q2BH33))); (case q1BH33 => assumption); (case q2BH33 => assumption)) | ((with_reducible show wpAny _ _ (binaryOp Operator.Pow _ _) _ _ _); (with_reducible refine pow_int_small ?q1BH34 ?q2BH34 ?q3BH34 ?_); (case q1BH34 => omega); (case q2BH34 => omega); (case q3BH34 => omega)) | (k_here; (with_reducible show wpAny _ _ (subscriptTail (Expr.Subscript (Expr.Name (Str.ofString "prices") _) _ _) _ (Value.ref _) (Value.int _ _)) _ _ _); k_dflt (refine' cell_at ?q1BH35 ?q2BH35 ?q3BH35 ?q4BH35 ?q5BH35 ?q6BH35 ?q7BH35 ?q8BH35 ?_; (case q2BH35 => assumption); (case q1BH35 => k_asm); (case q3BH35 => assumption); (case q4BH35 => assumption); (case q5BH35 => omega); (case q6BH35 => omega); (case q7BH35 => omega); (case q8BH35 => with_unfolding_all rfl); intro t' h1' h2')) | (k_here; (with_reducible show wpAny _ _ (subscriptTail (Expr.Name (Str.ofString "prices") _) _ (Value.ref _) (Value.int _ _)) _ _ _); k_dflt (refine' row_at ?q1BH36 ?q2BH36 ?q3BH36 ?q4BH36 ?q5BH36 ?q6BH36 ?q7BH36 ?_; (case q1BH36 => assumption); (case q4BH36 => assumption); (case q2BH36 => assumption); (case q3BH36 => k_asm); (case q5BH36 => omega); (case q6BH36 => omega); (case q7BH36 => with_unfolding_all rfl); intro a' us' n' row' hm' hI' hr' hc' hd' he')) | ((with_reducible show wpAny _ _ (call (Value.type _) _) _ _ _); (rename Fr _ _ _ _ => F'); (rename News _ _ _ _ => N'); (with_unfolding_all refine range1_rows F' N' ?_; intro _ _ _ _ _ _ _ _ _)) | (k_here; (with_reducible show wpAny _ _ (call (Value.builtin _) [Value.int _ _, Value.int _ _]) _ _ _); k_dflt (refine' min2 ?q1BH38 ?q2BH38 ?q3BH38 ?_; (case q1BH38 => k_asm); (case q2BH38 => k_asm); (case q3BH38 => with_unfolding_all rfl); k_whole); intro h' tk' t' F' N') | (k_here; (with_reducible show wpAny _ _ (call (Value.builtin _) [Value.int _ _, Value.int _ _, Value.int _ _]) _ _ _); k_dflt (refine' min3 ?q1BH39 ?q2BH39 ?q3BH39 ?_; (case q1BH39 => k_asm); (case q2BH39 => k_asm); (case q3BH39 => with_unfolding_all rfl); k_whole); intro h' tk' t' F' N') | (k_here; (with_reducible show wpAny _ _ (subscriptTail (Expr.Name (Str.ofString "words") _) _ (Value.ref _) (Value.int _ _)) _ _ _); k_dflt (refine' word_at ?q1BH310 ?q2BH310 ?q3BH310 ?q4BH310 ?q5BH310 ?q6BH310 ?q7BH310 ?_; (case q1BH310 => assumption); (case q2BH310 => assumption); (case q3BH310 => k_asm); (case q4BH310 => k_mem); (case q5BH310 => omega); (case q6BH310 => omega); (case q7BH310 => with_unfolding_all rfl); intro x' t' hx' hl' hp')) | ((with_reducible show wpAny _ _ (exec (Stmt.For _ _ _ _ _) _) _ _ _); (rename Fr _ _ _ _ => lF'); (with_unfolding_all refine' For_invVF lF' ?k1BH311 ?k2BH311 ?_; (case k1BH311 => exact rfl); (case k2BH311 => exact rfl); k_whole)) | ((with_reducible show wpAny _ _ (exec (Stmt.For _ _ _ _ _) _) _ _ _); (rename Fr _ _ _ _ => lF'); (with_unfolding_all refine' For_invVF lF' ?k1BH312 ?k2BH312 ?_; (case k1BH312 => exact rfl); (case k2BH312 => exact rfl); k_whole)) | (k_here; (with_reducible show wpAny _ _ (call (Value.ref _) [Value.ref _, Value.str _ _]) _ _ _); with_unfolding_all (refine' use_getall ?k1BH313 ?k2BH313 ?k3BH313 ?k4BH313 ?k5BH313 ?k6BH313 ?k7BH313 ?k8BH313 ?k9BH313 ?kABH313 ?kBBH313 ?kCBH313 ?kDBH313 ?kEBH313 ?kFBH313 ?kGBH313 ?_; (case k1BH313 => k_asm); (case k2BH313 => k_asm); (case k3BH313 => k_asm); (case k4BH313 => k_asm); (case k5BH313 => k_asm); (case k6BH313 => first | exact rfl | assumption); (case k7BH313 => ktr_room); (case k8BH313 => ktr_units); (case k9BH313 => k_mem); (case kABH313 => k_mem); (case kBBH313 => k_mem); (case kCBH313 => first | assumption | (refine RowsOK.app ?_; assumption) | (refine RowsOK.cons (RowsOK.app ?_); assumption) | (refine RowsOK.cons (RowsOK.cons (RowsOK.app ?_)); assumption)); (case kDBH313 => assumption); (case kEBH313 => omega); (case kFBH313 => assumption); (case kGBH313 => omega); k_whole); intro r' ys' n' h' tk' l1 hS' hZ' F' N'; (try dsimp only); (try k_sweep)) | ((with_reducible show wpAny _ _ (call (Value.ref _) _) _ _ _); with_unfolding_all (refine' use_paren ?k1BH314 ?k2BH314 ?k3BH314 ?k4BH314 ?k5BH314 ?k6BH314 ?k7BH314 ?k8BH314 ?k9BH314 ?_; (case k1BH314 => k_asm); (case k2BH314 => k_asm); (case k3BH314 => k_asm); (case k4BH314 => k_asm); (case k5BH314 => k_asm); (case k6BH314 => first | exact rfl | assumption); (case k7BH314 => ktr_room); (case k8BH314 => ktr_units); (case k9BH314 => assumption); k_whole); intro t' h' tk' F' N'; (try dsimp only); (try k_sweep)) | fail "no block") | (k_unfold; (try dsimp only)) | (k_end; kc_close) | walk1 | (dsimp only; walk1) | (leave1; (try dsimp only)) | fail "no step"))
        unfold Hold
        rename Fr _ _ _ _ => F3
        rename News _ _ _ _ => N3
        rename _ ∧ _ ∧ LCg.Off1 _ _ => o3
        skip
        obtain ⟨N4, hst3⟩ := pj_mid (rowsJ := fun k => (nets.take k).foldl (turnP ws.length P base j (crowdOf (homeRows ws.length P base nets i) j)) (rowsM ws.length P base nets (homeRows ws.length P base nets i) j)) (lim := fun k => 4 * j + k) N3 (Ne.symm o3.2.1) (l9 _ (List.Mem.head _)).symm hNo9 hR9 rfl hl9
        with_unfolding_all refine' tup_none (nn := nt) (vs := [.bytes b0 x0, .bytes b1 x1, .bytes b2 x2, .bytes b3 x3]) [Str.ofString "text", Str.ofString "there", Str.ofString "more", Str.ofString "name"] (PJ ws _ _ _ _ _) (by rfl) (.tail _ (.tail _ (.tail _ (List.mem_append_left _ htl9)))) F3 N4 hst3 ?turn3 ?done3
        case turn3 =>
          intro k v u3 nx3 h3 tk3 own3 hv3 hoff3 hmem3 hJ3 F3 N3
          obtain ⟨pv3, pn3, add3, tl3, rfl, he3, hd3, hne3, hR3, hl3⟩ := hJ3
          have hNo3 := ne_app hne3 hoff3 (List.mem_cons_self ..)
          simp only [List.cons_append] at N3
          have into3 : ∀ p ∈ tl', p ∈ tl3 := fun p hp => by
            rw [he3]
            exact List.mem_append_right _ (.tail _ (.tail _ (List.mem_append_left _ (into p hp))))
          have hwl3 := into3 _ hwl'
          have hpl3 := into3 _ hpl'
          have hps3 : PricesAre tl3 pvs P := hps.mono fun p hp => into3 p (hKn p hp)
          have hbase := ok.base3
          have hcrowd : (crowdOf (homeRows ws.length P base nets i) j).natAbs < 10 ^ 100 := ok.bound i (by omega) j (by omega)
          have hk4 : k < 4 := (List.getElem?_eq_some_iff.mp hv3).1
          obtain ⟨b, tb3, rfl, hb3⟩ := bytes_at hv3
          obtain ⟨net, hnet, htn⟩ := hn k b hb3
          have hnr := ok.nets1.2 net (List.mem_of_getElem? hnet)
          have hl3' : pv3.length ≤ 4 * j + k := hl3
          have hj3 : j < ws.length := by omega
          have hmem3' : (tl, tupO #[.bytes b0 x0, .bytes b1 x1, .bytes b2 x2, .bytes b3 x3] nt) ∈ tl3 := into3 _ htl'
          have hcl : ∀ y, [Str.ofString "text", Str.ofString "there", Str.ofString "more", Str.ofString "name"].contains y = false → ¬ y = Str.ofString "text" ∧ ¬ y = Str.ofString "there" ∧ ¬ y = Str.ofString "more" ∧ ¬ y = Str.ofString "name" := fun y hy =>
            ⟨ne_st hy (by decide), ne_st hy (by decide), ne_st hy (by decide), ne_st hy (by decide)⟩
          (repeat' (first | (unfold Hold; first | (k_here; (with_reducible show wpAny _ _ (call (Value.type "int") [Value.str (fmt _) _]) _ _ _); refine call_fmt (by with_reducible assumption) ?_; intro t' tk') | ((with_reducible show wpAny _ _ (eval (Expr.ListComp _ _ _ _) _) _ _ _); k_dflt (refine LCg.ListComp_U (F₀ := by k_asm) (by with_unfolding_all rfl) (by decide) (by rfl) (by decide) (by rfl) ?_)) | ((with_reducible show wpAny _ _ (binaryOp Operator.Mod _ _) _ _ _); refine mod_d (more_small (by assumption) (by assumption) (by assumption)) ?_; intro t' tk') | ((with_reducible show wpAny _ _ (binaryOp Operator.Mult _ _) _ _ _); (with_reducible refine mul_int ?_ (IntMulOk.of_right (pow_bits ?q1BH33 ?q2BH33))); (case q1BH33 => assumption); (case q2BH33 => assumption)) | ((with_reducible show wpAny _ _ (binaryOp Operator.Pow _ _) _ _ _); (with_reducible refine pow_int_small ?q1BH34 ?q2BH34 ?q3BH34 ?_); (case q1BH34 => omega); (case q2BH34 => omega); (case q3BH34 => omega)) | (k_here; (with_reducible show wpAny _ _ (subscriptTail (Expr.Subscript (Expr.Name (Str.ofString "prices") _) _ _) _ (Value.ref _) (Value.int _ _)) _ _ _); k_dflt (refine' cell_at ?q1BH35 ?q2BH35 ?q3BH35 ?q4BH35 ?q5BH35 ?q6BH35 ?q7BH35 ?q8BH35 ?_; (case q2BH35 => assumption); (case q1BH35 => k_asm); (case q3BH35 => assumption); (case q4BH35 => assumption); (case q5BH35 => omega); (case q6BH35 => omega); (case q7BH35 => omega); (case q8BH35 => with_unfolding_all rfl); intro t' h1' h2')) | (k_here; (with_reducible show wpAny _ _ (subscriptTail (Expr.Name (Str.ofString "prices") _) _ (Value.ref _) (Value.int _ _)) _ _ _); k_dflt (refine' row_at ?q1BH36 ?q2BH36 ?q3BH36 ?q4BH36 ?q5BH36 ?q6BH36 ?q7BH36 ?_; (case q1BH36 => assumption); (case q4BH36 => assumption); (case q2BH36 => assumption); (case q3BH36 => k_asm); (case q5BH36 => omega); (case q6BH36 => omega); (case q7BH36 => with_unfolding_all rfl); intro a' us' n' row' hm' hI' hr' hc' hd' he')) | ((with_reducible show wpAny _ _ (call (Value.type _) _) _ _ _); (rename Fr _ _ _ _ => F'); (rename News _ _ _ _ => N'); (with_unfolding_all refine range1_rows F' N' ?_; intro _ _ _ _ _ _ _ _ _)) | (k_here; (with_reducible show wpAny _ _ (call (Value.builtin _) [Value.int _ _, Value.int _ _]) _ _ _); k_dflt (refine' min2 ?q1BH38 ?q2BH38 ?q3BH38 ?_; (case q1BH38 => k_asm); (case q2BH38 => k_asm); (case q3BH38 => with_unfolding_all rfl); k_whole); intro h' tk' t' F' N') | (k_here; (with_reducible show wpAny _ _ (call (Value.builtin _) [Value.int _ _, Value.int _ _, Value.int _ _]) _ _ _); k_dflt (refine' min3 ?q1BH39 ?q2BH39 ?q3BH39 ?_; (case q1BH39 => k_asm); (case q2BH39 => k_asm); (case q3BH39 => with_unfolding_all rfl); k_whole); intro h' tk' t' F' N') | (k_here; (with_reducible show wpAny _ _ (subscriptTail (Expr.Name (Str.ofString "words") _) _ (Value.ref _) (Value.int _ _)) _ _ _); k_dflt (refine' word_at ?q1BH310 ?q2BH310 ?q3BH310 ?q4BH310 ?q5BH310 ?q6BH310 ?q7BH310 ?_; (case q1BH310 => assumption); (case q2BH310 => assumption); (case q3BH310 => k_asm); (case q4BH310 => k_mem); (case q5BH310 => omega); (case q6BH310 => omega); (case q7BH310 => with_unfolding_all rfl); intro x' t' hx' hl' hp')) | ((with_reducible show wpAny _ _ (exec (Stmt.For _ _ _ _ _) _) _ _ _); (rename Fr _ _ _ _ => lF'); (with_unfolding_all refine' For_invVF lF' ?k1BH311 ?k2BH311 ?_; (case k1BH311 => exact rfl); (case k2BH311 => exact rfl); k_whole)) | ((with_reducible show wpAny _ _ (exec (Stmt.For _ _ _ _ _) _) _ _ _); (rename Fr _ _ _ _ => lF'); (with_unfolding_all refine' For_invVF lF' ?k1BH312 ?k2BH312 ?_; (case k1BH312 => exact rfl); (case k2BH312 => exact rfl); k_whole)) | (k_here; (with_reducible show wpAny _ _ (call (Value.ref _) [Value.ref _, Value.str _ _]) _ _ _); with_unfolding_all (refine' use_getall ?k1BH313 ?k2BH313 ?k3BH313 ?k4BH313 ?k5BH313 ?k6BH313 ?k7BH313 ?k8BH313 ?k9BH313 ?kABH313 ?kBBH313 ?kCBH313 ?kDBH313 ?kEBH313 ?kFBH313 ?kGBH313 ?_; (case k1BH313 => k_asm); (case k2BH313 => k_asm); (case k3BH313 => k_asm); (case k4BH313 => k_asm); (case k5BH313 => k_asm); (case k6BH313 => first | exact rfl | assumption); (case k7BH313 => ktr_room); (case k8BH313 => ktr_units); (case k9BH313 => k_mem); (case kABH313 => k_mem); (case kBBH313 => k_mem); (case kCBH313 => first | assumption | (refine RowsOK.app ?_; assumption) | (refine RowsOK.cons (RowsOK.app ?_); assumption) | (refine RowsOK.cons (RowsOK.cons (RowsOK.app ?_)); assumption)); (case kDBH313 => assumption); (case kEBH313 => omega); (case kFBH313 => assumption); (case kGBH313 => omega); k_whole); intro r' ys' n' h' tk' l1 hS' hZ' F' N'; (try dsimp only); (try k_sweep)) | ((with_reducible show wpAny _ _ (call (Value.ref _) _) _ _ _); with_unfolding_all (refine' use_paren ?k1BH314 ?k2BH314 ?k3BH314 ?k4BH314 ?k5BH314 ?k6BH314 ?k7BH314 ?k8BH314 ?k9BH314 ?_; (case k1BH314 => k_asm); (case k2BH314 => k_asm); (case k3BH314 => k_asm); (case k4BH314 => k_asm); (case k5BH314 => k_asm); (case k6BH314 => first | exact rfl | assumption); (case k7BH314 => ktr_room); (case k8BH314 => ktr_units); (case k9BH314 => assumption); k_whole); intro t' h' tk' F' N'; (try dsimp only); (try k_sweep)) | fail "no block") | (k_unfold; (try dsimp only)) | (k_end; kc_close) | walk1 | (dsimp only; walk1) | (leave1; (try dsimp only)) | fail "no step"))
          all_goals (rename Fr _ _ _ _ => F5; rename News _ _ _ _ => N5)
          · rename ws[_]? = some _ => hx5
            refine end_add F5 N5 (fun y hy => ?_) hmem3' he3 hd3 hne3 hR3 hl3 (by omega) hoff3 (by assumption) (turn_in hnet (by assumption) (by assumption) (by assumption)) (ok.up _ _ hx5).1 (more_small hcrowd hbase (by assumption))
            obtain ⟨z1, z2, z3, z4⟩ := hcl y hy
            simp only [z1, z2, z3, z4, hy, if_false, Bool.false_eq_true]
          · rename ws[_]? = some _ => hx5
            refine end_add F5 N5 (fun y hy => ?_) hmem3' he3 hd3 hne3 hR3 hl3 (by omega) hoff3 (by assumption) (turn_in hnet (by assumption) (by assumption) (by assumption)) (ok.up _ _ hx5).2.1 (more_small hcrowd hbase (by assumption))
            obtain ⟨z1, z2, z3, z4⟩ := hcl y hy
            simp only [z1, z2, z3, z4, hy, if_false, Bool.false_eq_true]
          all_goals
            refine end_same F5 N5 (fun y hy => ?_) hmem3' he3 hd3 hne3 hR3 hl3 (by omega) hoff3 (turn_out hnet (by omega))
            obtain ⟨z1, z2, z3, z4⟩ := hcl y hy
            simp only [z1, z2, z3, z4, hy, if_false, Bool.false_eq_true]
        case done3 =>
          intro u3 nx3 h3 tk3 hJ3 F3 N3
          have hcl2 : ∀ y, [Str.ofString "height", Str.ofString "crowd", Str.ofString "text", Str.ofString "there", Str.ofString "more", Str.ofString "name"].contains y = false → ([Str.ofString "text", Str.ofString "there", Str.ofString "more", Str.ofString "name"].contains y = false) ∧ ¬ y = Str.ofString "height" ∧ ¬ y = Str.ofString "crowd" := fun y hy =>
            ⟨st_sub (by decide) hy, ne_st hy (by decide), ne_st hy (by decide)⟩
          (repeat' (first | (unfold Hold; first | (k_here; (with_reducible show wpAny _ _ (call (Value.type "int") [Value.str (fmt _) _]) _ _ _); refine call_fmt (by with_reducible assumption) ?_; intro t' tk') | ((with_reducible show wpAny _ _ (eval (Expr.ListComp _ _ _ _) _) _ _ _); k_dflt (refine LCg.ListComp_U (F₀ := by k_asm) (by with_unfolding_all rfl) (by decide) (by rfl) (by decide) (by rfl) ?_)) | ((with_reducible show wpAny _ _ (binaryOp Operator.Mod _ _) _ _ _); refine mod_d (more_small (by assumption) (by assumption) (by assumption)) ?_; intro t' tk') | ((with_reducible show wpAny _ _ (binaryOp Operator.Mult _ _) _ _ _); (with_reducible refine mul_int ?_ (IntMulOk.of_right (pow_bits ?q1BH33 ?q2BH33))); (case q1BH33 => assumption); (case q2BH33 => assumption)) | ((with_reducible show wpAny _ _ (binaryOp Operator.Pow _ _) _ _ _); (with_reducible refine pow_int_small ?q1BH34 ?q2BH34 ?q3BH34 ?_); (case q1BH34 => omega); (case q2BH34 => omega); (case q3BH34 => omega)) | (k_here; (with_reducible show wpAny _ _ (subscriptTail (Expr.Subscript (Expr.Name (Str.ofString "prices") _) _ _) _ (Value.ref _) (Value.int _ _)) _ _ _); k_dflt (refine' cell_at ?q1BH35 ?q2BH35 ?q3BH35 ?q4BH35 ?q5BH35 ?q6BH35 ?q7BH35 ?q8BH35 ?_; (case q2BH35 => assumption); (case q1BH35 => k_asm); (case q3BH35 => assumption); (case q4BH35 => assumption); (case q5BH35 => omega); (case q6BH35 => omega); (case q7BH35 => omega); (case q8BH35 => with_unfolding_all rfl); intro t' h1' h2')) | (k_here; (with_reducible show wpAny _ _ (subscriptTail (Expr.Name (Str.ofString "prices") _) _ (Value.ref _) (Value.int _ _)) _ _ _); k_dflt (refine' row_at ?q1BH36 ?q2BH36 ?q3BH36 ?q4BH36 ?q5BH36 ?q6BH36 ?q7BH36 ?_; (case q1BH36 => assumption); (case q4BH36 => assumption); (case q2BH36 => assumption); (case q3BH36 => k_asm); (case q5BH36 => omega); (case q6BH36 => omega); (case q7BH36 => with_unfolding_all rfl); intro a' us' n' row' hm' hI' hr' hc' hd' he')) | ((with_reducible show wpAny _ _ (call (Value.type _) _) _ _ _); (rename Fr _ _ _ _ => F'); (rename News _ _ _ _ => N'); (with_unfolding_all refine range1_rows F' N' ?_; intro _ _ _ _ _ _ _ _ _)) | (k_here; (with_reducible show wpAny _ _ (call (Value.builtin _) [Value.int _ _, Value.int _ _]) _ _ _); k_dflt (refine' min2 ?q1BH38 ?q2BH38 ?q3BH38 ?_; (case q1BH38 => k_asm); (case q2BH38 => k_asm); (case q3BH38 => with_unfolding_all rfl); k_whole); intro h' tk' t' F' N') | (k_here; (with_reducible show wpAny _ _ (call (Value.builtin _) [Value.int _ _, Value.int _ _, Value.int _ _]) _ _ _); k_dflt (refine' min3 ?q1BH39 ?q2BH39 ?q3BH39 ?_; (case q1BH39 => k_asm); (case q2BH39 => k_asm); (case q3BH39 => with_unfolding_all rfl); k_whole); intro h' tk' t' F' N') | (k_here; (with_reducible show wpAny _ _ (subscriptTail (Expr.Name (Str.ofString "words") _) _ (Value.ref _) (Value.int _ _)) _ _ _); k_dflt (refine' word_at ?q1BH310 ?q2BH310 ?q3BH310 ?q4BH310 ?q5BH310 ?q6BH310 ?q7BH310 ?_; (case q1BH310 => assumption); (case q2BH310 => assumption); (case q3BH310 => k_asm); (case q4BH310 => k_mem); (case q5BH310 => omega); (case q6BH310 => omega); (case q7BH310 => with_unfolding_all rfl); intro x' t' hx' hl' hp')) | ((with_reducible show wpAny _ _ (exec (Stmt.For _ _ _ _ _) _) _ _ _); (rename Fr _ _ _ _ => lF'); (with_unfolding_all refine' For_invVF lF' ?k1BH311 ?k2BH311 ?_; (case k1BH311 => exact rfl); (case k2BH311 => exact rfl); k_whole)) | ((with_reducible show wpAny _ _ (exec (Stmt.For _ _ _ _ _) _) _ _ _); (rename Fr _ _ _ _ => lF'); (with_unfolding_all refine' For_invVF lF' ?k1BH312 ?k2BH312 ?_; (case k1BH312 => exact rfl); (case k2BH312 => exact rfl); k_whole)) | (k_here; (with_reducible show wpAny _ _ (call (Value.ref _) [Value.ref _, Value.str _ _]) _ _ _); with_unfolding_all (refine' use_getall ?k1BH313 ?k2BH313 ?k3BH313 ?k4BH313 ?k5BH313 ?k6BH313 ?k7BH313 ?k8BH313 ?k9BH313 ?kABH313 ?kBBH313 ?kCBH313 ?kDBH313 ?kEBH313 ?kFBH313 ?kGBH313 ?_; (case k1BH313 => k_asm); (case k2BH313 => k_asm); (case k3BH313 => k_asm); (case k4BH313 => k_asm); (case k5BH313 => k_asm); (case k6BH313 => first | exact rfl | assumption); (case k7BH313 => ktr_room); (case k8BH313 => ktr_units); (case k9BH313 => k_mem); (case kABH313 => k_mem); (case kBBH313 => k_mem); (case kCBH313 => first | assumption | (refine RowsOK.app ?_; assumption) | (refine RowsOK.cons (RowsOK.app ?_); assumption) | (refine RowsOK.cons (RowsOK.cons (RowsOK.app ?_)); assumption)); (case kDBH313 => assumption); (case kEBH313 => omega); (case kFBH313 => assumption); (case kGBH313 => omega); k_whole); intro r' ys' n' h' tk' l1 hS' hZ' F' N'; (try dsimp only); (try k_sweep)) | ((with_reducible show wpAny _ _ (call (Value.ref _) _) _ _ _); with_unfolding_all (refine' use_paren ?k1BH314 ?k2BH314 ?k3BH314 ?k4BH314 ?k5BH314 ?k6BH314 ?k7BH314 ?k8BH314 ?k9BH314 ?_; (case k1BH314 => k_asm); (case k2BH314 => k_asm); (case k3BH314 => k_asm); (case k4BH314 => k_asm); (case k5BH314 => k_asm); (case k6BH314 => first | exact rfl | assumption); (case k7BH314 => ktr_room); (case k8BH314 => ktr_units); (case k9BH314 => assumption); k_whole); intro t' h' tk' F' N'; (try dsimp only); (try k_sweep)) | fail "no block") | (k_unfold; (try dsimp only)) | (k_end; kc_close) | walk1 | (dsimp only; walk1) | (leave1; (try dsimp only)) | fail "no step"))
          rename Fr _ _ _ _ => F5
          rename News _ _ _ _ => N5
          refine end_mid hJ3 F5 N5 (fun y hy => ?_) he9 hd9 hoff9 (fun p hp => .tail _ (.tail _ hp)) (rowsM_succ ok.nets1.1) (by show 4 * j + 4 ≤ 4 * (j + 1); omega)
          obtain ⟨z1, z2, z3⟩ := hcl2 y hy
          simp only [z1, z2, z3, hy, if_false, Bool.false_eq_true]
    case done2 =>
      clear l9 rgX hst N9 F9 hmin
      intro u2 nx2 h2 tk2 hJ2 F2 N2
      obtain ⟨pv2, pn2, M2, N4, hR2, hl2, into2, hHO2, hD2, hDH, hoff2⟩ := pj_out hJ2 N2 hNe hoff
      have hwl2 := into2 _ hwl'
      clear N2 hJ2
      have hvl : hv.length = i + 1 := by rw [hI.length]; simp [homeVals]
      have hR3 : RowsOK ws M2 pv2 (homeRows ws.length P base nets (i + 1)) := hR2
      have hfew := ok.few (i + 1) (by omega)
      (repeat' (first | (unfold Hold; first | (k_here; (with_reducible show wpAny _ _ (call (Value.type "int") [Value.str (fmt _) _]) _ _ _); refine call_fmt (by with_reducible assumption) ?_; intro t' tk') | ((with_reducible show wpAny _ _ (eval (Expr.ListComp _ _ _ _) _) _ _ _); k_dflt (refine LCg.ListComp_U (F₀ := by k_asm) (by with_unfolding_all rfl) (by decide) (by rfl) (by decide) (by rfl) ?_)) | ((with_reducible show wpAny _ _ (binaryOp Operator.Mod _ _) _ _ _); refine mod_d (more_small (by assumption) (by assumption) (by assumption)) ?_; intro t' tk') | ((with_reducible show wpAny _ _ (binaryOp Operator.Mult _ _) _ _ _); (with_reducible refine mul_int ?_ (IntMulOk.of_right (pow_bits ?q1BH33 ?q2BH33))); (case q1BH33 => assumption); (case q2BH33 => assumption)) | ((with_reducible show wpAny _ _ (binaryOp Operator.Pow _ _) _ _ _); (with_reducible refine pow_int_small ?q1BH34 ?q2BH34 ?q3BH34 ?_); (case q1BH34 => omega); (case q2BH34 => omega); (case q3BH34 => omega)) | (k_here; (with_reducible show wpAny _ _ (subscriptTail (Expr.Subscript (Expr.Name (Str.ofString "prices") _) _ _) _ (Value.ref _) (Value.int _ _)) _ _ _); k_dflt (refine' cell_at ?q1BH35 ?q2BH35 ?q3BH35 ?q4BH35 ?q5BH35 ?q6BH35 ?q7BH35 ?q8BH35 ?_; (case q2BH35 => assumption); (case q1BH35 => k_asm); (case q3BH35 => assumption); (case q4BH35 => assumption); (case q5BH35 => omega); (case q6BH35 => omega); (case q7BH35 => omega); (case q8BH35 => with_unfolding_all rfl); intro t' h1' h2')) | (k_here; (with_reducible show wpAny _ _ (subscriptTail (Expr.Name (Str.ofString "prices") _) _ (Value.ref _) (Value.int _ _)) _ _ _); k_dflt (refine' row_at ?q1BH36 ?q2BH36 ?q3BH36 ?q4BH36 ?q5BH36 ?q6BH36 ?q7BH36 ?_; (case q1BH36 => assumption); (case q4BH36 => assumption); (case q2BH36 => assumption); (case q3BH36 => k_asm); (case q5BH36 => omega); (case q6BH36 => omega); (case q7BH36 => with_unfolding_all rfl); intro a' us' n' row' hm' hI' hr' hc' hd' he')) | ((with_reducible show wpAny _ _ (call (Value.type _) _) _ _ _); (rename Fr _ _ _ _ => F'); (rename News _ _ _ _ => N'); (with_unfolding_all refine range1_rows F' N' ?_; intro _ _ _ _ _ _ _ _ _)) | (k_here; (with_reducible show wpAny _ _ (call (Value.builtin _) [Value.int _ _, Value.int _ _]) _ _ _); k_dflt (refine' min2 ?q1BH38 ?q2BH38 ?q3BH38 ?_; (case q1BH38 => k_asm); (case q2BH38 => k_asm); (case q3BH38 => with_unfolding_all rfl); k_whole); intro h' tk' t' F' N') | (k_here; (with_reducible show wpAny _ _ (call (Value.builtin _) [Value.int _ _, Value.int _ _, Value.int _ _]) _ _ _); k_dflt (refine' min3 ?q1BH39 ?q2BH39 ?q3BH39 ?_; (case q1BH39 => k_asm); (case q2BH39 => k_asm); (case q3BH39 => with_unfolding_all rfl); k_whole); intro h' tk' t' F' N') | (k_here; (with_reducible show wpAny _ _ (subscriptTail (Expr.Name (Str.ofString "words") _) _ (Value.ref _) (Value.int _ _)) _ _ _); k_dflt (refine' word_at ?q1BH310 ?q2BH310 ?q3BH310 ?q4BH310 ?q5BH310 ?q6BH310 ?q7BH310 ?_; (case q1BH310 => assumption); (case q2BH310 => assumption); (case q3BH310 => k_asm); (case q4BH310 => k_mem); (case q5BH310 => omega); (case q6BH310 => omega); (case q7BH310 => with_unfolding_all rfl); intro x' t' hx' hl' hp')) | ((with_reducible show wpAny _ _ (exec (Stmt.For _ _ _ _ _) _) _ _ _); (rename Fr _ _ _ _ => lF'); (with_unfolding_all refine' For_invVF lF' ?k1BH311 ?k2BH311 ?_; (case k1BH311 => exact rfl); (case k2BH311 => exact rfl); k_whole)) | ((with_reducible show wpAny _ _ (exec (Stmt.For _ _ _ _ _) _) _ _ _); (rename Fr _ _ _ _ => lF'); (with_unfolding_all refine' For_invVF lF' ?k1BH312 ?k2BH312 ?_; (case k1BH312 => exact rfl); (case k2BH312 => exact rfl); k_whole)) | (k_here; (with_reducible show wpAny _ _ (call (Value.ref _) [Value.ref _, Value.str _ _]) _ _ _); with_unfolding_all (refine' use_getall ?k1BH313 ?k2BH313 ?k3BH313 ?k4BH313 ?k5BH313 ?k6BH313 ?k7BH313 ?k8BH313 ?k9BH313 ?kABH313 ?kBBH313 ?kCBH313 ?kDBH313 ?kEBH313 ?kFBH313 ?kGBH313 ?_; (case k1BH313 => k_asm); (case k2BH313 => k_asm); (case k3BH313 => k_asm); (case k4BH313 => k_asm); (case k5BH313 => k_asm); (case k6BH313 => first | exact rfl | assumption); (case k7BH313 => ktr_room); (case k8BH313 => ktr_units); (case k9BH313 => k_mem); (case kABH313 => k_mem); (case kBBH313 => k_mem); (case kCBH313 => first | assumption | (refine RowsOK.app ?_; assumption) | (refine RowsOK.cons (RowsOK.app ?_); assumption) | (refine RowsOK.cons (RowsOK.cons (RowsOK.app ?_)); assumption)); (case kDBH313 => assumption); (case kEBH313 => omega); (case kFBH313 => assumption); (case kGBH313 => omega); k_whole); intro r' ys' n' h' tk' l1 hS' hZ' F' N'; (try dsimp only); (try k_sweep)) | ((with_reducible show wpAny _ _ (call (Value.ref _) _) _ _ _); with_unfolding_all (refine' use_paren ?k1BH314 ?k2BH314 ?k3BH314 ?k4BH314 ?k5BH314 ?k6BH314 ?k7BH314 ?k8BH314 ?k9BH314 ?_; (case k1BH314 => k_asm); (case k2BH314 => k_asm); (case k3BH314 => k_asm); (case k4BH314 => k_asm); (case k5BH314 => k_asm); (case k6BH314 => first | exact rfl | assumption); (case k7BH314 => ktr_room); (case k8BH314 => ktr_units); (case k9BH314 => assumption); k_whole); intro t' h' tk' F' N'; (try dsimp only); (try k_sweep)) | fail "no block") | (k_unfold; (try dsimp only)) | (k_end; kc_close) | walk1 | (dsimp only; walk1) | (leave1; (try dsimp only)) | fail "no step"))
      unfold Hold
      with_unfolding_all refine' use_head (ws := ws) (rows := homeRows ws.length P base nets (i + 1)) (vs := pv2) ?k1 ?k2 ?k3 ?k4 ?k5 ?k6 ?k7 ?k8 ?k9 ?kA ?_
      case k1 => k_asm
      case k2 => k_asm
      case k3 => k_asm
      case k4 => k_asm
      case k5 => k_asm
      case k6 => exact rfl
      case k7 => ktr_room
      case k8 => ktr_units
      case k9 => exact .tail _ (.head _)
      case kA => exact RowsOK.cons (RowsOK.cons (RowsOK.app hR3))
      k_whole
      intro x2 d2 hh2 t2 h' tk' n1 n2 F' N'
      have nx2 := n1 _ (.head _)
      have nd2 := n2 _ (.head _)
      dsimp only at nx2 nd2
      (try dsimp only)
      (try k_sweep)
      (repeat' (first | (unfold Hold; first | (k_here; (with_reducible show wpAny _ _ (call (Value.type "int") [Value.str (fmt _) _]) _ _ _); refine call_fmt (by with_reducible assumption) ?_; intro t' tk') | ((with_reducible show wpAny _ _ (eval (Expr.ListComp _ _ _ _) _) _ _ _); k_dflt (refine LCg.ListComp_U (F₀ := by k_asm) (by with_unfolding_all rfl) (by decide) (by rfl) (by decide) (by rfl) ?_)) | ((with_reducible show wpAny _ _ (binaryOp Operator.Mod _ _) _ _ _); refine mod_d (more_small (by assumption) (by assumption) (by assumption)) ?_; intro t' tk') | ((with_reducible show wpAny _ _ (binaryOp Operator.Mult _ _) _ _ _); (with_reducible refine mul_int ?_ (IntMulOk.of_right (pow_bits ?q1BH33 ?q2BH33))); (case q1BH33 => assumption); (case q2BH33 => assumption)) | ((with_reducible show wpAny _ _ (binaryOp Operator.Pow _ _) _ _ _); (with_reducible refine pow_int_small ?q1BH34 ?q2BH34 ?q3BH34 ?_); (case q1BH34 => omega); (case q2BH34 => omega); (case q3BH34 => omega)) | (k_here; (with_reducible show wpAny _ _ (subscriptTail (Expr.Subscript (Expr.Name (Str.ofString "prices") _) _ _) _ (Value.ref _) (Value.int _ _)) _ _ _); k_dflt (refine' cell_at ?q1BH35 ?q2BH35 ?q3BH35 ?q4BH35 ?q5BH35 ?q6BH35 ?q7BH35 ?q8BH35 ?_; (case q2BH35 => assumption); (case q1BH35 => k_asm); (case q3BH35 => assumption); (case q4BH35 => assumption); (case q5BH35 => omega); (case q6BH35 => omega); (case q7BH35 => omega); (case q8BH35 => with_unfolding_all rfl); intro t' h1' h2')) | (k_here; (with_reducible show wpAny _ _ (subscriptTail (Expr.Name (Str.ofString "prices") _) _ (Value.ref _) (Value.int _ _)) _ _ _); k_dflt (refine' row_at ?q1BH36 ?q2BH36 ?q3BH36 ?q4BH36 ?q5BH36 ?q6BH36 ?q7BH36 ?_; (case q1BH36 => assumption); (case q4BH36 => assumption); (case q2BH36 => assumption); (case q3BH36 => k_asm); (case q5BH36 => omega); (case q6BH36 => omega); (case q7BH36 => with_unfolding_all rfl); intro a' us' n' row' hm' hI' hr' hc' hd' he')) | ((with_reducible show wpAny _ _ (call (Value.type _) _) _ _ _); (rename Fr _ _ _ _ => F'); (rename News _ _ _ _ => N'); (with_unfolding_all refine range1_rows F' N' ?_; intro _ _ _ _ _ _ _ _ _)) | (k_here; (with_reducible show wpAny _ _ (call (Value.builtin _) [Value.int _ _, Value.int _ _]) _ _ _); k_dflt (refine' min2 ?q1BH38 ?q2BH38 ?q3BH38 ?_; (case q1BH38 => k_asm); (case q2BH38 => k_asm); (case q3BH38 => with_unfolding_all rfl); k_whole); intro h' tk' t' F' N') | (k_here; (with_reducible show wpAny _ _ (call (Value.builtin _) [Value.int _ _, Value.int _ _, Value.int _ _]) _ _ _); k_dflt (refine' min3 ?q1BH39 ?q2BH39 ?q3BH39 ?_; (case q1BH39 => k_asm); (case q2BH39 => k_asm); (case q3BH39 => with_unfolding_all rfl); k_whole); intro h' tk' t' F' N') | (k_here; (with_reducible show wpAny _ _ (subscriptTail (Expr.Name (Str.ofString "words") _) _ (Value.ref _) (Value.int _ _)) _ _ _); k_dflt (refine' word_at ?q1BH310 ?q2BH310 ?q3BH310 ?q4BH310 ?q5BH310 ?q6BH310 ?q7BH310 ?_; (case q1BH310 => assumption); (case q2BH310 => assumption); (case q3BH310 => k_asm); (case q4BH310 => k_mem); (case q5BH310 => omega); (case q6BH310 => omega); (case q7BH310 => with_unfolding_all rfl); intro x' t' hx' hl' hp')) | ((with_reducible show wpAny _ _ (exec (Stmt.For _ _ _ _ _) _) _ _ _); (rename Fr _ _ _ _ => lF'); (with_unfolding_all refine' For_invVF lF' ?k1BH311 ?k2BH311 ?_; (case k1BH311 => exact rfl); (case k2BH311 => exact rfl); k_whole)) | ((with_reducible show wpAny _ _ (exec (Stmt.For _ _ _ _ _) _) _ _ _); (rename Fr _ _ _ _ => lF'); (with_unfolding_all refine' For_invVF lF' ?k1BH312 ?k2BH312 ?_; (case k1BH312 => exact rfl); (case k2BH312 => exact rfl); k_whole)) | (k_here; (with_reducible show wpAny _ _ (call (Value.ref _) [Value.ref _, Value.str _ _]) _ _ _); with_unfolding_all (refine' use_getall ?k1BH313 ?k2BH313 ?k3BH313 ?k4BH313 ?k5BH313 ?k6BH313 ?k7BH313 ?k8BH313 ?k9BH313 ?kABH313 ?kBBH313 ?kCBH313 ?kDBH313 ?kEBH313 ?kFBH313 ?kGBH313 ?_; (case k1BH313 => k_asm); (case k2BH313 => k_asm); (case k3BH313 => k_asm); (case k4BH313 => k_asm); (case k5BH313 => k_asm); (case k6BH313 => first | exact rfl | assumption); (case k7BH313 => ktr_room); (case k8BH313 => ktr_units); (case k9BH313 => k_mem); (case kABH313 => k_mem); (case kBBH313 => k_mem); (case kCBH313 => first | assumption | (refine RowsOK.app ?_; assumption) | (refine RowsOK.cons (RowsOK.app ?_); assumption) | (refine RowsOK.cons (RowsOK.cons (RowsOK.app ?_)); assumption)); (case kDBH313 => assumption); (case kEBH313 => omega); (case kFBH313 => assumption); (case kGBH313 => omega); k_whole); intro r' ys' n' h' tk' l1 hS' hZ' F' N'; (try dsimp only); (try k_sweep)) | ((with_reducible show wpAny _ _ (call (Value.ref _) _) _ _ _); with_unfolding_all (refine' use_paren ?k1BH314 ?k2BH314 ?k3BH314 ?k4BH314 ?k5BH314 ?k6BH314 ?k7BH314 ?k8BH314 ?k9BH314 ?_; (case k1BH314 => k_asm); (case k2BH314 => k_asm); (case k3BH314 => k_asm); (case k4BH314 => k_asm); (case k5BH314 => k_asm); (case k6BH314 => first | exact rfl | assumption); (case k7BH314 => ktr_room); (case k8BH314 => ktr_units); (case k9BH314 => assumption); k_whole); intro t' h' tk' F' N'; (try dsimp only); (try k_sweep)) | fail "no block") | (k_unfold; (try dsimp only)) | (k_end; kc_close) | walk1 | (dsimp only; walk1) | (leave1; (try dsimp only)) | fail "no step"))
      unfold Hold
      with_unfolding_all refine' use_getall (rows := homeRows ws.length P base nets (i + 1)) ?k1 ?k2 ?k3 ?k4 ?k5 ?k6 ?k7 ?k8 ?k9 ?kA ?kB ?kC ?kD ?kE ?kF ?kG ?_
      case k1 => k_asm
      case k2 => k_asm
      case k3 => k_asm
      case k4 => k_asm
      case k5 => k_asm
      case k6 => exact rfl
      case k7 => ktr_room
      case k8 => ktr_units
      case k9 => exact .head _
      case kA => exact .tail _ (.head _)
      case kB => exact .tail _ (.tail _ (.tail _ (.head _)))
      case kC => exact RowsOK.cons (RowsOK.cons (RowsOK.cons (RowsOK.cons (RowsOK.app hR3))))
      case kD => assumption
      case kE => omega
      case kF => assumption
      case kG => omega
      k_whole
      intro r' ys' n' h' tk' l9 hS' hZ' F' N'
      have nr2 := l9 _ (.tail _ (.tail _ (.head _)))
      dsimp only at nr2
      (try dsimp only)
      (try k_sweep)
      (repeat' (first | (unfold Hold; first | (k_here; (with_reducible show wpAny _ _ (call (Value.type "int") [Value.str (fmt _) _]) _ _ _); refine call_fmt (by with_reducible assumption) ?_; intro t' tk') | ((with_reducible show wpAny _ _ (eval (Expr.ListComp _ _ _ _) _) _ _ _); k_dflt (refine LCg.ListComp_U (F₀ := by k_asm) (by with_unfolding_all rfl) (by decide) (by rfl) (by decide) (by rfl) ?_)) | ((with_reducible show wpAny _ _ (binaryOp Operator.Mod _ _) _ _ _); refine mod_d (more_small (by assumption) (by assumption) (by assumption)) ?_; intro t' tk') | ((with_reducible show wpAny _ _ (binaryOp Operator.Mult _ _) _ _ _); (with_reducible refine mul_int ?_ (IntMulOk.of_right (pow_bits ?q1BH33 ?q2BH33))); (case q1BH33 => assumption); (case q2BH33 => assumption)) | ((with_reducible show wpAny _ _ (binaryOp Operator.Pow _ _) _ _ _); (with_reducible refine pow_int_small ?q1BH34 ?q2BH34 ?q3BH34 ?_); (case q1BH34 => omega); (case q2BH34 => omega); (case q3BH34 => omega)) | (k_here; (with_reducible show wpAny _ _ (subscriptTail (Expr.Subscript (Expr.Name (Str.ofString "prices") _) _ _) _ (Value.ref _) (Value.int _ _)) _ _ _); k_dflt (refine' cell_at ?q1BH35 ?q2BH35 ?q3BH35 ?q4BH35 ?q5BH35 ?q6BH35 ?q7BH35 ?q8BH35 ?_; (case q2BH35 => assumption); (case q1BH35 => k_asm); (case q3BH35 => assumption); (case q4BH35 => assumption); (case q5BH35 => omega); (case q6BH35 => omega); (case q7BH35 => omega); (case q8BH35 => with_unfolding_all rfl); intro t' h1' h2')) | (k_here; (with_reducible show wpAny _ _ (subscriptTail (Expr.Name (Str.ofString "prices") _) _ (Value.ref _) (Value.int _ _)) _ _ _); k_dflt (refine' row_at ?q1BH36 ?q2BH36 ?q3BH36 ?q4BH36 ?q5BH36 ?q6BH36 ?q7BH36 ?_; (case q1BH36 => assumption); (case q4BH36 => assumption); (case q2BH36 => assumption); (case q3BH36 => k_asm); (case q5BH36 => omega); (case q6BH36 => omega); (case q7BH36 => with_unfolding_all rfl); intro a' us' n' row' hm' hI' hr' hc' hd' he')) | ((with_reducible show wpAny _ _ (call (Value.type _) _) _ _ _); (rename Fr _ _ _ _ => F'); (rename News _ _ _ _ => N'); (with_unfolding_all refine range1_rows F' N' ?_; intro _ _ _ _ _ _ _ _ _)) | (k_here; (with_reducible show wpAny _ _ (call (Value.builtin _) [Value.int _ _, Value.int _ _]) _ _ _); k_dflt (refine' min2 ?q1BH38 ?q2BH38 ?q3BH38 ?_; (case q1BH38 => k_asm); (case q2BH38 => k_asm); (case q3BH38 => with_unfolding_all rfl); k_whole); intro h' tk' t' F' N') | (k_here; (with_reducible show wpAny _ _ (call (Value.builtin _) [Value.int _ _, Value.int _ _, Value.int _ _]) _ _ _); k_dflt (refine' min3 ?q1BH39 ?q2BH39 ?q3BH39 ?_; (case q1BH39 => k_asm); (case q2BH39 => k_asm); (case q3BH39 => with_unfolding_all rfl); k_whole); intro h' tk' t' F' N') | (k_here; (with_reducible show wpAny _ _ (subscriptTail (Expr.Name (Str.ofString "words") _) _ (Value.ref _) (Value.int _ _)) _ _ _); k_dflt (refine' word_at ?q1BH310 ?q2BH310 ?q3BH310 ?q4BH310 ?q5BH310 ?q6BH310 ?q7BH310 ?_; (case q1BH310 => assumption); (case q2BH310 => assumption); (case q3BH310 => k_asm); (case q4BH310 => k_mem); (case q5BH310 => omega); (case q6BH310 => omega); (case q7BH310 => with_unfolding_all rfl); intro x' t' hx' hl' hp')) | ((with_reducible show wpAny _ _ (exec (Stmt.For _ _ _ _ _) _) _ _ _); (rename Fr _ _ _ _ => lF'); (with_unfolding_all refine' For_invVF lF' ?k1BH311 ?k2BH311 ?_; (case k1BH311 => exact rfl); (case k2BH311 => exact rfl); k_whole)) | ((with_reducible show wpAny _ _ (exec (Stmt.For _ _ _ _ _) _) _ _ _); (rename Fr _ _ _ _ => lF'); (with_unfolding_all refine' For_invVF lF' ?k1BH312 ?k2BH312 ?_; (case k1BH312 => exact rfl); (case k2BH312 => exact rfl); k_whole)) | (k_here; (with_reducible show wpAny _ _ (call (Value.ref _) [Value.ref _, Value.str _ _]) _ _ _); with_unfolding_all (refine' use_getall ?k1BH313 ?k2BH313 ?k3BH313 ?k4BH313 ?k5BH313 ?k6BH313 ?k7BH313 ?k8BH313 ?k9BH313 ?kABH313 ?kBBH313 ?kCBH313 ?kDBH313 ?kEBH313 ?kFBH313 ?kGBH313 ?_; (case k1BH313 => k_asm); (case k2BH313 => k_asm); (case k3BH313 => k_asm); (case k4BH313 => k_asm); (case k5BH313 => k_asm); (case k6BH313 => first | exact rfl | assumption); (case k7BH313 => ktr_room); (case k8BH313 => ktr_units); (case k9BH313 => k_mem); (case kABH313 => k_mem); (case kBBH313 => k_mem); (case kCBH313 => first | assumption | (refine RowsOK.app ?_; assumption) | (refine RowsOK.cons (RowsOK.app ?_); assumption) | (refine RowsOK.cons (RowsOK.cons (RowsOK.app ?_)); assumption)); (case kDBH313 => assumption); (case kEBH313 => omega); (case kFBH313 => assumption); (case kGBH313 => omega); k_whole); intro r' ys' n' h' tk' l1 hS' hZ' F' N'; (try dsimp only); (try k_sweep)) | ((with_reducible show wpAny _ _ (call (Value.ref _) _) _ _ _); with_unfolding_all (refine' use_paren ?k1BH314 ?k2BH314 ?k3BH314 ?k4BH314 ?k5BH314 ?k6BH314 ?k7BH314 ?k8BH314 ?k9BH314 ?_; (case k1BH314 => k_asm); (case k2BH314 => k_asm); (case k3BH314 => k_asm); (case k4BH314 => k_asm); (case k5BH314 => k_asm); (case k6BH314 => first | exact rfl | assumption); (case k7BH314 => ktr_room); (case k8BH314 => ktr_units); (case k9BH314 => assumption); k_whole); intro t' h' tk' F' N'; (try dsimp only); (try k_sweep)) | fail "no block") | (k_unfold; (try dsimp only)) | (k_end; kc_close) | walk1 | (dsimp only; walk1) | (leave1; (try dsimp only)) | fail "no step"))
      unfold Hold
      rename Fr _ _ _ _ => lF'
      rename News _ _ _ _ => lN'
      have hlen' : ys'.length = ((List.filter (fun r => r.1 == (0 : Int).toNat) (homeRows ws.length P base nets (i + 1))).map (·.2)).length := by rw [hS'.length, List.length_map]
      have hshort : ((List.filter (fun r => r.1 == (0 : Int).toNat) (homeRows ws.length P base nets (i + 1))).map (·.2)).length ≤ 100 := by
        rw [List.length_map]; exact Nat.le_trans (List.length_filter_le ..) hfew
      k_dflt refine LCg.CompSrc.ledger (by rfl) lF' lN' (List.Mem.head _) (by rw [sizeLine_eq, List.size_toArray]; omega) ?_
      intro g8
      have e8 : ys'.toArray.size = ys'.length := by simp
      rw [e8]
      refine restU_gen (fun i' acc => IntsAre acc (((List.filter (fun r => r.1 == (0 : Int).toNat) (homeRows ws.length P base nets (i + 1))).map (·.2)).take i')) .nil ?_ ?_
      · intro i' v I oI C oC D8 m₂ acc h8 tk8 E8 hi' hv' hY hC hx8 F8 N8 off8 ne8
        obtain ⟨k8, tv8, hk8, rfl⟩ := strs_at hS' (by simpa using hv')
        have hb8 := hZ' k8 (List.mem_of_getElem? hk8)
        (repeat' (first | (unfold Hold; first | (k_here; (with_reducible show wpAny _ _ (call (Value.type "int") [Value.str (fmt _) _]) _ _ _); refine call_fmt (by with_reducible assumption) ?_; intro t' tk') | ((with_reducible show wpAny _ _ (eval (Expr.ListComp _ _ _ _) _) _ _ _); k_dflt (refine LCg.ListComp_U (F₀ := by k_asm) (by with_unfolding_all rfl) (by decide) (by rfl) (by decide) (by rfl) ?_)) | ((with_reducible show wpAny _ _ (binaryOp Operator.Mod _ _) _ _ _); refine mod_d (more_small (by assumption) (by assumption) (by assumption)) ?_; intro t' tk') | ((with_reducible show wpAny _ _ (binaryOp Operator.Mult _ _) _ _ _); (with_reducible refine mul_int ?_ (IntMulOk.of_right (pow_bits ?q1BH33 ?q2BH33))); (case q1BH33 => assumption); (case q2BH33 => assumption)) | ((with_reducible show wpAny _ _ (binaryOp Operator.Pow _ _) _ _ _); (with_reducible refine pow_int_small ?q1BH34 ?q2BH34 ?q3BH34 ?_); (case q1BH34 => omega); (case q2BH34 => omega); (case q3BH34 => omega)) | (k_here; (with_reducible show wpAny _ _ (subscriptTail (Expr.Subscript (Expr.Name (Str.ofString "prices") _) _ _) _ (Value.ref _) (Value.int _ _)) _ _ _); k_dflt (refine' cell_at ?q1BH35 ?q2BH35 ?q3BH35 ?q4BH35 ?q5BH35 ?q6BH35 ?q7BH35 ?q8BH35 ?_; (case q2BH35 => assumption); (case q1BH35 => k_asm); (case q3BH35 => assumption); (case q4BH35 => assumption); (case q5BH35 => omega); (case q6BH35 => omega); (case q7BH35 => omega); (case q8BH35 => with_unfolding_all rfl); intro t' h1' h2')) | (k_here; (with_reducible show wpAny _ _ (subscriptTail (Expr.Name (Str.ofString "prices") _) _ (Value.ref _) (Value.int _ _)) _ _ _); k_dflt (refine' row_at ?q1BH36 ?q2BH36 ?q3BH36 ?q4BH36 ?q5BH36 ?q6BH36 ?q7BH36 ?_; (case q1BH36 => assumption); (case q4BH36 => assumption); (case q2BH36 => assumption); (case q3BH36 => k_asm); (case q5BH36 => omega); (case q6BH36 => omega); (case q7BH36 => with_unfolding_all rfl); intro a' us' n' row' hm' hI' hr' hc' hd' he')) | ((with_reducible show wpAny _ _ (call (Value.type _) _) _ _ _); (rename Fr _ _ _ _ => F'); (rename News _ _ _ _ => N'); (with_unfolding_all refine range1_rows F' N' ?_; intro _ _ _ _ _ _ _ _ _)) | (k_here; (with_reducible show wpAny _ _ (call (Value.builtin _) [Value.int _ _, Value.int _ _]) _ _ _); k_dflt (refine' min2 ?q1BH38 ?q2BH38 ?q3BH38 ?_; (case q1BH38 => k_asm); (case q2BH38 => k_asm); (case q3BH38 => with_unfolding_all rfl); k_whole); intro h' tk' t' F' N') | (k_here; (with_reducible show wpAny _ _ (call (Value.builtin _) [Value.int _ _, Value.int _ _, Value.int _ _]) _ _ _); k_dflt (refine' min3 ?q1BH39 ?q2BH39 ?q3BH39 ?_; (case q1BH39 => k_asm); (case q2BH39 => k_asm); (case q3BH39 => with_unfolding_all rfl); k_whole); intro h' tk' t' F' N') | (k_here; (with_reducible show wpAny _ _ (subscriptTail (Expr.Name (Str.ofString "words") _) _ (Value.ref _) (Value.int _ _)) _ _ _); k_dflt (refine' word_at ?q1BH310 ?q2BH310 ?q3BH310 ?q4BH310 ?q5BH310 ?q6BH310 ?q7BH310 ?_; (case q1BH310 => assumption); (case q2BH310 => assumption); (case q3BH310 => k_asm); (case q4BH310 => k_mem); (case q5BH310 => omega); (case q6BH310 => omega); (case q7BH310 => with_unfolding_all rfl); intro x' t' hx' hl' hp')) | ((with_reducible show wpAny _ _ (exec (Stmt.For _ _ _ _ _) _) _ _ _); (rename Fr _ _ _ _ => lF'); (with_unfolding_all refine' For_invVF lF' ?k1BH311 ?k2BH311 ?_; (case k1BH311 => exact rfl); (case k2BH311 => exact rfl); k_whole)) | ((with_reducible show wpAny _ _ (exec (Stmt.For _ _ _ _ _) _) _ _ _); (rename Fr _ _ _ _ => lF'); (with_unfolding_all refine' For_invVF lF' ?k1BH312 ?k2BH312 ?_; (case k1BH312 => exact rfl); (case k2BH312 => exact rfl); k_whole)) | (k_here; (with_reducible show wpAny _ _ (call (Value.ref _) [Value.ref _, Value.str _ _]) _ _ _); with_unfolding_all (refine' use_getall ?k1BH313 ?k2BH313 ?k3BH313 ?k4BH313 ?k5BH313 ?k6BH313 ?k7BH313 ?k8BH313 ?k9BH313 ?kABH313 ?kBBH313 ?kCBH313 ?kDBH313 ?kEBH313 ?kFBH313 ?kGBH313 ?_; (case k1BH313 => k_asm); (case k2BH313 => k_asm); (case k3BH313 => k_asm); (case k4BH313 => k_asm); (case k5BH313 => k_asm); (case k6BH313 => first | exact rfl | assumption); (case k7BH313 => ktr_room); (case k8BH313 => ktr_units); (case k9BH313 => k_mem); (case kABH313 => k_mem); (case kBBH313 => k_mem); (case kCBH313 => first | assumption | (refine RowsOK.app ?_; assumption) | (refine RowsOK.cons (RowsOK.app ?_); assumption) | (refine RowsOK.cons (RowsOK.cons (RowsOK.app ?_)); assumption)); (case kDBH313 => assumption); (case kEBH313 => omega); (case kFBH313 => assumption); (case kGBH313 => omega); k_whole); intro r' ys' n' h' tk' l1 hS' hZ' F' N'; (try dsimp only); (try k_sweep)) | ((with_reducible show wpAny _ _ (call (Value.ref _) _) _ _ _); with_unfolding_all (refine' use_paren ?k1BH314 ?k2BH314 ?k3BH314 ?k4BH314 ?k5BH314 ?k6BH314 ?k7BH314 ?k8BH314 ?k9BH314 ?_; (case k1BH314 => k_asm); (case k2BH314 => k_asm); (case k3BH314 => k_asm); (case k4BH314 => k_asm); (case k5BH314 => k_asm); (case k6BH314 => first | exact rfl | assumption); (case k7BH314 => ktr_room); (case k8BH314 => ktr_units); (case k9BH314 => assumption); k_whole); intro t' h' tk' F' N'; (try dsimp only); (try k_sweep)) | fail "no block") | (k_unfold; (try dsimp only)) | (k_end; kc_close) | walk1 | (dsimp only; walk1) | (leave1; (try dsimp only)) | fail "no step"))
        refine ⟨_, _, _, rfl, by assumption, by assumption, off8, .inr ⟨_, List.Mem.head _, rfl, _, rfl⟩, rfl, ints_snoc hY hk8⟩
      · intro acc hY
        rw [hlen', List.take_length] at hY
        (repeat' (first | (unfold Hold; first | (k_here; (with_reducible show wpAny _ _ (call (Value.type "int") [Value.str (fmt _) _]) _ _ _); refine call_fmt (by with_reducible assumption) ?_; intro t' tk') | ((with_reducible show wpAny _ _ (eval (Expr.ListComp _ _ _ _) _) _ _ _); k_dflt (refine LCg.ListComp_U (F₀ := by k_asm) (by with_unfolding_all rfl) (by decide) (by rfl) (by decide) (by rfl) ?_)) | ((with_reducible show wpAny _ _ (binaryOp Operator.Mod _ _) _ _ _); refine mod_d (more_small (by assumption) (by assumption) (by assumption)) ?_; intro t' tk') | ((with_reducible show wpAny _ _ (binaryOp Operator.Mult _ _) _ _ _); (with_reducible refine mul_int ?_ (IntMulOk.of_right (pow_bits ?q1BH33 ?q2BH33))); (case q1BH33 => assumption); (case q2BH33 => assumption)) | ((with_reducible show wpAny _ _ (binaryOp Operator.Pow _ _) _ _ _); (with_reducible refine pow_int_small ?q1BH34 ?q2BH34 ?q3BH34 ?_); (case q1BH34 => omega); (case q2BH34 => omega); (case q3BH34 => omega)) | (k_here; (with_reducible show wpAny _ _ (subscriptTail (Expr.Subscript (Expr.Name (Str.ofString "prices") _) _ _) _ (Value.ref _) (Value.int _ _)) _ _ _); k_dflt (refine' cell_at ?q1BH35 ?q2BH35 ?q3BH35 ?q4BH35 ?q5BH35 ?q6BH35 ?q7BH35 ?q8BH35 ?_; (case q2BH35 => assumption); (case q1BH35 => k_asm); (case q3BH35 => assumption); (case q4BH35 => assumption); (case q5BH35 => omega); (case q6BH35 => omega); (case q7BH35 => omega); (case q8BH35 => with_unfolding_all rfl); intro t' h1' h2')) | (k_here; (with_reducible show wpAny _ _ (subscriptTail (Expr.Name (Str.ofString "prices") _) _ (Value.ref _) (Value.int _ _)) _ _ _); k_dflt (refine' row_at ?q1BH36 ?q2BH36 ?q3BH36 ?q4BH36 ?q5BH36 ?q6BH36 ?q7BH36 ?_; (case q1BH36 => assumption); (case q4BH36 => assumption); (case q2BH36 => assumption); (case q3BH36 => k_asm); (case q5BH36 => omega); (case q6BH36 => omega); (case q7BH36 => with_unfolding_all rfl); intro a' us' n' row' hm' hI' hr' hc' hd' he')) | ((with_reducible show wpAny _ _ (call (Value.type _) _) _ _ _); (rename Fr _ _ _ _ => F'); (rename News _ _ _ _ => N'); (with_unfolding_all refine range1_rows F' N' ?_; intro _ _ _ _ _ _ _ _ _)) | (k_here; (with_reducible show wpAny _ _ (call (Value.builtin _) [Value.int _ _, Value.int _ _]) _ _ _); k_dflt (refine' min2 ?q1BH38 ?q2BH38 ?q3BH38 ?_; (case q1BH38 => k_asm); (case q2BH38 => k_asm); (case q3BH38 => with_unfolding_all rfl); k_whole); intro h' tk' t' F' N') | (k_here; (with_reducible show wpAny _ _ (call (Value.builtin _) [Value.int _ _, Value.int _ _, Value.int _ _]) _ _ _); k_dflt (refine' min3 ?q1BH39 ?q2BH39 ?q3BH39 ?_; (case q1BH39 => k_asm); (case q2BH39 => k_asm); (case q3BH39 => with_unfolding_all rfl); k_whole); intro h' tk' t' F' N') | (k_here; (with_reducible show wpAny _ _ (subscriptTail (Expr.Name (Str.ofString "words") _) _ (Value.ref _) (Value.int _ _)) _ _ _); k_dflt (refine' word_at ?q1BH310 ?q2BH310 ?q3BH310 ?q4BH310 ?q5BH310 ?q6BH310 ?q7BH310 ?_; (case q1BH310 => assumption); (case q2BH310 => assumption); (case q3BH310 => k_asm); (case q4BH310 => k_mem); (case q5BH310 => omega); (case q6BH310 => omega); (case q7BH310 => with_unfolding_all rfl); intro x' t' hx' hl' hp')) | ((with_reducible show wpAny _ _ (exec (Stmt.For _ _ _ _ _) _) _ _ _); (rename Fr _ _ _ _ => lF'); (with_unfolding_all refine' For_invVF lF' ?k1BH311 ?k2BH311 ?_; (case k1BH311 => exact rfl); (case k2BH311 => exact rfl); k_whole)) | ((with_reducible show wpAny _ _ (exec (Stmt.For _ _ _ _ _) _) _ _ _); (rename Fr _ _ _ _ => lF'); (with_unfolding_all refine' For_invVF lF' ?k1BH312 ?k2BH312 ?_; (case k1BH312 => exact rfl); (case k2BH312 => exact rfl); k_whole)) | (k_here; (with_reducible show wpAny _ _ (call (Value.ref _) [Value.ref _, Value.str _ _]) _ _ _); with_unfolding_all (refine' use_getall ?k1BH313 ?k2BH313 ?k3BH313 ?k4BH313 ?k5BH313 ?k6BH313 ?k7BH313 ?k8BH313 ?k9BH313 ?kABH313 ?kBBH313 ?kCBH313 ?kDBH313 ?kEBH313 ?kFBH313 ?kGBH313 ?_; (case k1BH313 => k_asm); (case k2BH313 => k_asm); (case k3BH313 => k_asm); (case k4BH313 => k_asm); (case k5BH313 => k_asm); (case k6BH313 => first | exact rfl | assumption); (case k7BH313 => ktr_room); (case k8BH313 => ktr_units); (case k9BH313 => k_mem); (case kABH313 => k_mem); (case kBBH313 => k_mem); (case kCBH313 => first | assumption | (refine RowsOK.app ?_; assumption) | (refine RowsOK.cons (RowsOK.app ?_); assumption) | (refine RowsOK.cons (RowsOK.cons (RowsOK.app ?_)); assumption)); (case kDBH313 => assumption); (case kEBH313 => omega); (case kFBH313 => assumption); (case kGBH313 => omega); k_whole); intro r' ys' n' h' tk' l1 hS' hZ' F' N'; (try dsimp only); (try k_sweep)) | ((with_reducible show wpAny _ _ (call (Value.ref _) _) _ _ _); with_unfolding_all (refine' use_paren ?k1BH314 ?k2BH314 ?k3BH314 ?k4BH314 ?k5BH314 ?k6BH314 ?k7BH314 ?k8BH314 ?k9BH314 ?_; (case k1BH314 => k_asm); (case k2BH314 => k_asm); (case k3BH314 => k_asm); (case k4BH314 => k_asm); (case k5BH314 => k_asm); (case k6BH314 => first | exact rfl | assumption); (case k7BH314 => ktr_room); (case k8BH314 => ktr_units); (case k9BH314 => assumption); k_whole); intro t' h' tk' F' N'; (try dsimp only); (try k_sweep)) | fail "no block") | (k_unfold; (try dsimp only)) | (k_end; kc_close) | walk1 | (dsimp only; walk1) | (leave1; (try dsimp only)) | fail "no step"))
        rename Fr _ _ _ _ => F5
        rename News _ _ _ _ => N5
        refine end_out F5 N5 rfl (fun y hy1 hy => ?_) hR3 hI rfl (fun p hp => into2 p (hKn p hp)) n1 n2 hDH hHO2 hoff2
        have z0 := st_sub (a := [Str.ofString "height", Str.ofString "crowd", Str.ofString "text", Str.ofString "there", Str.ofString "more", Str.ofString "name"]) (by decide) hy
        have z1 : ¬ y = Str.ofString "pairs" := ne_st hy (by decide)
        have z2 : ¬ y = Str.ofString "step" := ne_st hy (by decide)
        simp only [z0, z1, z2, hy1, hy, if_false, Bool.false_eq_true]
  case done =>
    clear l9 rgX hst N9 F9
    intro vz u nx h tk hJ F1 N1
    obtain ⟨x, d, l, hh, tt, vs, nn, hv, hn', tl', rfl, rfl, m1, m2, m3, hR, hI, hKn, hNe⟩ := hJ
    (repeat' (first | (unfold Hold; first | (k_here; (with_reducible show wpAny _ _ (call (Value.type "int") [Value.str (fmt _) _]) _ _ _); refine call_fmt (by with_reducible assumption) ?_; intro t' tk') | ((with_reducible show wpAny _ _ (eval (Expr.ListComp _ _ _ _) _) _ _ _); k_dflt (refine LCg.ListComp_U (F₀ := by k_asm) (by with_unfolding_all rfl) (by decide) (by rfl) (by decide) (by rfl) ?_)) | ((with_reducible show wpAny _ _ (binaryOp Operator.Mod _ _) _ _ _); refine mod_d (more_small (by assumption) (by assumption) (by assumption)) ?_; intro t' tk') | ((with_reducible show wpAny _ _ (binaryOp Operator.Mult _ _) _ _ _); (with_reducible refine mul_int ?_ (IntMulOk.of_right (pow_bits ?q1BH33 ?q2BH33))); (case q1BH33 => assumption); (case q2BH33 => assumption)) | ((with_reducible show wpAny _ _ (binaryOp Operator.Pow _ _) _ _ _); (with_reducible refine pow_int_small ?q1BH34 ?q2BH34 ?q3BH34 ?_); (case q1BH34 => omega); (case q2BH34 => omega); (case q3BH34 => omega)) | (k_here; (with_reducible show wpAny _ _ (subscriptTail (Expr.Subscript (Expr.Name (Str.ofString "prices") _) _ _) _ (Value.ref _) (Value.int _ _)) _ _ _); k_dflt (refine' cell_at ?q1BH35 ?q2BH35 ?q3BH35 ?q4BH35 ?q5BH35 ?q6BH35 ?q7BH35 ?q8BH35 ?_; (case q2BH35 => assumption); (case q1BH35 => k_asm); (case q3BH35 => assumption); (case q4BH35 => assumption); (case q5BH35 => omega); (case q6BH35 => omega); (case q7BH35 => omega); (case q8BH35 => with_unfolding_all rfl); intro t' h1' h2')) | (k_here; (with_reducible show wpAny _ _ (subscriptTail (Expr.Name (Str.ofString "prices") _) _ (Value.ref _) (Value.int _ _)) _ _ _); k_dflt (refine' row_at ?q1BH36 ?q2BH36 ?q3BH36 ?q4BH36 ?q5BH36 ?q6BH36 ?q7BH36 ?_; (case q1BH36 => assumption); (case q4BH36 => assumption); (case q2BH36 => assumption); (case q3BH36 => k_asm); (case q5BH36 => omega); (case q6BH36 => omega); (case q7BH36 => with_unfolding_all rfl); intro a' us' n' row' hm' hI' hr' hc' hd' he')) | ((with_reducible show wpAny _ _ (call (Value.type _) _) _ _ _); (rename Fr _ _ _ _ => F'); (rename News _ _ _ _ => N'); (with_unfolding_all refine range1_rows F' N' ?_; intro _ _ _ _ _ _ _ _ _)) | (k_here; (with_reducible show wpAny _ _ (call (Value.builtin _) [Value.int _ _, Value.int _ _]) _ _ _); k_dflt (refine' min2 ?q1BH38 ?q2BH38 ?q3BH38 ?_; (case q1BH38 => k_asm); (case q2BH38 => k_asm); (case q3BH38 => with_unfolding_all rfl); k_whole); intro h' tk' t' F' N') | (k_here; (with_reducible show wpAny _ _ (call (Value.builtin _) [Value.int _ _, Value.int _ _, Value.int _ _]) _ _ _); k_dflt (refine' min3 ?q1BH39 ?q2BH39 ?q3BH39 ?_; (case q1BH39 => k_asm); (case q2BH39 => k_asm); (case q3BH39 => with_unfolding_all rfl); k_whole); intro h' tk' t' F' N') | (k_here; (with_reducible show wpAny _ _ (subscriptTail (Expr.Name (Str.ofString "words") _) _ (Value.ref _) (Value.int _ _)) _ _ _); k_dflt (refine' word_at ?q1BH310 ?q2BH310 ?q3BH310 ?q4BH310 ?q5BH310 ?q6BH310 ?q7BH310 ?_; (case q1BH310 => assumption); (case q2BH310 => assumption); (case q3BH310 => k_asm); (case q4BH310 => k_mem); (case q5BH310 => omega); (case q6BH310 => omega); (case q7BH310 => with_unfolding_all rfl); intro x' t' hx' hl' hp')) | ((with_reducible show wpAny _ _ (exec (Stmt.For _ _ _ _ _) _) _ _ _); (rename Fr _ _ _ _ => lF'); (with_unfolding_all refine' For_invVF lF' ?k1BH311 ?k2BH311 ?_; (case k1BH311 => exact rfl); (case k2BH311 => exact rfl); k_whole)) | ((with_reducible show wpAny _ _ (exec (Stmt.For _ _ _ _ _) _) _ _ _); (rename Fr _ _ _ _ => lF'); (with_unfolding_all refine' For_invVF lF' ?k1BH312 ?k2BH312 ?_; (case k1BH312 => exact rfl); (case k2BH312 => exact rfl); k_whole)) | (k_here; (with_reducible show wpAny _ _ (call (Value.ref _) [Value.ref _, Value.str _ _]) _ _ _); with_unfolding_all (refine' use_getall ?k1BH313 ?k2BH313 ?k3BH313 ?k4BH313 ?k5BH313 ?k6BH313 ?k7BH313 ?k8BH313 ?k9BH313 ?kABH313 ?kBBH313 ?kCBH313 ?kDBH313 ?kEBH313 ?kFBH313 ?kGBH313 ?_; (case k1BH313 => k_asm); (case k2BH313 => k_asm); (case k3BH313 => k_asm); (case k4BH313 => k_asm); (case k5BH313 => k_asm); (case k6BH313 => first | exact rfl | assumption); (case k7BH313 => ktr_room); (case k8BH313 => ktr_units); (case k9BH313 => k_mem); (case kABH313 => k_mem); (case kBBH313 => k_mem); (case kCBH313 => first | assumption | (refine RowsOK.app ?_; assumption) | (refine RowsOK.cons (RowsOK.app ?_); assumption) | (refine RowsOK.cons (RowsOK.cons (RowsOK.app ?_)); assumption)); (case kDBH313 => assumption); (case kEBH313 => omega); (case kFBH313 => assumption); (case kGBH313 => omega); k_whole); intro r' ys' n' h' tk' l1 hS' hZ' F' N'; (try dsimp only); (try k_sweep)) | ((with_reducible show wpAny _ _ (call (Value.ref _) _) _ _ _); with_unfolding_all (refine' use_paren ?k1BH314 ?k2BH314 ?k3BH314 ?k4BH314 ?k5BH314 ?k6BH314 ?k7BH314 ?k8BH314 ?k9BH314 ?_; (case k1BH314 => k_asm); (case k2BH314 => k_asm); (case k3BH314 => k_asm); (case k4BH314 => k_asm); (case k5BH314 => k_asm); (case k6BH314 => first | exact rfl | assumption); (case k7BH314 => ktr_room); (case k8BH314 => ktr_units); (case k9BH314 => assumption); k_whole); intro t' h' tk' F' N'; (try dsimp only); (try k_sweep)) | fail "no block") | (k_unfold; (try dsimp only)) | (k_end; kc_close) | walk1 | (dsimp only; walk1) | (leave1; (try dsimp only)) | fail "no step"))
    rename News h₀ L _ _ => n9
    rename Fr h₀ L _ _ => f9
    exact hret _ [(_, _)] _ _ ⟨_, hv, hn', rfl, rfl, hI⟩ (of_cons (fun p hp => hNe p (hKn p hp)) of_nil) f9 (ns_cons n9 (List.Mem.head _) (ns_nil n9 fun p hp => .tail _ (hKn p hp)))
end Mine
end

section
open PySem PySem.W PyProof.Rows PySem.Calls PySem.Spec
set_option maxRecDepth 100000
namespace Mine
theorem use_drawn {w : World} {mean : ExcName → Option Value} {mg mb : Str → Option Value} {dp un : Nat} {gd : Option (List Code)} {cn : Str} {cs : Scope} {a : Addr} {ccd : Value} {cl : List (Str × Addr)} {outer : List Env} {A₀ : Around} {base h₀ : Heap} {L : Addr} {m : Str → Option Value} {s : Shared} {Q E : Value → Shared → Prop} {news : Led} {x sl : Addr} {svs : List Value} {sns : List Int} {t1 t2 t3 t4 : Tok}
    (B : Below A₀ base outer h₀) (F : Fr h₀ L s.heap m) (X : (Mine.hd.heap_39 w.params).In h₀) (N : News h₀ L s.heap news) (T : MTop mean mg mb h₀) (hk : cs.kind = .function)
    (hd : dp + 2 < recursionLimit) (hu : un + 20 * 2 < cLine) (hx : (x, ({ cls := .type "tuple", data := .seq #[.int 3 t1, .int 4 t2, .int 8 t3, .int 4 t4] } : Obj)) ∈ news)
    (hsl : h₀.IsList sl svs.toArray) (hs : IntsAre svs sns) (hz : sns.length ≤ 100)
    (ret : ∀ r vs ns n h' tk', (∀ p ∈ news, @Ne Nat p.1 r) → IntsAre vs ns → ns.length = 4 → Fr h₀ L h' m → News h₀ L h' ((r, listOf (List.toArray vs) n) :: news) → Q (.ref r) { s with heap := h', toks := tk' }) :
    wpAny (model PySem.Challenge.rw_wj0069_01.row.prog w) (ktrTop dp un gd cn cs L a ccd cl outer) (call (.ref 214) [.ref sl, .ref x]) Q E s :=
  drawn_spec w mean mg mb news x sl svs sns t1 t2 t3 t4 hs (by rw [hs.length]; exact hz) hx dp un gd cn cs a ccd cl outer A₀ base h₀ L m s Q E B F X N T hk hd hu hsl fun r add h' tk' hr hne F' N' => by
    obtain ⟨r, vs, ns, n, rfl, rfl, hI, hl⟩ := hr
    exact ret r vs ns n h' tk' (fun p hp => hne p hp _ (List.mem_cons_self ..)) hI hl F' N'
section
variable {prog : Program} {w : World} {A : Around} {E : Value → Shared → Prop} {s : Shared} {h₀ : Heap} {L T : Addr} {news : Led} {m : Str → Option Value} {value slice : Expr} {vs : List Value} {i : Int} {u : Tok} {Q : Value → Shared → Prop} {nn : Nat}
theorem pick_any (N : News h₀ L s.heap news) (hm : (T, ({ cls := .type "tuple", data := .seq vs.toArray nn } : Obj)) ∈ news) (h0 : 0 ≤ i) (h1 : i < (vs.length : Int)) (hf : vs.length ≤ 1000)
    (hs : subscripted slice false (.ref T) (.int i u) = operate [.ref T, .int i u] (getItem (.ref T) (.int i u)))
    (h : ∀ (j : Nat) v, (j : Int) = i → vs[j]? = some v → Q v s) : wpAny (model prog w) A (subscriptTail value slice (.ref T) (.int i u)) Q E s := by
  have hlt : i.toNat < vs.length := by omega
  refine item_tupleT (j := i.toNat) (x := vs[i.toNat]) ⟨_, (N _ hm).1, rfl, _, rfl⟩ (by omega) (by omega) (seqIndex_of h0 h1) (List.getElem?_eq_getElem hlt) (h i.toNat _ (by omega) (List.getElem?_eq_getElem hlt)) hs
end
inductive StrTab : List Value → List Str → Prop
  | nil : StrTab [] []
  | cons (x : Str) (t : Tok) {vs ws} : StrTab vs ws → StrTab (.str x t :: vs) (x :: ws)
theorem StrTab.at {vs : List Value} {ws : List Str} (h : StrTab vs ws) : ∀ {j : Nat} {v : Value}, vs[j]? = some v → ∃ x t, v = .str x t ∧ ws[j]? = some x := by
  induction h with
  | nil => intro j v e; cases e
  | cons x t _ ih =>
    intro j v e
    cases j with
    | zero => cases e; exact ⟨x, t, rfl, rfl⟩
    | succ j => exact ih e
inductive BytesTab : List Value → List (Array UInt8) → Prop
  | nil : BytesTab [] []
  | cons (x : Array UInt8) (t : Tok) {vs ws} : BytesTab vs ws → BytesTab (.bytes x t :: vs) (x :: ws)
theorem BytesTab.at {vs : List Value} {ws : List (Array UInt8)} (h : BytesTab vs ws) : ∀ {j : Nat} {v : Value}, vs[j]? = some v → ∃ x t, v = .bytes x t ∧ ws[j]? = some x := by
  induction h with
  | nil => intro j v e; cases e
  | cons x t _ ih =>
    intro j v e
    cases j with
    | zero => cases e; exact ⟨x, t, rfl, rfl⟩
    | succ j => exact ih e
inductive IntTab : List Value → List Int → Prop
  | nil : IntTab [] []
  | cons (x : Int) (t : Tok) {vs ws} : IntTab vs ws → IntTab (.int x t :: vs) (x :: ws)
theorem IntTab.at {vs : List Value} {ws : List Int} (h : IntTab vs ws) : ∀ {j : Nat} {v : Value}, vs[j]? = some v → ∃ x t, v = .int x t ∧ ws[j]? = some x := by
  induction h with
  | nil => intro j v e; cases e
  | cons x t _ ih =>
    intro j v e
    cases j with
    | zero => cases e; exact ⟨x, t, rfl, rfl⟩
    | succ j => exact ih e
inductive OptTab : List Value → List (Option Str) → Prop
  | nil : OptTab [] []
  | cons (x : Str) (t : Tok) {vs ws} : OptTab vs ws → OptTab (Value.str x t :: vs) (Option.some x :: ws)
  | gap {vs ws} : OptTab vs ws → OptTab (Value.none :: vs) (Option.none :: ws)
theorem OptTab.at {vs : List Value} {ws : List (Option Str)} (h : OptTab vs ws) : ∀ {j : Nat} {v : Value}, vs[j]? = some v → (v = .none ∧ ws[j]? = .some none) ∨ ∃ x t, v = .str x t ∧ ws[j]? = .some (.some x) := by
  induction h with
  | nil => intro j v e; cases e
  | cons x t _ ih =>
    intro j v e
    cases j with
    | zero => cases e; exact .inr ⟨x, t, rfl, rfl⟩
    | succ j => exact ih e
  | gap _ ih =>
    intro j v e
    cases j with
    | zero => cases e; exact .inl ⟨rfl, rfl⟩
    | succ j => exact ih e
section
variable {prog : Program} {w : World} {A : Around} {E : Value → Shared → Prop} {s : Shared} {h₀ : Heap} {L T : Addr} {news : Led} {m : Str → Option Value} {value slice : Expr} {vs : List Value} {i : Int} {u : Tok} {Q : Value → Shared → Prop} {nn : Nat}
theorem pick_str {ws : List Str} {b : Nat} (N : News h₀ L s.heap news) (hm : (T, ({ cls := .type "tuple", data := .seq vs.toArray nn } : Obj)) ∈ news) (ht : StrTab vs ws) (h0 : 0 ≤ i) (h1 : i < (vs.length : Int)) (hf : vs.length ≤ 1000)
    (hs : subscripted slice false (.ref T) (.int i u) = operate [.ref T, .int i u] (getItem (.ref T) (.int i u))) (hb : ∀ x ∈ ws, x.length ≤ b)
    (h : ∀ (j : Nat) x t, (j : Int) = i → ws[j]? = some x → x.length ≤ b → Q (.str x t) s) : wpAny (model prog w) A (subscriptTail value slice (.ref T) (.int i u)) Q E s :=
  pick_any N hm h0 h1 hf hs fun j v hj hv => by
    obtain ⟨x, t, rfl, hx⟩ := ht.at hv
    exact h j x t hj hx (hb x (List.mem_of_getElem? hx))
theorem pick_bytes {ws : List (Array UInt8)} {b : Nat} (N : News h₀ L s.heap news) (hm : (T, ({ cls := .type "tuple", data := .seq vs.toArray nn } : Obj)) ∈ news) (ht : BytesTab vs ws) (h0 : 0 ≤ i) (h1 : i < (vs.length : Int)) (hf : vs.length ≤ 1000)
    (hs : subscripted slice false (.ref T) (.int i u) = operate [.ref T, .int i u] (getItem (.ref T) (.int i u))) (hb : ∀ x ∈ ws, x.size ≤ b)
    (h : ∀ (j : Nat) x t, (j : Int) = i → ws[j]? = some x → x.size ≤ b → Q (.bytes x t) s) : wpAny (model prog w) A (subscriptTail value slice (.ref T) (.int i u)) Q E s :=
  pick_any N hm h0 h1 hf hs fun j v hj hv => by
    obtain ⟨x, t, rfl, hx⟩ := ht.at hv
    exact h j x t hj hx (hb x (List.mem_of_getElem? hx))
theorem pick_int {ws : List Int} {b : Nat} (N : News h₀ L s.heap news) (hm : (T, ({ cls := .type "tuple", data := .seq vs.toArray nn } : Obj)) ∈ news) (ht : IntTab vs ws) (h0 : 0 ≤ i) (h1 : i < (vs.length : Int)) (hf : vs.length ≤ 1000)
    (hs : subscripted slice false (.ref T) (.int i u) = operate [.ref T, .int i u] (getItem (.ref T) (.int i u))) (hb : ∀ x ∈ ws, x.natAbs ≤ b)
    (h : ∀ (j : Nat) x t, (j : Int) = i → ws[j]? = some x → x.natAbs ≤ b → Q (.int x t) s) : wpAny (model prog w) A (subscriptTail value slice (.ref T) (.int i u)) Q E s :=
  pick_any N hm h0 h1 hf hs fun j v hj hv => by
    obtain ⟨x, t, rfl, hx⟩ := ht.at hv
    exact h j x t hj hx (hb x (List.mem_of_getElem? hx))
theorem pick_opt {ws : List (Option Str)} {b : Nat} (N : News h₀ L s.heap news) (hm : (T, ({ cls := .type "tuple", data := .seq vs.toArray nn } : Obj)) ∈ news) (ht : OptTab vs ws) (h0 : 0 ≤ i) (h1 : i < (vs.length : Int)) (hf : vs.length ≤ 1000)
    (hs : subscripted slice false (.ref T) (.int i u) = operate [.ref T, .int i u] (getItem (.ref T) (.int i u))) (hb : ∀ x ∈ ws, ∀ y, x = some y → y.length ≤ b)
    (hn : ∀ (j : Nat), (j : Int) = i → ws[j]? = some none → Q .none s)
    (h : ∀ (j : Nat) x t, (j : Int) = i → ws[j]? = some (some x) → x.length ≤ b → Q (.str x t) s) : wpAny (model prog w) A (subscriptTail value slice (.ref T) (.int i u)) Q E s :=
  pick_any N hm h0 h1 hf hs fun j v hj hv => by
    rcases ht.at hv with ⟨rfl, hx⟩ | ⟨x, t, rfl, hx⟩
    · exact hn j hj hx
    · exact h j x t hj hx (hb _ (List.mem_of_getElem? hx) x rfl)
end
theorem mod_rng {a b c : Int} (h : a = Int.fmod b c) (hc : 0 < c) : 0 ≤ a ∧ a < c := by
  subst h; exact ⟨Int.fmod_nonneg_of_pos _ hc, Int.fmod_lt_of_pos _ hc⟩
end Mine
end

section
open PySem PySem.W PyProof.Rows PySem.Calls PySem.Spec
set_option maxRecDepth 100000
namespace Mine
def listF : List Str := [Str.ofString "a", Str.ofString "", Str.ofString "bc"]
def tabF (j : Nat) : Str := listF.getD j (Str.ofString "")
def listS : List (Option Str) := [some (Str.ofString "b"), none, some (Str.ofString ""), some (Str.ofString "ca")]
def tabS (j : Nat) : Option Str := listS.getD j none
def listB : List Int := [2, -2, 3, -1]
def tabB (j : Nat) : Int := listB.getD j 0
def listX : List (Array UInt8) := [#[34, 92, 34, 40, 34], #[40, 34, 41, 34], #[34, 40, 34, 41], #[41, 40, 34, 92, 92, 34, 40], #[34, 41, 41, 92, 34, 34, 41, 41, 40], #[40, 41, 34, 40, 34]]
def tabX (j : Nat) : Array UInt8 := listX.getD j #[]
def listN : List Int := [0, 1, -1, 1, -1, 0]
def tabN (j : Nat) : Int := listN.getD j 0
section
variable {prog : Program} {w : World} {A : Around} {E : Value → Shared → Prop} {s : Shared} {h₀ : Heap} {L T : Addr} {news : Led} {m : Str → Option Value} {value slice : Expr} {vs : List Value} {i : Int} {u : Tok} {Q : Value → Shared → Prop} {nn : Nat}
theorem get_of {α : Type} {ws : List α} {d x : α} {j : Nat} (h : ws[j]? = some x) : x = ws.getD j d := by rw [List.getD_eq_getElem?_getD, h]; rfl
theorem read_F (N : News h₀ L s.heap news) (hm : (T, ({ cls := .type "tuple", data := .seq vs.toArray nn } : Obj)) ∈ news) (ht : StrTab vs listF) (h0 : 0 ≤ i) (h1 : i < (vs.length : Int)) (hf : vs.length ≤ 1000)
    (hs : subscripted slice false (.ref T) (.int i u) = operate [.ref T, .int i u] (getItem (.ref T) (.int i u)))
    (h : ∀ j t, (tabF j).length ≤ 2 → j < 3 → Q (.str (tabF j) t) s) : wpAny (model prog w) A (subscriptTail value slice (.ref T) (.int i u)) Q E s :=
  pick_any N hm h0 h1 hf hs fun j v hj hv => by
    obtain ⟨x, t, rfl, hx⟩ := ht.at hv
    have e : j = i.toNat := by omega
    subst e
    have hl : x.length ≤ 2 := (show ∀ y ∈ listF, y.length ≤ 2 by decide +kernel) x (List.mem_of_getElem? hx)
    have e2 := get_of (d := Str.ofString "") hx
    subst e2
    exact h _ t hl (List.getElem?_eq_some_iff.mp hx).1
theorem read_S (N : News h₀ L s.heap news) (hm : (T, ({ cls := .type "tuple", data := .seq vs.toArray nn } : Obj)) ∈ news) (ht : OptTab vs listS) (h0 : 0 ≤ i) (h1 : i < (vs.length : Int)) (hf : vs.length ≤ 1000)
    (hs : subscripted slice false (.ref T) (.int i u) = operate [.ref T, .int i u] (getItem (.ref T) (.int i u)))
    (hn : ∀ j, tabS j = none → j < 4 → Q .none s) (h : ∀ j e t, tabS j = some e → e.length ≤ 2 → j < 4 → Q (.str e t) s) : wpAny (model prog w) A (subscriptTail value slice (.ref T) (.int i u)) Q E s :=
  pick_any N hm h0 h1 hf hs fun j v hj hv => by
    have e : j = i.toNat := by omega
    subst e
    rcases ht.at hv with ⟨rfl, hx⟩ | ⟨x, t, rfl, hx⟩
    · exact hn _ (get_of hx).symm (List.getElem?_eq_some_iff.mp hx).1
    · exact h _ x t (get_of hx).symm ((show ∀ y ∈ listS, ∀ z, y = some z → z.length ≤ 2 by decide +kernel) _ (List.mem_of_getElem? hx) x rfl) (List.getElem?_eq_some_iff.mp hx).1
theorem read_B (N : News h₀ L s.heap news) (hm : (T, ({ cls := .type "tuple", data := .seq vs.toArray nn } : Obj)) ∈ news) (ht : IntTab vs listB) (h0 : 0 ≤ i) (h1 : i < (vs.length : Int)) (hf : vs.length ≤ 1000)
    (hs : subscripted slice false (.ref T) (.int i u) = operate [.ref T, .int i u] (getItem (.ref T) (.int i u)))
    (h : ∀ j t, (tabB j).natAbs ≤ 3 → j < 4 → Q (.int (tabB j) t) s) : wpAny (model prog w) A (subscriptTail value slice (.ref T) (.int i u)) Q E s :=
  pick_any N hm h0 h1 hf hs fun j v hj hv => by
    obtain ⟨x, t, rfl, hx⟩ := ht.at hv
    have e : j = i.toNat := by omega
    subst e
    have hl : x.natAbs ≤ 3 := (show ∀ y ∈ listB, y.natAbs ≤ 3 by decide +kernel) x (List.mem_of_getElem? hx)
    have e2 := get_of (d := 0) hx
    subst e2
    exact h _ t hl (List.getElem?_eq_some_iff.mp hx).1
theorem read_N {j₀ : Nat} (ej : j₀ = i.toNat) (N : News h₀ L s.heap news) (hm : (T, ({ cls := .type "tuple", data := .seq vs.toArray nn } : Obj)) ∈ news) (ht : IntTab vs listN) (h0 : 0 ≤ i) (h1 : i < (vs.length : Int)) (hf : vs.length ≤ 1000)
    (hs : subscripted slice false (.ref T) (.int i u) = operate [.ref T, .int i u] (getItem (.ref T) (.int i u)))
    (h : ∀ t, -1 ≤ tabN j₀ → tabN j₀ ≤ 1 → Q (.int (tabN j₀) t) s) : wpAny (model prog w) A (subscriptTail value slice (.ref T) (.int i u)) Q E s :=
  pick_any N hm h0 h1 hf hs fun j v hj hv => by
    obtain ⟨x, t, rfl, hx⟩ := ht.at hv
    have e : j = i.toNat := by omega
    subst e
    have hl := (show ∀ y ∈ listN, -1 ≤ y ∧ y ≤ 1 by decide +kernel) x (List.mem_of_getElem? hx)
    have e2 := get_of (d := 0) hx
    subst e2
    subst ej
    exact h t hl.1 hl.2
theorem read_X (N : News h₀ L s.heap news) (hm : (T, ({ cls := .type "tuple", data := .seq vs.toArray nn } : Obj)) ∈ news) (ht : BytesTab vs listX) (h0 : 0 ≤ i) (h1 : i < (vs.length : Int)) (hf : vs.length ≤ 1000)
    (hs : subscripted slice false (.ref T) (.int i u) = operate [.ref T, .int i u] (getItem (.ref T) (.int i u)))
    (h : ∀ j t, j = i.toNat → j < 6 → Q (.bytes (tabX j) t) s) : wpAny (model prog w) A (subscriptTail value slice (.ref T) (.int i u)) Q E s :=
  pick_any N hm h0 h1 hf hs fun j v hj hv => by
    obtain ⟨x, t, rfl, hx⟩ := ht.at hv
    have e : j = i.toNat := by omega
    subst e
    have e2 := get_of (d := #[]) hx
    subst e2
    exact h _ t rfl (List.getElem?_eq_some_iff.mp hx).1
end
end Mine
end

section
open PySem PySem.W PyProof.Rows PySem.Calls PySem.Spec
set_option maxRecDepth 100000
namespace Mine
section
variable {w : World} {mean : ExcName → Option Value} {mg mb : Str → Option Value} {dp un : Nat} {gd : Option (List Code)} {cn : Str} {cs : Scope} {a : Addr} {ccd : Value} {cl : List (Str × Addr)} {outer : List Env} {A₀ : Around} {base' h₀ : Heap} {L : Addr} {m : Str → Option Value} {s : Shared} {Q E : Value → Shared → Prop} {led : Led}
  {Hp : Heap} {o1 o2 : Obj} {nl ll : Addr} {nn kl : Nat} {n1 n2 n3 n4 u0 u1 u2 : Tok} {l0 l1 l2 net : Int}
theorem use_stn {f : Str} {tf : Tok} (B : Below A₀ base' outer h₀) (F : Fr h₀ L s.heap m) (X : (Mine.hd.heap_39 w.params).In h₀) (N : News h₀ L s.heap led) (T : MTop mean mg mb h₀) (hk : cs.kind = .function) (hd : dp + 5 < recursionLimit) (hu : un + 20 * 5 < cLine)
    (m1 : (Hp.objs.size + 1, o1) ∈ led) (m2 : (Hp.objs.size + 1 + 1, o2) ∈ led) (m3 : (nl, listOf #[.int 1 n1, .int (-1) n2, .int 0 n3, .int net n4] nn) ∈ led) (m4 : (ll, listOf #[.int l0 u0, .int l1 u1, .int l2 u2] kl) ∈ led) (hf : f.length ≤ 10)
    (ret : ∀ r t1 t2 n h' tk', Fr h₀ L h' m → News h₀ L h' [(r, listOf #[.str (Str.ofString "C") t1, .str (word1 f) t2] n), (Hp.objs.size + 1, o1), (Hp.objs.size + 1 + 1, o2), (nl, listOf #[.int 1 n1, .int (-1) n2, .int 0 n3, .int net n4] nn), (ll, listOf #[.int l0 u0, .int l1 u1, .int l2 u2] kl)] → Q (.ref r) { s with heap := h', toks := tk' }) :
    wpAny (model PySem.Challenge.rw_wj0069_01.row.prog w) (ktrTop dp un gd cn cs L a ccd cl outer) (call (.ref 221) [.str f tf, .none]) Q E s := by
  have N4 : News h₀ L s.heap [(Hp.objs.size + 1, o1), (Hp.objs.size + 1 + 1, o2), (nl, listOf #[.int 1 n1, .int (-1) n2, .int 0 n3, .int net n4] nn), (ll, listOf #[.int l0 u0, .int l1 u1, .int l2 u2] kl)] :=
    List.forall_mem_cons.mpr ⟨N _ m1, List.forall_mem_cons.mpr ⟨N _ m2, List.forall_mem_cons.mpr ⟨N _ m3, List.forall_mem_cons.mpr ⟨N _ m4, fun _ h => nomatch h⟩⟩⟩⟩
  exact stations_n w mean mg mb _ _ _ _ _ _ _ _ f tf hf dp un gd cn cs a ccd cl outer A₀ base' h₀ L m s Q E B F X N4 T hk hd hu fun v add h' tk' hv _ F' N' => by
    obtain ⟨r, t1, t2, n, rfl, rfl⟩ := hv
    exact ret r t1 t2 n h' tk' F' N'
theorem use_sts {f e : Str} {tf te : Tok} (B : Below A₀ base' outer h₀) (F : Fr h₀ L s.heap m) (X : (Mine.hd.heap_39 w.params).In h₀) (N : News h₀ L s.heap led) (T : MTop mean mg mb h₀) (hk : cs.kind = .function) (hd : dp + 5 < recursionLimit) (hu : un + 20 * 5 < cLine)
    (m1 : (Hp.objs.size + 1, o1) ∈ led) (m2 : (Hp.objs.size + 1 + 1, o2) ∈ led) (m3 : (nl, listOf #[.int 1 n1, .int (-1) n2, .int 0 n3, .int net n4] nn) ∈ led) (m4 : (ll, listOf #[.int l0 u0, .int l1 u1, .int l2 u2] kl) ∈ led) (hf : f.length ≤ 10) (he : e.length ≤ 10)
    (ret : ∀ r t1 t2 t3 n h' tk', Fr h₀ L h' m → News h₀ L h' [(r, listOf #[.str (Str.ofString "C") t1, .str (word1 f) t2, .str (word2 f e) t3] n), (Hp.objs.size + 1, o1), (Hp.objs.size + 1 + 1, o2), (nl, listOf #[.int 1 n1, .int (-1) n2, .int 0 n3, .int net n4] nn), (ll, listOf #[.int l0 u0, .int l1 u1, .int l2 u2] kl)] → Q (.ref r) { s with heap := h', toks := tk' }) :
    wpAny (model PySem.Challenge.rw_wj0069_01.row.prog w) (ktrTop dp un gd cn cs L a ccd cl outer) (call (.ref 221) [.str f tf, .str e te]) Q E s := by
  have N4 : News h₀ L s.heap [(Hp.objs.size + 1, o1), (Hp.objs.size + 1 + 1, o2), (nl, listOf #[.int 1 n1, .int (-1) n2, .int 0 n3, .int net n4] nn), (ll, listOf #[.int l0 u0, .int l1 u1, .int l2 u2] kl)] :=
    List.forall_mem_cons.mpr ⟨N _ m1, List.forall_mem_cons.mpr ⟨N _ m2, List.forall_mem_cons.mpr ⟨N _ m3, List.forall_mem_cons.mpr ⟨N _ m4, fun _ h => nomatch h⟩⟩⟩⟩
  exact stations_s w mean mg mb _ _ _ _ _ _ _ _ f e tf te hf he dp un gd cn cs a ccd cl outer A₀ base' h₀ L m s Q E B F X N4 T hk hd hu fun v add h' tk' hv _ F' N' => by
    obtain ⟨r, t1, t2, t3, n, rfl, rfl⟩ := hv
    exact ret r t1 t2 t3 n h' tk' F' N'
theorem ok_2 {w0 w1 : Str} {l0 l1 l2 p00 p01 p11 : Int} (hw0 : w0.length ≤ 20) (hw1 : w1.length ≤ 20)
    (h00 : LevG (Txt.lower w0) (Txt.upper w0) (l0 + 2 * ((w0.length : Int) - (w0.length : Int))) p00) (h01 : LevG (Txt.lower w0) (Txt.upper w1) (l0 + 2 * ((w1.length : Int) - (w0.length : Int))) p01) (h11 : LevG (Txt.lower w1) (Txt.upper w1) (l1 + 2 * ((w1.length : Int) - (w1.length : Int))) p11) :
    PriceOK [w0, w1] [l0, l1, l2] [[p00, p01], [p11]] where
  few := Nat.le_of_ble_eq_true rfl
  short := fun x hx => by
    simp only [List.mem_cons, List.not_mem_nil, or_false] at hx
    rcases hx with rfl | rfl <;> assumption
  llen := Nat.le_of_ble_eq_true rfl
  plen := rfl
  rows := fun i x hx => by
    match i, hx with
    | 0, hx =>
      cases hx
      refine ⟨l0, [p00, p01], rfl, rfl, rfl, fun k y hy => ?_⟩
      match k, hy with
      | 0, hy => cases hy; exact ⟨p00, rfl, h00⟩
      | 1, hy => cases hy; exact ⟨p01, rfl, h01⟩
      | k + 2, hy => simp at hy
    | 1, hx =>
      cases hx
      refine ⟨l1, [p11], rfl, rfl, rfl, fun k y hy => ?_⟩
      match k, hy with
      | 0, hy => cases hy; exact ⟨p11, rfl, h11⟩
      | k + 1, hy => simp at hy
    | i + 2, hx => simp at hx
theorem ok_3 {w0 w1 w2 : Str} {l0 l1 l2 p00 p01 p11 p12 p22 : Int} (hw0 : w0.length ≤ 20) (hw1 : w1.length ≤ 20) (hw2 : w2.length ≤ 20)
    (h00 : LevG (Txt.lower w0) (Txt.upper w0) (l0 + 2 * ((w0.length : Int) - (w0.length : Int))) p00) (h01 : LevG (Txt.lower w0) (Txt.upper w1) (l0 + 2 * ((w1.length : Int) - (w0.length : Int))) p01) (h11 : LevG (Txt.lower w1) (Txt.upper w1) (l1 + 2 * ((w1.length : Int) - (w1.length : Int))) p11)
    (h12 : LevG (Txt.lower w1) (Txt.upper w2) (l1 + 2 * ((w2.length : Int) - (w1.length : Int))) p12) (h22 : LevG (Txt.lower w2) (Txt.upper w2) (l2 + 2 * ((w2.length : Int) - (w2.length : Int))) p22) :
    PriceOK [w0, w1, w2] [l0, l1, l2] [[p00, p01], [p11, p12], [p22]] where
  few := Nat.le_of_ble_eq_true rfl
  short := fun x hx => by
    simp only [List.mem_cons, List.not_mem_nil, or_false] at hx
    rcases hx with rfl | rfl | rfl <;> assumption
  llen := Nat.le_of_ble_eq_true rfl
  plen := rfl
  rows := fun i x hx => by
    match i, hx with
    | 0, hx =>
      cases hx
      refine ⟨l0, [p00, p01], rfl, rfl, rfl, fun k y hy => ?_⟩
      match k, hy with
      | 0, hy => cases hy; exact ⟨p00, rfl, h00⟩
      | 1, hy => cases hy; exact ⟨p01, rfl, h01⟩
      | k + 2, hy => simp at hy
    | 1, hx =>
      cases hx
      refine ⟨l1, [p11, p12], rfl, rfl, rfl, fun k y hy => ?_⟩
      match k, hy with
      | 0, hy => cases hy; exact ⟨p11, rfl, h11⟩
      | 1, hy => cases hy; exact ⟨p12, rfl, h12⟩
      | k + 2, hy => simp at hy
    | 2, hx =>
      cases hx
      refine ⟨l2, [p22], rfl, rfl, rfl, fun k y hy => ?_⟩
      match k, hy with
      | 0, hy => cases hy; exact ⟨p22, rfl, h22⟩
      | k + 1, hy => simp at hy
    | i + 3, hx => simp at hx
theorem ints_1 {vs : List Value} {a : Int} (h : IntsAre vs [a]) : ∃ t, vs = [.int a t] := by
  obtain ⟨t0, v0, rfl, g1⟩ := h.cons_inv
  rw [g1.nil_inv]; exact ⟨t0, rfl⟩
theorem ints_2 {vs : List Value} {a b : Int} (h : IntsAre vs [a, b]) : ∃ t u, vs = [.int a t, .int b u] := by
  obtain ⟨t0, v0, rfl, g1⟩ := h.cons_inv
  obtain ⟨t1, rfl⟩ := ints_1 g1
  exact ⟨t0, t1, rfl⟩
theorem row_of {tl : Led} {pvs : List Value} {P : List (List Int)} (h : PricesAre tl pvs P) {i : Nat} {row : List Int} (hr : P[i]? = some row) : ∃ a us n, pvs[i]? = some (.ref a) ∧ (a, listOf (List.toArray us) n) ∈ tl ∧ IntsAre us row := by
  have hi : i < pvs.length := by rw [h.1]; exact (List.getElem?_eq_some_iff.mp hr).1
  obtain ⟨a, us, n, row', e, hm, hI, hp⟩ := h.2 i _ (List.getElem?_eq_getElem hi)
  have : row = row' := Option.some.inj (hr.symm.trans hp)
  subst this
  exact ⟨a, us, n, by rw [List.getElem?_eq_getElem hi, e], hm, hI⟩
theorem list_2 {α : Type} {l : List α} {a b : α} (h : l.length = 2) (h0 : l[0]? = some a) (h1 : l[1]? = some b) : l = [a, b] := by
  match l, h with
  | [x, y], _ => cases h0; cases h1; rfl
theorem list_3 {α : Type} {l : List α} {a b c : α} (h : l.length = 3) (h0 : l[0]? = some a) (h1 : l[1]? = some b) (h2 : l[2]? = some c) : l = [a, b, c] := by
  match l, h with
  | [x, y, z], _ => cases h0; cases h1; cases h2; rfl
theorem use_p2 {w0 w1 : Str} {wl : Addr} {nw : Nat} {t0 t1 : Tok} {p00 p01 p11 : Int} (B : Below A₀ base' outer h₀) (F : Fr h₀ L s.heap m) (X : (Mine.hd.heap_39 w.params).In h₀)
    (N : News h₀ L s.heap [(wl, listOf #[.str w0 t0, .str w1 t1] nw), (Hp.objs.size + 1, o1), (Hp.objs.size + 1 + 1, o2), (nl, listOf #[.int 1 n1, .int (-1) n2, .int 0 n3, .int net n4] nn), (ll, listOf #[.int l0 u0, .int l1 u1, .int l2 u2] kl)])
    (T : MTop mean mg mb h₀) (hk : cs.kind = .function) (hd : dp + 8 < recursionLimit) (hu : un + 20 * 8 < cLine)
    (hw0 : w0.length ≤ 20) (hw1 : w1.length ≤ 20)
    (h00 : LevG (Txt.lower w0) (Txt.upper w0) (l0 + 2 * ((w0.length : Int) - (w0.length : Int))) p00) (h01 : LevG (Txt.lower w0) (Txt.upper w1) (l0 + 2 * ((w1.length : Int) - (w0.length : Int))) p01) (h11 : LevG (Txt.lower w1) (Txt.upper w1) (l1 + 2 * ((w1.length : Int) - (w1.length : Int))) p11)
    (ret : ∀ r a0 a1 n n0 n1' t1' t2' t3' h' tk', Fr h₀ L h' m → News h₀ L h' [(r, listOf #[.ref a0, .ref a1] n), (a0, listOf #[.int p00 t1', .int p01 t2'] n0), (a1, listOf #[.int p11 t3'] n1'), (wl, listOf #[.str w0 t0, .str w1 t1] nw), (ll, listOf #[.int l0 u0, .int l1 u1, .int l2 u2] kl), (Hp.objs.size + 1, o1), (Hp.objs.size + 1 + 1, o2), (nl, listOf #[.int 1 n1, .int (-1) n2, .int 0 n3, .int net n4] nn)] → Q (.ref r) { s with heap := h', toks := tk' }) :
    wpAny (model PySem.Challenge.rw_wj0069_01.row.prog w) (ktrTop dp un gd cn cs L a ccd cl outer) (call (.ref 228) [.ref wl, .ref ll]) Q E s := by
  refine prices_spec w mean mg mb _ wl ll [.str w0 t0, .str w1 t1] [.int l0 u0, .int l1 u1, .int l2 u2] nw kl [w0, w1] [l0, l1, l2] [[p00, p01], [p11]] (.head _) (.cons _ _ (.cons _ _ .nil)) (.tail _ (.tail _ (.tail _ (.tail _ (.head _))))) (.cons _ _ (.cons _ _ (.cons _ _ .nil))) (ok_2 hw0 hw1 h00 h01 h11) dp un gd cn cs a ccd cl outer A₀ base' h₀ L m s Q E B F X N T hk hd hu fun v add h' tk' hv _ F' N' => ?_
  obtain ⟨r, pvs, n, tl, rfl, rfl, hP⟩ := hv
  obtain ⟨a0, us0, n0, e0, m0, i0⟩ := row_of hP (i := 0) rfl
  obtain ⟨a1, us1, n1', e1, m1, i1⟩ := row_of hP (i := 1) rfl
  obtain ⟨t1', t2', rfl⟩ := ints_2 i0
  obtain ⟨t3', rfl⟩ := ints_1 i1
  have hpv := list_2 hP.1 e0 e1
  subst hpv
  have o := fun p hp => N' p (List.mem_append_right _ hp)
  refine ret r a0 a1 n n0 n1' t1' t2' t3' h' tk' F' (List.forall_mem_cons.mpr ⟨N' _ (.head _), List.forall_mem_cons.mpr ⟨N' _ (.tail _ (List.mem_append_left _ m0)), List.forall_mem_cons.mpr ⟨N' _ (.tail _ (List.mem_append_left _ m1)), ?_⟩⟩⟩)
  exact fun p hp => o p (by simp only [List.mem_cons, List.not_mem_nil, or_false] at hp; rcases hp with rfl | rfl | rfl | rfl | rfl <;> simp)
theorem use_p3 {w0 w1 w2 : Str} {wl : Addr} {nw : Nat} {t0 t1 t2 : Tok} {p00 p01 p11 p12 p22 : Int} (B : Below A₀ base' outer h₀) (F : Fr h₀ L s.heap m) (X : (Mine.hd.heap_39 w.params).In h₀)
    (N : News h₀ L s.heap [(wl, listOf #[.str w0 t0, .str w1 t1, .str w2 t2] nw), (Hp.objs.size + 1, o1), (Hp.objs.size + 1 + 1, o2), (nl, listOf #[.int 1 n1, .int (-1) n2, .int 0 n3, .int net n4] nn), (ll, listOf #[.int l0 u0, .int l1 u1, .int l2 u2] kl)])
    (T : MTop mean mg mb h₀) (hk : cs.kind = .function) (hd : dp + 8 < recursionLimit) (hu : un + 20 * 8 < cLine)
    (hw0 : w0.length ≤ 20) (hw1 : w1.length ≤ 20) (hw2 : w2.length ≤ 20)
    (h00 : LevG (Txt.lower w0) (Txt.upper w0) (l0 + 2 * ((w0.length : Int) - (w0.length : Int))) p00) (h01 : LevG (Txt.lower w0) (Txt.upper w1) (l0 + 2 * ((w1.length : Int) - (w0.length : Int))) p01) (h11 : LevG (Txt.lower w1) (Txt.upper w1) (l1 + 2 * ((w1.length : Int) - (w1.length : Int))) p11)
    (h12 : LevG (Txt.lower w1) (Txt.upper w2) (l1 + 2 * ((w2.length : Int) - (w1.length : Int))) p12) (h22 : LevG (Txt.lower w2) (Txt.upper w2) (l2 + 2 * ((w2.length : Int) - (w2.length : Int))) p22)
    (ret : ∀ r a0 a1 a2 n n0 n1' n2' t1' t2' t3' t4' t5' h' tk', Fr h₀ L h' m → News h₀ L h' [(r, listOf #[.ref a0, .ref a1, .ref a2] n), (a0, listOf #[.int p00 t1', .int p01 t2'] n0), (a1, listOf #[.int p11 t3', .int p12 t4'] n1'), (a2, listOf #[.int p22 t5'] n2'), (wl, listOf #[.str w0 t0, .str w1 t1, .str w2 t2] nw), (ll, listOf #[.int l0 u0, .int l1 u1, .int l2 u2] kl), (Hp.objs.size + 1, o1), (Hp.objs.size + 1 + 1, o2), (nl, listOf #[.int 1 n1, .int (-1) n2, .int 0 n3, .int net n4] nn)] → Q (.ref r) { s with heap := h', toks := tk' }) :
    wpAny (model PySem.Challenge.rw_wj0069_01.row.prog w) (ktrTop dp un gd cn cs L a ccd cl outer) (call (.ref 228) [.ref wl, .ref ll]) Q E s := by
  refine prices_spec w mean mg mb _ wl ll [.str w0 t0, .str w1 t1, .str w2 t2] [.int l0 u0, .int l1 u1, .int l2 u2] nw kl [w0, w1, w2] [l0, l1, l2] [[p00, p01], [p11, p12], [p22]] (.head _) (.cons _ _ (.cons _ _ (.cons _ _ .nil))) (.tail _ (.tail _ (.tail _ (.tail _ (.head _))))) (.cons _ _ (.cons _ _ (.cons _ _ .nil))) (ok_3 hw0 hw1 hw2 h00 h01 h11 h12 h22) dp un gd cn cs a ccd cl outer A₀ base' h₀ L m s Q E B F X N T hk hd hu fun v add h' tk' hv _ F' N' => ?_
  obtain ⟨r, pvs, n, tl, rfl, rfl, hP⟩ := hv
  obtain ⟨a0, us0, n0, e0, m0, i0⟩ := row_of hP (i := 0) rfl
  obtain ⟨a1, us1, n1', e1, m1, i1⟩ := row_of hP (i := 1) rfl
  obtain ⟨a2, us2, n2', e2, m2, i2⟩ := row_of hP (i := 2) rfl
  obtain ⟨t1', t2', rfl⟩ := ints_2 i0
  obtain ⟨t3', t4', rfl⟩ := ints_2 i1
  obtain ⟨t5', rfl⟩ := ints_1 i2
  have hpv := list_3 hP.1 e0 e1 e2
  subst hpv
  have o := fun p hp => N' p (List.mem_append_right _ hp)
  refine ret r a0 a1 a2 n n0 n1' n2' t1' t2' t3' t4' t5' h' tk' F' (List.forall_mem_cons.mpr ⟨N' _ (.head _), List.forall_mem_cons.mpr ⟨N' _ (.tail _ (List.mem_append_left _ m0)), List.forall_mem_cons.mpr ⟨N' _ (.tail _ (List.mem_append_left _ m1)), List.forall_mem_cons.mpr ⟨N' _ (.tail _ (List.mem_append_left _ m2)), ?_⟩⟩⟩⟩)
  exact fun p hp => o p (by simp only [List.mem_cons, List.not_mem_nil, or_false] at hp; rcases hp with rfl | rfl | rfl | rfl | rfl <;> simp)
theorem ints6 {vs : List Value} {ns : List Int} (h : IntsAre vs ns) (hl : ns.length = 6) : ∃ h0 h1 h2 h3 h4 h5 t0 t1 t2 t3 t4 t5, vs = [Value.int h0 t0, .int h1 t1, .int h2 t2, .int h3 t3, .int h4 t4, .int h5 t5] ∧ ns = [h0, h1, h2, h3, h4, h5] := by
  match ns, hl with
  | [a, b, c, d, e, f], _ =>
    obtain ⟨t0, v0, rfl, g1⟩ := h.cons_inv
    obtain ⟨t1, v1, rfl, g2⟩ := g1.cons_inv
    obtain ⟨t2, v2, rfl, g3⟩ := g2.cons_inv
    obtain ⟨t3, v3, rfl, g4⟩ := g3.cons_inv
    obtain ⟨t4, v4, rfl, g5⟩ := g4.cons_inv
    obtain ⟨t5, v5, rfl, g6⟩ := g5.cons_inv
    rw [g6.nil_inv]
    exact ⟨a, b, c, d, e, f, t0, t1, t2, t3, t4, t5, rfl, rfl⟩
theorem bt_of {x : Int} (h : x.natAbs < 10 ^ 100) : Bt 400 x := intBits_le_iff.mpr (Nat.lt_of_lt_of_le h (by decide +kernel))
end
theorem lens_home (n : Nat) (P : List (List Int)) (base : Int) (nets : List Int) : (homeVals n P base nets 5).length = 6 := by simp [homeVals]
theorem use_home {w : World} {mean : ExcName → Option Value} {mg mb : Str → Option Value} {dp un : Nat} {gd : Option (List Code)} {cn : Str} {cs : Scope} {a : Addr} {ccd : Value} {cl : List (Str × Addr)} {outer : List Env} {A₀ : Around} {base' h₀ : Heap} {L : Addr} {m : Str → Option Value} {s : Shared} {Q E : Value → Shared → Prop} {news : Led}
    {wl pl tl : Addr} {wvs pvs : List Value} {nw np nt : Nat} {ws : List Str} {P : List (List Int)} {base : Int} {nets : List Int} {b0 b1 b2 b3 : Array UInt8} {x0 x1 x2 x3 tb t5 : Tok}
    (B : Below A₀ base' outer h₀) (F : Fr h₀ L s.heap m) (X : (Mine.hd.heap_39 w.params).In h₀) (N : News h₀ L s.heap news) (T : MTop mean mg mb h₀) (hk : cs.kind = .function) (hd : dp + 8 < recursionLimit) (hu : un + 20 * 8 < cLine)
    (hwl : (wl, listOf wvs.toArray nw) ∈ news) (hws : StrsAre wvs ws) (hpl : (pl, listOf pvs.toArray np) ∈ news) (hps : PricesAre news pvs P)
    (htl : (tl, tupO #[.bytes b0 x0, .bytes b1 x1, .bytes b2 x2, .bytes b3 x3] nt) ∈ news) (ok : HomeOK ws P base nets) (hn : ∀ (i : Nat) b, [b0, b1, b2, b3][i]? = some b → ∃ k, nets[i]? = some k ∧ TextNet b k)
    (ret : ∀ r h0 h1 h2 h3 h4 h5 t0 t1 t2 t3 t4 t5 n h' tk', homeVals ws.length P base nets 5 = [h0, h1, h2, h3, h4, h5] → Bt 400 h0 → Bt 400 h1 → Bt 400 h2 → Bt 400 h3 → Bt 400 h4 → Bt 400 h5 → Fr h₀ L h' m → News h₀ L h' ((r, listOf #[.int h0 t0, .int h1 t1, .int h2 t2, .int h3 t3, .int h4 t4, .int h5 t5] n) :: news) → Q (.ref r) { s with heap := h', toks := tk' }) :
    wpAny (model PySem.Challenge.rw_wj0069_01.row.prog w) (ktrTop dp un gd cn cs L a ccd cl outer) (call (.ref 233) [.ref wl, .ref pl, .ref tl, .int base tb, .int 5 t5]) Q E s :=
  home_spec w mean mg mb news wl pl tl wvs pvs nw np nt ws P base nets b0 b1 b2 b3 x0 x1 x2 x3 tb t5 hwl hws hpl hps htl hn ok dp un gd cn cs a ccd cl outer A₀ base' h₀ L m s Q E B F X N T hk hd hu fun v add h' tk' hv _ F' N' => by
    obtain ⟨r, vs, n, rfl, rfl, hI⟩ := hv
    obtain ⟨h0, h1, h2, h3, h4, h5, t0, t1, t2, t3, t4, t5, rfl, e⟩ := ints6 hI (lens_home ..)
    have hb : ∀ (i : Nat) x, i ≤ 5 → [h0, h1, h2, h3, h4, h5][i]? = some x → Bt 400 x := fun i x hi hx => by
      rw [← e] at hx
      have : x = crowdOf (homeRows ws.length P base nets i) 0 := by
        rw [homeVals, List.getElem?_map, List.getElem?_range (by omega)] at hx
        exact (Option.some.inj hx).symm
      rw [this]
      exact bt_of (ok.bound i hi 0 (by decide))
    exact ret r h0 h1 h2 h3 h4 h5 t0 t1 t2 t3 t4 t5 n h' tk' e (hb 0 _ (by decide) rfl) (hb 1 _ (by decide) rfl) (hb 2 _ (by decide) rfl) (hb 3 _ (by decide) rfl) (hb 4 _ (by decide) rfl) (hb 5 _ (by decide) rfl) F' N'
theorem use_q6 {w : World} {mean : ExcName → Option Value} {mg mb : Str → Option Value} {dp un : Nat} {gd : Option (List Code)} {cn : Str} {cs : Scope} {a' : Addr} {ccd : Value} {cl : List (Str × Addr)} {outer : List Env} {A₀ : Around} {base' h₀ : Heap} {L : Addr} {m : Str → Option Value} {s : Shared} {Q E : Value → Shared → Prop} {led : Led}
    {rl : Addr} {nr : Nat} {a b c d e f : Int} {ta tb tc td te tf : Tok} (B : Below A₀ base' outer h₀) (F : Fr h₀ L s.heap m) (X : (Mine.hd.heap_39 w.params).In h₀) (N : News h₀ L s.heap led) (T : MTop mean mg mb h₀) (hk : cs.kind = .function) (hd : dp + 8 < recursionLimit) (hu : un + 20 * 8 < cLine)
    (hm : (rl, listOf #[.int a ta, .int b tb, .int c tc, .int d td, .int e te, .int f tf] nr) ∈ led) (ha : Bt 400 a) (hb : Bt 400 b) (hc : Bt 400 c) (hdd : Bt 400 d) (he : Bt 400 e)
    (ret : ∀ r n t1 t2 t3 h' tk', Fr h₀ L h' m → News h₀ L h' [(r, listOf #[.int a t1, .int (a * c - b * b) t2, .int (three a b c d e) t3] n), (rl, listOf #[.int a ta, .int b tb, .int c tc, .int d td, .int e te, .int f tf] nr)] → Q (.ref r) { s with heap := h', toks := tk' }) :
    wpAny (model PySem.Challenge.rw_wj0069_01.row.prog w) (ktrTop dp un gd cn cs L a' ccd cl outer) (call (.ref 240) [.ref rl]) Q E s :=
  squares_spec w mean mg mb rl [.int a ta, .int b tb, .int c tc, .int d td, .int e te, .int f tf] nr a b c d e ta tb tc td te rfl (Nat.le_of_ble_eq_true rfl) ha hb hc hdd he dp un gd cn cs a' ccd cl outer A₀ base' h₀ L m s Q E B F X (List.forall_mem_cons.mpr ⟨N _ hm, fun _ h => nomatch h⟩) T hk hd hu fun v add h' tk' hv _ F' N' => by
    obtain ⟨r, n, t1, t2, t3, rfl, rfl⟩ := hv
    exact ret r n t1 t2 t3 h' tk' F' N'
theorem use_q5 {w : World} {mean : ExcName → Option Value} {mg mb : Str → Option Value} {dp un : Nat} {gd : Option (List Code)} {cn : Str} {cs : Scope} {a' : Addr} {ccd : Value} {cl : List (Str × Addr)} {outer : List Env} {A₀ : Around} {base' h₀ : Heap} {L : Addr} {m : Str → Option Value} {s : Shared} {Q E : Value → Shared → Prop} {led : Led}
    {rl : Addr} {nr : Nat} {a b c d e : Int} {ta tb tc td te : Tok} (B : Below A₀ base' outer h₀) (F : Fr h₀ L s.heap m) (X : (Mine.hd.heap_39 w.params).In h₀) (N : News h₀ L s.heap led) (T : MTop mean mg mb h₀) (hk : cs.kind = .function) (hd : dp + 8 < recursionLimit) (hu : un + 20 * 8 < cLine)
    (hm : (rl, listOf #[.int a ta, .int b tb, .int c tc, .int d td, .int e te] nr) ∈ led) (ha : Bt 400 a) (hb : Bt 400 b) (hc : Bt 400 c) (hdd : Bt 400 d) (he : Bt 400 e)
    (ret : ∀ r n t1 t2 t3 h' tk', Fr h₀ L h' m → News h₀ L h' [(r, listOf #[.int a t1, .int (a * c - b * b) t2, .int (three a b c d e) t3] n), (rl, listOf #[.int a ta, .int b tb, .int c tc, .int d td, .int e te] nr)] → Q (.ref r) { s with heap := h', toks := tk' }) :
    wpAny (model PySem.Challenge.rw_wj0069_01.row.prog w) (ktrTop dp un gd cn cs L a' ccd cl outer) (call (.ref 240) [.ref rl]) Q E s :=
  squares_spec w mean mg mb rl [.int a ta, .int b tb, .int c tc, .int d td, .int e te] nr a b c d e ta tb tc td te rfl (Nat.le_of_ble_eq_true rfl) ha hb hc hdd he dp un gd cn cs a' ccd cl outer A₀ base' h₀ L m s Q E B F X (List.forall_mem_cons.mpr ⟨N _ hm, fun _ h => nomatch h⟩) T hk hd hu fun v add h' tk' hv _ F' N' => by
    obtain ⟨r, n, t1, t2, t3, rfl, rfl⟩ := hv
    exact ret r n t1 t2 t3 h' tk' F' N'
end Mine
end

section
open PySem PySem.W PyProof.Rows PySem.Calls PySem.Spec
set_option maxRecDepth 100000
namespace Mine
def due (l : Int) (a b : Str) : Int := l + 2 * ((b.length : Int) - (a.length : Int))
def P2 (f : Str) : List (List Int) := [[due 1 (Str.ofString "C") (Str.ofString "C"), due 1 (Str.ofString "C") (word1 f)], [due (1 + (f.length : Int)) (word1 f) (word1 f)]]
def P3 (f e : Str) : List (List Int) := [[due 1 (Str.ofString "C") (Str.ofString "C"), due 1 (Str.ofString "C") (word1 f)], [due (1 + (f.length : Int)) (word1 f) (word1 f), due (1 + (f.length : Int)) (word1 f) (word2 f e)], [due (1 + (f.length : Int) + (e.length : Int)) (word2 f e) (word2 f e)]]
def goodb (ws : List Str) (nm : Str) (th : Nat) : Bool := printable nm && (decide (nm.length ≤ 1000)) && (List.range ws.length).all fun j => (Txt.lower nm == Txt.lower (ws.getD j (Str.ofString ""))) == (th == j)
theorem good_of {ws : List Str} {nm : Str} {th : Nat} (h : goodb ws nm th = true) : GoodName ws nm th := by
  unfold goodb at h
  rw [Bool.and_eq_true, Bool.and_eq_true, List.all_eq_true] at h
  refine ⟨h.1.1, of_decide_eq_true h.1.2, fun j w hw => ?_⟩
  have hj := (List.getElem?_eq_some_iff.mp hw).1
  have := h.2 j (List.mem_range.mpr hj)
  rw [← get_of hw] at this
  exact eq_of_beq this
def wordsb (ws : List Str) (P : List (List Int)) : Bool :=
  decide (2 ≤ ws.length) && decide (ws.length ≤ 3) && (ws.all fun w => decide (w.length ≤ 20) && printable (Txt.lower w)) &&
  ((List.range ws.length).all fun i => goodb ws (Txt.upper (ws.getD i (Str.ofString ""))) i && goodb ws (Txt.lower (ws.getD i (Str.ofString ""))) i && goodb ws (ws.getD i (Str.ofString "")) i) &&
  ((List.range ws.length).all fun i => (!(decide (i + 1 < ws.length)) || decide ((P.getD i []).length = 2)) && decide (1 ≤ (P.getD i []).length) && (P.getD i []).all fun p => decide (0 ≤ p) && decide (p ≤ 20)) &&
  decide (P.length = ws.length)
def rowsb (n : Nat) (P : List (List Int)) (base : Int) (nets : List Int) : Bool :=
  (List.range 6).all fun i => ((List.range 3).all fun j => decide ((crowdOf (homeRows n P base nets i) j).natAbs < 10 ^ 100)) && decide ((homeRows n P base nets i).length ≤ 100)
theorem ok_of {ws : List Str} {P : List (List Int)} {base : Int} {nets : List Int} (hw : wordsb ws P = true) (hr : rowsb ws.length P base nets = true) (hb : base.natAbs ≤ 3) (hn : nets.length = 4 ∧ ∀ k ∈ nets, -1 ≤ k ∧ k ≤ 1) : HomeOK ws P base nets := by
  unfold wordsb at hw
  simp only [Bool.and_eq_true, decide_eq_true_eq, List.all_eq_true, List.mem_range, Bool.or_eq_true, Bool.not_eq_true', decide_eq_false_iff_not] at hw
  obtain ⟨⟨⟨⟨⟨a1, a2⟩, a3⟩, a4⟩, a5⟩, a6⟩ := hw
  unfold rowsb at hr
  simp only [Bool.and_eq_true, decide_eq_true_eq, List.all_eq_true, List.mem_range] at hr
  exact {
    len := ⟨a1, a2⟩
    short := a3
    up := fun i w h => by
      have h1 := a4 i (List.getElem?_eq_some_iff.mp h).1
      rw [← get_of h] at h1
      exact ⟨good_of h1.1.1, good_of h1.1.2, good_of h1.2⟩
    price := fun i hi => ⟨P.getD i [], by rw [List.getD_eq_getElem?_getD, List.getElem?_eq_getElem (by omega)]; rfl, fun h => (a5 i hi).1.1.resolve_left (fun h2 => h2 h), (a5 i hi).1.2, (a5 i hi).2⟩
    plen := a6
    base3 := hb
    nets1 := hn
    bound := fun i hi j hj => (hr i (by omega)).1 j hj
    few := fun i hi => (hr i (by omega)).2 }
theorem base_le {j : Nat} (h : j < 4) : (tabB j).natAbs ≤ 3 := by
  have : ∀ j, j < 4 → (tabB j).natAbs ≤ 3 := by decide +kernel
  exact this j h
theorem nets_le {j : Nat} (h : j < 6) : ([1, -1, 0, tabN j] : List Int).length = 4 ∧ ∀ k ∈ ([1, -1, 0, tabN j] : List Int), -1 ≤ k ∧ k ≤ 1 := by
  have : ∀ j, j < 6 → -1 ≤ tabN j ∧ tabN j ≤ 1 := by decide +kernel
  have := this j h
  refine ⟨rfl, fun k hk => ?_⟩
  simp only [List.mem_cons, List.not_mem_nil, or_false] at hk
  rcases hk with rfl | rfl | rfl | rfl <;> omega
theorem words2 : ∀ j, j < 3 → wordsb [Str.ofString "C", word1 (tabF j)] (P2 (tabF j)) = true := by decide +kernel
theorem words3 : ∀ j, j < 3 → ∀ k, k < 4 → ∀ e, e ∈ (tabS k) → wordsb [Str.ofString "C", word1 (tabF j), word2 (tabF j) e] (P3 (tabF j) e) = true := by decide +kernel
theorem rows2 : ∀ j0, j0 < 3 → ∀ j2, j2 < 4 → ∀ j3, j3 < 6 → rowsb 2 (P2 (tabF j0)) (tabB j2) [1, -1, 0, tabN j3] = true := by decide +kernel
theorem rows3 : ∀ j0, j0 < 3 → ∀ j1, j1 < 4 → ∀ e, e ∈ tabS j1 → ∀ j2, j2 < 4 → ∀ j3, j3 < 6 → rowsb 3 (P3 (tabF j0) e) (tabB j2) [1, -1, 0, tabN j3] = true := by decide +kernel
theorem ok2 {j0 j2 j3 : Nat} (h0 : j0 < 3) (h2 : j2 < 4) (h3 : j3 < 6) : HomeOK [Str.ofString "C", word1 (tabF j0)] (P2 (tabF j0)) (tabB j2) [1, -1, 0, tabN j3] :=
  ok_of (words2 _ h0) (rows2 _ h0 _ h2 _ h3) (base_le h2) (nets_le h3)
theorem ok3 {j0 j1 j2 j3 : Nat} {e : Str} (h0 : j0 < 3) (h1 : j1 < 4) (he : tabS j1 = some e) (h2 : j2 < 4) (h3 : j3 < 6) : HomeOK [Str.ofString "C", word1 (tabF j0), word2 (tabF j0) e] (P3 (tabF j0) e) (tabB j2) [1, -1, 0, tabN j3] :=
  ok_of (words3 _ h0 _ h1 e (by rw [he]; exact rfl)) (rows3 _ h0 _ h1 e (by rw [he]; exact rfl) _ h2 _ h3) (base_le h2) (nets_le h3)
theorem net_at {j : Nat} (h : j < 6) : TextNet (tabX j) (tabN j) := by
  match j, h with
  | 0, _ => exact ⟨by decide, _, sub3, by decide +kernel⟩
  | 1, _ => exact ⟨by decide, _, sub4, by decide +kernel⟩
  | 2, _ => exact ⟨by decide, _, sub5, by decide +kernel⟩
  | 3, _ => exact ⟨by decide, _, sub6, by decide +kernel⟩
  | 4, _ => exact ⟨by decide, _, sub7, by decide +kernel⟩
  | 5, _ => exact ⟨by decide, _, sub8, by decide +kernel⟩
theorem texts_ok {j : Nat} (h : j < 6) : ∀ (i : Nat) b, [#[40], #[41], #[41, 34, 40, 34, 40], tabX j][i]? = some b → ∃ k, [1, -1, 0, tabN j][i]? = some k ∧ TextNet b k := fun i b hb => by
  match i, hb with
  | 0, hb => exact ⟨1, rfl, by cases hb; exact ⟨by decide, _, sub0, by decide +kernel⟩⟩
  | 1, hb => exact ⟨-1, rfl, by cases hb; exact ⟨by decide, _, sub1, by decide +kernel⟩⟩
  | 2, hb => exact ⟨0, rfl, by cases hb; exact ⟨by decide, _, sub2, by decide +kernel⟩⟩
  | 3, hb => exact ⟨tabN j, rfl, by cases hb; exact net_at h⟩
  | _ + 4, hb => simp at hb
end Mine
end

section
open PySem PySem.W PyProof.Rows PySem.Calls PySem.Spec
set_option maxRecDepth 100000
namespace Mine
def strip0 (a b : Str) : Bool := !(Txt.item a (0 - 1) == Txt.item b (0 - 1))
def strip1 (a b : Str) : Bool := (Txt.item a (0 - 1) == Txt.item b (0 - 1)) && decide (2 ≤ a.length) && decide (2 ≤ b.length) && !(Txt.item a (0 - 1 - 1) == Txt.item b (0 - 1 - 1))
def strip2 (a b x y : Str) : Bool := (Txt.item a (0 - 1) == Txt.item b (0 - 1)) && (Txt.item a (0 - 1 - 1) == Txt.item b (0 - 1 - 1)) && decide (3 ≤ a.length) && decide (3 ≤ b.length) &&
      (decide (1 ≤ x.length) && decide (1 ≤ y.length) && decide (x.length ≤ 20) && decide (y.length ≤ 20)) && !(Txt.item a (0 - 1 - 1 - 1) == Txt.item b (0 - 1 - 1 - 1))
theorem strip0_of {a b : Str} (h : strip0 a b = true) : Strip a b a b := .inl ⟨rfl, rfl, by simpa only [strip0, Bool.not_eq_true'] using h⟩
theorem strip1_of {a b x y : Str} (ex : Txt.slice a none (some (0 - 1)) = x) (ey : Txt.slice b none (some (0 - 1)) = y) (h : strip1 a b = true) : Strip a b x y := by
  simp only [strip1, Bool.and_eq_true, decide_eq_true_eq, Bool.not_eq_true'] at h
  exact .inr (.inl ⟨h.1.1.1, ex, ey, h.1.1.2, h.1.2, h.2⟩)
theorem strip2_of {a b x y x2 y2 : Str} (ex : Txt.slice a none (some (0 - 1)) = x) (ey : Txt.slice b none (some (0 - 1)) = y) (ex2 : Txt.slice a none (some (0 - 1 - 1)) = x2) (ey2 : Txt.slice b none (some (0 - 1 - 1)) = y2) (h : strip2 a b x y = true) : Strip a b x2 y2 := by
  simp only [strip2, Bool.and_eq_true, decide_eq_true_eq, Bool.not_eq_true'] at h
  obtain ⟨⟨⟨⟨⟨a1, a2⟩, a3⟩, a4⟩, ⟨⟨a5, a6⟩, a7⟩, a8⟩, a9⟩ := h
  exact .inr (.inr ⟨a1, a2, a3, a4, ⟨x, y, ex, ey, a5, a6, a7, a8⟩, ex2, ey2, a9⟩)
def lrun (x y : Str) (mc : Int) : Nat → Option (List Int × Int)
  | 0 => some (row0 x.length, 0)
  | n + 1 => (lrun x y mc n).bind fun st => (fun r : List Int × Int × Int × Int => if r.2.2.2 ≤ mc then some (r.1, r.2.2.1) else none) (lrow x (Txt.item y (n : Int)) st.1 (n : Int))
theorem lcols_succ (x y : Str) (n : Nat) : lcols x y (n + 1) = lcol x y (lcols x y n) (n : Int) := by
  unfold lcols rangeKs
  rw [List.range_succ, List.map_append, List.foldl_append]
  simp
theorem lrun_ok {x y : Str} {mc : Int} : ∀ {n : Nat} {st : List Int × Int}, lrun x y mc n = some st → lcols x y n = st ∧ ∀ j, j < n → (lrow x (Txt.item y (j : Int)) (lcols x y j).1 (j : Int)).2.2.2 ≤ mc
  | 0, st, h => ⟨Option.some.inj h, fun _ hj => absurd hj (Nat.not_lt_zero _)⟩
  | n + 1, st, h => by
    rw [lrun, Option.bind_eq_some_iff] at h
    obtain ⟨st0, h1, h2⟩ := h
    obtain ⟨e, H⟩ := lrun_ok h1
    dsimp only at h2
    split at h2
    · rename_i hm
      have h3 := Option.some.inj h2
      rw [← e] at h3 hm
      refine ⟨by rw [lcols_succ]; exact h3, fun j hj => ?_⟩
      rcases Nat.lt_or_ge j n with hl | hg
      · exact H j hl
      · have : j = n := by omega
        subst this
        exact hm
    · cases h2
def coreb (x y : Str) (mc r : Int) : Bool :=
  decide (x.length ≤ 20) && decide (y.length ≤ 20) && decide (1 ≤ x.length) && decide (1 ≤ y.length) && decide (x.length ≤ y.length) && decide (2 * ((y.length : Int) - x.length) ≤ mc) && decide (mc ≤ 1000) &&
  decide ((lrun x y mc y.length).map (·.2) = some r)
def headb (a b : Str) : Bool :=
  decide (a.length ≤ 20) && decide (b.length ≤ 20) && decide (1 ≤ a.length) && decide (1 ≤ b.length) && !(a == b) && !(Txt.item a 0 == Txt.item b 0)
theorem lev_core {a b x y : Str} {mc r : Int} (h1 : headb a b = true) (hs : Strip a b x y) (h3 : coreb x y mc r = true) : LevG a b mc r := by
  simp only [headb, Bool.and_eq_true, decide_eq_true_eq, Bool.not_eq_true'] at h1
  obtain ⟨⟨⟨⟨⟨b1, b2⟩, b3⟩, b4⟩, b5⟩, b6⟩ := h1
  simp only [coreb, Bool.and_eq_true, decide_eq_true_eq] at h3
  obtain ⟨⟨⟨⟨⟨⟨⟨c1, c2⟩, c3⟩, c4⟩, c5⟩, c6⟩, c7⟩, c8⟩ := h3
  obtain ⟨st, d1, d2⟩ := Option.map_eq_some_iff.mp c8
  obtain ⟨d3, d4⟩ := lrun_ok d1
  intro w mean mg mb news ta tb tc
  have := lev_spec w mean mg mb news a b x y ta tb tc mc b1 b2 b3 b4 b5 b6 hs c1 c2 c3 c4 c5 c6 c7 d4
  rw [show levP x y = r by unfold levP; rw [d3]; exact d2] at this
  exact this
def levb (a b : Str) (mc r : Int) : Bool := headb a b &&
  ((strip0 a b && coreb a b mc r) || (strip1 a b && coreb (Txt.slice a none (some (0 - 1))) (Txt.slice b none (some (0 - 1))) mc r) ||
   (strip2 a b (Txt.slice a none (some (0 - 1))) (Txt.slice b none (some (0 - 1))) && coreb (Txt.slice a none (some (0 - 1 - 1))) (Txt.slice b none (some (0 - 1 - 1))) mc r))
theorem lev_of {a b : Str} {mc r : Int} (h : levb a b mc r = true) : LevG a b mc r := by
  rw [levb, Bool.and_eq_true, Bool.or_eq_true, Bool.or_eq_true, Bool.and_eq_true, Bool.and_eq_true, Bool.and_eq_true] at h
  obtain ⟨h1, (h2 | h2) | h2⟩ := h
  · exact lev_core h1 (strip0_of h2.1) h2.2
  · exact lev_core h1 (strip1_of rfl rfl h2.1) h2.2
  · exact lev_core h1 (strip2_of rfl rfl rfl rfl h2.1) h2.2
def asc (x : Str) : Bool := x.cps.toList.all fun c => decide (c < 128)
theorem asc_of {x : Str} (h : asc x = true) : ∀ c ∈ x.cps.toList, c < 128 := fun c hc => of_decide_eq_true (List.all_eq_true.mp h c hc)
def lowS (x : Str) : Str := if asc x = true then ⟨x.cps.map lo1⟩ else Txt.lower x
def upS (x : Str) : Str := if asc x = true then ⟨x.cps.map up1⟩ else Txt.upper x
theorem lowS_eq (x : Str) : lowS x = Txt.lower x := by
  unfold lowS; split
  · rename_i h; exact (lower_ascii (asc_of h)).symm
  · rfl
theorem upS_eq (x : Str) : upS x = Txt.upper x := by
  unfold upS; split
  · rename_i h; exact (upper_ascii (asc_of h)).symm
  · rfl
def subA (a b : Str) : Int := if a = b then 0 else if lowS a = lowS b then 1 else 2
theorem subA_eq : subA = subCost := by
  funext a b; unfold subA subCost; rw [lowS_eq, lowS_eq]
def lvalF (f : Str → Str → Int) (a bc : Str) (row : List Int) (d r i : Int) : Int := mn (mn r (row.getD i.toNat 0) + 2) (d + f bc (Txt.item a i))
def lstepF (f : Str → Str → Int) (a bc : Str) (st : List Int × Int × Int × Int) (i : Int) : List Int × Int × Int × Int :=
  (fun v => (st.1.set i.toNat v, st.1.getD i.toNat 0, v, if v < st.2.2.2 then v else st.2.2.2)) (lvalF f a bc st.1 st.2.1 st.2.2.1 i)
def lrowF (f : Str → Str → Int) (a bc : Str) (row : List Int) (k : Int) : List Int × Int × Int × Int := (rangeKs 0 a.length).foldl (lstepF f a bc) (row, k * 2, k * 2, 9223372036854775807)
def lrunF (f : Str → Str → Int) (x y : Str) (mc : Int) : Nat → Option (List Int × Int)
  | 0 => some (row0 x.length, 0)
  | n + 1 => (lrunF f x y mc n).bind fun st => (fun r : List Int × Int × Int × Int => if r.2.2.2 ≤ mc then some (r.1, r.2.2.1) else none) (lrowF f x (Txt.item y (n : Int)) st.1 (n : Int))
theorem lrunF_eq (x y : Str) (mc : Int) : ∀ n, lrunF subA x y mc n = lrun x y mc n
  | 0 => rfl
  | n + 1 => by
    rw [lrunF, lrun, lrunF_eq x y mc n, subA_eq]
    rfl
def corebA (x y : Str) (mc r : Int) : Bool :=
  decide (x.length ≤ 20) && decide (y.length ≤ 20) && decide (1 ≤ x.length) && decide (1 ≤ y.length) && decide (x.length ≤ y.length) && decide (2 * ((y.length : Int) - x.length) ≤ mc) && decide (mc ≤ 1000) &&
  decide ((lrunF subA x y mc y.length).map (·.2) = some r)
theorem corebA_eq (x y : Str) (mc r : Int) : corebA x y mc r = coreb x y mc r := by
  unfold corebA coreb; rw [lrunF_eq]
def levbA (a b : Str) (mc r : Int) : Bool := headb a b &&
  ((strip0 a b && corebA a b mc r) || (strip1 a b && corebA (Txt.slice a none (some (0 - 1))) (Txt.slice b none (some (0 - 1))) mc r) ||
   (strip2 a b (Txt.slice a none (some (0 - 1))) (Txt.slice b none (some (0 - 1))) && corebA (Txt.slice a none (some (0 - 1 - 1))) (Txt.slice b none (some (0 - 1 - 1))) mc r))
theorem lev_ofA {a b : Str} {mc r : Int} (h : levbA (lowS a) (upS b) mc r = true) : LevG (Txt.lower a) (Txt.upper b) mc r := by
  rw [lowS_eq, upS_eq] at h
  refine lev_of ?_
  rw [← h]
  unfold levb levbA
  rw [corebA_eq, corebA_eq, corebA_eq]
theorem lev00 : LevG (Txt.lower (Str.ofString "C")) (Txt.upper (Str.ofString "C")) (1 + 2 * (((Str.ofString "C").length : Int) - ((Str.ofString "C").length : Int))) (due 1 (Str.ofString "C") (Str.ofString "C")) := lev_ofA (by decide +kernel)
theorem lb01 : ∀ j, j < 3 → levbA (lowS (Str.ofString "C")) (upS (word1 (tabF j))) (1 + 2 * (((word1 (tabF j)).length : Int) - ((Str.ofString "C").length : Int))) (due 1 (Str.ofString "C") (word1 (tabF j))) = true := by decide +kernel
def litT (l : List (List Nat)) (j : Nat) : Str := ⟨(l.getD j []).toArray⟩
def litT2 (l : List (List (List Nat))) (j k : Nat) : Str := ⟨((l.getD j []).getD k []).toArray⟩
def numT2 (l : List (List Int)) (j k : Nat) : Int := (l.getD j []).getD k 0
def litL1 : Nat → Str := litT [[99, 46, 97], [99, 46], [99, 46, 98, 99]]
def litU1 : Nat → Str := litT [[67, 46, 65], [67, 46], [67, 46, 66, 67]]
def litL2 : Nat → Nat → Str := litT2 [[[99, 46, 97, 46, 98], [], [99, 46, 97, 46], [99, 46, 97, 46, 99, 97]], [[99, 46, 46, 98], [], [99, 46, 46], [99, 46, 46, 99, 97]], [[99, 46, 98, 99, 46, 98], [], [99, 46, 98, 99, 46], [99, 46, 98, 99, 46, 99, 97]]]
def litU2 : Nat → Nat → Str := litT2 [[[67, 46, 65, 46, 66], [], [67, 46, 65, 46], [67, 46, 65, 46, 67, 65]], [[67, 46, 46, 66], [], [67, 46, 46], [67, 46, 46, 67, 65]], [[67, 46, 66, 67, 46, 66], [], [67, 46, 66, 67, 46], [67, 46, 66, 67, 46, 67, 65]]]
def mc1 (j : Nat) : Int := ([2, 1, 3] : List Int).getD j 0
def mc12 : Nat → Nat → Int := numT2 [[6, 0, 4, 8], [5, 0, 3, 7], [7, 0, 5, 9]]
def mc22 : Nat → Nat → Int := numT2 [[3, 2, 2, 4], [2, 1, 1, 3], [4, 3, 3, 5]]
theorem eq11 : ∀ j, j < 3 → ((lowS (word1 (tabF j))) = litL1 j ∧ (upS (word1 (tabF j))) = litU1 j ∧ (1 + ((tabF j).length : Int) + 2 * (((word1 (tabF j)).length : Int) - ((word1 (tabF j)).length : Int))) = mc1 j ∧ (due (1 + ((tabF j).length : Int)) (word1 (tabF j)) (word1 (tabF j))) = mc1 j) := by decide +kernel
theorem lc11 : ∀ j, j < 3 → levbA (litL1 j) (litU1 j) (mc1 j) (mc1 j) = true := by decide +kernel
theorem lb11 : ∀ j, j < 3 → levbA (lowS (word1 (tabF j))) (upS (word1 (tabF j))) (1 + ((tabF j).length : Int) + 2 * (((word1 (tabF j)).length : Int) - ((word1 (tabF j)).length : Int))) (due (1 + ((tabF j).length : Int)) (word1 (tabF j)) (word1 (tabF j))) = true := fun j hj => by
  obtain ⟨e1, e2, e3, e4⟩ := eq11 j hj
  rw [e1, e2, e3, e4]
  exact lc11 j hj
theorem eq12 : ∀ j, j < 3 → ∀ k, k < 4 → ∀ e, e ∈ tabS k → ((lowS (word1 (tabF j))) = litL1 j ∧ (upS (word2 (tabF j) e)) = litU2 j k ∧ (1 + ((tabF j).length : Int) + 2 * (((word2 (tabF j) e).length : Int) - ((word1 (tabF j)).length : Int))) = mc12 j k ∧ (due (1 + ((tabF j).length : Int)) (word1 (tabF j)) (word2 (tabF j) e)) = mc12 j k) := by decide +kernel
theorem lc12 : ∀ j, j < 3 → ∀ k, k < 4 → (tabS k).isSome = true → levbA (litL1 j) (litU2 j k) (mc12 j k) (mc12 j k) = true := by decide +kernel
theorem lb12 : ∀ j, j < 3 → ∀ k, k < 4 → ∀ e, e ∈ tabS k → levbA (lowS (word1 (tabF j))) (upS (word2 (tabF j) e)) (1 + ((tabF j).length : Int) + 2 * (((word2 (tabF j) e).length : Int) - ((word1 (tabF j)).length : Int))) (due (1 + ((tabF j).length : Int)) (word1 (tabF j)) (word2 (tabF j) e)) = true := fun j hj k hk e he => by
  obtain ⟨e1, e2, e3, e4⟩ := eq12 j hj k hk e he
  rw [e1, e2, e3, e4]
  exact lc12 j hj k hk (by rw [show tabS k = some e from he]; rfl)
theorem eq22 : ∀ j, j < 3 → ∀ k, k < 4 → ∀ e, e ∈ tabS k → ((lowS (word2 (tabF j) e)) = litL2 j k ∧ (upS (word2 (tabF j) e)) = litU2 j k ∧ (1 + ((tabF j).length : Int) + (e.length : Int) + 2 * (((word2 (tabF j) e).length : Int) - ((word2 (tabF j) e).length : Int))) = mc22 j k ∧ (due (1 + ((tabF j).length : Int) + (e.length : Int)) (word2 (tabF j) e) (word2 (tabF j) e)) = mc22 j k) := by decide +kernel
theorem lc22 : ∀ j, j < 3 → ∀ k, k < 4 → (tabS k).isSome = true → levbA (litL2 j k) (litU2 j k) (mc22 j k) (mc22 j k) = true := by decide +kernel
theorem lb22 : ∀ j, j < 3 → ∀ k, k < 4 → ∀ e, e ∈ tabS k → levbA (lowS (word2 (tabF j) e)) (upS (word2 (tabF j) e)) (1 + ((tabF j).length : Int) + (e.length : Int) + 2 * (((word2 (tabF j) e).length : Int) - ((word2 (tabF j) e).length : Int))) (due (1 + ((tabF j).length : Int) + (e.length : Int)) (word2 (tabF j) e) (word2 (tabF j) e)) = true := fun j hj k hk e he => by
  obtain ⟨e1, e2, e3, e4⟩ := eq22 j hj k hk e he
  rw [e1, e2, e3, e4]
  exact lc22 j hj k hk (by rw [show tabS k = some e from he]; rfl)
theorem lev01 {j : Nat} (h : j < 3) : LevG (Txt.lower (Str.ofString "C")) (Txt.upper (word1 (tabF j))) (1 + 2 * (((word1 (tabF j)).length : Int) - ((Str.ofString "C").length : Int))) (due 1 (Str.ofString "C") (word1 (tabF j))) := lev_ofA (lb01 j h)
theorem lev11 {j : Nat} (h : j < 3) : LevG (Txt.lower (word1 (tabF j))) (Txt.upper (word1 (tabF j))) (1 + ((tabF j).length : Int) + 2 * (((word1 (tabF j)).length : Int) - ((word1 (tabF j)).length : Int))) (due (1 + ((tabF j).length : Int)) (word1 (tabF j)) (word1 (tabF j))) := lev_ofA (lb11 j h)
theorem lev12 {j k : Nat} {e : Str} (h : j < 3) (hk : k < 4) (he : tabS k = some e) : LevG (Txt.lower (word1 (tabF j))) (Txt.upper (word2 (tabF j) e)) (1 + ((tabF j).length : Int) + 2 * (((word2 (tabF j) e).length : Int) - ((word1 (tabF j)).length : Int))) (due (1 + ((tabF j).length : Int)) (word1 (tabF j)) (word2 (tabF j) e)) := lev_ofA (lb12 j h k hk e (by rw [he]; exact rfl))
theorem lev22 {j k : Nat} {e : Str} (h : j < 3) (hk : k < 4) (he : tabS k = some e) : LevG (Txt.lower (word2 (tabF j) e)) (Txt.upper (word2 (tabF j) e)) (1 + ((tabF j).length : Int) + (e.length : Int) + 2 * (((word2 (tabF j) e).length : Int) - ((word2 (tabF j) e).length : Int))) (due (1 + ((tabF j).length : Int) + (e.length : Int)) (word2 (tabF j) e) (word2 (tabF j) e)) := lev_ofA (lb22 j h k hk e (by rw [he]; exact rfl))
end Mine
end

section
open PySem PySem.W PyProof.Rows PySem.Calls PySem.Spec
set_option maxRecDepth 100000
namespace Mine
theorem prices_are2 {news : Led} {a0 a1 : Addr} {us0 us1 : List Value} {n0 n1 : Nat} {r0 r1 : List Int} (m0 : (a0, listOf us0.toArray n0) ∈ news) (m1 : (a1, listOf us1.toArray n1) ∈ news) (i0 : IntsAre us0 r0) (i1 : IntsAre us1 r1) : PricesAre news [.ref a0, .ref a1] [r0, r1] := by
  refine ⟨rfl, fun i v h => ?_⟩
  match i with
  | 0 => exact ⟨a0, us0, n0, r0, (Option.some.inj h).symm, m0, i0, rfl⟩
  | 1 => exact ⟨a1, us1, n1, r1, (Option.some.inj h).symm, m1, i1, rfl⟩
  | i + 2 => simp at h
theorem prices_are3 {news : Led} {a0 a1 a2 : Addr} {us0 us1 us2 : List Value} {n0 n1 n2 : Nat} {r0 r1 r2 : List Int} (m0 : (a0, listOf us0.toArray n0) ∈ news) (m1 : (a1, listOf us1.toArray n1) ∈ news) (m2 : (a2, listOf us2.toArray n2) ∈ news) (i0 : IntsAre us0 r0) (i1 : IntsAre us1 r1) (i2 : IntsAre us2 r2) : PricesAre news [.ref a0, .ref a1, .ref a2] [r0, r1, r2] := by
  refine ⟨rfl, fun i v h => ?_⟩
  match i with
  | 0 => exact ⟨a0, us0, n0, r0, (Option.some.inj h).symm, m0, i0, rfl⟩
  | 1 => exact ⟨a1, us1, n1, r1, (Option.some.inj h).symm, m1, i1, rfl⟩
  | 2 => exact ⟨a2, us2, n2, r2, (Option.some.inj h).symm, m2, i2, rfl⟩
  | i + 3 => simp at h
theorem or_empty {prog : Program} {w : World} {A : Around} {E : Value → Shared → Prop} {s : Shared} {env : Env} {e : Str} {t : Tok} {k : Nat} {pos pos' : Pos} {Q : Value → Shared → Prop} (he : e.length ≤ 1000) (h : ∀ t' tk, Q (.str e t') { s with toks := tk }) :
    wpAny (model prog w) A (truthy (.str e t)) (fun c s₂ => if c = true then Q (.str e t) s₂ else wpAny (model prog w) A (eval (.BoolOp .Or [.Constant (.str (Str.ofString "")) k pos] pos') env) Q E s₂) E s := by
  refine SBL.truthy (by omega) ?_
  by_cases hz : e.length = 0
  · have e0 : e = Str.ofString "" := by
      obtain ⟨c⟩ := e
      have : c = #[] := Array.size_eq_zero_iff.mp hz
      rw [this]; rfl
    have hb : ((e.length : Int) != 0) = false := by rw [hz]; rfl
    rw [hb, if_neg Bool.false_ne_true]
    refine BoolOp_one (Calls.Constant_str ?_)
    rw [← e0]
    exact h _ _
  · have hb : ((e.length : Int) != 0) = true := bne_iff_ne.mpr (by omega)
    rw [hb, if_pos rfl]
    exact h _ _
theorem cnt_bt {x y : Int} : Bt 8 ((List.count x [1, -1, 0, y] : Nat) : Int) := intBits_le_iff.mpr (by
  have h : List.count x [1, -1, 0, y] ≤ 4 := List.count_le_length
  show ((List.count x [1, -1, 0, y] : Nat) : Int).natAbs < 2 ^ 8
  omega)
theorem pow_bt {b : Int} {n : Nat} (hb : b.natAbs ≤ 3) (h : n ≤ 40) : Bt 64 (b ^ n) := intBits_le_iff.mpr (by
  rw [Int.natAbs_pow]
  exact Nat.lt_of_le_of_lt (Nat.le_trans (Nat.pow_le_pow_left hb n) (Nat.pow_le_pow_right (by decide) h)) (by decide))
theorem bt_sub {a b : Int} {m n : Nat} (ha : Bt m a) (hb : Bt n b) : Bt (max m n + 1) (a - b) := intBits_sub_le ha hb
theorem word1_len (f : Str) : (word1 f).length = 2 + f.length := by unfold word1; rw [Str.length_append]; rfl
theorem word2_len (f e : Str) : (word2 f e).length = 3 + f.length + e.length := by unfold word2; rw [Str.length_append, Str.length_append, Str.length_append]; show 2 + _ + 1 + _ = _; omega
end Mine
end

section
open PySem PySem.W PyProof.Rows PySem.Calls PySem.Spec
set_option maxRecDepth 100000
namespace Mine
def lawb (n : Nat) (P : List (List Int)) (base : Int) (nets : List Int) (k1 k2 k3 kl : Nat) (high : Int) : Bool :=
  match homeVals n P base nets 5 with
  | [h0, h1, h2, h3, h4, h5] =>
    (fun (below middle above low : Int) =>
      decide (h0 * h2 - h1 * h1 = low) && decide (three h0 h1 h2 h3 h4 = low * low * high) && decide (h1 = below) && decide (h1 * h3 - h2 * h2 = low * (below * middle - low)) &&
      decide (three h1 h2 h3 h4 h5 = low * low * high * (below * middle * above - low * above - high * below)))
      (((nets.count 0 : Nat) : Int) * base ^ k1) (((nets.count 0 : Nat) : Int) * base ^ k2) (((nets.count 0 : Nat) : Int) * base ^ k3) (((nets.count 1 : Nat) : Int) * ((nets.count (-1) : Nat) : Int) * base ^ kl)
  | _ => false
theorem law2 : ∀ j0, j0 < 3 → ∀ j2, j2 < 4 → ∀ j3, j3 < 6 → lawb 2 (P2 (tabF j0)) (tabB j2) [1, -1, 0, tabN j3] (Int.toNat 1) (1 + ((tabF j0).length : Int)).toNat (1 + ((tabF j0).length : Int) + ((0 : Nat) : Int)).toNat (2 * (1 + 2 * (1 + ((tabF j0).length : Int)))).toNat 0 = true := by decide +kernel
theorem law3 : ∀ j0, j0 < 3 → ∀ j1, j1 < 4 → ∀ e, e ∈ tabS j1 → ∀ j2, j2 < 4 → ∀ j3, j3 < 6 → lawb 3 (P3 (tabF j0) e) (tabB j2) [1, -1, 0, tabN j3] (Int.toNat 1) (1 + ((tabF j0).length : Int)).toNat (1 + ((tabF j0).length : Int) + (e.length : Int)).toNat (2 * (1 + 2 * (1 + ((tabF j0).length : Int)))).toNat
    ((((List.count 1 [1, -1, 0, tabN j3] : Nat) : Int) * ((List.count (-1) [1, -1, 0, tabN j3] : Nat) : Int)) * tabB j2 ^ (2 * (1 + ((tabF j0).length : Int) + 2 * (1 + (e.length : Int)))).toNat) = true := by decide +kernel
theorem law3s {j0 j1 j2 j3 : Nat} {e : Str} (he : tabS j1 = some e) (h0 : j0 < 3) (h1 : j1 < 4) (h2 : j2 < 4) (h3 : j3 < 6) : lawb 3 (P3 (tabF j0) e) (tabB j2) [1, -1, 0, tabN j3] (Int.toNat 1) (1 + ((tabF j0).length : Int)).toNat (1 + ((tabF j0).length : Int) + (e.length : Int)).toNat (2 * (1 + 2 * (1 + ((tabF j0).length : Int)))).toNat
    ((((List.count 1 [1, -1, 0, tabN j3] : Nat) : Int) * ((List.count (-1) [1, -1, 0, tabN j3] : Nat) : Int)) * tabB j2 ^ (2 * (1 + ((tabF j0).length : Int) + 2 * (1 + (e.length : Int)))).toNat) = true :=
  law3 j0 h0 j1 h1 e (by rw [he]; exact rfl) j2 h2 j3 h3
section
variable {n : Nat} {P : List (List Int)} {base : Int} {nets : List Int} {k1 k2 k3 kl : Nat} {high h0 h1 h2 h3 h4 h5 : Int}
theorem finA {x1 x2 low q ways high' : Int} (hL : lawb n P base nets k1 k2 k3 kl high = true) (hv : homeVals n P base nets 5 = [h0, h1, h2, h3, h4, h5])
    (e1 : x2 = x1 * high') (e2 : x1 = low * low) (e3 : low = ways * q) (e4 : q = base ^ kl) (e5 : ways = ((nets.count 1 : Nat) : Int) * ((nets.count (-1) : Nat) : Int)) (eh : high' = high) :
    [h0 * h2 - h1 * h1, three h0 h1 h2 h3 h4] = [low, x2] := by
  unfold lawb at hL
  rw [hv] at hL
  simp only [Bool.and_eq_true, decide_eq_true_eq] at hL
  subst e1 e2 e3 e4 e5 eh
  rw [hL.1.1.1.1, hL.1.1.1.2]
theorem finB {low q ways high' p1 p2 p3 below middle above rest y1 y2 y3 y4 y5 z1 z2 V3 W1 W2 W3 : Int} (hL : lawb n P base nets k1 k2 k3 kl high = true) (hv : homeVals n P base nets 5 = [h0, h1, h2, h3, h4, h5])
    (e1 : W3 = W2 * rest) (e2 : W2 = W1 * high') (e3 : W1 = low * low) (e4 : rest = y4 - y5) (e5 : y5 = high' * below) (e6 : y4 = y2 - y3) (e7 : y3 = low * above) (e8 : y2 = y1 * above) (e9 : y1 = below * middle)
    (f1 : V3 = low * z2) (f2 : z2 = z1 - low) (f3 : z1 = below * middle) (f4 : low = ways * q) (f5 : q = base ^ kl) (f6 : ways = ((nets.count 1 : Nat) : Int) * ((nets.count (-1) : Nat) : Int))
    (g1 : below = ((nets.count 0 : Nat) : Int) * p1) (g2 : p1 = base ^ k1) (g3 : middle = ((nets.count 0 : Nat) : Int) * p2) (g4 : p2 = base ^ k2) (g5 : above = ((nets.count 0 : Nat) : Int) * p3) (g6 : p3 = base ^ k3) (eh : high' = high) :
    decide ([h1, h1 * h3 - h2 * h2, three h1 h2 h3 h4 h5] = [below, V3, W3]) = true := by
  unfold lawb at hL
  rw [hv] at hL
  simp only [Bool.and_eq_true, decide_eq_true_eq] at hL
  subst e1 e2 e3 e4 e5 e6 e7 e8 e9 f1 f2 f3 f4 f5 f6 g2 g4 g6 eh
  rw [decide_eq_true_eq, hL.1.2, hL.2]
  subst g1 g3 g5
  rw [← hL.1.1.2]
theorem fin_h {v ways qh : Int} {kh : Nat} (a1 : v = ways * qh) (a2 : qh = base ^ kh) (a3 : ways = ((nets.count 1 : Nat) : Int) * ((nets.count (-1) : Nat) : Int)) : v = (((nets.count 1 : Nat) : Int) * ((nets.count (-1) : Nat) : Int)) * base ^ kh := by
  subst a1 a2 a3; rfl
end
end Mine
end

section
open PySem PySem.W PyProof.Rows PySem.Calls PySem.Spec
set_option maxRecDepth 100000
namespace Mine
local macro_rules | `(tactic| k_qdec) => `(tactic| decide +kernel)
local macro_rules | `(tactic| walk_at "call ref") => `(tactic| (k_here; refine hold_it ?_))
theorem ints4 {vs : List Value} {ns : List Int} (h : IntsAre vs ns) (hl : ns.length = 4) : ∃ h0 h1 h2 h3 t0 t1 t2 t3, vs = [Value.int h0 t0, .int h1 t1, .int h2 t2, .int h3 t3] := by
  match ns, hl with
  | [a, b, c, d], _ =>
    obtain ⟨t0, v0, rfl, g1⟩ := h.cons_inv
    obtain ⟨t1, v1, rfl, g2⟩ := g1.cons_inv
    obtain ⟨t2, v2, rfl, g3⟩ := g2.cons_inv
    obtain ⟨t3, v3, rfl, g4⟩ := g3.cons_inv
    rw [g4.nil_inv]
    exact ⟨a, b, c, d, t0, t1, t2, t3, rfl⟩
theorem use_drawn4 {w : World} {mean : ExcName → Option Value} {mg mb : Str → Option Value} {dp un : Nat} {gd : Option (List Code)} {cn : Str} {cs : Scope} {a : Addr} {ccd : Value} {cl : List (Str × Addr)} {outer : List Env} {A₀ : Around} {base h₀ : Heap} {L : Addr} {m : Str → Option Value} {s : Shared} {Q E : Value → Shared → Prop} {news : Led} {x sl : Addr} {svs : List Value} {sns : List Int} {t1 t2 t3 t4 : Tok}
    (B : Below A₀ base outer h₀) (F : Fr h₀ L s.heap m) (X : (Mine.hd.heap_39 w.params).In h₀) (N : News h₀ L s.heap news) (T : MTop mean mg mb h₀) (hk : cs.kind = .function)
    (hd : dp + 2 < recursionLimit) (hu : un + 20 * 2 < cLine) (hx : (x, ({ cls := .type "tuple", data := .seq #[.int 3 t1, .int 4 t2, .int 8 t3, .int 4 t4] } : Obj)) ∈ news)
    (hsl : h₀.IsList sl svs.toArray) (hs : IntsAre svs sns) (hz : sns.length ≤ 100)
    (ret : ∀ r d0 d1 d2 d3 v0 v1 v2 v3 n h' tk', (∀ p ∈ news, @Ne Nat p.1 r) → Fr h₀ L h' m → News h₀ L h' ((r, listOf #[.int d0 v0, .int d1 v1, .int d2 v2, .int d3 v3] n) :: news) → Q (.ref r) { s with heap := h', toks := tk' }) :
    wpAny (model PySem.Challenge.rw_wj0069_01.row.prog w) (ktrTop dp un gd cn cs L a ccd cl outer) (call (.ref 214) [.ref sl, .ref x]) Q E s :=
  use_drawn B F X N T hk hd hu hx hsl hs hz fun r vs ns n h' tk' hne hI hl F' N' => by
    obtain ⟨d0, d1, d2, d3, v0, v1, v2, v3, rfl⟩ := ints4 hI hl
    exact ret r d0 d1 d2 d3 v0 v1 v2 v3 n h' tk' hne F' N'
theorem thin_law {P : Prop} {h₀ h Hp : Heap} {L : Addr} {led : Led} {hl ll nl : Addr} {h0 h1 h2 h3 h4 h5 l0 l1 l2 net : Int} {t0 t1 t2 t3 t4 t5 u0 u1 u2 n1 n2 n3 n4 : Tok} {nh kl nn : Nat} {o1 o2 : Obj} (N : News h₀ L h led)
    (m1 : (hl, listOf #[.int h0 t0, .int h1 t1, .int h2 t2, .int h3 t3, .int h4 t4, .int h5 t5] nh) ∈ led) (m2 : (ll, listOf #[.int l0 u0, .int l1 u1, .int l2 u2] kl) ∈ led) (m3 : (nl, listOf #[.int 1 n1, .int (-1) n2, .int 0 n3, .int net n4] nn) ∈ led) (m4 : (Hp.objs.size + 1, o1) ∈ led) (m5 : (Hp.objs.size + 1 + 1, o2) ∈ led)
    (ret : ∀ (v0 v1 v2 : Tok) (x1 x2 : Int), x1 = l1 → x2 = l2 → News h₀ L h [(hl, listOf #[.int h0 t0, .int h1 t1, .int h2 t2, .int h3 t3, .int h4 t4, .int h5 t5] nh), (ll, listOf #[.int l0 v0, .int x1 v1, .int x2 v2] kl), (nl, listOf #[.int 1 n1, .int (-1) n2, .int 0 n3, .int net n4] nn), (Hp.objs.size + 1, o1), (Hp.objs.size + 1 + 1, o2)] → P) : P :=
  ret u0 u1 u2 l1 l2 rfl rfl (List.forall_mem_cons.mpr ⟨N _ m1, List.forall_mem_cons.mpr ⟨N _ m2, List.forall_mem_cons.mpr ⟨N _ m3, List.forall_mem_cons.mpr ⟨N _ m4, List.forall_mem_cons.mpr ⟨N _ m5, fun _ h => nomatch h⟩⟩⟩⟩⟩)
theorem fr_base3 {P : Prop} {h₀ h : Heap} {L : Addr} {a b c : Str} {va vb vc : Option Value} {base : Str → Option Value} (F : Fr h₀ L h (fun y => if y = a then va else if y = b then vb else if y = c then vc else base y))
    (ret : ∀ m' : Str → Option Value, Fr h₀ L h (fun y => if y = a then va else if y = b then vb else if y = c then vc else m' y) → P) : P := ret _ F
theorem thin_3 {P : Prop} {h₀ h Hp : Heap} {L : Addr} {led : Led} {nl : Addr} {net : Int} {n1 n2 n3 n4 : Tok} {nn : Nat} {o1 o2 : Obj} (N : News h₀ L h led)
    (m3 : (nl, listOf #[.int 1 n1, .int (-1) n2, .int 0 n3, .int net n4] nn) ∈ led) (m4 : (Hp.objs.size + 1, o1) ∈ led) (m5 : (Hp.objs.size + 1 + 1, o2) ∈ led)
    (ret : ∀ n1 n2 n3 n4 : Tok, News h₀ L h [(nl, listOf #[.int 1 n1, .int (-1) n2, .int 0 n3, .int net n4] nn), (Hp.objs.size + 1, o1), (Hp.objs.size + 1 + 1, o2)] → P) : P :=
  ret n1 n2 n3 n4 (List.forall_mem_cons.mpr ⟨N _ m3, List.forall_mem_cons.mpr ⟨N _ m4, List.forall_mem_cons.mpr ⟨N _ m5, fun _ h => nomatch h⟩⟩⟩)
def Hold3 (P : Prop) : Prop := P
theorem hold_3 {P : Prop} (h : Hold3 P) : P := h
local macro_rules | `(tactic| walk_at "truthy str") => `(tactic| (k_here; k_dflt (refine or_empty (by omega) ?_); intro t' tk'))
local macro_rules | `(tactic| walk_at "CompSrc") => `(tactic| (k_here; k_dflt (refine LCg.CompSrc.ledger (by rfl) (by k_asm) (by k_asm) (by k_mem) (by exact Nat.le_of_ble_eq_true rfl) ?_; intro g'; lcg_lit)))
section
variable {prog : Program} {w : World} {A : Around} {E : Value → Shared → Prop} {s : Shared} {a b n : Int} {t u : Tok} {Q : Value → Shared → Prop}
theorem bt_zero : Bt 1 0 := by decide
theorem pow_opq (hn : 0 ≤ n) (hn2 : n ≤ 40) (ha : a.natAbs ≤ 3) (h : ∀ v, v = a ^ n.toNat → Bt 64 v → Q (.int v s.toks) { s with toks := s.toks + 1 }) :
    wpAny (model prog w) A (binaryOp .Pow (.int a t) (.int n u)) Q E s :=
  PyProof.Rows.pow_int_small hn (by omega) (by omega) (h _ rfl (pow_bt ha (by omega)))
theorem sub_opq {k l : Nat} (ha : Bt k a) (hb : Bt l b) (h : ∀ v, v = a - b → Bt (max k l + 1) v → Q (.int v s.toks) { s with toks := s.toks + 1 }) :
    wpAny (model prog w) A (binaryOp .Sub (.int a t) (.int b u)) Q E s :=
  PyProof.Rows.sub_int (h _ rfl (bt_sub ha hb))
end
local macro_rules | `(tactic| walk_at "binaryOp Pow int int") => `(tactic| refine hold_it ?_)
local macro_rules | `(tactic| walk_at "binaryOp Mult int int") => `(tactic| ((fail_if_success (with_reducible show wpAny _ _ (binaryOp _ (Value.int 2 _) _) _ _ _)); refine hold_it ?_))
local macro_rules | `(tactic| walk_at "binaryOp Sub int int") => `(tactic| refine hold_it ?_)
local macro_rules | `(tactic| k_ne) => `(tactic| (refine neN ?_; (try dsimp only); first | (with_reducible assumption) | (refine Ne.symm ?_; with_reducible assumption)))
local macro_rules | `(tactic| walk_at "CompRest") => `(tactic| (with_unfolding_all first
  | (refine LCg.CompRest.succ ?_; intro v' I' oI' C' oC' D' m' h' tk' E' hv' hC' hx' F' N' off' ne'; lcg_open hv'; (try simp only [LCg.Off3, and_true] at off'); (obtain ⟨⟨o11, o12, o13⟩, ⟨o21, o22, o23⟩, ⟨o31, o32, o33⟩, ⟨o41, o42, o43⟩, ⟨o51, o52, o53⟩⟩ := off'))))
section
variable {prog : Program} {w : World} {A : Around} {E : Value → Shared → Prop} {s : Shared} {h₀ : Heap} {L l : Addr} {m : Str → Option Value} {news : Led} {value slice : Expr} {x0 x1 x2 x3 x4 x5 : Value} {u : Tok} {n : Nat} {ops : List Value} {Q : Value → Shared → Prop}
theorem pick_3 (x0 x1 x2 : Value) : (slicePick #[x0, x1, x2] (some 1) none none).toList = [x1, x2] := by
  rw [kmk_pick_nat (lo := some 1) (hi := none) #[x0, x1, x2] (a := 1) (b := 3) (by rfl)]
  rfl
theorem pick_6 (x0 x1 x2 x3 x4 x5 : Value) : (slicePick #[x0, x1, x2, x3, x4, x5] (some 1) none none).toList = [x1, x2, x3, x4, x5] := by
  rw [kmk_pick_nat (lo := some 1) (hi := none) #[x0, x1, x2, x3, x4, x5] (a := 1) (b := 6) (by rfl)]
  rfl
theorem tail3 (F : Fr h₀ L s.heap m) (N : News h₀ L s.heap news) (hm : (l, listOf #[x0, x1, x2] n) ∈ news) (hs : subscripted slice false (.ref l) (.ref s.heap.objs.size) = operate ops (getItem (.ref l) (.ref s.heap.objs.size)))
    (h : ∀ D h', Fr h₀ L h' m → News h₀ L h' ((D, listOf #[x1, x2] 0) :: news) → Q (.ref D) { s with heap := h' }) :
    wpAny (model prog w) A (subscriptTail value slice (.ref l) (.ref s.heap.objs.size)) Q E { s with heap := s.heap.push { cls := .type "slice", data := .fields #[.int 1 u, .none, .none] } } :=
  kba_turn (value' := PySem.Expr.Name (PySem.Str.ofString "_") ⟨0, 0, 0, 0⟩) (fun _ => rfl) (kmk_slice3_lit (its := #[x0, x1, x2]) (zs := [x1, x2]) F N (News.isList N hm) (.int ..) .none .none (by decide) (pick_3 ..) (fun D h' F' N' _ => h D h' F' N') hs (fun _ => rfl) (Nat.le_of_ble_eq_true rfl))
theorem tail6 (F : Fr h₀ L s.heap m) (N : News h₀ L s.heap news) (hm : (l, listOf #[x0, x1, x2, x3, x4, x5] n) ∈ news) (hs : subscripted slice false (.ref l) (.ref s.heap.objs.size) = operate ops (getItem (.ref l) (.ref s.heap.objs.size)))
    (h : ∀ D h', Fr h₀ L h' m → News h₀ L h' ((D, listOf #[x1, x2, x3, x4, x5] 0) :: news) → Q (.ref D) { s with heap := h' }) :
    wpAny (model prog w) A (subscriptTail value slice (.ref l) (.ref s.heap.objs.size)) Q E { s with heap := s.heap.push { cls := .type "slice", data := .fields #[.int 1 u, .none, .none] } } :=
  kba_turn (value' := PySem.Expr.Name (PySem.Str.ofString "_") ⟨0, 0, 0, 0⟩) (fun _ => rfl) (kmk_slice3_lit (its := #[x0, x1, x2, x3, x4, x5]) (zs := [x1, x2, x3, x4, x5]) F N (News.isList N hm) (.int ..) .none .none (by decide) (pick_6 ..) (fun D h' F' N' _ => h D h' F' N') hs (fun _ => rfl) (Nat.le_of_ble_eq_true rfl))
end
local macro_rules | `(tactic| walk_at "subscriptTail") => `(tactic| ((with_reducible show wpAny _ _ (subscriptTail _ (Expr.Slice _ _ _ _) (Value.ref _) (Value.ref _)) _ _ _); refine hold_it ?_))
local macro_rules | `(tactic| lcg_src) => `(tactic| exact Or.inr ⟨_, by k_mem, rfl, _, rfl⟩)
local macro_rules | `(tactic| walk_at "getMethod ref") => `(tactic| refine hold_it ?_)
local macro_rules | `(tactic| walk_at "execs cons") => `(tactic| (k_here; (with_reducible show wpAny _ _ (execs (Stmt.Assign _ (Expr.List _ _) _ :: Stmt.Assign _ (Expr.Call _ _ _ _) _ :: _) _) _ _ _); refine hold_3 ?_))
local macro_rules | `(tactic| walk_at "subscriptTail") => `(tactic| ((with_reducible show wpAny _ _ (subscriptTail _ _ (Value.ref _) (Value.int (Int.fmod _ _) _)) _ _ _); refine hold_it ?_))
def Hold2 (P : Prop) : Prop := P
theorem hold_2 {P : Prop} (h : Hold2 P) : P := h
local macro_rules | `(tactic| walk_at "execs cons") => `(tactic| (k_here; (with_reducible show wpAny _ _ (execs (Stmt.Assign [Expr.Tuple _ _ _] (Expr.ListComp _ _ _ _) _ :: _) _) _ _ _); refine hold_2 ?_))
theorem good_true {c : ClaimW} {cl : Str → Option Addr} {mean : ExcName → Option Value} {args : List WData} {s₁ s' : Shared} {b : Bool} (h : b = true) (g : GoodW c cl mean args s₁ (.ok (.ret (.bool true))) s') : GoodW c cl mean args s₁ (.ok (.ret (.bool b))) s' := by
  subst h; exact g
set_option maxHeartbeats 5000000 in
theorem law_dev : PySem.Challenge.rw_wj0069_01.Holds := Mine.hd (by
  w_top off
  have hMk : KstMark := kstMark
  k_go0
  all_goals try k_fold
  k_steps
  all_goals (unfold Hold; with_unfolding_all (refine' use_drawn4 ?k1 ?k2 ?k3 ?k4 ?k5 ?k6 ?k7 ?k8 ?k9 ?kA ?kB ?kC ?_; (case k1 => k_asm); (case k2 => k_asm); (case k3 => k_asm); (case k4 => k_asm); (case k5 => k_asm); (case k6 => first | exact rfl | assumption); (case k7 => ktr_room); (case k8 => ktr_units); (case k9 => k_mem); (case kA => assumption); (case kB => assumption); (case kC => omega); k_whole); intro r' d0 d1 d2 d3 v0 v1 v2 v3 n' h' tk' l1 F' N'; (simp only [List.forall_mem_cons, List.forall_mem_nil, and_true] at l1); (try dsimp only); (try k_sweep))
  all_goals k_steps
  all_goals (unfold Hold; first | (refine' read_F ?q1 ?q2 ?q3 ?q4 ?q5 ?q6 ?q7 ?_; (case q1 => k_asm); (case q2 => k_mem); (case q3 => repeat constructor); (case q4 => exact Int.fmod_nonneg_of_pos _ (by decide)); (case q5 => exact Int.fmod_lt_of_pos _ (by decide)); (case q6 => exact Nat.le_of_ble_eq_true rfl); (case q7 => with_unfolding_all rfl); intros) | (refine' read_B ?q1 ?q2 ?q3 ?q4 ?q5 ?q6 ?q7 ?_; (case q1 => k_asm); (case q2 => k_mem); (case q3 => repeat constructor); (case q4 => exact Int.fmod_nonneg_of_pos _ (by decide)); (case q5 => exact Int.fmod_lt_of_pos _ (by decide)); (case q6 => exact Nat.le_of_ble_eq_true rfl); (case q7 => with_unfolding_all rfl); intros) | (refine' read_X ?q1 ?q2 ?q3 ?q4 ?q5 ?q6 ?q7 ?_; (case q1 => k_asm); (case q2 => k_mem); (case q3 => repeat constructor); (case q4 => exact Int.fmod_nonneg_of_pos _ (by decide)); (case q5 => exact Int.fmod_lt_of_pos _ (by decide)); (case q6 => exact Nat.le_of_ble_eq_true rfl); (case q7 => with_unfolding_all rfl); intros) | (refine' read_S ?q1 ?q2 ?q3 ?q4 ?q5 ?q6 ?q7 ?_ ?_; (case q1 => k_asm); (case q2 => k_mem); (case q3 => repeat constructor); (case q4 => exact Int.fmod_nonneg_of_pos _ (by decide)); (case q5 => exact Int.fmod_lt_of_pos _ (by decide)); (case q6 => exact Nat.le_of_ble_eq_true rfl); (case q7 => with_unfolding_all rfl); (all_goals intros)) | (refine' read_N ?q0 ?q1 ?q2 ?q3 ?q4 ?q5 ?q6 ?q7 ?_; (case q0 => assumption); (case q1 => k_asm); (case q2 => k_mem); (case q3 => repeat constructor); (case q4 => exact Int.fmod_nonneg_of_pos _ (by decide)); (case q5 => exact Int.fmod_lt_of_pos _ (by decide)); (case q6 => exact Nat.le_of_ble_eq_true rfl); (case q7 => with_unfolding_all rfl); intros))
  all_goals k_steps
  all_goals (unfold Hold; first | (refine' read_F ?q1 ?q2 ?q3 ?q4 ?q5 ?q6 ?q7 ?_; (case q1 => k_asm); (case q2 => k_mem); (case q3 => repeat constructor); (case q4 => exact Int.fmod_nonneg_of_pos _ (by decide)); (case q5 => exact Int.fmod_lt_of_pos _ (by decide)); (case q6 => exact Nat.le_of_ble_eq_true rfl); (case q7 => with_unfolding_all rfl); intros) | (refine' read_B ?q1 ?q2 ?q3 ?q4 ?q5 ?q6 ?q7 ?_; (case q1 => k_asm); (case q2 => k_mem); (case q3 => repeat constructor); (case q4 => exact Int.fmod_nonneg_of_pos _ (by decide)); (case q5 => exact Int.fmod_lt_of_pos _ (by decide)); (case q6 => exact Nat.le_of_ble_eq_true rfl); (case q7 => with_unfolding_all rfl); intros) | (refine' read_X ?q1 ?q2 ?q3 ?q4 ?q5 ?q6 ?q7 ?_; (case q1 => k_asm); (case q2 => k_mem); (case q3 => repeat constructor); (case q4 => exact Int.fmod_nonneg_of_pos _ (by decide)); (case q5 => exact Int.fmod_lt_of_pos _ (by decide)); (case q6 => exact Nat.le_of_ble_eq_true rfl); (case q7 => with_unfolding_all rfl); intros) | (refine' read_S ?q1 ?q2 ?q3 ?q4 ?q5 ?q6 ?q7 ?_ ?_; (case q1 => k_asm); (case q2 => k_mem); (case q3 => repeat constructor); (case q4 => exact Int.fmod_nonneg_of_pos _ (by decide)); (case q5 => exact Int.fmod_lt_of_pos _ (by decide)); (case q6 => exact Nat.le_of_ble_eq_true rfl); (case q7 => with_unfolding_all rfl); (all_goals intros)) | (refine' read_N ?q0 ?q1 ?q2 ?q3 ?q4 ?q5 ?q6 ?q7 ?_; (case q0 => assumption); (case q1 => k_asm); (case q2 => k_mem); (case q3 => repeat constructor); (case q4 => exact Int.fmod_nonneg_of_pos _ (by decide)); (case q5 => exact Int.fmod_lt_of_pos _ (by decide)); (case q6 => exact Nat.le_of_ble_eq_true rfl); (case q7 => with_unfolding_all rfl); intros))
  all_goals k_steps
  all_goals (unfold Hold; first | (refine' read_F ?q1 ?q2 ?q3 ?q4 ?q5 ?q6 ?q7 ?_; (case q1 => k_asm); (case q2 => k_mem); (case q3 => repeat constructor); (case q4 => exact Int.fmod_nonneg_of_pos _ (by decide)); (case q5 => exact Int.fmod_lt_of_pos _ (by decide)); (case q6 => exact Nat.le_of_ble_eq_true rfl); (case q7 => with_unfolding_all rfl); intros) | (refine' read_B ?q1 ?q2 ?q3 ?q4 ?q5 ?q6 ?q7 ?_; (case q1 => k_asm); (case q2 => k_mem); (case q3 => repeat constructor); (case q4 => exact Int.fmod_nonneg_of_pos _ (by decide)); (case q5 => exact Int.fmod_lt_of_pos _ (by decide)); (case q6 => exact Nat.le_of_ble_eq_true rfl); (case q7 => with_unfolding_all rfl); intros) | (refine' read_X ?q1 ?q2 ?q3 ?q4 ?q5 ?q6 ?q7 ?_; (case q1 => k_asm); (case q2 => k_mem); (case q3 => repeat constructor); (case q4 => exact Int.fmod_nonneg_of_pos _ (by decide)); (case q5 => exact Int.fmod_lt_of_pos _ (by decide)); (case q6 => exact Nat.le_of_ble_eq_true rfl); (case q7 => with_unfolding_all rfl); intros) | (refine' read_S ?q1 ?q2 ?q3 ?q4 ?q5 ?q6 ?q7 ?_ ?_; (case q1 => k_asm); (case q2 => k_mem); (case q3 => repeat constructor); (case q4 => exact Int.fmod_nonneg_of_pos _ (by decide)); (case q5 => exact Int.fmod_lt_of_pos _ (by decide)); (case q6 => exact Nat.le_of_ble_eq_true rfl); (case q7 => with_unfolding_all rfl); (all_goals intros)) | (refine' read_N ?q0 ?q1 ?q2 ?q3 ?q4 ?q5 ?q6 ?q7 ?_; (case q0 => assumption); (case q1 => k_asm); (case q2 => k_mem); (case q3 => repeat constructor); (case q4 => exact Int.fmod_nonneg_of_pos _ (by decide)); (case q5 => exact Int.fmod_lt_of_pos _ (by decide)); (case q6 => exact Nat.le_of_ble_eq_true rfl); (case q7 => with_unfolding_all rfl); intros))
  all_goals k_steps
  all_goals (unfold Hold; first | (refine' read_F ?q1 ?q2 ?q3 ?q4 ?q5 ?q6 ?q7 ?_; (case q1 => k_asm); (case q2 => k_mem); (case q3 => repeat constructor); (case q4 => exact Int.fmod_nonneg_of_pos _ (by decide)); (case q5 => exact Int.fmod_lt_of_pos _ (by decide)); (case q6 => exact Nat.le_of_ble_eq_true rfl); (case q7 => with_unfolding_all rfl); intros) | (refine' read_B ?q1 ?q2 ?q3 ?q4 ?q5 ?q6 ?q7 ?_; (case q1 => k_asm); (case q2 => k_mem); (case q3 => repeat constructor); (case q4 => exact Int.fmod_nonneg_of_pos _ (by decide)); (case q5 => exact Int.fmod_lt_of_pos _ (by decide)); (case q6 => exact Nat.le_of_ble_eq_true rfl); (case q7 => with_unfolding_all rfl); intros) | (refine' read_X ?q1 ?q2 ?q3 ?q4 ?q5 ?q6 ?q7 ?_; (case q1 => k_asm); (case q2 => k_mem); (case q3 => repeat constructor); (case q4 => exact Int.fmod_nonneg_of_pos _ (by decide)); (case q5 => exact Int.fmod_lt_of_pos _ (by decide)); (case q6 => exact Nat.le_of_ble_eq_true rfl); (case q7 => with_unfolding_all rfl); intros) | (refine' read_S ?q1 ?q2 ?q3 ?q4 ?q5 ?q6 ?q7 ?_ ?_; (case q1 => k_asm); (case q2 => k_mem); (case q3 => repeat constructor); (case q4 => exact Int.fmod_nonneg_of_pos _ (by decide)); (case q5 => exact Int.fmod_lt_of_pos _ (by decide)); (case q6 => exact Nat.le_of_ble_eq_true rfl); (case q7 => with_unfolding_all rfl); (all_goals intros)) | (refine' read_N ?q0 ?q1 ?q2 ?q3 ?q4 ?q5 ?q6 ?q7 ?_; (case q0 => assumption); (case q1 => k_asm); (case q2 => k_mem); (case q3 => repeat constructor); (case q4 => exact Int.fmod_nonneg_of_pos _ (by decide)); (case q5 => exact Int.fmod_lt_of_pos _ (by decide)); (case q6 => exact Nat.le_of_ble_eq_true rfl); (case q7 => with_unfolding_all rfl); intros))
  all_goals k_steps
  all_goals (unfold Hold; first | (refine' read_F ?q1 ?q2 ?q3 ?q4 ?q5 ?q6 ?q7 ?_; (case q1 => k_asm); (case q2 => k_mem); (case q3 => repeat constructor); (case q4 => exact Int.fmod_nonneg_of_pos _ (by decide)); (case q5 => exact Int.fmod_lt_of_pos _ (by decide)); (case q6 => exact Nat.le_of_ble_eq_true rfl); (case q7 => with_unfolding_all rfl); intros) | (refine' read_B ?q1 ?q2 ?q3 ?q4 ?q5 ?q6 ?q7 ?_; (case q1 => k_asm); (case q2 => k_mem); (case q3 => repeat constructor); (case q4 => exact Int.fmod_nonneg_of_pos _ (by decide)); (case q5 => exact Int.fmod_lt_of_pos _ (by decide)); (case q6 => exact Nat.le_of_ble_eq_true rfl); (case q7 => with_unfolding_all rfl); intros) | (refine' read_X ?q1 ?q2 ?q3 ?q4 ?q5 ?q6 ?q7 ?_; (case q1 => k_asm); (case q2 => k_mem); (case q3 => repeat constructor); (case q4 => exact Int.fmod_nonneg_of_pos _ (by decide)); (case q5 => exact Int.fmod_lt_of_pos _ (by decide)); (case q6 => exact Nat.le_of_ble_eq_true rfl); (case q7 => with_unfolding_all rfl); intros) | (refine' read_S ?q1 ?q2 ?q3 ?q4 ?q5 ?q6 ?q7 ?_ ?_; (case q1 => k_asm); (case q2 => k_mem); (case q3 => repeat constructor); (case q4 => exact Int.fmod_nonneg_of_pos _ (by decide)); (case q5 => exact Int.fmod_lt_of_pos _ (by decide)); (case q6 => exact Nat.le_of_ble_eq_true rfl); (case q7 => with_unfolding_all rfl); (all_goals intros)) | (refine' read_N ?q0 ?q1 ?q2 ?q3 ?q4 ?q5 ?q6 ?q7 ?_; (case q0 => assumption); (case q1 => k_asm); (case q2 => k_mem); (case q3 => repeat constructor); (case q4 => exact Int.fmod_nonneg_of_pos _ (by decide)); (case q5 => exact Int.fmod_lt_of_pos _ (by decide)); (case q6 => exact Nat.le_of_ble_eq_true rfl); (case q7 => with_unfolding_all rfl); intros))
  all_goals k_steps
  all_goals (unfold Hold3; (rename News _ _ _ _ => N9); (refine' thin_3 N9 ?m3 ?m4 ?m5 ?_); (case m3 => k_mem); (case m4 => k_mem); (case m5 => k_mem); intro y1 y2 y3 y4 N'; clear N9; (rename Fr _ _ _ _ => F9); (refine' fr_base3 F9 ?_); intro mB F'; clear F9; (try dsimp only); refine st_gen ?_; intro k'; refine wpAny_execs_cons ?_; (try k_fold))
  all_goals k_steps
  all_goals (unfold Hold; with_unfolding_all (first | (refine' use_stn ?k1 ?k2 ?k3 ?k4 ?k5 ?k6 ?k7 ?k8 ?m1 ?m2 ?m3 ?m4 ?q1 ?_; (case k1 => k_asm); (case k2 => k_asm); (case k3 => k_asm); (case k4 => k_asm); (case k5 => k_asm); (case k6 => first | exact rfl | assumption); (case k7 => ktr_room); (case k8 => ktr_units); (case m1 => k_mem); (case m2 => k_mem); (case m3 => k_mem); (case m4 => k_mem); (case q1 => omega); k_whole) | (refine' use_sts ?k1 ?k2 ?k3 ?k4 ?k5 ?k6 ?k7 ?k8 ?m1 ?m2 ?m3 ?m4 ?q1 ?q2 ?_; (case k1 => k_asm); (case k2 => k_asm); (case k3 => k_asm); (case k4 => k_asm); (case k5 => k_asm); (case k6 => first | exact rfl | assumption); (case k7 => ktr_room); (case k8 => ktr_units); (case m1 => k_mem); (case m2 => k_mem); (case m3 => k_mem); (case m4 => k_mem); (case q1 => omega); (case q2 => omega); k_whole)); intros; (try dsimp only); (try k_sweep))
  all_goals k_steps
  all_goals (unfold Hold; with_unfolding_all (first | (refine' use_p2 ?k1 ?k2 ?k3 ?k4 ?k5 ?k6 ?k7 ?k8 ?q1 ?q2 lev00 (lev01 ?q3) (lev11 ?q4) ?_; (case k1 => k_asm); (case k2 => k_asm); (case k3 => k_asm); (case k4 => k_asm); (case k5 => k_asm); (case k6 => first | exact rfl | assumption); (case k7 => ktr_room); (case k8 => ktr_units); (case q1 => decide); (case q2 => (first | omega | (rw [word1_len]; omega) | (rw [word2_len]; omega) | decide)); (case q3 => assumption); (case q4 => assumption); k_whole) | (refine' use_p3 ?k1 ?k2 ?k3 ?k4 ?k5 ?k6 ?k7 ?k8 ?q1 ?q2 ?q3 lev00 (lev01 ?q4) (lev11 ?q5) (lev12 ?q6 ?q7 ?q8) (lev22 ?q9 ?qA ?qB) ?_; (case k1 => k_asm); (case k2 => k_asm); (case k3 => k_asm); (case k4 => k_asm); (case k5 => k_asm); (case k6 => first | exact rfl | assumption); (case k7 => ktr_room); (case k8 => ktr_units); (case q1 => decide); (case q2 => (first | omega | (rw [word1_len]; omega) | (rw [word2_len]; omega) | decide)); (case q3 => (first | omega | (rw [word1_len]; omega) | (rw [word2_len]; omega) | decide)); (case q4 => assumption); (case q5 => assumption); (case q6 => assumption); (case q8 => assumption); (case q7 => assumption); (case q9 => assumption); (case qB => assumption); (case qA => assumption); k_whole)); intros; (try dsimp only); (try k_sweep))
  all_goals k_steps
  all_goals (unfold Hold; with_unfolding_all (first | (refine' use_home (wvs := [_, _]) (pvs := [_, _]) ?k1 ?k2 ?k3 ?k4 ?k5 ?k6 ?k7 ?k8 ?m1 ?m2 ?m3 (prices_are2 ?p1 ?p2 ?p3 ?p4) ?m5 (ok2 ?h1 ?h2 ?h3) (texts_ok ?h4) ?_; (case k1 => k_asm); (case k2 => k_asm); (case k3 => k_asm); (case k4 => k_asm); (case k5 => k_asm); (case k6 => first | exact rfl | assumption); (case k7 => ktr_room); (case k8 => ktr_units); (case m1 => k_mem); (case m3 => k_mem); (case m5 => k_mem); (case m2 => exact .cons _ _ (.cons _ _ .nil)); (case p1 => k_mem); (case p2 => k_mem); (case p3 => exact .cons _ _ (.cons _ _ .nil)); (case p4 => exact .cons _ _ .nil); (case h1 => assumption); (case h2 => assumption); (case h3 => assumption); (case h4 => assumption); k_whole) | (refine' use_home (wvs := [_, _, _]) (pvs := [_, _, _]) ?k1 ?k2 ?k3 ?k4 ?k5 ?k6 ?k7 ?k8 ?m1 ?m2 ?m3 (prices_are3 ?p1 ?p2 ?p5 ?p3 ?p4 ?p6) ?m5 (ok3 ?h1 ?h5 ?h6 ?h2 ?h3) (texts_ok ?h4) ?_; (case k1 => k_asm); (case k2 => k_asm); (case k3 => k_asm); (case k4 => k_asm); (case k5 => k_asm); (case k6 => first | exact rfl | assumption); (case k7 => ktr_room); (case k8 => ktr_units); (case m1 => k_mem); (case m3 => k_mem); (case m5 => k_mem); (case m2 => exact .cons _ _ (.cons _ _ (.cons _ _ .nil))); (case p1 => k_mem); (case p2 => k_mem); (case p5 => k_mem); (case p3 => exact .cons _ _ (.cons _ _ .nil)); (case p4 => exact .cons _ _ (.cons _ _ .nil)); (case p6 => exact .cons _ _ .nil); (case h1 => assumption); (case h2 => assumption); (case h3 => assumption); (case h4 => assumption); (case h6 => assumption); (case h5 => assumption); k_whole)); intros; (try dsimp only); (try k_sweep))
  all_goals k_steps
  all_goals (unfold Hold2; (rename News _ _ _ _ => N9); (refine' thin_law N9 ?m1 ?m2 ?m3 ?m4 ?m5 ?_); (case m1 => k_mem); (case m2 => k_mem); (case m3 => k_mem); (case m4 => k_mem); (case m5 => k_mem); intro v0 v1 v2 x1 x2 ex1 ex2 N'; clear N9; (repeat (with_reducible rename (@LT.lt Nat _ _ _) ∧ _ => z9; clear z9)); (repeat (with_reducible rename (@Ne Nat _ _) ∧ _ => z9; clear z9)); refine wpAny_execs_cons ?_)
  all_goals repeat' (first | (k_unfold; (try dsimp only)) | walk1 | (dsimp only; walk1) | (unfold Hold; first | (k_here; (with_reducible show wpAny _ _ (getMethod (Value.ref _) (PySem.Str.ofString "count") _) _ _ _); k_dflt (refine' kf_method ?NBL0 ?mBL0 PySem.F.slot_list_count PySem.F.type_list_count ?_; (case NBL0 => k_asm); (case mBL0 => k_mem))) | (k_here; (with_reducible show wpAny _ _ (subscriptTail _ (Expr.Slice _ _ _ _) (Value.ref _) (Value.ref _)) _ _ _); (rename Fr _ _ _ _ => sF9); (rename News _ _ _ _ => sN9); (first | (refine' tail3 (s := ⟨_, _, _, _, _⟩) sF9 sN9 ?q1BL1 ?q2BL1 ?_; (case q1BL1 => k_mem); (case q2BL1 => with_unfolding_all rfl)) | (refine' tail6 (s := ⟨_, _, _, _, _⟩) sF9 sN9 ?q1BL1 ?q2BL1 ?_; (case q1BL1 => k_mem); (case q2BL1 => with_unfolding_all rfl))); k_whole; intro D' h' F' N'; (try dsimp only); (try k_sweep)) | (k_here; (with_reducible refine' sub_opq ?q1BL2 ?q2BL2 ?_); (case q1BL2 => first | (with_reducible assumption) | (with_reducible exact bt_zero)); (case q2BL2 => first | (with_reducible assumption) | (with_reducible exact bt_zero)); intro v' e' b'; (try dsimp only)) | (k_here; (with_reducible refine' mul_opq ?q1BL3 ?q2BL3 ?q3BL3 ?_); (case q1BL3 => first | (with_reducible exact cnt_bt) | (with_reducible assumption) | (with_reducible exact bt_zero)); (case q2BL3 => first | (with_reducible exact cnt_bt) | (with_reducible assumption) | (with_reducible exact bt_zero)); (case q3BL3 => decide); intro v' e' b'; (try dsimp only)) | (k_here; (with_reducible refine' pow_opq ?q1BL4 ?q2BL4 ?q3BL4 ?_); (case q1BL4 => omega); (case q2BL4 => omega); (case q3BL4 => with_reducible assumption); intro v' e' b'; (try dsimp only)) | fail "no block"))
  all_goals (unfold Hold; with_unfolding_all (first | (refine' use_q6 ?k1 ?k2 ?k3 ?k4 ?k5 ?k6 ?k7 ?k8 ?m1 ?z1 ?z2 ?z3 ?z4 ?z5 ?_; (case k1 => k_asm); (case k2 => k_asm); (case k3 => k_asm); (case k4 => k_asm); (case k5 => k_asm); (case k6 => first | exact rfl | assumption); (case k7 => ktr_room); (case k8 => ktr_units); (case m1 => k_mem); (case z1 => assumption); (case z2 => assumption); (case z3 => assumption); (case z4 => assumption); (case z5 => assumption); k_whole) | (refine' use_q5 ?k1 ?k2 ?k3 ?k4 ?k5 ?k6 ?k7 ?k8 ?m1 ?z1 ?z2 ?z3 ?z4 ?z5 ?_; (case k1 => k_asm); (case k2 => k_asm); (case k3 => k_asm); (case k4 => k_asm); (case k5 => k_asm); (case k6 => first | exact rfl | assumption); (case k7 => ktr_room); (case k8 => ktr_units); (case m1 => k_mem); (case z1 => assumption); (case z2 => assumption); (case z3 => assumption); (case z4 => assumption); (case z5 => assumption); k_whole)); intros; (try dsimp only); (try k_sweep))
  all_goals repeat' (first | (k_unfold; (try dsimp only)) | walk1 | (dsimp only; walk1) | (unfold Hold; first | (k_here; (with_reducible show wpAny _ _ (getMethod (Value.ref _) (PySem.Str.ofString "count") _) _ _ _); k_dflt (refine' kf_method ?NBL0 ?mBL0 PySem.F.slot_list_count PySem.F.type_list_count ?_; (case NBL0 => k_asm); (case mBL0 => k_mem))) | (k_here; (with_reducible show wpAny _ _ (subscriptTail _ (Expr.Slice _ _ _ _) (Value.ref _) (Value.ref _)) _ _ _); (rename Fr _ _ _ _ => sF9); (rename News _ _ _ _ => sN9); (first | (refine' tail3 (s := ⟨_, _, _, _, _⟩) sF9 sN9 ?q1BL1 ?q2BL1 ?_; (case q1BL1 => k_mem); (case q2BL1 => with_unfolding_all rfl)) | (refine' tail6 (s := ⟨_, _, _, _, _⟩) sF9 sN9 ?q1BL1 ?q2BL1 ?_; (case q1BL1 => k_mem); (case q2BL1 => with_unfolding_all rfl))); k_whole; intro D' h' F' N'; (try dsimp only); (try k_sweep)) | (k_here; (with_reducible refine' sub_opq ?q1BL2 ?q2BL2 ?_); (case q1BL2 => first | (with_reducible assumption) | (with_reducible exact bt_zero)); (case q2BL2 => first | (with_reducible assumption) | (with_reducible exact bt_zero)); intro v' e' b'; (try dsimp only)) | (k_here; (with_reducible refine' mul_opq ?q1BL3 ?q2BL3 ?q3BL3 ?_); (case q1BL3 => first | (with_reducible exact cnt_bt) | (with_reducible assumption) | (with_reducible exact bt_zero)); (case q2BL3 => first | (with_reducible exact cnt_bt) | (with_reducible assumption) | (with_reducible exact bt_zero)); (case q3BL3 => decide); intro v' e' b'; (try dsimp only)) | (k_here; (with_reducible refine' pow_opq ?q1BL4 ?q2BL4 ?q3BL4 ?_); (case q1BL4 => omega); (case q2BL4 => omega); (case q3BL4 => with_reducible assumption); intro v' e' b'; (try dsimp only)) | fail "no block"))
  all_goals try (unfold Hold; with_unfolding_all (first | (refine' use_q6 ?k1 ?k2 ?k3 ?k4 ?k5 ?k6 ?k7 ?k8 ?m1 ?z1 ?z2 ?z3 ?z4 ?z5 ?_; (case k1 => k_asm); (case k2 => k_asm); (case k3 => k_asm); (case k4 => k_asm); (case k5 => k_asm); (case k6 => first | exact rfl | assumption); (case k7 => ktr_room); (case k8 => ktr_units); (case m1 => k_mem); (case z1 => assumption); (case z2 => assumption); (case z3 => assumption); (case z4 => assumption); (case z5 => assumption); k_whole) | (refine' use_q5 ?k1 ?k2 ?k3 ?k4 ?k5 ?k6 ?k7 ?k8 ?m1 ?z1 ?z2 ?z3 ?z4 ?z5 ?_; (case k1 => k_asm); (case k2 => k_asm); (case k3 => k_asm); (case k4 => k_asm); (case k5 => k_asm); (case k6 => first | exact rfl | assumption); (case k7 => ktr_room); (case k8 => ktr_units); (case m1 => k_mem); (case z1 => assumption); (case z2 => assumption); (case z3 => assumption); (case z4 => assumption); (case z5 => assumption); k_whole)); intros; (try dsimp only); (try k_sweep))
  all_goals repeat' (first | (k_unfold; (try dsimp only)) | walk1 | (dsimp only; walk1) | (unfold Hold; first | (k_here; (with_reducible show wpAny _ _ (getMethod (Value.ref _) (PySem.Str.ofString "count") _) _ _ _); k_dflt (refine' kf_method ?NBL0 ?mBL0 PySem.F.slot_list_count PySem.F.type_list_count ?_; (case NBL0 => k_asm); (case mBL0 => k_mem))) | (k_here; (with_reducible show wpAny _ _ (subscriptTail _ (Expr.Slice _ _ _ _) (Value.ref _) (Value.ref _)) _ _ _); (rename Fr _ _ _ _ => sF9); (rename News _ _ _ _ => sN9); (first | (refine' tail3 (s := ⟨_, _, _, _, _⟩) sF9 sN9 ?q1BL1 ?q2BL1 ?_; (case q1BL1 => k_mem); (case q2BL1 => with_unfolding_all rfl)) | (refine' tail6 (s := ⟨_, _, _, _, _⟩) sF9 sN9 ?q1BL1 ?q2BL1 ?_; (case q1BL1 => k_mem); (case q2BL1 => with_unfolding_all rfl))); k_whole; intro D' h' F' N'; (try dsimp only); (try k_sweep)) | (k_here; (with_reducible refine' sub_opq ?q1BL2 ?q2BL2 ?_); (case q1BL2 => first | (with_reducible assumption) | (with_reducible exact bt_zero)); (case q2BL2 => first | (with_reducible assumption) | (with_reducible exact bt_zero)); intro v' e' b'; (try dsimp only)) | (k_here; (with_reducible refine' mul_opq ?q1BL3 ?q2BL3 ?q3BL3 ?_); (case q1BL3 => first | (with_reducible exact cnt_bt) | (with_reducible assumption) | (with_reducible exact bt_zero)); (case q2BL3 => first | (with_reducible exact cnt_bt) | (with_reducible assumption) | (with_reducible exact bt_zero)); (case q3BL3 => decide); intro v' e' b'; (try dsimp only)) | (k_here; (with_reducible refine' pow_opq ?q1BL4 ?q2BL4 ?q3BL4 ?_); (case q1BL4 => omega); (case q2BL4 => omega); (case q3BL4 => with_reducible assumption); intro v' e' b'; (try dsimp only)) | fail "no block"))
  · subst ex1
    subst ex2
    refine' good_true (finB ?L ?v ?e1 ?e2 ?e3 ?e4 ?e5 ?e6 ?e7 ?e8 ?e9 ?f1 ?f2 ?f3 ?f4 ?f5 ?f6 ?g1 ?g2 ?g3 ?g4 ?g5 ?g6 ?eh) ?_
    case e1 => with_reducible assumption
    case e2 => with_reducible assumption
    case e3 => with_reducible assumption
    case e4 => with_reducible assumption
    case e5 => with_reducible assumption
    case e6 => with_reducible assumption
    case e7 => with_reducible assumption
    case e8 => with_reducible assumption
    case e9 => with_reducible assumption
    case f1 => with_reducible assumption
    case f2 => with_reducible assumption
    case f3 => with_reducible assumption
    case f4 => with_reducible assumption
    case v => with_reducible assumption
    case L => exact law2 _ (by assumption) _ (by assumption) _ (by assumption)
    case g1 => with_reducible assumption
    case g3 => with_reducible assumption
    case g5 => with_reducible assumption
    case f5 => assumption
    case f6 => assumption
    case g2 => assumption
    case g4 => assumption
    case g6 => assumption
    case eh => exact rfl
    kc_close
  · subst ex1
    subst ex2
    exfalso
    (rename ¬ (@Eq (List Int) _ _) => hne9)
    refine' hne9 (finA ?L ?v ?e1 ?e2 ?e3 ?e4 ?e5 ?eh)
    case e1 => with_reducible assumption
    case e2 => with_reducible assumption
    case e3 => with_reducible assumption
    case v => with_reducible assumption
    case L => exact law2 _ (by assumption) _ (by assumption) _ (by assumption)
    case e4 => assumption
    case e5 => assumption
    case eh => exact rfl
  · subst ex1
    subst ex2
    refine' good_true (finB ?L ?v ?e1 ?e2 ?e3 ?e4 ?e5 ?e6 ?e7 ?e8 ?e9 ?f1 ?f2 ?f3 ?f4 ?f5 ?f6 ?g1 ?g2 ?g3 ?g4 ?g5 ?g6 ?eh) ?_
    case e1 => with_reducible assumption
    case e2 => with_reducible assumption
    case e3 => with_reducible assumption
    case e4 => with_reducible assumption
    case e5 => with_reducible assumption
    case e6 => with_reducible assumption
    case e7 => with_reducible assumption
    case e8 => with_reducible assumption
    case e9 => with_reducible assumption
    case f1 => with_reducible assumption
    case f2 => with_reducible assumption
    case f3 => with_reducible assumption
    case f4 => with_reducible assumption
    case v => with_reducible assumption
    case L => exact law3s (by with_reducible assumption) (by assumption) (by assumption) (by assumption) (by assumption)
    case g1 => with_reducible assumption
    case g3 => with_reducible assumption
    case g5 => with_reducible assumption
    case f5 => assumption
    case f6 => assumption
    case g2 => assumption
    case g4 => assumption
    case g6 => assumption
    case eh => exact fin_h (by with_reducible assumption) (by assumption) (by assumption)
    kc_close
  · subst ex1
    subst ex2
    exfalso
    (rename ¬ (@Eq (List Int) _ _) => hne9)
    refine' hne9 (finA ?L ?v ?e1 ?e2 ?e3 ?e4 ?e5 ?eh)
    case e1 => with_reducible assumption
    case e2 => with_reducible assumption
    case e3 => with_reducible assumption
    case v => with_reducible assumption
    case L => exact law3s (by with_reducible assumption) (by assumption) (by assumption) (by assumption) (by assumption)
    case e4 => assumption
    case e5 => assumption
    case eh => exact fin_h (by with_reducible assumption) (by assumption) (by assumption))
end Mine
end
end
theorem PySem.Challenge.cw_wj0069_01_holds : PySem.Challenge.rw_wj0069_01.Holds :=
  Mine.law_dev
