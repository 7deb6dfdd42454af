import PyProof.Rows.All
import Wide.All
import OpenK.AllK
import Wide.FinOn
import PySem.Challenge.RW_xe0027_01
open PySem PySem.W PyProof.Rows
set_option Elab.async false
set_option rowWalk.seconds 0
section
namespace Mine
def Hold (p : Prop) : Prop := p
theorem Hold.out {p : Prop} (h : Hold p) : p := h
end Mine
end
section
set_option maxRecDepth 100000
set_option maxHeartbeats 2000000
namespace Mine
theorem re_pa : PlainAttrs "re.Pattern" :=
  ⟨⟨"object.__getattribute__", by rw [typeLookup_type, builtinLookup_eq_fast]; kernel_rfl, by decide +kernel⟩, by rw [typeLookup_type, builtinLookup_eq_fast]; kernel_rfl⟩
theorem rm_pa : PlainAttrs "re.Match" :=
  ⟨⟨"object.__getattribute__", by rw [typeLookup_type, builtinLookup_eq_fast]; kernel_rfl, by decide +kernel⟩, by rw [typeLookup_type, builtinLookup_eq_fast]; kernel_rfl⟩
theorem slot_search : Slot "re.Pattern" (Str.ofString "search") "re.Pattern.search" :=
  .of (owner := "re.Pattern") (n := "search") (by rw [typeLookup_type, builtinLookup_eq_fast]; kernel_rfl) (by decide +kernel) (by decide +kernel) (by decide +kernel)
    (by first | exact .inl (by decide +kernel) | exact .inr (by decide +kernel)) (by rw [isSubtype_type]; kernel_rfl)
theorem type_search : typeOf (.builtin "re.Pattern.search") = pure (.type "method_descriptor") := by show builtinType _ = _; rw [builtinType_eq_fast]; kernel_rfl
theorem entry_search : entryFor table "re.Pattern.search" = some Builtin.«re.Pattern.search» := entryFor_of_tree (by kernel_rfl)
theorem slot_group : Slot "re.Match" (Str.ofString "group") "re.Match.group" :=
  .of (owner := "re.Match") (n := "group") (by rw [typeLookup_type, builtinLookup_eq_fast]; kernel_rfl) (by decide +kernel) (by decide +kernel) (by decide +kernel)
    (by first | exact .inl (by decide +kernel) | exact .inr (by decide +kernel)) (by rw [isSubtype_type]; kernel_rfl)
theorem type_group : typeOf (.builtin "re.Match.group") = pure (.type "method_descriptor") := by show builtinType _ = _; rw [builtinType_eq_fast]; kernel_rfl
theorem entry_group : entryFor table "re.Match.group" = some Builtin.«re.Match.group» := entryFor_of_tree (by kernel_rfl)
theorem owner_pat : Manifest.owners.lookup (String.ofList ['n','r','e','t','t','a','P','_','e','r'].reverse) = none := by kernel_rfl
theorem owner_pat2 : Manifest.owners.lookup (String.ofList ['n','r','e','t','t','a','P','.','e','r'].reverse) = some Manifest.sig_re_Pattern := by kernel_rfl
theorem owner_mat2 : Manifest.owners.lookup (String.ofList ['h','c','t','a','M','.','e','r'].reverse) = some Manifest.sig_re_Match := by kernel_rfl
theorem args_search_2 (a b : Value) : argsOk "re.Pattern.search" ⟨[a, b], []⟩ := by
  unfold argsOk; rw [signature?_of (id := "re.Pattern.search") (n := ['h', 'c', 'r', 'a', 'e', 's']) (o := ['n','r','e','t','t','a','P','.','e','r']) (by kernel_rfl) owner_pat2]; kernel_rfl
theorem args_group_2 (a b : Value) : argsOk "re.Match.group" ⟨[a, b], []⟩ := by
  unfold argsOk; rw [signature?_of (id := "re.Match.group") (n := ['p','u','o','r','g']) (o := ['h','c','t','a','M','.','e','r']) (by kernel_rfl) owner_mat2]; kernel_rfl
open PySem.Builtin.Re PySem.Sre

theorem runFor_done {m : M} (h : m.outcome.isSome = true) : ∀ n, M.runFor n m = m
  | 0 => rfl
  | n + 1 => by unfold M.runFor; rw [if_pos h]
theorem runFor_add (a b : Nat) : ∀ m : M, M.runFor (a + b) m = M.runFor b (M.runFor a m) := by
  induction a with
  | zero => intro m; rw [Nat.zero_add]; rfl
  | succ a ih =>
    intro m
    rw [Nat.succ_add]
    show (if m.outcome.isSome then m else M.runFor (a + b) m.step) = M.runFor b (if m.outcome.isSome then m else M.runFor a m.step)
    split
    · rename_i h; rw [runFor_done h]
    · exact ih _
section
variable {M : Model} {A : Around} {E : Value → Shared → Prop} {s : Shared}
theorem reDrive_wp {Q : Sre.M → Shared → Prop} : ∀ (k n : Nat) (m : Sre.M), k < n → ((Sre.M.runFor (4 * (k + 1)) m).outcome.isSome = true) → Q (Sre.M.runFor (4 * (k + 1)) m) s → wpAny M A (reDrive n m) Q E s
  | k, 0, _, h, _, _ => absurd h (Nat.not_lt_zero _)
  | 0, n + 1, m, _, ho, hq => by
    unfold reDrive
    show wpAny M A (if (Sre.M.runFor 4 m).outcome.isSome = true then pure (Sre.M.runFor 4 m) else _) Q E s
    rw [if_pos (by simpa using ho)]
    exact wpAny_pure hq
  | k + 1, n + 1, m, hk, ho, hq => by
    have e : 4 * (k + 1 + 1) = 4 + 4 * (k + 1) := by omega
    rw [e, runFor_add] at ho hq
    unfold reDrive
    show wpAny M A (if (Sre.M.runFor 4 m).outcome.isSome = true then pure (Sre.M.runFor 4 m) else _) Q E s
    split
    · rename_i h
      rw [runFor_done h] at hq
      exact wpAny_pure hq
    · exact wpAny_bind (wpAny_rule (reDrive_wp k n _ (by omega) ho hq))
theorem seen_wp {Q : Unit → Shared → Prop} {f : Nat → Unit → Sem (ForInStep Unit)} (hf : ∀ (i : Nat) (Q : ForInStep Unit → Shared → Prop), Q (.yield ()) s → wpAny M A (f i ()) Q E s) (h : Q () s) : ∀ l : List Nat, wpAny M A (forIn l () f) Q E s
  | [] => wpAny_pure h
  | i :: l => by
    rw [List.forIn_cons]
    exact wpAny_bind (hf i _ (seen_wp hf h l))
theorem reRun_wp {Q : Option Sre.M → Shared → Prop} {m mf : Sre.M} (k : Nat) (hk : k < 2 ^ 64) (hm : Sre.M.runFor (4 * (k + 1)) m = mf) (ho : mf.outcome = some .matched) (h : Q (some mf) s) : wpAny M A (reRunToEnd m) Q E s := by
  unfold reRunToEnd
  refine wpAny_bind (reDrive_wp k (2 ^ 64) m hk (by rw [hm, ho]; rfl) ?_)
  rw [hm]
  refine wpAny_bind (seen_wp (fun i Q hq => ?_) ?_ _)
  · split
    · exact wpAny_bind (wpAny_rule (wpAny_pure hq))
    · exact wpAny_pure hq
  rw [ho]
  exact wpAny_pure h
end
def reCode : Array Nat := match PySem.Challenge.pw_xe0027_01.main.body.drop 3 with
  | .Assign _ (.Call _ (_ :: _ :: .List es _ :: _) _ _) _ :: _ => (es.map fun e => match e with | .Constant (.int n) _ _ => n.toNat | _ => 0).toArray
  | _ => #[]
def reVals : List Value := reCode.toList.map fun n => Value.int (Int.ofNat n) 0
def spanV (mf : Sre.M) : List Value := (List.range 3).flatMap fun g =>
    match if ((2 * g + 1 : Nat) : Int) ≤ mf.lastmark then (mf.marks.getD (2 * g) none, mf.marks.getD (2 * g + 1) none) else (none, none) with
    | (some b, some e) => [rawInt b, rawInt e]
    | _ => [rawInt (-1), rawInt (-1)]
theorem spanV_len (mf : Sre.M) : (spanV mf).length = 6 := by
  have h : ∀ l : List Nat, (l.flatMap fun g =>
    match if ((2 * g + 1 : Nat) : Int) ≤ mf.lastmark then (mf.marks.getD (2 * g) none, mf.marks.getD (2 * g + 1) none) else (none, none) with
    | (some b, some e) => [rawInt b, rawInt e]
    | _ => [rawInt (-1), rawInt (-1)]).length = 2 * l.length := by
    intro l
    induction l with
    | nil => rfl
    | cons g l ih =>
      rw [List.flatMap_cons, List.length_append, ih, List.length_cons]
      split <;> simp only [List.length_cons, List.length_nil] <;> omega
  exact h (List.range 3)
def wrongV (mf : Sre.M) : Bool := (List.range 3).any (fun g => match mf.marks.getD (2 * g) none, mf.marks.getD (2 * g + 1) none with | some b, some e => ((2 * g + 1 : Nat) : Int) ≤ mf.lastmark && e < b | _, _ => false)
abbrev matchTup (mf : Sre.M) : Obj := { cls := .type "tuple", data := .seq (rawInt mf.start :: rawInt mf.handed :: spanV mf).toArray }
abbrev matchObj (tz : Str) (t : Tok) (mf : Sre.M) (b : Addr) : Obj := { cls := .type "re.Match", data := .fields [.str tz t, .ref 37, rawInt 0, rawInt tz.cps.size, rawInt mf.lastindex, .ref b].toArray }
def searchSpec (tz : Str) (t : Tok) (mf : Sre.M) : Around → (Result → Shared → Prop) → Shared → Prop := fun _ R s =>
  (∃ o, s.heap.get? 37 = some o ∧ o.data = .fields #[.str (Str.ofString "^([-+])?(\\d\\d?):?(\\d\\d)?$") 294, .int 256 368, .int 3 0, .none, .none, .ref 36, .int 0 0]) ∧
  (∃ o n, s.heap.get? 36 = some o ∧ o.data = .seq reVals.toArray n) ∧
  R (.ok (.ret (.ref (s.heap.objs.size + 1)))) { s with heap := (s.heap.push (matchTup mf)).push (matchObj tz t mf s.heap.objs.size) }
theorem reNamed_search (a : Value) : reNamed "re.Pattern.search" "search" ["string", "pos", "endpos"] 1 [a] [] = pure [some a, none, none] := by kernel_rfl
theorem search_meets (tz : Str) (t : Tok) (mf : Sre.M) (k : Nat) (hk : k < 2 ^ 64) (hsz : tz.cps.size ≤ 1000)
    (hm : Sre.M.runFor (4 * (k + 1)) (forSearch reCode tz.cps 3 0 tz.cps.size false) = mf) (ho : mf.outcome = some .matched) (hw : wrongV mf = false) :
    Meets (Builtin.«re.Pattern.search» ⟨[.ref 37, .str tz t], []⟩) (searchSpec tz t mf) := by
  intro prog w A R s hs
  obtain ⟨⟨o, h37, d37⟩, ⟨o', n, h36, d36⟩, hR⟩ := hs
  unfold Builtin.«re.Pattern.search»
  refine wpAny_bind ?_
  unfold reTarget
  dsimp only
  rw [reNamed_search]
  refine wpAny_bind (wpAny_pure ?_)
  refine wpAny_bind (wpAny_pure ?_)
  refine wpAny_bind (wpAny_pure ?_)
  refine wpAny_bind (wpAny_fieldsOf h37 d37 ?_)
  have hT : reTextOf (.str tz t) = pure (tz.cps, 0) := rfl
  rw [hT]
  refine wpAny_bind (wpAny_pure ?_)
  rw [if_neg (by exact Bool.false_ne_true), if_neg (by exact Bool.false_ne_true)]
  refine wpAny_bind (wpAny_pure ?_)
  refine wpAny_bind (wpAny_bind (wpAny_seqItems h36 d36 (wpAny_pure ?_)))
  have hc : Array.map (fun x => Int.toNat x) (Array.map reRawOf ((some reVals.toArray).getD #[])) = reCode := by decide +kernel
  refine wpAny_pure ?_
  dsimp only
  rw [hc]
  have hl9 : ((2 : Int) ^ 63 - 1).toNat = 9223372036854775807 := by decide +kernel
  have hl : min ((2 : Int) ^ 63 - 1).toNat tz.cps.size = tz.cps.size := by rw [hl9]; omega
  have hp : min (Int.toNat 0) tz.cps.size = 0 := Nat.zero_min _
  rw [hl, hp]
  unfold reAnswer
  have h3 : (reRawNat (#[Value.str (Str.ofString "^([-+])?(\\d\\d?):?(\\d\\d)?$") 294, Value.int 256 368, Value.int 3 0, Value.none, Value.none, Value.ref 36, Value.int 0 0].getD 2 Value.none)) = 3 := rfl
  rw [h3]
  refine wpAny_bind (reRun_wp k hk hm ho ?_)
  dsimp only
  unfold reNewMatch
  refine wpAny_bind ?_
  show wpAny _ _ (if wrongV mf = true then _ else (newTuple (rawInt mf.start :: rawInt mf.handed :: spanV mf) >>= fun v => newFields "re.Match" [.str tz t, .ref 37, rawInt 0, rawInt tz.cps.size, rawInt mf.lastindex, v])) _ _ _
  rw [if_neg (by rw [hw]; exact Bool.false_ne_true)]
  refine wpAny_bind (wpAny_newObj_type ?_ ?_)
  · refine wpAny_newObj_type ?_ (by show (6 : Nat) ≤ sizeLine + 2; decide)
    refine wpAny_pure ?_
    rw [show (Heap.push s.heap (matchTup mf)).objs.size = s.heap.objs.size + 1 from Heap.size_push _ _]
    exact hR
  · show (rawInt mf.start :: rawInt mf.handed :: spanV mf).toArray.size ≤ sizeLine
    rw [List.size_toArray]
    have := spanV_len mf
    simp only [List.length_cons, this]
    decide
def groupSpec (b a : Addr) (tz : Str) (t : Tok) (sp : List Int) (g : Nat) : Around → (Result → Shared → Prop) → Shared → Prop := fun _ R s =>
  (∃ o fs, s.heap.get? b = some o ∧ o.data = .fields fs ∧ fs.getD 0 .none = .str tz t ∧ fs.getD 5 .none = .ref a) ∧
  (∃ o n, s.heap.get? a = some o ∧ o.data = .seq (sp.map rawInt).toArray n) ∧
  (if sp.getD (2 * g) (-1) < 0 ∨ sp.getD (2 * g + 1) (-1) < 0 then R (.ok (.ret .none)) s
   else R (.ok (.ret (.str ⟨tz.cps.extract (sp.getD (2 * g) (-1)).toNat (sp.getD (2 * g + 1) (-1)).toNat⟩ s.toks))) { s with toks := s.toks + 1 })
theorem rawItems_eq (sp : List Int) : Array.map reRawOf (sp.map rawInt).toArray = sp.toArray := by
  rw [List.map_toArray, List.map_map]
  congr 1
  have h : (reRawOf ∘ rawInt) = id := by funext i; rfl
  rw [h, List.map_id]
theorem group_meets (b a : Addr) (tz : Str) (t u : Tok) (sp : List Int) (g : Nat) (hg : 2 * g < sp.length) (hsz : tz.cps.size ≤ 1000) :
    Meets (Builtin.«re.Match.group» ⟨[.ref b, .int (g : Int) u], []⟩) (groupSpec b a tz t sp g) := by
  intro prog w A R s hs
  obtain ⟨⟨o, fs, hb, db, f0, f5⟩, ⟨o', n, ha, da⟩, hR⟩ := hs
  unfold Builtin.«re.Match.group»
  refine wpAny_bind (wpAny_pure ?_)
  dsimp only
  refine wpAny_bind ?_
  unfold reFound
  refine wpAny_bind (wpAny_fieldsOf hb db ?_)
  refine wpAny_bind ?_
  unfold reRawItems
  rw [f5]
  refine wpAny_bind (wpAny_seqItems ha da (wpAny_pure (wpAny_pure ?_)))
  rw [show (some (sp.map rawInt).toArray).getD #[] = (sp.map rawInt).toArray from rfl, rawItems_eq]
  refine wpAny_bind ?_
  unfold reGroupNumber
  refine wpAny_bind (wpAny_pure ?_)
  refine wpAny_bind ?_
  refine wpAny_pure ?_
  show wpAny _ _ (if (decide ((g : Int) < 0) || decide (2 * (g : Int) ≥ (sp.toArray.size : Int))) = true then _ else pure (g : Int).toNat) _ _ _
  rw [if_neg (by
    rw [List.size_toArray, Bool.or_eq_true, decide_eq_true_eq, decide_eq_true_eq]
    omega)]
  refine wpAny_pure ?_
  rw [Int.toNat_natCast]
  refine wpAny_bind ?_
  unfold reGroupText
  dsimp only
  have e1 : ∀ i, sp.toArray.getD i (-1) = sp.getD i (-1) := fun i => by simp
  simp only [e1]
  split
  · rename_i h
    rw [if_pos (by simpa using h)] at hR
    exact wpAny_pure (wpAny_pure hR)
  · rename_i h
    rw [if_neg (by simpa using h)] at hR
    rw [f0]
    refine wpAny_bind (wpAny_pure ?_)
    refine wpAny_mkStr (wpAny_pure hR) ?_
    show (tz.cps.extract _ _).size ≤ sizeLine
    have := sizeLine_eq
    rw [Array.size_extract]
    omega

theorem rm_noBool : typeLookup (.type "re.Match") "__bool__" = pure none := by rw [typeLookup_type, builtinLookup_eq_fast]; kernel_rfl
theorem rm_noLen : typeLookup (.type "re.Match") "__len__" = pure none := by rw [typeLookup_type, builtinLookup_eq_fast]; kernel_rfl
section
variable {prog : Program} {w : World} {A : Around} {E : Value → Shared → Prop} {s : Shared} {h₀ : Heap} {L : Addr} {m : Str → Option Value} {news : List (Addr × Obj)}
abbrev tupO (sp : List Int) : Obj := { cls := .type "tuple", data := .seq (sp.map rawInt).toArray }
abbrev matO (tz : Str) (t : Tok) (li : Int) (b : Addr) : Obj := { cls := .type "re.Match", data := .fields [.str tz t, .ref 37, rawInt 0, rawInt tz.cps.size, rawInt li, .ref b].toArray }
def SearchOk (tz : Str) (sp : List Int) (li : Int) : Prop :=
  ∃ k mf, k < 2 ^ 64 ∧ Sre.M.runFor (4 * (k + 1)) (forSearch reCode tz.cps 3 0 tz.cps.size false) = mf ∧ mf.outcome = some .matched ∧ wrongV mf = false ∧
    rawInt mf.start :: rawInt mf.handed :: spanV mf = sp.map rawInt ∧ mf.lastindex = li ∧ tz.cps.size ≤ 1000
def grp (tz : Str) (sp : List Int) (g : Nat) : Option Str :=
  if sp.getD (2 * g) (-1) < 0 ∨ sp.getD (2 * g + 1) (-1) < 0 then none else some ⟨tz.cps.extract (sp.getD (2 * g) (-1)).toNat (sp.getD (2 * g + 1) (-1)).toNat⟩
theorem search_call {tz : Str} {t : Tok} {sp : List Int} {li : Int} {Q : Value → Shared → Prop} (F : Fr h₀ L s.heap m) (N : News h₀ L s.heap news)
    (h37 : ∃ o, s.heap.get? 37 = some o ∧ o.cls = .type "re.Pattern" ∧ o.data = .fields #[.str (Str.ofString "^([-+])?(\\d\\d?):?(\\d\\d)?$") 294, .int 256 368, .int 3 0, .none, .none, .ref 36, .int 0 0])
    (h36 : ∃ o n, s.heap.get? 36 = some o ∧ o.data = .seq reVals.toArray n) (ok : SearchOk tz sp li)
    (h : ∀ a b h', Fr h₀ L h' m → News h₀ L h' ((b, matO tz t li a) :: (a, tupO sp) :: news) → (∀ p ∈ news, p.1 < a) → a < b → Q (.ref b) { s with heap := h' }) :
    wpAny (model prog w) A (call (.builtin "re.Pattern.search") [.ref 37, .str tz t]) Q E s := by
  obtain ⟨k, mf, hk, hm, ho, hw, hsp, hli, hsz⟩ := ok
  obtain ⟨o, e37, c37, d37⟩ := h37
  refine call_meets slot_search ⟨o, e37, c37⟩ entry_search (args_search_2 _ _) (search_meets tz t mf k hk hsz hm ho hw) ⟨⟨o, e37, d37⟩, h36, ?_⟩
  have F1 := F.push (matchTup mf)
  have N1 := N.push F (matchTup mf)
  have F2 := F1.push (matchObj tz t mf s.heap.objs.size)
  have N2 := N1.push F1 (matchObj tz t mf s.heap.objs.size)
  have hs : (Heap.push s.heap (matchTup mf)).objs.size = s.heap.objs.size + 1 := Heap.size_push _ _
  rw [hs] at N2
  refine h s.heap.objs.size (s.heap.objs.size + 1) _ F2 ?_ (fun p hp => Heap.lt_size (N p hp).1) (Nat.lt_succ_self _)
  have e1 : matchTup mf = tupO sp := by unfold matchTup tupO; rw [hsp]
  have e2 : matchObj tz t mf s.heap.objs.size = matO tz t li s.heap.objs.size := by unfold matchObj matO; rw [hli]
  rw [← e1, ← e2]
  exact N2
theorem search_get {pl : Sem Bool} {Q : Value × List Value → Shared → Prop} (h37 : ∃ o, s.heap.get? 37 = some o ∧ o.cls = .type "re.Pattern" ∧ o.dict = none) (h : Q (.builtin "re.Pattern.search", [.ref 37]) s) :
    wpAny (model prog w) A (getMethod (.ref 37) (Str.ofString "search") pl) Q E s := by
  obtain ⟨o, e, c, d⟩ := h37
  exact getMethod_builtin ⟨o, e, c⟩ re_pa slot_search type_search (fun a ea => by cases ea; exact ⟨o, e, d⟩) h
theorem group_get {tz : Str} {t : Tok} {li : Int} {a b : Addr} {pl : Sem Bool} {Q : Value × List Value → Shared → Prop} (N : News h₀ L s.heap news) (hb : (b, matO tz t li a) ∈ news) (h : Q (.builtin "re.Match.group", [.ref b]) s) :
    wpAny (model prog w) A (getMethod (.ref b) (Str.ofString "group") pl) Q E s :=
  getMethod_builtin ⟨_, (N _ hb).1, rfl⟩ rm_pa slot_group type_group (fun a ea => by cases ea; exact ⟨_, (N _ hb).1, rfl⟩) h
theorem group_call {tz : Str} {t u : Tok} {li : Int} {a b : Addr} {sp : List Int} {i : Int} (g : Nat) {Q : Value → Shared → Prop} (N : News h₀ L s.heap news) (hb : (b, matO tz t li a) ∈ news) (ha : (a, tupO sp) ∈ news)
    (hi : i = (g : Int)) (hg : 2 * g < sp.length) (hsz : tz.cps.size ≤ 1000)
    (h : match grp tz sp g with | none => Q .none s | some x => Q (.str x s.toks) { s with toks := s.toks + 1 }) :
    wpAny (model prog w) A (call (.builtin "re.Match.group") [.ref b, .int i u]) Q E s := by
  subst hi
  refine call_meets slot_group ⟨_, (N _ hb).1, rfl⟩ entry_group (args_group_2 _ _) (group_meets b a tz t u sp g hg hsz) ⟨⟨_, _, (N _ hb).1, rfl, rfl, rfl⟩, ⟨_, _, (N _ ha).1, rfl⟩, ?_⟩
  unfold grp at h
  split
  · rename_i hc
    rw [if_pos hc] at h
    exact h
  · rename_i hc
    rw [if_neg hc] at h
    exact h
theorem group_some {tz x : Str} {t u : Tok} {li : Int} {a b : Addr} {sp : List Int} {i : Int} {Q : Value → Shared → Prop} (N : News h₀ L s.heap news) (hb : (b, matO tz t li a) ∈ news) (ha : (a, tupO sp) ∈ news)
    (h0 : 0 ≤ i) (hg : 2 * i.toNat < sp.length) (hsz : tz.cps.size ≤ 1000) (hx : grp tz sp i.toNat = some x)
    (h : Q (.str x s.toks) { s with toks := s.toks + 1 }) :
    wpAny (model prog w) A (call (.builtin "re.Match.group") [.ref b, .int i u]) Q E s :=
  group_call i.toNat N hb ha (by omega) hg hsz (by rw [hx]; exact h)
theorem group_none {tz : Str} {t u : Tok} {li : Int} {a b : Addr} {sp : List Int} {i : Int} {Q : Value → Shared → Prop} (N : News h₀ L s.heap news) (hb : (b, matO tz t li a) ∈ news) (ha : (a, tupO sp) ∈ news)
    (h0 : 0 ≤ i) (hg : 2 * i.toNat < sp.length) (hsz : tz.cps.size ≤ 1000) (hx : grp tz sp i.toNat = none)
    (h : Q .none s) :
    wpAny (model prog w) A (call (.builtin "re.Match.group") [.ref b, .int i u]) Q E s :=
  group_call i.toNat N hb ha (by omega) hg hsz (by rw [hx]; exact h)
theorem truthy_mat {tz : Str} {t : Tok} {li : Int} {a b : Addr} {Q : Bool → Shared → Prop} (N : News h₀ L s.heap news) (hb : (b, matO tz t li a) ∈ news) (h : Q true s) :
    wpAny (model prog w) A (truthy (.ref b)) Q E s := by
  have hT : s.TypeIs (.ref b) "re.Match" := ⟨_, (N _ hb).1, rfl⟩
  unfold truthy
  refine wpAny_bind (wpAny_callSpecial?_none (name := Str.ofString "__bool__") hT rm_noBool ?_)
  refine wpAny_bind (wpAny_specialOf (name := Str.ofString "__len__") hT rm_noLen ?_)
  exact wpAny_pure h
end
end Mine
end
section
set_option maxRecDepth 100000
set_option maxHeartbeats 2000000
namespace Mine
def IterEnd {σ : Type} (h₀ : Heap) (L : Addr) (s : Shared) (Led : σ → List (Addr × Obj)) (ps : σ → List (Str × Value)) (stored : List Str) (m₀ : Str → Option Value) (P : Nat → σ → Prop) (I : Addr) (own : List (Addr × Obj)) (i : Nat) (s₂ : Shared) : Prop :=
  ∃ (c' : σ) (h' : Heap) (tk : Nat) (m' : Str → Option Value), s₂ = { s with heap := h', toks := tk } ∧ Fr h₀ L h' m' ∧ News h₀ L h' (own ++ Led c') ∧ (∀ q ∈ Led c', q.1 ≠ I) ∧ (∀ p ∈ ps c', m' p.1 = some p.2) ∧ (∀ z, (∀ p ∈ ps c', z ≠ p.1) → stored.contains z = false → m' z = m₀ z) ∧ P i c'
def IterPost {σ : Type} (h₀ : Heap) (L : Addr) (s : Shared) (Led : σ → List (Addr × Obj)) (ps : σ → List (Str × Value)) (stored : List Str) (m₀ : Str → Option Value) (P : Nat → σ → Prop) (I : Addr) (own : List (Addr × Obj)) (i : Nat) (Q : Flow → Shared → Prop) (f : Flow) (s₂ : Shared) : Prop :=
  match f with
  | .ret v => Q (.ret v) s₂
  | .brk => Q .next s₂
  | _ => IterEnd h₀ L s Led ps stored m₀ P I own i s₂
section
variable {prog : Program} {w : World} {A : Around} {E : Value → Shared → Prop} {s : Shared} {env : Env} {h₀ : Heap} {x : Str} {body : List Stmt} {Q : Flow → Shared → Prop}
theorem fr_kst {ps : List (Str × Value)} {stored : List Str} {m₀ m₁ : Str → Option Value} (h1 : ∀ p ∈ ps, m₁ p.1 = some p.2) (h2 : ∀ z, (∀ p ∈ ps, z ≠ p.1) → stored.contains z = false → m₁ z = m₀ z) :
    kstB (fun z => if stored.contains z then m₁ z else m₀ z) ps = m₁ := by
  funext y
  refine kstB_eq h1 fun hn => ?_
  show (if stored.contains y = true then m₁ y else m₀ y) = m₁ y
  cases h3 : stored.contains y with
  | true => simp
  | false => simp only [Bool.false_eq_true, if_false]; exact (h2 y hn h3).symm
theorem iter_S {σ : Type} {l : Addr} {its : Array Value} {m₀ : Str → Option Value}
    (Led : σ → List (Addr × Obj)) (ps : σ → List (Str × Value)) (stored : List Str) (P : Nat → σ → Prop) (c₀ : σ)
    (hh : A.handled = none) (hl : s.heap.IsList l its) (hlL : l ≠ env.locals)
    (F : Fr h₀ env.locals s.heap m₀) (N : News h₀ env.locals s.heap (Led c₀)) (hk : ∀ p ∈ ps c₀, m₀ p.1 = some p.2) (hp : P 0 c₀)
    (turn : ∀ (i : Nat) (v : Value) (c : σ) (u : Str → Option Value) (h : Heap) (tk : Nat) (I : Addr) (own : List (Addr × Obj)), its[i]? = some v → P i c → (∀ p ∈ own, p.1 = I ∨ p.1 = l) → (∃ o, (I, o) ∈ own) → (∀ q ∈ Led c, q.1 ≠ I) →
      Fr h₀ env.locals h (fun y => if y = x then some v else kstB (fun z => if stored.contains z then u z else m₀ z) (ps c) y) → News h₀ env.locals h (own ++ Led c) →
      wpAny (model prog w) A (execs body env) (IterPost h₀ env.locals s Led ps stored m₀ P I own (i + 1) Q) E { s with heap := h, toks := tk })
    (done : ∀ (c : σ) (u : Str → Option Value) (h : Heap) (tk : Nat), P its.size c → Fr h₀ env.locals h (kstB (fun z => if stored.contains z then u z else m₀ z) (ps c)) → News h₀ env.locals h (Led c) → Q .next { s with heap := h, toks := tk }) :
    wpAny (model prog w) A (pyIter (.ref l)) (fun it s₂ => LoopAtV prog w A h₀ env x body Q E it s₂) E s := by
  obtain ⟨ol, hol, hcl, hdl⟩ := id hl
  have hne : l ≠ s.heap.objs.size := Nat.ne_of_lt (Heap.lt_size hol)
  refine wpAny_pyIter_list hl ?_
  have W := Walks.list (prog := prog) (w := w) hh s.heap.objs.size l hne its
  let J' : Nat → (Str → Option Value) → List (Addr × Obj) → Prop := fun i m₁ news₁ => ∃ c, news₁ = Led c ∧ (∀ p ∈ ps c, m₁ p.1 = some p.2) ∧ (∀ z, (∀ p ∈ ps c, z ≠ p.1) → stored.contains z = false → m₁ z = m₀ z) ∧ P i c
  refine ⟨_, _, _, its.size, _, _, m₀, Led c₀, J', rfl, W, ?_, ?_, ?_, ⟨⟨_, Heap.get?_push_size _ rfl, rfl, rfl⟩, hl.at fun o e => Heap.get?_push_of_some _ e⟩, F.push _, (fun p hp => ⟨Heap.get?_push_of_some _ (N p hp).1, (N p hp).2⟩), ⟨c₀, rfl, hk, fun _ _ _ => rfl, hp⟩, ?_, ?_⟩
  · intro hm
    rcases List.mem_cons.mp hm with e | hm
    · exact absurd F.ns.lt (e ▸ Nat.lt_irrefl _)
    · exact hlL (List.mem_singleton.mp hm).symm
  · intro b hb
    rw [List.mem_singleton.mp hb]
    exact next_is_new F
  · intro p hp hI
    exact absurd (Heap.lt_size (N p hp).1) ((List.mem_singleton.mp hI) ▸ Nat.lt_irrefl _)
  · rintro i v m₁ news₁ s₁ own ⟨hh', tk', rfl⟩ hin hP ⟨c, rfl, hk1, hr1, hPc⟩ hoff hown hget hfull hst F₁ N₁
    have hI : ∃ o, (s.heap.objs.size, o) ∈ own := by
      obtain ⟨oI, hoI, _⟩ := hst.1
      exact ⟨oI, hfull _ (List.mem_cons_self ..) (next_is_new F) oI hoI⟩
    have F₂ : Fr h₀ env.locals hh' (fun y => if y = x then some v else kstB (fun z => if stored.contains z then m₁ z else m₀ z) (ps c) y) := by
      rw [fr_kst hk1 hr1]; exact F₁
    refine wpAny_mono (turn i v c m₁ hh' tk' s.heap.objs.size own hP hPc (fun p hp => by
      rcases List.mem_cons.mp (hown p hp) with h1 | h1
      · exact .inl h1
      · exact .inr (List.mem_singleton.mp h1)) hI (fun q hq hqI => hoff q hq (by rw [hqI]; exact List.mem_singleton.mpr rfl)) F₂ N₁) (fun f s₂ p => ?_) fun _ _ e => e
    have fin : IterEnd h₀ env.locals s Led ps stored m₀ P s.heap.objs.size own (i + 1) s₂ → LoopStepU h₀ env.locals [s.heap.objs.size] own (J' (i + 1)) { s with heap := hh', toks := tk' } .next s₂ := by
      rintro ⟨c', h', tk, m', e, F', N', hI', hk', hr', hP'⟩
      exact ⟨rfl, h', tk, m', Led c', e, F', N', fun p hp hpI => hI' p hp (List.mem_singleton.mp hpI), c', rfl, hk', hr', hP'⟩
    cases f with
    | ret v => exact .ret p
    | brk => exact .brk p
    | next => exact .next (fin p)
    | cont => exact .cont (fin p)
  · rintro h' tk m' news' F' N' _ ⟨c, rfl, hk1, hr1, hPc⟩
    refine done c m' h' tk hPc ?_ N'
    rw [fr_kst hk1 hr1]; exact F'

def BrkEnd {σ : Type} (h₀ : Heap) (L : Addr) (s : Shared) (Led : σ → List (Addr × Obj)) (ps : σ → List (Str × Value)) (stored : List Str) (m₀ : Str → Option Value) (Post : σ → Prop) (s₂ : Shared) : Prop :=
  ∃ (c' : σ) (h' : Heap) (tk : Nat) (m' : Str → Option Value), s₂ = { s with heap := h', toks := tk } ∧ Fr h₀ L h' m' ∧ News h₀ L h' (Led c') ∧ (∀ p ∈ ps c', m' p.1 = some p.2) ∧ (∀ z, (∀ p ∈ ps c', z ≠ p.1) → stored.contains z = false → m' z = m₀ z) ∧ Post c'
def TurnPost {σ : Type} (h₀ : Heap) (L : Addr) (s : Shared) (Led : σ → List (Addr × Obj)) (ps : σ → List (Str × Value)) (stored : List Str) (m₀ : Str → Option Value) (P : Nat → σ → Prop) (Post : σ → Prop) (I : Addr) (own : List (Addr × Obj)) (i : Nat) (f : Flow) (s₂ : Shared) : Prop :=
  match f with
  | .ret _ => False
  | .brk => BrkEnd h₀ L s Led ps stored m₀ Post s₂
  | _ => IterEnd h₀ L s Led ps stored m₀ P I own i s₂
theorem for_iter_S {σ : Type} {l : Addr} {its : Array Value} {m₀ : Str → Option Value} {px pos : Pos} {iter : Expr}
    (Led : σ → List (Addr × Obj)) (ps : σ → List (Str × Value)) (stored : List Str) (P : Nat → σ → Prop) (Post : σ → Prop) (c₀ : σ)
    (hx : env.kindOf x = some .local) (hpp : (env.scope.kind == .class || (env.scope.kind == .module && env.locals != env.globals)) = false)
    (hev : ∀ Q' : Value → Shared → Prop, Q' (.ref l) s → wpAny (model prog w) A (eval iter env) Q' E s)
    (hh : A.handled = none) (hl : s.heap.IsList l its) (hlL : l ≠ env.locals)
    (F : Fr h₀ env.locals s.heap m₀) (N : News h₀ env.locals s.heap (Led c₀)) (hk : ∀ p ∈ ps c₀, m₀ p.1 = some p.2) (hp : P 0 c₀)
    (turn : ∀ (i : Nat) (v : Value) (c : σ) (u : Str → Option Value) (h : Heap) (tk : Nat) (I : Addr) (own : List (Addr × Obj)), its[i]? = some v → P i c → (∀ p ∈ own, p.1 = I ∨ p.1 = l) → (∃ o, (I, o) ∈ own) → (∀ q ∈ Led c, q.1 ≠ I) →
      Fr h₀ env.locals h (fun y => if y = x then some v else kstB (fun z => if stored.contains z then u z else m₀ z) (ps c) y) → News h₀ env.locals h (own ++ Led c) →
      wpAny (model prog w) A (execs body env) (TurnPost h₀ env.locals s Led ps stored m₀ P Post I own (i + 1)) E { s with heap := h, toks := tk })
    (fin : ∀ c, P its.size c → Post c)
    (after : ∀ (c : σ) (u : Str → Option Value) (h : Heap) (tk : Nat), Post c → Fr h₀ env.locals h (kstB (fun z => if stored.contains z then u z else m₀ z) (ps c)) → News h₀ env.locals h (Led c) → Q .next { s with heap := h, toks := tk })
    (hs : ∀ x, foldedSetIterable iter env x = pure x := by intro _; rfl)
    (hE : PassesOwn (model prog w) A env E := by passes_own) :
    wpAny (model prog w) A (exec (.For (.Name x px) iter body [] pos) env) Q E s := by
  refine wpAny_mono (Q := fun f s' => f = .next ∧ ∃ (c : σ) (u : Str → Option Value) (h : Heap) (tk : Nat), s' = { s with heap := h, toks := tk } ∧ Post c ∧ Fr h₀ env.locals h (kstB (fun z => if stored.contains z then u z else m₀ z) (ps c)) ∧ News h₀ env.locals h (Led c))
    ?_ (fun f s' hq => by
      obtain ⟨rfl, c, u, h, tk, rfl, hP, hF, hN⟩ := hq
      exact after c u h tk hP hF hN) (fun _ _ e => e)
  refine For_invVF F hx hpp (hev _ ?_) hs hE
  refine iter_S Led ps stored P c₀ hh hl hlL F N hk hp (fun i v c u h tk I own h1 h2 h3 h4 h5 h6 h7 => ?_) (fun c u h tk hP hF hN => ⟨rfl, c, u, h, tk, rfl, fin c hP, hF, hN⟩)
  refine wpAny_mono (turn i v c u h tk I own h1 h2 h3 h4 h5 h6 h7) (fun f s₂ hq => ?_) (fun _ _ e => e)
  cases f with
  | ret v => exact hq.elim
  | brk =>
    obtain ⟨c', h', tk', m', e, hF, hN, hk', hr', hP⟩ := hq
    exact ⟨rfl, c', m', h', tk', e, hP, by rw [fr_kst hk' hr']; exact hF, hN⟩
  | next => exact hq
  | cont => exact hq
end
end Mine
end
section
set_option maxRecDepth 100000
set_option maxHeartbeats 8000000
namespace Mine
open_top hd for PySem.Challenge.rw_xe0027_01
end Mine
end
section
set_option maxRecDepth 100000
set_option maxHeartbeats 2000000
namespace Mine
noncomputable abbrev LO : List Str := looseW hd.view_39 [Str.ofString "UTC_ZONES", Str.ofString "TIMEZONE_RE", Str.ofString "bisect_right", Str.ofString "bisect_left"]

/-- what a call asks of its caller: it hands back a value, and the ledger stands as it stood -/
noncomputable abbrev Ctr (w : World) (mean : ExcName → Option Value) (mg mb : Str → Option Value) (f : Addr) (pos : List Value) (kw : List (Str × Value)) (deep : Nat) (Pre : List (Addr × Obj) → Prop) (R : Value → Prop) : Prop :=
  ∀ (dp un : Nat) (gd : Option (List Code)) (cn : Str) (cs : Scope) (a : Addr) (ccd : Value) (cl : List (Str × Addr)) (outer : List Env) (A₀ : Around) (base h₀ : Heap) (L : Addr) (m : Str → Option Value) (news : List (Addr × Obj)) (s : Shared) (Q E : Value → Shared → Prop),
    Below A₀ base outer h₀ → Fr h₀ L s.heap m → (hd.heap_39 w.params).In h₀ → News h₀ L s.heap news → Top hd.view_39 LO mean mg mb h₀ → cs.kind = .function → dp + deep < recursionLimit → un + 8 * deep < cLine → Pre news →
    (∀ r h' tk', Fr h₀ L h' m → News h₀ L h' news → R r → Q r { s with heap := h', toks := tk' }) →
    wpAny (model PySem.Challenge.rw_xe0027_01.row.prog w) (ktrTop dp un gd cn cs L a ccd cl outer) (call (.ref f) pos kw) Q E s

/-- offset_from_tz_string gives v of the text z -/
noncomputable abbrev Off (w : World) (mean : ExcName → Option Value) (mg mb : Str → Option Value) (z : Str) (v : Int) : Prop :=
  ∀ t, Ctr w mean mg mb 44 [.str z t] [] 2 (fun _ => True) (fun r => ∃ t', r = .int v t')
abbrev strV (z : Str × Tok) : Value := .str z.1 z.2
abbrev strsO (zs : List (Str × Tok)) (n : Nat) : Obj := listOf (zs.map strV).toArray n
section
variable {prog : Program} {w : World} {A : Around} {E : Value → Shared → Prop} {s : Shared} {h₀ : Heap} {L : Addr} {m : Str → Option Value} {news : List (Addr × Obj)} {l : Addr} {its : Array Value} {n : Nat}
theorem News.isL (N : News h₀ L s.heap news) (hm : (l, listOf its n) ∈ news) : s.heap.IsList l its := ⟨_, (N _ hm).1, rfl, n, rfl⟩
theorem len_L {Q : Value → Shared → Prop} (N : News h₀ L s.heap news) (hm : (l, listOf its n) ∈ news) (hs : its.size ≤ 1000000) (h : Q (.int its.size (s.toks + 1)) { s with toks := s.toks + 1 + 1 }) :
    wpAny (model prog w) A (call (.builtin "len") [.ref l]) Q E s := len_list (News.isL N hm) (by omega) h
theorem item_L {value slice : Expr} {k : Int} {u : Tok} {x : Value} {Q : Value → Shared → Prop} (N : News h₀ L s.heap news) (hm : (l, listOf its n) ∈ news)
    (h0 : 0 ≤ k) (hfit : k < 2 ^ 63) (hx : its[k.toNat]? = some x) (h : Q x s)
    (hs : subscripted slice false (.ref l) (.int k u) = operate [.ref l, .int k u] (getItem (.ref l) (.int k u)) := by with_unfolding_all rfl) (hg : ∀ r, letTemporaryGo value (.ref l) r = pure () := by intro _; with_unfolding_all rfl) :
    wpAny (model prog w) A (subscriptTail value slice (.ref l) (.int k u)) Q E s := item_list (News.isL N hm) h0 hfit hx h hs hg
theorem set_L {D : Addr} {rest : List (Addr × Obj)} {k : Int} {t : Tok} {v : Value} {Q : Unit → Shared → Prop} (F : Fr h₀ L s.heap m) (N : News h₀ L s.heap ((D, listOf its n) :: rest)) (hne : ∀ p ∈ rest, p.1 ≠ D)
    (h0 : 0 ≤ k) (hfit : k < 2 ^ 63) (hk : k.toNat < its.size) (h : ∀ h', Fr h₀ L h' m → News h₀ L h' ((D, listOf (its.setIfInBounds k.toNat v) n) :: rest) → Q () { s with heap := h' }) :
    wpAny (model prog w) A (setItem (.ref D) (.int k t) v) Q E s := by
  have z := N (D, listOf its n) (.head _)
  refine ki_setAt z.1 h0 hfit (by omega) (h _ (F.change (Heap.SameBut.update ..) z.2.1 z.2.2) (ki_turn (pre := []) _ N (fun _ hp => nomatch hp) hne rfl ?_))
  simp
theorem strsO_get {zs : List (Str × Tok)} {i : Nat} (h : i < zs.length) : (zs.map strV).toArray[i]? = some (.str (zs[i]).1 (zs[i]).2) := by
  simp [h]
theorem Ctr.use {w : World} {mean : ExcName → Option Value} {mg mb : Str → Option Value} {f : Addr} {pos : List Value} {kw : List (Str × Value)} {deep : Nat} {Pre : List (Addr × Obj) → Prop} {R : Value → Prop}
    (C : Ctr w mean mg mb f pos kw deep Pre R) {dp un : Nat} {gd : Option (List Code)} {cn : Str} {cs : Scope} {a : Addr} {ccd : Value} {cl : List (Str × Addr)} {outer : List Env} {A₀ : Around} {base : Heap} {Q E : Value → Shared → Prop}
    (B : Below A₀ base outer h₀) (F : Fr h₀ L s.heap m) (X : (hd.heap_39 w.params).In h₀) (N : News h₀ L s.heap news) (T : Top hd.view_39 LO mean mg mb h₀) (hk : cs.kind = .function) (hd : dp + deep < recursionLimit) (hu : un + 8 * deep < cLine) (hp : Pre news)
    (hret : ∀ r h' tk', Fr h₀ L h' m → News h₀ L h' news → R r → Q r { s with heap := h', toks := tk' }) :
    wpAny (model PySem.Challenge.rw_xe0027_01.row.prog w) (ktrTop dp un gd cn cs L a ccd cl outer) (call (.ref f) pos kw) Q E s :=
  C dp un gd cn cs a ccd cl outer A₀ base h₀ L m news s Q E B F X N T hk hd hu hp hret
end
end Mine
end
section
set_option maxRecDepth 100000
set_option maxHeartbeats 2000000
namespace Mine
section
variable {prog : Program} {w : World} {A : Around} {E : Value → Shared → Prop} {s : Shared} {env : Env} {h₀ : Heap} {x : Str} {body : List Stmt} {Q : Flow → Shared → Prop}
theorem iter_R {σ : Type} {r : Addr} {n : Nat} {t₁ t₂ t₃ : Tok} {m₀ : Str → Option Value}
    (Led : σ → List (Addr × Obj)) (ps : σ → List (Str × Value)) (stored : List Str) (P : Nat → σ → Prop) (c₀ : σ)
    (hh : A.handled = none) (hr : IsRange s.heap r 0 n 1 t₁ t₂ t₃) (hn : n ≤ 1000)
    (F : Fr h₀ env.locals s.heap m₀) (N : News h₀ env.locals s.heap (Led c₀)) (hk : ∀ p ∈ ps c₀, m₀ p.1 = some p.2) (hp : P 0 c₀)
    (turn : ∀ (i : Nat) (t : Tok) (c : σ) (u : Str → Option Value) (h : Heap) (tk : Nat) (I : Addr) (own : List (Addr × Obj)), i < n → P i c → (∀ p ∈ own, p.1 = I) → (∃ o, (I, o) ∈ own) → (∀ q ∈ Led c, q.1 ≠ I) →
      Fr h₀ env.locals h (fun y => if y = x then some (.int (i : Int) t) else kstB (fun z => if stored.contains z then u z else m₀ z) (ps c) y) → News h₀ env.locals h (own ++ Led c) →
      wpAny (model prog w) A (execs body env) (IterPost h₀ env.locals s Led ps stored m₀ P I own (i + 1) Q) E { s with heap := h, toks := tk })
    (done : ∀ (c : σ) (u : Str → Option Value) (h : Heap) (tk : Nat), P n c → Fr h₀ env.locals h (kstB (fun z => if stored.contains z then u z else m₀ z) (ps c)) → News h₀ env.locals h (Led c) → Q .next { s with heap := h, toks := tk }) :
    wpAny (model prog w) A (pyIter (.ref r)) (fun it s₂ => LoopAtV prog w A h₀ env x body Q E it s₂) E s := by
  refine wpAny_pyIter_range hr (small_one (by decide) (by decide) (by omega) (by omega)) ?_
  have hsz : Builtin.Range.rangeSize 0 (n : Int) 1 = (n : Int) := by rw [rangeSize_one]; split <;> omega
  have W := Walks.range (prog := prog) (w := w) hh s.heap.objs.size 0 1 n
  let J' : Nat → (Str → Option Value) → List (Addr × Obj) → Prop := fun i m₁ news₁ => ∃ c, news₁ = Led c ∧ (∀ p ∈ ps c, m₁ p.1 = some p.2) ∧ (∀ z, (∀ p ∈ ps c, z ≠ p.1) → stored.contains z = false → m₁ z = m₀ z) ∧ P i c
  refine ⟨_, _, _, n, _, _, m₀, Led c₀, J', rfl, W, ?_, ?_, ?_, ?_, F.push _, (fun p hp => ⟨Heap.get?_push_of_some _ (N p hp).1, (N p hp).2⟩), ⟨c₀, rfl, hk, fun _ _ _ => rfl, hp⟩, ?_, ?_⟩
  · intro hm
    exact absurd F.ns.lt ((List.mem_singleton.mp hm) ▸ Nat.lt_irrefl _)
  · intro b hb
    rw [List.mem_singleton.mp hb]
    exact next_is_new F
  · intro p hp hI
    exact absurd (Heap.lt_size (N p hp).1) ((List.mem_singleton.mp hI) ▸ Nat.lt_irrefl _)
  · have := Heap.get?_push_size s.heap (o := { cls := .type "range_iterator", data := .fields #[rawInt 0, rawInt (Builtin.Range.rangeSize 0 n 1), rawInt 1] }) rfl
    rw [hsz] at this ⊢
    simpa using this
  · rintro i v m₁ news₁ s₁ own ⟨hh', tk', rfl⟩ hin ⟨t, rfl⟩ ⟨c, rfl, hk1, hr1, hPc⟩ hoff hown hget hfull hst F₁ N₁
    have hI : ∃ o, (s.heap.objs.size, o) ∈ own := ⟨_, hfull _ (List.mem_cons_self ..) (next_is_new F) _ hst⟩
    have ei : (0 : Int) + (i : Int) * 1 = (i : Int) := by omega
    rw [ei] at F₁
    have F₂ : Fr h₀ env.locals hh' (fun y => if y = x then some (.int (i : Int) t) else kstB (fun z => if stored.contains z then m₁ z else m₀ z) (ps c) y) := by
      rw [fr_kst hk1 hr1]; exact F₁
    refine wpAny_mono (turn i t c m₁ hh' tk' s.heap.objs.size own hin hPc (fun p hp => List.mem_singleton.mp (hown p hp)) hI (fun q hq hqI => hoff q hq (by rw [hqI]; exact List.mem_singleton.mpr rfl)) F₂ N₁) (fun f s₂ p => ?_) fun _ _ e => e
    have fin : IterEnd h₀ env.locals s Led ps stored m₀ P s.heap.objs.size own (i + 1) s₂ → LoopStepU h₀ env.locals [s.heap.objs.size] own (J' (i + 1)) { s with heap := hh', toks := tk' } .next s₂ := by
      rintro ⟨c', h', tk, m', e, F', N', hI', hk', hr', hP'⟩
      exact ⟨rfl, h', tk, m', Led c', e, F', N', fun p hp hpI => hI' p hp (List.mem_singleton.mp hpI), c', rfl, hk', hr', hP'⟩
    cases f with
    | ret v => exact .ret p
    | brk => exact .brk p
    | next => exact .next (fin p)
    | cont => exact .cont (fin p)
  · rintro h' tk m' news' F' N' _ ⟨c, rfl, hk1, hr1, hPc⟩
    refine done c m' h' tk hPc ?_ N'
    rw [fr_kst hk1 hr1]; exact F'
end
end Mine
end
section
set_option maxRecDepth 100000
set_option maxHeartbeats 2000000
namespace Mine
open PySem.Sre
def ph (c : Nat) : Nat := if 48 ≤ c ∧ c ≤ 57 then 48 else c
def ab (m : M) : M := { m with text := m.text.map ph }
theorem ph_cases (c : Nat) : (∃ d : _root_.Fin 10, c = 48 + d.val ∧ ph c = 48) ∨ ph c = c := by
  unfold ph
  by_cases h : 48 ≤ c ∧ c ≤ 57
  · rw [if_pos h]; exact .inl ⟨⟨c - 48, by omega⟩, by simp only; omega, rfl⟩
  · rw [if_neg h]; exact .inr rfl
theorem getD_ab (t : Array Nat) (i : Nat) : (t.map ph).getD i 0 = ph (t.getD i 0) := by
  have h0 : ph 0 = 0 := by decide
  simp only [Array.getD_eq_getD_getElem?, Array.getElem?_map]
  cases t[i]? with
  | none => exact h0.symm
  | some x => rfl
theorem code_out {i : Nat} (h : ¬ i < 80) : reCode.getD i 0 = 0 := by
  have hs : reCode.size ≤ 80 := by decide
  rw [Array.getD_eq_getD_getElem?, Array.getElem?_eq_none (by omega)]; rfl
theorem code_vals (i : Nat) : reCode.getD i 0 ∈ [0,1,2,3,4,5,6,8,9,13,14,16,17,18,23,24,43,45,58] := by
  by_cases h : i < 80
  · exact (by decide +kernel : ∀ i : _root_.Fin 80, reCode.getD i.val 0 ∈ [0,1,2,3,4,5,6,8,9,13,14,16,17,18,23,24,43,45,58]) ⟨i, h⟩
  · rw [code_out h]; decide
theorem code_lit (i : Nat) (e : reCode.getD i 0 = 16) : reCode.getD (i + 1) 0 = 45 ∨ reCode.getD (i + 1) 0 = 43 ∨ reCode.getD (i + 1) 0 = 58 := by
  by_cases h : i < 80
  · exact (by decide +kernel : ∀ i : _root_.Fin 80, reCode.getD i.val 0 = 16 → reCode.getD (i.val + 1) 0 = 45 ∨ reCode.getD (i.val + 1) 0 = 43 ∨ reCode.getD (i.val + 1) 0 = 58) ⟨i, h⟩ e
  · rw [code_out h] at e; exact absurd e (by decide)
theorem code_cat (i : Nat) (e : reCode.getD i 0 = 8) : reCode.getD (i + 1) 0 = 0 := by
  by_cases h : i < 80
  · exact (by decide +kernel : ∀ i : _root_.Fin 80, reCode.getD i.val 0 = 8 → reCode.getD (i.val + 1) 0 = 0) ⟨i, h⟩ e
  · rw [code_out h] at e; exact absurd e (by decide)
theorem code_set (i : Nat) (e : reCode.getD i 0 = 9) : reCode.getD (i + 2) 0 = 1 := by
  by_cases h : i < 80
  · exact (by decide +kernel : ∀ i : _root_.Fin 80, reCode.getD i.val 0 = 9 → reCode.getD (i.val + 2) 0 = 1) ⟨i, h⟩ e
  · rw [code_out h] at e; exact absurd e (by decide)
theorem lit_ab {c w : Nat} (h : w = 45 ∨ w = 43 ∨ w = 58) : (ph c == w) = (c == w) := by
  rcases ph_cases c with ⟨d, e, p⟩ | p
  · rw [p, e]
    rcases h with rfl | rfl | rfl
    · exact (by decide : ∀ d : _root_.Fin 10, ((48 : Nat) == 45) = (48 + d.val == 45)) d
    · exact (by decide : ∀ d : _root_.Fin 10, ((48 : Nat) == 43) = (48 + d.val == 43)) d
    · exact (by decide : ∀ d : _root_.Fin 10, ((48 : Nat) == 58) = (48 + d.val == 58)) d
  · rw [p]
theorem dig_ab (c : Nat) : category 0 (ph c) = category 0 c := by
  rcases ph_cases c with ⟨d, e, p⟩ | p
  · rw [p, e]
    have h := (by decide : ∀ d : _root_.Fin 10, Sre.isDigit 48 = Sre.isDigit (48 + d.val)) d
    unfold category
    simp only [Nat.zero_div, h]
  · rw [p]
theorem inSet_ab (c : Nat) : ∀ (fuel i : Nat) (yes : Bool) (seen : Sre.Seen), inSet reCode (ph c) fuel i yes seen = inSet reCode c fuel i yes seen
  | 0, _, _, _ => rfl
  | fuel + 1, i, yes, seen => by
    have ih := inSet_ab c fuel
    unfold inSet
    simp only [Nat.add_zero]
    have hv := code_vals i
    simp only [List.mem_cons, List.not_mem_nil, or_false] at hv
    rcases hv with e | e | e | e | e | e | e | e | e | e | e | e | e | e | e | e | e | e | e <;> rw [e] <;> try rfl
    · -- CATEGORY
      have hc : category (reCode.getD (i + 1) 0) (ph c) = category (reCode.getD (i + 1) 0) c := by rw [code_cat i e]; exact dig_ab c
      show (do if ← category (reCode.getD (i + 1) 0) (ph c) then _ else _) = (do if ← category (reCode.getD (i + 1) 0) c then _ else _)
      rw [hc]
      simp only [ih]
    · -- CHARSET
      have hs := code_set i e
      rcases ph_cases c with ⟨d, hc, hp⟩ | hp
      · have h1 : (decide (ph c < 256) && Nat.testBit (reCode.getD (i + (1 + ph c / 32)) 0) (ph c % 32)) = false := by
          rw [hp]; show (_ && Nat.testBit (reCode.getD (i + 2) 0) 16) = false; rw [hs]; decide
        have h2 : (decide (c < 256) && Nat.testBit (reCode.getD (i + (1 + c / 32)) 0) (c % 32)) = false := by
          have hd : c / 32 = 1 := by have := d.isLt; omega
          have hm : ∃ r : _root_.Fin 32, 16 ≤ r.val ∧ c % 32 = r.val := ⟨⟨c % 32, Nat.mod_lt _ (by decide)⟩, by have := d.isLt; simp only; omega, rfl⟩
          obtain ⟨r, hr, er⟩ := hm
          rw [hd, er]; show (_ && Nat.testBit (reCode.getD (i + 2) 0) r.val) = false; rw [hs]
          rw [(by decide : ∀ r : _root_.Fin 32, 16 ≤ r.val → Nat.testBit 1 r.val = false) r hr, Bool.and_false]
        show (if (decide (ph c < 256) && Nat.testBit (reCode.getD (i + (1 + ph c / 32)) 0) (ph c % 32)) = true then _ else _) = (if (decide (c < 256) && Nat.testBit (reCode.getD (i + (1 + c / 32)) 0) (c % 32)) = true then _ else _)
        rw [h1, h2]
        exact ih _ _ _
      · rw [hp]
    · -- LITERAL
      show (if (ph c == reCode.getD (i + 1) 0) = true then _ else _) = (if (c == reCode.getD (i + 1) 0) = true then _ else _)
      rw [lit_ab (code_lit i e)]
      simp only [ih]
theorem accepts_ab (i c : Nat) (seen : Sre.Seen) : accepts reCode i (ph c) seen = accepts reCode i c seen := by
  unfold accepts
  have hv := code_vals i
  simp only [List.mem_cons, List.not_mem_nil, or_false] at hv
  have h10 : (ph c != 10) = (c != 10) := by
    rcases ph_cases c with ⟨d, e, p⟩ | p
    · rw [p, e]; exact (by decide : ∀ d : _root_.Fin 10, ((48 : Nat) != 10) = (48 + d.val != 10)) d
    · rw [p]
  rcases hv with e | e | e | e | e | e | e | e | e | e | e | e | e | e | e | e | e | e | e <;> rw [e] <;> try rfl
  · show Except.ok (ph c != 10, seen) = Except.ok (c != 10, seen)
    rw [h10]
  · exact inSet_ab c _ _ _ _
  · show Except.ok (ph c == reCode.getD (i + 1) 0, seen) = Except.ok (c == reCode.getD (i + 1) 0, seen)
    rw [lit_ab (code_lit i e)]
theorem run_ab (text : Array Nat) (i : Nat) : ∀ (n p found : Nat) (seen : Sre.Seen), Sre.run reCode (text.map ph) i n p found seen = Sre.run reCode text i n p found seen
  | 0, _, _, _ => rfl
  | n + 1, p, found, seen => by
    unfold Sre.run
    rw [getD_ab, accepts_ab]
    simp only [run_ab text i n]
theorem isAt_ab (m : M) (k : Nat) : (ab m).isAt k = m.isAt k := by
  have hb : (ab m).text.getD (m.pos - 1) 0 = ph (m.text.getD (m.pos - 1) 0) := getD_ab _ _
  have hh : (ab m).text.getD m.pos 0 = ph (m.text.getD m.pos 0) := getD_ab _ _
  have h10 : ∀ c, (ph c == 10) = (c == 10) := by
    intro c
    rcases ph_cases c with ⟨d, e, p⟩ | p
    · rw [p, e]; exact (by decide : ∀ d : _root_.Fin 10, ((48 : Nat) == 10) = (48 + d.val == 10)) d
    · rw [p]
  have hw : ∀ c, Sre.isWord (ph c) = Sre.isWord c := by
    intro c
    rcases ph_cases c with ⟨d, e, p⟩ | p
    · rw [p, e]; exact (by decide : ∀ d : _root_.Fin 10, Sre.isWord 48 = Sre.isWord (48 + d.val)) d
    · rw [p]
  have hu : ∀ c, Sre.isWordUni (ph c) = Sre.isWordUni c := by
    intro c
    rcases ph_cases c with ⟨d, e, p⟩ | p
    · rw [p, e]; exact (by decide +kernel : ∀ d : _root_.Fin 10, Sre.isWordUni 48 = Sre.isWordUni (48 + d.val)) d
    · rw [p]
  unfold M.isAt
  simp only [show (ab m).pos = m.pos from rfl, show (ab m).lim = m.lim from rfl, hb, hh, h10, hw, hu]
end Mine
end
section
set_option maxRecDepth 100000
set_option maxHeartbeats 2000000
open PySem.Spec
namespace Mine
theorem paired_eq : ∀ {a b : List Value}, Paired (fun v y => y = v) a b → b = a := by
  intro a b h
  induction h with
  | nil => rfl
  | cons h _ ih => rw [h, ih]
section
variable {prog : Program} {w : World} {A : Around} {E : Value → Shared → Prop} {s : Shared} {h₀ : Heap} {L : Addr} {m : Str → Option Value} {news : List (Addr × Obj)}
theorem comp_L {l : Addr} {its : Array Value} {name : Str} {fscope : Scope} {a : Addr} {cd : Value} {x z : Str} {px : Pos} {c : Expr} {scope : Scope} {Q : Flow → Shared → Prop} (p : Value → Bool)
    (hk : scope.kind = .function) (hkx : ∀ C, (compEnv scope C (envOf name fscope L a cd)).kindOf x = some .local) (hd : (x == ("__debug__" : Str)) = false)
    (hh : A.handled = none) (hl : s.heap.IsList l its) (F : Fr h₀ L s.heap m) (N : News h₀ L s.heap news) (hsz : its.size ≤ sizeLine)
    (g1 : ∀ C v s₂ m₂ E', v ∈ its.toList → (∀ b o, s.heap.get? b = some o → s₂.heap.get? b = some o) → s₂.heap.Ns (compEnv scope C (envOf name fscope L a cd)).locals m₂ → m₂ x = some v →
      wpAny (model prog w) A (isTrue c (compEnv scope C (envOf name fscope L a cd)) (eval c (compEnv scope C (envOf name fscope L a cd)))) (fun ok s₃ => ok = p v ∧ Keeps s₂ s₃) E' s₂)
    (after : ∀ D h' tk n', Fr h₀ L h' (fun q => if q = z then some (.ref D) else m q) → News h₀ L h' ((D, listOf (its.toList.filter p).toArray n') :: news) → (∀ b o, s.heap.get? b = some o → D ≠ b) → Q .next { s with heap := h', toks := tk }) :
    wpAny (model prog w) A (pyIter (.ref l)) (CompPostA prog w A (envOf name fscope L a cd) scope x z [c] (.Name x px) Q) E s := by
  have hlt : l < s.heap.objs.size := by obtain ⟨_, e, _⟩ := hl; exact Heap.lt_size e
  have up : ∀ (h' : Heap), (∀ b o', b ∉ [s.heap.objs.size] → (s.heap.push { cls := .type "list_iterator", data := .fields #[.ref l, .int 0 0] }).get? b = some o' → h'.get? b = some o') → ∀ b o', s.heap.get? b = some o' → h'.get? b = some o' :=
    fun h' hk b o' e => hk b o' (not_iter_of_old e) (Heap.get?_push_of_some _ e)
  refine wpAny_pyIter_list hl ?_
  refine ⟨p, fun v y => y = v, s.heap.objs.size, [s.heap.objs.size, l], [s.heap.objs.size], its.size, _, _, m, rfl, Walks.list hh _ l (Nat.ne_of_lt hlt) its, hsz,
    ⟨⟨_, Heap.get?_push_size _ rfl, rfl, rfl⟩, hl.at fun o e => Heap.get?_push_of_some _ e⟩, ?_, ?_, (F.push _).ns, ⟨?_, ?_⟩, ?_⟩
  · intro b hb
    show b < (s.heap.push _).objs.size
    rw [Heap.size_push]
    rcases List.mem_cons.mp hb with rfl | hb
    · exact Nat.lt_succ_self _
    · rw [List.mem_singleton.mp hb]; exact Nat.lt_succ_of_lt hlt
  · intro hm
    exact absurd F.ns.lt ((List.mem_singleton.mp hm) ▸ Nat.lt_irrefl _)
  · intro C i v s₃ m₃ E' hP hn hm hkp _
    rw [List.forIn_cons]
    refine wpAny_bind ?_
    rw [if_pos rfl]
    refine wpAny_bind (wpAny_mono (g1 C v s₃ m₃ E' (Array.mem_toList_iff.mpr (Array.mem_of_getElem? hP)) (up _ hkp) hn hm) (fun ok s₄ h₄ => ?_) fun _ _ e => e)
    exact wpAny_pure (wpAny_pure h₄)
  · intro C i v s₃ m₃ E' hP hp hn hm _ _
    exact wpAny_Name (wpAny_loadName_local hk (hkx C) hn hm ⟨rfl, s₃.heap, s₃.toks, rfl, fun _ _ e => e⟩) hd
  · intro D h' tk ys vs' hnew hlD hplD hlen hP hF hn hkp
    have e' : vs' = its.toList := walked_is hlen hP
    subst e'
    have ey : ys = (its.toList.filter p).toArray := by
      have := paired_eq hF
      rw [← this, Array.toArray_toList]
    have hD0 : ∀ b o, s.heap.get? b = some o → D ≠ b := fun b o e e' => by
      rw [e', Heap.get?_push_of_some _ e] at hnew; cases hnew
    obtain ⟨n', hD⟩ := hplD
    have hns := hn
    have F' : Fr h₀ L h' (fun q => if q = z then some (.ref D) else m q) := ⟨hn, fun b o e => hkp b o (Nat.ne_of_lt (Nat.lt_of_lt_of_le (Heap.lt_size e) F.above)) (not_iter_of_old (F.keep b o e)) (Heap.get?_push_of_some _ (F.keep b o e)), F.above⟩
    refine after D h' tk n' F' ?_ hD0
    intro q hq
    rcases List.mem_cons.mp hq with rfl | hq
    · refine ⟨by rw [← ey]; exact hD, ?_, ?_⟩
      · obtain ⟨oL, _, _, hoL, _⟩ := F.ns
        exact hD0 _ _ hoL
      · cases e : h₀.get? D with
        | none => rfl
        | some o' => exact absurd rfl (hD0 _ _ (F.keep _ _ e))
    · exact ⟨hkp _ _ (N q hq).2.1 (not_iter_of_old (N q hq).1) (Heap.get?_push_of_some _ (N q hq).1), (N q hq).2⟩
theorem readsAll_strs (h : Heap) : ∀ zs : List (Str × Tok), ∃ as, ReadsAll h (zs.map strV) (zs.map fun z => PyData.str z.1) as
  | [] => ⟨_, ReadsAll.nil⟩
  | z :: zs => by
    obtain ⟨as, ih⟩ := readsAll_strs h zs
    exact ⟨_, ReadsAll.cons (Reads.str z.1 z.2) ih⟩
theorem test_nonempty {r : Addr} {zs : List (Str × Tok)} {env : Env} {x : Str} {px pl pc : Pos} {w' : Sem Value} {m : Str → Option Value} (hk : env.scope.kind = .function) (hkx : env.kindOf x = some .local) (hd : (x == ("__debug__" : Str)) = false)
    (hu : A.units + 64 < cLine) (hn : s.heap.Ns env.locals m) (hm : m x = some (.ref r)) (hl : s.heap.IsList r (zs.map strV).toArray) (hs : ∀ z ∈ zs, PyData.strOk z.1 = true) :
    wpAny (model prog w) A (isTrue (.Compare (.Name x px) [.NotEq] [.List [] pl] pc) env w') (fun ok s₃ => ok = !zs.isEmpty ∧ Keeps s s₃) E s := by
  refine wpAny_isTrue_Compare1 (wpAny_Name (wpAny_loadName_local hk hkx hn hm ?_) hd)
  refine List_ (Calls.spliced_nil ?_)
  refine wpAny_newObj_type ?_ (by show (0 : Nat) ≤ sizeLine; exact Nat.zero_le _)
  obtain ⟨o, ho, hc, n, hdat⟩ := hl
  obtain ⟨as, ra⟩ := readsAll_strs (s.heap.push { cls := .type "list", data := .seq ([] : List Value).toArray }) zs
  have r1 := reads_list_at (h := s.heap.push { cls := .type "list", data := .seq ([] : List Value).toArray }) (a := r) (Heap.get?_push_of_some _ ho) hc hdat (by simpa using ra)
  have r2 := reads_list_at (h := s.heap.push { cls := .type "list", data := .seq ([] : List Value).toArray }) (a := s.heap.objs.size) (Heap.get?_push_size _ rfl) rfl rfl (xs := []) (by simpa using ReadsAll.nil)
  refine ne_dataH r1 r2 ?_ ?_ hu ?_
  · unfold SeqAt.shaped
    have h1 : (PyData.list (zs.map fun z => PyData.str z.1)).canLay0 = true := by
      unfold PyData.canLay0
      clear ra r1 hdat
      induction zs with
      | nil => rfl
      | cons z zs ih =>
        rw [List.map_cons]
        unfold PyData.canLayAll0 PyData.canLay0
        rw [hs z (.head _), ih fun q hq => hs q (.tail _ hq)]; rfl
    have h2 : (PyData.list (zs.map fun z => PyData.str z.1)).depth ≤ 64 := by
      unfold PyData.depth
      have : PyData.depthAll (zs.map fun z => PyData.str z.1) = 0 := by
        clear ra r1 hdat h1 hs
        induction zs with
        | nil => rfl
        | cons z zs ih =>
          rw [List.map_cons]
          unfold PyData.depthAll PyData.depth
          rw [ih]; rfl
      rw [this]; decide
    rw [h1, decide_eq_true h2]; rfl
  · rfl
  · refine wpAny_pure ⟨?_, _, _, rfl, fun b o e => Heap.get?_push_of_some _ e⟩
    cases zs with
    | nil => rfl
    | cons z zs => rfl
end
end Mine
end
section
set_option maxRecDepth 100000
set_option maxHeartbeats 2000000
namespace Mine
def tx (l : List Nat) : Str := ⟨l.toArray⟩
theorem tx_len (l : List Nat) : (tx l).length = l.length := by simp [tx, Str.length]
theorem slice_from {l : List Nat} {i : Int} (h0 : 0 ≤ i) (h1 : i ≤ l.length) : Txt.slice (tx l) (some i) none = tx (l.drop i.toNat) := by
  have := StrLaws.sliceText_from (x := tx l) (i := i) ⟨h0, by simpa [tx] using h1⟩
  refine Eq.trans this ?_
  simp only [tx]
  congr 2
  rw [List.take_of_length_le]
  rw [List.length_drop]; omega
theorem slice_none (l : List Nat) : Txt.slice (tx l) none none = tx l := by
  have h1 := slice_from (l := l) (i := 0) (by omega) (by omega)
  have e : Txt.slice (tx l) none none = Txt.slice (tx l) (some 0) none := by unfold Txt.slice; rw [StrLaws.sliceIdx_none_lo]
  rw [e, h1]; rfl
theorem slice_neg {l : List Nat} {j : Int} (h0 : j < 0) (h1 : -(l.length : Int) ≤ j) : Txt.slice (tx l) none (some j) = tx (l.take (j + l.length).toNat) := by
  have := StrLaws.sliceText_to_neg (x := tx l) (j := j) h0 (by rw [tx_len]; exact h1)
  refine Eq.trans this ?_
  simp only [tx, List.drop_zero]
  congr 3
  simp [Str.length]
section
variable {prog : Program} {w : World} {A : Around} {E : Value → Shared → Prop} {s : Shared} {h₀ : Heap} {L : Addr} {m : Str → Option Value} {news : List (Addr × Obj)} {l : List Nat} {t : Tok} {value slice : Expr} {Q : Value → Shared → Prop}
theorem sl_from {i : Int} {ui : Tok} (hF : Fr h₀ L s.heap m) (hN : News h₀ L s.heap news) (h0 : 0 ≤ i) (h1 : i ≤ l.length) (hz : l.length ≤ 1000) (h : ∀ h' t' k, Fr h₀ L h' m → News h₀ L h' news → Q (.str (tx (l.drop i.toNat)) t') { s with heap := h', toks := k })
    (hs : subscripted slice false (.str (tx l) t) (.ref s.heap.objs.size) = operate [.ref s.heap.objs.size, .str (tx l) t] (getItem (.str (tx l) t) (.ref s.heap.objs.size)) := by with_unfolding_all rfl)
    (ht : ∀ r, letTemporaryGo value (.str (tx l) t) r = pure () := by intro _; with_unfolding_all rfl) :
    wpAny (model prog w) A (subscriptTail value slice (.str (tx l) t) (.ref s.heap.objs.size)) Q E { s with heap := s.heap.push { cls := .type "slice", data := .fields #[.int i ui, .none, .none] } } :=
  slice_strN_sn hF hN (fun h' t' k F N => by rw [slice_from h0 h1]; exact h h' t' k F N) hs ht (by rw [tx_len, PySem.sizeLine_eq]; omega)
theorem sl_neg {j : Int} {uj : Tok} (hF : Fr h₀ L s.heap m) (hN : News h₀ L s.heap news) (h0 : j < 0) (h1 : -(l.length : Int) ≤ j) (hz : l.length ≤ 1000) (h : ∀ h' t' k, Fr h₀ L h' m → News h₀ L h' news → Q (.str (tx (l.take (j + l.length).toNat)) t') { s with heap := h', toks := k })
    (hs : subscripted slice false (.str (tx l) t) (.ref s.heap.objs.size) = operate [.ref s.heap.objs.size, .str (tx l) t] (getItem (.str (tx l) t) (.ref s.heap.objs.size)) := by with_unfolding_all rfl)
    (ht : ∀ r, letTemporaryGo value (.str (tx l) t) r = pure () := by intro _; with_unfolding_all rfl) :
    wpAny (model prog w) A (subscriptTail value slice (.str (tx l) t) (.ref s.heap.objs.size)) Q E { s with heap := s.heap.push { cls := .type "slice", data := .fields #[.none, .int j uj, .none] } } :=
  slice_strN_ns hF hN (fun h' t' k F N => by rw [slice_neg h0 h1]; exact h h' t' k F N) hs ht (by rw [tx_len, PySem.sizeLine_eq]; omega)
theorem sl_none (hF : Fr h₀ L s.heap m) (hN : News h₀ L s.heap news) (hz : l.length ≤ 1000) (h : ∀ h' t' k, Fr h₀ L h' m → News h₀ L h' news → Q (.str (tx l) t') { s with heap := h', toks := k })
    (hs : subscripted slice false (.str (tx l) t) (.ref s.heap.objs.size) = operate [.ref s.heap.objs.size, .str (tx l) t] (getItem (.str (tx l) t) (.ref s.heap.objs.size)) := by with_unfolding_all rfl)
    (ht : ∀ r, letTemporaryGo value (.str (tx l) t) r = pure () := by intro _; with_unfolding_all rfl) :
    wpAny (model prog w) A (subscriptTail value slice (.str (tx l) t) (.ref s.heap.objs.size)) Q E { s with heap := s.heap.push { cls := .type "slice", data := .fields #[.none, .none, .none] } } :=
  slice_strN_nn hF hN (fun h' t' k F N => by rw [slice_none]; exact h h' t' k F N) hs ht (by rw [tx_len, PySem.sizeLine_eq]; omega)
end
end Mine
end
section
set_option maxRecDepth 100000
set_option maxHeartbeats 2000000
set_option pp.maxSteps 20000
namespace Mine
def bR (vs : List Int) (x : Int) : Nat → Int → Int → Int
  | 0, lo, _ => lo
  | f + 1, lo, hi => if lo < hi then (if x < vs.getD ((lo + hi) / 2).toNat 0 then bR vs x f lo ((lo + hi) / 2) else bR vs x f ((lo + hi) / 2 + 1) hi) else lo

theorem bR_stop (vs : List Int) (x lo hi : Int) (h : ¬ lo < hi) : ∀ f, bR vs x f lo hi = lo
  | 0 => rfl
  | f + 1 => by unfold bR; rw [if_neg h]
theorem bR_fuel (vs : List Int) (x : Int) : ∀ (f : Nat) (lo hi : Int), 0 ≤ lo → (hi - lo).toNat ≤ f → bR vs x f lo hi = bR vs x (hi - lo).toNat lo hi
  | 0, lo, hi, _, h => by
    have : (hi - lo).toNat = 0 := by omega
    rw [this]
  | f + 1, lo, hi, h0, h => by
    by_cases hlt : lo < hi
    · obtain ⟨k, hk⟩ : ∃ k, (hi - lo).toNat = k + 1 := ⟨(hi - lo).toNat - 1, by omega⟩
      rw [hk]
      unfold bR
      rw [if_pos hlt, if_pos hlt]
      have e1 := bR_fuel vs x f lo ((lo + hi) / 2) h0 (by omega)
      have e2 := bR_fuel vs x f ((lo + hi) / 2 + 1) hi (by omega) (by omega)
      have e3 := bR_fuel vs x k lo ((lo + hi) / 2) h0 (by omega)
      have e4 := bR_fuel vs x k ((lo + hi) / 2 + 1) hi (by omega) (by omega)
      rw [e1, e2, e3, e4]
    · rw [bR_stop vs x lo hi hlt, bR_stop vs x lo hi hlt]
termination_by f => f
theorem bR_lt {vs : List Int} {x lo hi : Int} (h0 : 0 ≤ lo) (hlt : lo < hi) (hhi : hi ≤ (vs.length : Int)) {h : ((lo + hi).fdiv 2).toNat < vs.length} (hx : x < vs[((lo + hi).fdiv 2).toNat]) :
    bR vs x (hi - lo).toNat lo hi = bR vs x ((lo + hi).fdiv 2 - lo).toNat lo ((lo + hi).fdiv 2) := by
  have em : (lo + hi).fdiv 2 = (lo + hi) / 2 := Int.fdiv_eq_ediv_of_nonneg _ (by decide)
  simp only [em] at hx h ⊢
  obtain ⟨k, hk⟩ : ∃ k, (hi - lo).toNat = k + 1 := ⟨(hi - lo).toNat - 1, by omega⟩
  rw [hk]
  conv => lhs; unfold bR
  rw [if_pos hlt, if_pos (by rw [List.getD_eq_getElem?_getD, List.getElem?_eq_getElem h]; exact hx)]
  exact bR_fuel vs x k _ _ h0 (by omega)
theorem bR_ge {vs : List Int} {x lo hi : Int} (h0 : 0 ≤ lo) (hlt : lo < hi) (hhi : hi ≤ (vs.length : Int)) {h : ((lo + hi).fdiv 2).toNat < vs.length} (hx : ¬ x < vs[((lo + hi).fdiv 2).toNat]) :
    bR vs x (hi - lo).toNat lo hi = bR vs x (hi - ((lo + hi).fdiv 2 + 1)).toNat ((lo + hi).fdiv 2 + 1) hi := by
  have em : (lo + hi).fdiv 2 = (lo + hi) / 2 := Int.fdiv_eq_ediv_of_nonneg _ (by decide)
  simp only [em] at hx h ⊢
  obtain ⟨k, hk⟩ : ∃ k, (hi - lo).toNat = k + 1 := ⟨(hi - lo).toNat - 1, by omega⟩
  rw [hk]
  conv => lhs; unfold bR
  rw [if_pos hlt, if_neg (by rw [List.getD_eq_getElem?_getD, List.getElem?_eq_getElem h]; exact hx)]
  exact bR_fuel vs x k _ _ (by omega) (by omega)
theorem stR1 {vs : List Int} {x lo hi r : Int} (h0 : 0 ≤ lo) (hhi : hi ≤ (vs.length : Int)) (hb : bR vs x (hi - lo).toNat lo hi = r) (hlt : lo < hi) {h : ((lo + hi).fdiv 2).toNat < vs.length} (hx : x < vs[((lo + hi).fdiv 2).toNat]) :
    0 ≤ lo ∧ lo ≤ (lo + hi).fdiv 2 ∧ (lo + hi).fdiv 2 ≤ (vs.length : Int) ∧ bR vs x ((lo + hi).fdiv 2 - lo).toNat lo ((lo + hi).fdiv 2) = r := by
  have em : (lo + hi).fdiv 2 = (lo + hi) / 2 := Int.fdiv_eq_ediv_of_nonneg _ (by decide)
  refine ⟨h0, by omega, by omega, ?_⟩
  rw [← bR_lt h0 hlt hhi hx]; exact hb
theorem stR2 {vs : List Int} {x lo hi r : Int} (h0 : 0 ≤ lo) (hhi : hi ≤ (vs.length : Int)) (hb : bR vs x (hi - lo).toNat lo hi = r) (hlt : lo < hi) {h : ((lo + hi).fdiv 2).toNat < vs.length} (hx : ¬ x < vs[((lo + hi).fdiv 2).toNat]) :
    0 ≤ (lo + hi).fdiv 2 + 1 ∧ (lo + hi).fdiv 2 + 1 ≤ hi ∧ hi ≤ (vs.length : Int) ∧ bR vs x (hi - ((lo + hi).fdiv 2 + 1)).toNat ((lo + hi).fdiv 2 + 1) hi = r := by
  have em : (lo + hi).fdiv 2 = (lo + hi) / 2 := Int.fdiv_eq_ediv_of_nonneg _ (by decide)
  refine ⟨by omega, by omega, hhi, ?_⟩
  rw [← bR_ge h0 hlt hhi hx]; exact hb
theorem msR {lo hi : Int} (h0 : 0 ≤ lo) (hlt : lo < hi) : ((lo + hi).fdiv 2 - lo).toNat < (hi - lo).toNat := by
  have em : (lo + hi).fdiv 2 = (lo + hi) / 2 := Int.fdiv_eq_ediv_of_nonneg _ (by decide)
  omega
theorem msR2 {lo hi : Int} (h0 : 0 ≤ lo) (hlt : lo < hi) : (hi - ((lo + hi).fdiv 2 + 1)).toNat < (hi - lo).toNat := by
  have em : (lo + hi).fdiv 2 = (lo + hi) / 2 := Int.fdiv_eq_ediv_of_nonneg _ (by decide)
  omega

local macro_rules | `(tactic| ktr_enter) => `(tactic| (refine' code_def ?k1 ?k2 ?k3 ?k4 ?k5 ?kA ?kF ?kK ?k6 ?k7 ?k8 ?k9 ?kB ?_ ?c2 ?c3 ?c4 ?c5; (case kA => exact rfl); (case kF => exact rfl); (case kK => assumption); (case k1 => k_asm); (case k2 => k_asm); (case k3 => k_asm); (case k4 => k_asm); (case k5 => k_asm); (case k6 => k_is); (case k7 => k_is); (case k8 => ktr_room); (case k9 => first | exact BindsTo.of_eq rfl | exact binds_K (by k_in) rfl (by k_is) rfl rfl rfl | fail "no binds"); (case c5 => decide); (case kB => exact locs rfl); (case c2 => exact rfl); (case c3 => exact rfl); (case c4 => exact rfl); k_whole; intro g' L' h' FG' F' N' B' X' T'; (try dsimp only); (try k_lift B'); (try k_fold)))

theorem bisR_ctr {w : World} {mean : ExcName → Option Value} {mg mb : Str → Option Value} (row : Addr) (n : Nat) (zs : List (Str × Tok)) (vs : List Int) (hl : zs.length = vs.length) (hz : ∀ i (h : i < zs.length), Off w mean mg mb (zs[i]).1 (vs[i]'(hl ▸ h))) (hsm : zs.length ≤ 1000) (x : Int) (tx : Tok) :
    Ctr w mean mg mb 53 [.ref row, .int x tx] [(Str.ofString "key", .ref 44)] 4 (fun news => (row, strsO zs n) ∈ news) (fun r => ∃ t', r = .int (bR vs x vs.length 0 vs.length) t') := by
  unfold Ctr
  k_fill
  intro dp un gd cn cs a ccd cl outer A₀ base h₀ L m news s Q E B F X N T hk hd hu hpre hret
  w_top off
  k_with_none
  k_with "call builtin:len" => (k_dflt (refine' len_L ?k1 ?k2 ?k3 ?_; (case k1 => k_asm); (case k2 => k_mem); (case k3 => (simp only [List.size_toArray, List.length_map]; omega)); k_whole))
  k_with "subscriptTail" => (k_dflt (refine' item_L ?k1 ?k2 ?k3 ?k4 ?k5 ?_; (case k1 => k_asm); (case k2 => k_mem); (case k3 => l_fact); (case k4 => l_fact); (case k5 => exact strsO_get (by l_fact)); k_whole))
  k_with "call ref" => (k_dflt (refine' Ctr.use (hz _ _ _) ?k1 ?k2 ?k3 ?k4 ?k5 ?kK ?kd ?ku trivial ?_; (case k1 => k_asm); (case k2 => k_asm); (case k3 => k_asm); (case k4 => k_asm); (case k5 => k_asm); (case kK => exact rfl); (case kd => ktr_room); (case ku => ktr_units); k_whole; intro r9 h9 tk9 F9 N9 R9; obtain ⟨t9, e9⟩ := R9; subst e9; (try dsimp only); (try k_fold)))
  k_with "exec While Compare cons nil" => k_while (fun _ lo hi => 0 ≤ lo ∧ lo ≤ hi ∧ hi ≤ (vs.length : Int) ∧ bR vs x (hi - lo).toNat lo hi = bR vs x vs.length 0 vs.length) (fun _ lo hi => (hi - lo).toNat) "lo" "hi"
  k_with "state" => first | exact stR1 (by assumption) (by assumption) (by assumption) (by assumption) (by assumption) | exact stR2 (by assumption) (by assumption) (by assumption) (by assumption) (by assumption)
  k_with "measure" => first | exact msR (by assumption) (by assumption) | exact msR2 (by assumption) (by assumption)
  refine wpAny_call ?_
  k_dflt ktr_enter
  k_steps
  refine hret _ _ _ (by assumption) (by assumption) ⟨_, congrArg (fun z => Value.int z _) ?_⟩
  have hst := bR_stop vs x _ _ (by assumption)
  rw [hst] at *
  assumption
def bL (vs : List Int) (x : Int) : Nat → Int → Int → Int
  | 0, lo, _ => lo
  | f + 1, lo, hi => if lo < hi then (if vs.getD ((lo + hi) / 2).toNat 0 < x then bL vs x f ((lo + hi) / 2 + 1) hi else bL vs x f lo ((lo + hi) / 2)) else lo

theorem bL_stop (vs : List Int) (x lo hi : Int) (h : ¬ lo < hi) : ∀ f, bL vs x f lo hi = lo
  | 0 => rfl
  | f + 1 => by unfold bL; rw [if_neg h]
theorem bL_fuel (vs : List Int) (x : Int) : ∀ (f : Nat) (lo hi : Int), 0 ≤ lo → (hi - lo).toNat ≤ f → bL vs x f lo hi = bL vs x (hi - lo).toNat lo hi
  | 0, lo, hi, _, h => by
    have : (hi - lo).toNat = 0 := by omega
    rw [this]
  | f + 1, lo, hi, h0, h => by
    by_cases hlt : lo < hi
    · obtain ⟨k, hk⟩ : ∃ k, (hi - lo).toNat = k + 1 := ⟨(hi - lo).toNat - 1, by omega⟩
      rw [hk]
      unfold bL
      rw [if_pos hlt, if_pos hlt]
      have e1 := bL_fuel vs x f lo ((lo + hi) / 2) h0 (by omega)
      have e2 := bL_fuel vs x f ((lo + hi) / 2 + 1) hi (by omega) (by omega)
      have e3 := bL_fuel vs x k lo ((lo + hi) / 2) h0 (by omega)
      have e4 := bL_fuel vs x k ((lo + hi) / 2 + 1) hi (by omega) (by omega)
      rw [e1, e2, e3, e4]
    · rw [bL_stop vs x lo hi hlt, bL_stop vs x lo hi hlt]
termination_by f => f
theorem bL_lt {vs : List Int} {x lo hi : Int} (h0 : 0 ≤ lo) (hlt : lo < hi) (hhi : hi ≤ (vs.length : Int)) {h : ((lo + hi).fdiv 2).toNat < vs.length} (hx : ¬ vs[((lo + hi).fdiv 2).toNat] < x) :
    bL vs x (hi - lo).toNat lo hi = bL vs x ((lo + hi).fdiv 2 - lo).toNat lo ((lo + hi).fdiv 2) := by
  have em : (lo + hi).fdiv 2 = (lo + hi) / 2 := Int.fdiv_eq_ediv_of_nonneg _ (by decide)
  simp only [em] at hx h ⊢
  obtain ⟨k, hk⟩ : ∃ k, (hi - lo).toNat = k + 1 := ⟨(hi - lo).toNat - 1, by omega⟩
  rw [hk]
  conv => lhs; unfold bL
  rw [if_pos hlt, if_neg (by rw [List.getD_eq_getElem?_getD, List.getElem?_eq_getElem h]; exact hx)]
  exact bL_fuel vs x k _ _ h0 (by omega)
theorem bL_ge {vs : List Int} {x lo hi : Int} (h0 : 0 ≤ lo) (hlt : lo < hi) (hhi : hi ≤ (vs.length : Int)) {h : ((lo + hi).fdiv 2).toNat < vs.length} (hx : vs[((lo + hi).fdiv 2).toNat] < x) :
    bL vs x (hi - lo).toNat lo hi = bL vs x (hi - ((lo + hi).fdiv 2 + 1)).toNat ((lo + hi).fdiv 2 + 1) hi := by
  have em : (lo + hi).fdiv 2 = (lo + hi) / 2 := Int.fdiv_eq_ediv_of_nonneg _ (by decide)
  simp only [em] at hx h ⊢
  obtain ⟨k, hk⟩ : ∃ k, (hi - lo).toNat = k + 1 := ⟨(hi - lo).toNat - 1, by omega⟩
  rw [hk]
  conv => lhs; unfold bL
  rw [if_pos hlt, if_pos (by rw [List.getD_eq_getElem?_getD, List.getElem?_eq_getElem h]; exact hx)]
  exact bL_fuel vs x k _ _ (by omega) (by omega)
theorem stL1 {vs : List Int} {x lo hi r : Int} (h0 : 0 ≤ lo) (hhi : hi ≤ (vs.length : Int)) (hb : bL vs x (hi - lo).toNat lo hi = r) (hlt : lo < hi) {h : ((lo + hi).fdiv 2).toNat < vs.length} (hx : ¬ vs[((lo + hi).fdiv 2).toNat] < x) :
    0 ≤ lo ∧ lo ≤ (lo + hi).fdiv 2 ∧ (lo + hi).fdiv 2 ≤ (vs.length : Int) ∧ bL vs x ((lo + hi).fdiv 2 - lo).toNat lo ((lo + hi).fdiv 2) = r := by
  have em : (lo + hi).fdiv 2 = (lo + hi) / 2 := Int.fdiv_eq_ediv_of_nonneg _ (by decide)
  refine ⟨h0, by omega, by omega, ?_⟩
  rw [← bL_lt h0 hlt hhi hx]; exact hb
theorem stL2 {vs : List Int} {x lo hi r : Int} (h0 : 0 ≤ lo) (hhi : hi ≤ (vs.length : Int)) (hb : bL vs x (hi - lo).toNat lo hi = r) (hlt : lo < hi) {h : ((lo + hi).fdiv 2).toNat < vs.length} (hx : vs[((lo + hi).fdiv 2).toNat] < x) :
    0 ≤ (lo + hi).fdiv 2 + 1 ∧ (lo + hi).fdiv 2 + 1 ≤ hi ∧ hi ≤ (vs.length : Int) ∧ bL vs x (hi - ((lo + hi).fdiv 2 + 1)).toNat ((lo + hi).fdiv 2 + 1) hi = r := by
  have em : (lo + hi).fdiv 2 = (lo + hi) / 2 := Int.fdiv_eq_ediv_of_nonneg _ (by decide)
  refine ⟨by omega, by omega, hhi, ?_⟩
  rw [← bL_ge h0 hlt hhi hx]; exact hb
theorem msL {lo hi : Int} (h0 : 0 ≤ lo) (hlt : lo < hi) : ((lo + hi).fdiv 2 - lo).toNat < (hi - lo).toNat := by
  have em : (lo + hi).fdiv 2 = (lo + hi) / 2 := Int.fdiv_eq_ediv_of_nonneg _ (by decide)
  omega
theorem msL2 {lo hi : Int} (h0 : 0 ≤ lo) (hlt : lo < hi) : (hi - ((lo + hi).fdiv 2 + 1)).toNat < (hi - lo).toNat := by
  have em : (lo + hi).fdiv 2 = (lo + hi) / 2 := Int.fdiv_eq_ediv_of_nonneg _ (by decide)
  omega

theorem bisL_ctr {w : World} {mean : ExcName → Option Value} {mg mb : Str → Option Value} (row : Addr) (n : Nat) (zs : List (Str × Tok)) (vs : List Int) (hl : zs.length = vs.length) (hz : ∀ i (h : i < zs.length), Off w mean mg mb (zs[i]).1 (vs[i]'(hl ▸ h))) (hsm : zs.length ≤ 1000) (x : Int) (tx : Tok) :
    Ctr w mean mg mb 62 [.ref row, .int x tx] [(Str.ofString "key", .ref 44)] 4 (fun news => (row, strsO zs n) ∈ news) (fun r => ∃ t', r = .int (bL vs x vs.length 0 vs.length) t') := by
  unfold Ctr
  k_fill
  intro dp un gd cn cs a ccd cl outer A₀ base h₀ L m news s Q E B F X N T hk hd hu hpre hret
  w_top off
  k_with_none
  k_with "call builtin:len" => (k_dflt (refine' len_L ?k1 ?k2 ?k3 ?_; (case k1 => k_asm); (case k2 => k_mem); (case k3 => (simp only [List.size_toArray, List.length_map]; omega)); k_whole))
  k_with "subscriptTail" => (k_dflt (refine' item_L ?k1 ?k2 ?k3 ?k4 ?k5 ?_; (case k1 => k_asm); (case k2 => k_mem); (case k3 => l_fact); (case k4 => l_fact); (case k5 => exact strsO_get (by l_fact)); k_whole))
  k_with "call ref" => (k_dflt (refine' Ctr.use (hz _ _ _) ?k1 ?k2 ?k3 ?k4 ?k5 ?kK ?kd ?ku trivial ?_; (case k1 => k_asm); (case k2 => k_asm); (case k3 => k_asm); (case k4 => k_asm); (case k5 => k_asm); (case kK => exact rfl); (case kd => ktr_room); (case ku => ktr_units); k_whole; intro r9 h9 tk9 F9 N9 R9; obtain ⟨t9, e9⟩ := R9; subst e9; (try dsimp only); (try k_fold)))
  k_with "exec While Compare cons nil" => k_while (fun _ lo hi => 0 ≤ lo ∧ lo ≤ hi ∧ hi ≤ (vs.length : Int) ∧ bL vs x (hi - lo).toNat lo hi = bL vs x vs.length 0 vs.length) (fun _ lo hi => (hi - lo).toNat) "lo" "hi"
  k_with "state" => first | exact stL1 (by assumption) (by assumption) (by assumption) (by assumption) (by assumption) | exact stL2 (by assumption) (by assumption) (by assumption) (by assumption) (by assumption)
  k_with "measure" => first | exact msL (by assumption) (by assumption) | exact msL2 (by assumption) (by assumption)
  refine wpAny_call ?_
  k_dflt ktr_enter
  k_steps
  refine hret _ _ _ (by assumption) (by assumption) ⟨_, congrArg (fun z => Value.int z _) ?_⟩
  have hst := bL_stop vs x _ _ (by assumption)
  rw [hst] at *
  assumption
end Mine
end
section
set_option maxRecDepth 100000
set_option maxHeartbeats 2000000
namespace Mine
open PySem.Sre
def Like (m' m : M) : Prop := m' = ab m ∧ m.code = reCode
theorem ite_ab {c : Prop} [i1 : Decidable c] {a b a' b' : M} (h1 : c → Like a' a) (h2 : ¬ c → Like b' b) : Like (@ite _ c i1 a' b') (@ite _ c i1 a b) := by
  by_cases h : c
  · rw [if_pos h, if_pos h]; exact h1 h
  · rw [if_neg h, if_neg h]; exact h2 h
theorem attempt_ab {m : M} (hc : m.code = reCode) (f : Sre.Frame) (t p : Nat) (o : Bool) : Like ((ab m).attempt f t p o) (m.attempt f t p o) :=
  ite_ab (fun _ => ⟨rfl, hc⟩) (fun _ => ⟨rfl, hc⟩)
theorem alternative_ab {m : M} (hc : m.code = reCode) (a : Nat) (k : Sre.Kept) : Like ((ab m).alternative a k) (m.alternative a k) :=
  ite_ab (fun _ => ⟨rfl, hc⟩) (fun _ => attempt_ab hc _ _ _ _)
theorem afterRun_ab {m : M} (hc : m.code = reCode) (w : Sre.Wait) (c : Int) (k : Sre.Kept) : Like ((ab m).afterRun w c k) (m.afterRun w c k) := attempt_ab hc _ _ _ _
theorem afterLoop_ab {m : M} (hc : m.code = reCode) (w : Sre.Wait) (i : Nat) (c : Int) (f : Option Nat → Bool) : Like ((ab m).afterLoop w i c f) (m.afterLoop w i c f) := attempt_ab (m := { m with inner := (m.loopAt i).outer }) hc _ _ _ _
theorem round_ab {m : M} (hc : m.code = reCode) (w : Sre.Wait) (i : Nat) (c : Int) (g : Bool) (k : Sre.Kept) : Like ((ab m).round w i c g k) (m.round w i c g k) :=
  attempt_ab (m := m.setLoop i fun l => { l with count := c, began := if g then some m.pos else l.began }) hc _ _ _ _
theorem until_ab {m : M} (hc : m.code = reCode) (g : Bool) : Like ((ab m).until_ g) (m.until_ g) := by
  unfold M.until_
  show Like (match m.inner with | none => _ | some i => _) (match m.inner with | none => _ | some i => _)
  cases m.inner with
  | none => exact ⟨rfl, hc⟩
  | some i =>
    exact ite_ab (fun _ => round_ab hc _ _ _ _ _) (fun _ => ite_ab (fun _ => afterLoop_ab hc _ _ _ _) (fun _ => ite_ab (fun _ => round_ab hc _ _ _ _ _) (fun _ => afterLoop_ab hc _ _ _ _)))
theorem possessive_ab {m : M} (hc : m.code = reCode) (i : Nat) (c : Int) (b : Option Nat) : Like ((ab m).possessive i c b) (m.possessive i c b) :=
  ite_ab (fun _ => attempt_ab hc _ _ _ _) (fun _ => ite_ab (fun _ => attempt_ab hc _ _ _ _) (fun _ => ⟨rfl, hc⟩))
theorem attemptAt_ab {m : M} (hc : m.code = reCode) (s : Nat) (f : Bool) : Like ((ab m).attemptAt s f) (m.attemptAt s f) :=
  attempt_ab (m := { m with start := s, pos := s, lastmark := -1, lastindex := -1 }) hc _ _ _ _
theorem attemptFrom_ab {m : M} (hc : m.code = reCode) (s : Nat) (f : Bool) : Like ((ab m).attemptFrom s f) (m.attemptFrom s f) := by
  have h : m.hasFirstSet = false := by unfold M.hasFirstSet; rw [hc]; rfl
  have h' : (ab m).hasFirstSet = false := h
  unfold M.attemptFrom
  rw [h, h']
  exact attemptAt_ab hc _ _
theorem one_ab {m : M} (hc : m.code = reCode) (v : Nat) :
    Like (if (ab m).pos ≥ (ab m).lim then M.say { ab m with seen := m.seen.add v } false else
      match accepts (ab m).code (ab m).pc ((ab m).text.getD (ab m).pos 0) (m.seen.add v) with
      | .error why => M.stick { ab m with seen := m.seen.add v } why
      | .ok (false, seen) => M.say { ab m with seen } false
      | .ok (true, seen) => { ab m with seen, pc := (ab m).pc + itemWidth (ab m).code (ab m).pc, pos := (ab m).pos + 1 })
      (if m.pos ≥ m.lim then M.say { m with seen := m.seen.add v } false else
      match accepts m.code m.pc (m.text.getD m.pos 0) (m.seen.add v) with
      | .error why => M.stick { m with seen := m.seen.add v } why
      | .ok (false, seen) => M.say { m with seen } false
      | .ok (true, seen) => { m with seen, pc := m.pc + itemWidth m.code m.pc, pos := m.pos + 1 }) := by
  refine ite_ab (fun _ => ⟨rfl, hc⟩) (fun _ => ?_)
  have h1 : accepts (ab m).code (ab m).pc ((ab m).text.getD (ab m).pos 0) (m.seen.add v) = accepts m.code m.pc (m.text.getD m.pos 0) (m.seen.add v) := by
    show accepts m.code _ ((m.text.map ph).getD m.pos 0) _ = _
    rw [hc, getD_ab]; exact accepts_ab _ _ _
  rw [h1]
  cases accepts m.code m.pc (m.text.getD m.pos 0) (m.seen.add v) with
  | error why => exact ⟨rfl, hc⟩
  | ok r => obtain ⟨b, r⟩ := r; cases b <;> exact ⟨rfl, hc⟩
theorem exec_ab {m : M} (hc : m.code = reCode) : Like (ab m).exec m.exec := by
  unfold M.exec
  have hw : m.word 0 = reCode.getD m.pc 0 := by unfold M.word; rw [hc]; rfl
  have hw' : (ab m).word 0 = m.word 0 := rfl
  have hv := code_vals m.pc
  rw [← hw] at hv
  simp only [List.mem_cons, List.not_mem_nil, or_false] at hv
  rw [hw']
  have hrun : ∀ i n p f s, Sre.run (ab m).code (ab m).text i n p f s = Sre.run m.code m.text i n p f s := by
    intro i n p f s
    show Sre.run m.code (m.text.map ph) i n p f s = _
    rw [hc]; exact run_ab _ _ _ _ _ _
  have hacc : ∀ i s, accepts (ab m).code i ((ab m).text.getD m.pos 0) s = accepts m.code i (m.text.getD m.pos 0) s := by
    intro i s
    show accepts m.code i ((m.text.map ph).getD m.pos 0) s = _
    rw [hc, getD_ab]; exact accepts_ab _ _ _
  rcases hv with e | e | e | e | e | e | e | e | e | e | e | e | e | e | e | e | e | e | e <;> rw [e]
  · exact ⟨rfl, hc⟩
  · exact ite_ab (fun _ => ⟨rfl, hc⟩) (fun _ => ⟨rfl, hc⟩)
  · exact one_ab hc 2
  · exact one_ab hc 3
  · exact ite_ab (fun _ => ⟨rfl, hc⟩) (fun _ => attempt_ab (m := { m with seen := m.seen.add 4 }) hc _ _ _ _)
  · exact ite_ab (fun _ => ⟨rfl, hc⟩) (fun _ => attempt_ab (m := { m with seen := m.seen.add 5 }) hc _ _ _ _)
  · have h1 := isAt_ab { m with seen := m.seen.add 6 } (m.word 1)
    show Like (match M.isAt (ab { m with seen := m.seen.add 6 }) (m.word 1) with | .error why => _ | .ok yes => _) (match M.isAt { m with seen := m.seen.add 6 } (m.word 1) with | .error why => _ | .ok yes => _)
    rw [h1]
    cases M.isAt { m with seen := m.seen.add 6 } (m.word 1) with
    | error why => exact ⟨rfl, hc⟩
    | ok yes => cases yes <;> exact ⟨rfl, hc⟩
  · exact ⟨rfl, hc⟩
  · exact ⟨rfl, hc⟩
  · exact one_ab hc 13
  · exact ⟨rfl, hc⟩
  · exact one_ab hc 16
  · exact ⟨rfl, hc⟩
  · exact until_ab (m := { m with pc := m.pc + 1, seen := _ }) hc _
  · exact attempt_ab (m := { m with seen := m.seen.add 23, loops := m.loops.push { pc := m.pc, outer := m.inner }, inner := some m.loops.size }) hc _ _ _ _
  · refine ite_ab (fun _ => ⟨rfl, hc⟩) (fun _ => ?_)
    have h1 := hrun (m.pc + 4) (min (m.word 3) ((m.lim : Int) - m.pos).toNat) m.pos 0 ((m.seen.add 24).add (m.word 4))
    show Like (match Sre.run (ab m).code (ab m).text (m.pc + 4) (min (m.word 3) ((m.lim : Int) - m.pos).toNat) m.pos 0 ((m.seen.add 24).add (m.word 4)) with | .error why => _ | .ok (n, seen) => _)
      (match Sre.run m.code m.text (m.pc + 4) (min (m.word 3) ((m.lim : Int) - m.pos).toNat) m.pos 0 ((m.seen.add 24).add (m.word 4)) with | .error why => _ | .ok (n, seen) => _)
    rw [h1]
    cases Sre.run m.code m.text (m.pc + 4) (min (m.word 3) ((m.lim : Int) - m.pos).toNat) m.pos 0 ((m.seen.add 24).add (m.word 4)) with
    | error why => exact ⟨rfl, hc⟩
    | ok r =>
      obtain ⟨n, seen⟩ := r
      exact ite_ab (fun _ => ⟨rfl, hc⟩) (fun _ => afterRun_ab (m := { m with seen, pos := m.pos + n }) hc _ _ _)
  all_goals exact ⟨rfl, hc⟩
theorem resume_ab {m : M} (hc : m.code = reCode) (f : Sre.Frame) (y : Bool) : Like ((ab m).resume f y) (m.resume f y) := by
  unfold M.resume
  cases f.wait
  · exact ite_ab (fun _ => ⟨rfl, hc⟩) (fun _ => ite_ab (fun _ => attemptFrom_ab (m := { m with mustAdvance := false }) hc _ _) (fun _ => ⟨rfl, hc⟩))
  · exact ite_ab (fun _ => ⟨rfl, hc⟩) (fun _ => alternative_ab (m := m.putBack f.kept) hc _ _)
  · exact ite_ab (fun _ => ⟨rfl, hc⟩) (fun _ => ite_ab (fun _ => ⟨rfl, hc⟩) (fun _ => afterRun_ab (m := { m.putBack f.kept with pos := f.pos - 1 }) hc _ _ _))
  · refine ite_ab (fun _ => ⟨rfl, hc⟩) (fun _ => ite_ab (fun _ => ⟨rfl, hc⟩) (fun _ => ite_ab (fun _ => ⟨rfl, hc⟩) (fun _ => ?_)))
    have h1 : accepts (ab m).code (m.pc + 4) ((ab m).text.getD f.pos 0) m.seen = accepts m.code (m.pc + 4) (m.text.getD f.pos 0) m.seen := by
      show accepts m.code _ ((m.text.map ph).getD f.pos 0) _ = _
      rw [hc, getD_ab]; exact accepts_ab _ _ _
    show Like (match accepts (ab m).code (m.pc + 4) ((ab m).text.getD f.pos 0) m.seen with | .error why => _ | .ok (false, seen) => _ | .ok (true, seen) => _)
      (match accepts m.code (m.pc + 4) (m.text.getD f.pos 0) m.seen with | .error why => _ | .ok (false, seen) => _ | .ok (true, seen) => _)
    rw [h1]
    cases accepts m.code (m.pc + 4) (m.text.getD f.pos 0) m.seen with
    | error why => exact ⟨rfl, hc⟩
    | ok r =>
      obtain ⟨b, seen⟩ := r
      cases b
      · exact ⟨rfl, hc⟩
      · exact afterRun_ab (m := { m.putBack f.kept with seen, pos := f.pos + 1 }) hc _ _ _
  · exact ⟨rfl, hc⟩
  · exact ite_ab (fun _ => ⟨rfl, hc⟩) (fun _ => ⟨rfl, hc⟩)
  · exact ite_ab (fun _ => ⟨rfl, hc⟩) (fun _ => afterLoop_ab (m := ((m.setLoop f.loop fun l => { l with began := f.began }).putBack f.kept).setLoop f.loop fun l => { l with count := f.count - 1 }) hc _ _ _ _)
  · exact ⟨rfl, hc⟩
  · exact ite_ab (fun _ => ⟨rfl, hc⟩) (fun _ => ⟨rfl, hc⟩)
  · exact ite_ab (fun _ => ⟨rfl, hc⟩) (fun _ => ite_ab (fun _ => ⟨rfl, hc⟩) (fun _ => round_ab (m := M.putBack { m with inner := some f.loop } f.kept) hc _ _ _ _ _))
  · exact ite_ab (fun _ => ⟨rfl, hc⟩) (fun _ => ⟨rfl, hc⟩)
  · exact ite_ab (fun _ => possessive_ab hc _ _ _) (fun _ => ⟨rfl, hc⟩)
  · exact ite_ab (fun _ => possessive_ab hc _ _ _) (fun _ => possessive_ab (m := { m.putBack f.kept with handed := f.pos }) hc _ _ _)
  · exact ite_ab (fun _ => ⟨rfl, hc⟩) (fun _ => ⟨rfl, hc⟩)
  · exact ite_ab (fun _ => ⟨rfl, hc⟩) (fun _ => ⟨rfl, hc⟩)
  · exact ite_ab (fun _ => ⟨rfl, hc⟩) (fun _ => ⟨rfl, hc⟩)
theorem match_ab {A' A : Bool → M} {B' B : Bool → Sre.Frame → List Sre.Frame → M} {C' C : M} (hA : ∀ y, Like (A' y) (A y)) (hB : ∀ y f r, Like (B' y f r) (B y f r)) (hC : Like C' C) : ∀ (o : Option Bool) (fs : List Sre.Frame),
    Like (match o, fs with | some yes, [] => A' yes | some yes, f :: rest => B' yes f rest | none, _ => C') (match o, fs with | some yes, [] => A yes | some yes, f :: rest => B yes f rest | none, _ => C)
  | none, _ => hC
  | some y, [] => hA y
  | some y, f :: r => hB y f r
theorem step_ab {m : M} (hc : m.code = reCode) : Like (ab m).step m.step := by
  unfold M.step
  refine ite_ab (fun _ => ⟨rfl, hc⟩) (fun _ => ?_)
  refine match_ab ?_ ?_ ?_ m.answer m.frames
  · exact fun _ => ⟨rfl, hc⟩
  · exact fun yes f rest => resume_ab (m := { m with answer := none, frames := rest, weight := m.weight - (1 + f.kept.marks.size), pc := f.pc, pos := f.pos, outermost := f.outermost }) hc f yes
  · exact ite_ab (fun _ => exec_ab hc) (fun _ => ⟨rfl, hc⟩)
theorem runFor_ab : ∀ (n : Nat) {m : M} (_ : m.code = reCode), Like (M.runFor n (ab m)) (M.runFor n m)
  | 0, _, hc => ⟨rfl, hc⟩
  | n + 1, m, hc => ite_ab (fun _ => ⟨rfl, hc⟩) (fun _ => by
      obtain ⟨e, c⟩ := step_ab hc
      rw [e]
      exact runFor_ab n c)
theorem forSearch_ab (text : Array Nat) : Like (forSearch reCode (text.map ph) 3 0 (text.map ph).size false) (forSearch reCode text 3 0 text.size false) := by
  have hs : (text.map ph).size = text.size := Array.size_map ..
  rw [hs]
  exact ite_ab (fun _ => ⟨rfl, rfl⟩) (fun _ => attemptFrom_ab (m := { code := reCode, text, lim := text.size, start := 0, lastStart := text.size, pc := 5, pos := 0, handed := 0, marks := Array.replicate (2 * 3) none, mustAdvance := false, seen := ({} : Sre.Seen).add 14 }) rfl _ _)
end Mine
end
section
set_option maxRecDepth 100000
set_option maxHeartbeats 2000000
set_option pp.maxSteps 20000
namespace Mine
local macro_rules | `(tactic| walk_at "pad") => `(tactic| fail)
def lowS (c : Nat) : Prop := c = 46 ∨ c = 97 ∨ c = 98 ∨ c = 99 ∨ c = 100
theorem lower_tx {c : Nat} (h : lowS c) : Txt.lower (tx [c]) = tx [c] := by
  rcases h with h | h | h | h | h <;> subst h <;> decide +kernel
theorem tx_beq (xs ys : List Nat) : (tx xs == tx ys) = decide (xs = ys) := by
  by_cases h : xs = ys
  · subst h; simp
  · rw [decide_eq_false h]
    refine beq_false_of_ne fun e => h ?_
    have := congrArg (fun z : Str => z.cps.toList) e
    simpa [tx] using this
theorem it_pos {l : List Nat} {k : Int} (h0 : 0 ≤ k) (h1 : k < l.length) : Txt.item (tx l) k = tx [l.getD k.toNat 0] := by
  refine item_meets h0 ?_
  simp only [tx, List.getElem?_toArray]
  rw [List.getElem?_eq_getElem (by omega), List.getD_eq_getElem?_getD, List.getElem?_eq_getElem (by omega)]
  rfl
theorem it_neg {l : List Nat} {k : Int} (h0 : k < 0) (h1 : -(l.length : Int) ≤ k) : Txt.item (tx l) k = tx [l.getD (k + l.length).toNat 0] := by
  have := item_closes_neg (x := tx l) (i := k) (j := k + (tx l).length) h0 (by rw [tx_len]; exact h1) rfl
  rw [eq_of_beq this, tx_len]
  simp [tx, Array.getD_eq_getD_getElem?]
section
variable {prog : Program} {w : World} {A : Around} {E : Value → Shared → Prop} {s : Shared} {l : List Nat} {t : Tok} {value slice : Expr} {Q : Value → Shared → Prop}
theorem itm_pos {i : Int} {u : Tok} (h0 : 0 ≤ i) (h1 : i < l.length) (hz : l.length ≤ 1000) (h : ∀ t' k, Q (.str (tx [l.getD i.toNat 0]) t') { s with toks := k })
    (hs : subscripted slice false (.str (tx l) t) (.int i u) = operate [.str (tx l) t, .int i u] (getItem (.str (tx l) t) (.int i u)) := by with_unfolding_all rfl)
    (ht : ∀ r, letTemporaryGo value (.str (tx l) t) r = pure () := by intro _; with_unfolding_all rfl) :
    wpAny (model prog w) A (subscriptTail value slice (.str (tx l) t) (.int i u)) Q E s :=
  item_str (fitsSsize_of (N := 9223372036854775808) (by omega) (by omega) (Int.le_refl _)) (by rw [tx_len]; omega) (by rw [tx_len]; omega) (fun _ => by rw [it_pos h0 h1]; exact h _ _) hs ht
theorem itm_neg {i : Int} {u : Tok} (h0 : i < 0) (h1 : -(l.length : Int) ≤ i) (hz : l.length ≤ 1000) (h : ∀ t' k, Q (.str (tx [l.getD (i + l.length).toNat 0]) t') { s with toks := k })
    (hs : subscripted slice false (.str (tx l) t) (.int i u) = operate [.str (tx l) t, .int i u] (getItem (.str (tx l) t) (.int i u)) := by with_unfolding_all rfl)
    (ht : ∀ r, letTemporaryGo value (.str (tx l) t) r = pure () := by intro _; with_unfolding_all rfl) :
    wpAny (model prog w) A (subscriptTail value slice (.str (tx l) t) (.int i u)) Q E s :=
  item_str (fitsSsize_of (N := 9223372036854775808) (by omega) (by omega) (Int.le_refl _)) (by rw [tx_len]; omega) (by rw [tx_len]; omega) (fun _ => by rw [it_neg h0 h1]; exact h _ _) hs ht
end
theorem sub_ctr {w : World} {mean : ExcName → Option Value} {mg mb : Str → Option Value} (c d : Nat) (t1 t2 : Tok) (hc : lowS c) (hd0 : lowS d) :
    Ctr w mean mg mb 69 [.str (tx [c]) t1, .str (tx [d]) t2] [] 2 (fun _ => True) (fun r => ∃ t', r = .int (if c = d then 0 else 2) t') := by
  unfold Ctr
  k_fill
  intro dp un gd cn cs a ccd cl outer A₀ base h₀ L m news s Q E B F X N T hk hd hu hpre hret
  w_top off
  k_with_none
  k_with "call builtin:str.lower" => (refine KXw.lower (lower_tx (by assumption)) (by rw [lower_tx (by assumption)]; rfl) ?_; intro _ _; (try k_fold))
  refine wpAny_call ?_
  k_dflt ktr_enter
  k_steps
  · refine hret (.int 0 _) _ _ (by assumption) (by assumption) ⟨_, congrArg (fun z => Value.int z _) ?_⟩
    rename (tx [c] == tx [d]) = true => ha
    rw [tx_beq] at ha
    have := of_decide_eq_true ha
    simp only [List.cons.injEq, and_true] at this
    rw [if_pos this]
  · refine hret (.int 2 _) _ _ (by assumption) (by assumption) ⟨_, congrArg (fun z => Value.int z _) ?_⟩
    rename (tx [c] == tx [d]) = false => ha
    rw [tx_beq] at ha
    have := of_decide_eq_false ha
    simp only [List.cons.injEq, and_true] at this
    rw [if_neg this]
end Mine
end
section
set_option maxRecDepth 100000
set_option maxHeartbeats 2000000
set_option pp.maxSteps 20000
namespace Mine
structure ZV where
  z : Str
  t : Tok
  v : Int
def ZV.zt (y : ZV) : Str × Tok := (y.z, y.t)
def kOf (U odd : Int) (row : List ZV) (x : ZV) : Int :=
  if (x.v.fdiv U).fmod 2 = odd then bR (row.map ZV.v) x.v row.length 0 row.length else bL (row.map ZV.v) x.v row.length 0 row.length
def insTab (U odd : Int) : List (List ZV) → ZV → List (List ZV)
  | [], _ => []
  | row :: rest, x => if kOf U odd row x = row.length then (row ++ [x]) :: rest else row.set (kOf U odd row x).toNat x :: insTab U odd rest (row.getD (kOf U odd row x).toNat x)
def tabAdd (U odd : Int) (T : List (List ZV)) (x : ZV) : List (List ZV) := (insTab U odd (T ++ [[]]) x).filter (fun r => !r.isEmpty)
def tabOf (U odd : Int) (zs : List ZV) : List (List ZV) := zs.foldl (tabAdd U odd) []
structure RW where
  a : Addr
  n : Nat
  zs : List ZV
def RW.entry (r : RW) : Addr × Obj := (r.a, strsO (r.zs.map ZV.zt) r.n)
abbrev tabO (tl : Addr) (n : Nat) (R : List RW) : Addr × Obj := (tl, listOf (R.map fun r => Value.ref r.a).toArray n)

theorem insTab_len (U odd : Int) : ∀ (T : List (List ZV)) (x : ZV), (insTab U odd T x).length = T.length
  | [], _ => rfl
  | row :: rest, x => by
    unfold insTab
    split
    · rfl
    · rw [List.length_cons, insTab_len U odd rest, List.length_cons]
theorem insTab_rows (U odd : Int) (k : Nat) : ∀ (T : List (List ZV)) (x : ZV), (∀ r ∈ T, r.length ≤ k) → ∀ r ∈ insTab U odd T x, r.length ≤ k + 1
  | [], _, _, r, hr => by cases hr
  | row :: rest, x, h, r, hr => by
    unfold insTab at hr
    have h0 := h row (.head _)
    split at hr
    · rcases List.mem_cons.mp hr with rfl | hr
      · rw [List.length_append, List.length_cons, List.length_nil]; omega
      · exact Nat.le_succ_of_le (h r (.tail _ hr))
    · rcases List.mem_cons.mp hr with rfl | hr
      · rw [List.length_set]; omega
      · exact insTab_rows U odd k rest _ (fun r hr => h r (.tail _ hr)) r hr
theorem tabAdd_len (U odd : Int) (T : List (List ZV)) (x : ZV) : (tabAdd U odd T x).length ≤ T.length + 1 := by
  unfold tabAdd
  refine Nat.le_trans (List.length_filter_le _ _) ?_
  rw [insTab_len, List.length_append]; exact Nat.le_refl _
theorem tabAdd_rows (U odd : Int) (k : Nat) (T : List (List ZV)) (x : ZV) (h : ∀ r ∈ T, r.length ≤ k) : ∀ r ∈ tabAdd U odd T x, r.length ≤ k + 1 := by
  intro r hr
  unfold tabAdd at hr
  refine insTab_rows U odd k _ x (fun r hr => ?_) r (List.mem_filter.mp hr).1
  rcases List.mem_append.mp hr with hr | hr
  · exact h r hr
  · rw [List.mem_singleton.mp hr]; exact Nat.zero_le _
theorem tabOf_snoc (U odd : Int) (l : List ZV) (x : ZV) : tabOf U odd (l ++ [x]) = tabAdd U odd (tabOf U odd l) x := by
  unfold tabOf
  rw [List.foldl_append]; rfl
theorem tab_fold (U odd : Int) : ∀ (l : List ZV) (T : List (List ZV)) (k : Nat), T.length ≤ k → (∀ r ∈ T, r.length ≤ k) → (l.foldl (tabAdd U odd) T).length ≤ k + l.length ∧ ∀ r ∈ l.foldl (tabAdd U odd) T, r.length ≤ k + l.length
  | [], T, k, h1, h2 => ⟨h1, h2⟩
  | x :: l, T, k, h1, h2 => by
    have := tab_fold U odd l (tabAdd U odd T x) (k + 1) (Nat.le_trans (tabAdd_len ..) (Nat.succ_le_succ h1)) (tabAdd_rows U odd k T x h2)
    rw [List.length_cons, List.foldl_cons]
    rw [show k + (l.length + 1) = k + 1 + l.length by omega]
    exact this
theorem tabOf_size (U odd : Int) (l : List ZV) : (tabOf U odd l).length ≤ l.length ∧ ∀ r ∈ tabOf U odd l, r.length ≤ l.length := by
  have := tab_fold U odd l [] 0 (Nat.le_refl _) (fun r hr => by cases hr)
  rw [Nat.zero_add] at this
  exact this
structure T2 where
  R : List RW
  mv : ZV
theorem bR_bounds (vs : List Int) (x : Int) : ∀ (f : Nat) (lo hi : Int), lo ≤ hi → lo ≤ bR vs x f lo hi ∧ bR vs x f lo hi ≤ hi
  | 0, lo, hi, h => ⟨Int.le_refl _, h⟩
  | f + 1, lo, hi, h => by
    unfold bR
    split
    · split
      · have := bR_bounds vs x f lo ((lo + hi) / 2) (by omega); omega
      · have := bR_bounds vs x f ((lo + hi) / 2 + 1) hi (by omega); omega
    · omega
theorem bL_bounds (vs : List Int) (x : Int) : ∀ (f : Nat) (lo hi : Int), lo ≤ hi → lo ≤ bL vs x f lo hi ∧ bL vs x f lo hi ≤ hi
  | 0, lo, hi, h => ⟨Int.le_refl _, h⟩
  | f + 1, lo, hi, h => by
    unfold bL
    split
    · split
      · have := bL_bounds vs x f ((lo + hi) / 2 + 1) hi (by omega); omega
      · have := bL_bounds vs x f lo ((lo + hi) / 2) (by omega); omega
    · omega
theorem kOf_bounds (U odd : Int) (row : List ZV) (x : ZV) : 0 ≤ kOf U odd row x ∧ kOf U odd row x ≤ row.length := by
  unfold kOf
  split
  · exact bR_bounds _ _ _ _ _ (by omega)
  · exact bL_bounds _ _ _ _ _ (by omega)
theorem zs_get {zs : List ZV} {i : Nat} (h : i < zs.length) : ((zs.map ZV.zt).map strV).toArray[i]? = some (.str (zs[i]).z (zs[i]).t) := by
  simp [h, ZV.zt]
section
variable {U odd : Int} {zs : List ZV} {R0 A B : List RW} {y mv : ZV} {i : Nat} {r : RW}
def RowsP (U odd : Int) (zs : List ZV) (R0 : List RW) (y : ZV) (i : Nat) (c : T2) : Prop :=
  c.R.map RW.a = R0.map RW.a ∧ (c.R.drop i).map RW.zs = (R0.drop i).map RW.zs ∧ (c.R.take i).map RW.zs ++ insTab U odd ((R0.drop i).map RW.zs) c.mv = insTab U odd (R0.map RW.zs) y ∧ i < R0.length ∧
    c.mv ∈ zs ∧ (∀ r ∈ c.R, ∀ y ∈ r.zs, y ∈ zs) ∧ (∀ r ∈ c.R, r.zs.length ≤ 101)
def RowsQ (U odd : Int) (zs : List ZV) (R0 : List RW) (y : ZV) (c : T2) : Prop :=
  c.R.map RW.a = R0.map RW.a ∧ c.R.map RW.zs = insTab U odd (R0.map RW.zs) y ∧ (∀ r ∈ c.R, ∀ y ∈ r.zs, y ∈ zs)
theorem rows_drop (hA : A.length = i) : (A ++ r :: B).drop i = r :: B := by
  subst hA; rw [List.drop_left]
theorem rows_take (hA : A.length = i) : (A ++ r :: B).take i = A := by
  subst hA; rw [List.take_left]
theorem rows_brk (h : RowsP U odd zs R0 y i ⟨A ++ r :: B, mv⟩) (hA : A.length = i) (hk : kOf U odd r.zs mv = r.zs.length) (n' : Nat) (mv' : ZV) :
    RowsQ U odd zs R0 y ⟨A ++ ⟨r.a, n', r.zs ++ [mv]⟩ :: B, mv'⟩ := by
  obtain ⟨h1, h2, h3, _, h5, h6, _⟩ := h
  simp only [rows_drop hA, rows_take hA] at h2 h3
  refine ⟨?_, ?_, ?_⟩
  · rw [← h1]; simp
  · rw [← h3, ← h2]
    simp only [List.map_append, List.map_cons]
    conv => rhs; unfold insTab
    rw [if_pos hk]
  · intro q hq y' hy'
    rcases List.mem_append.mp hq with hq | hq
    · exact h6 q (List.mem_append.mpr (.inl hq)) y' hy'
    · rcases List.mem_cons.mp hq with rfl | hq
      · rcases List.mem_append.mp hy' with hy' | hy'
        · exact h6 r (List.mem_append.mpr (.inr (.head _))) y' hy'
        · rw [List.mem_singleton.mp hy']; exact h5
      · exact h6 q (List.mem_append.mpr (.inr (.tail _ hq))) y' hy'
theorem rows_next (h : RowsP U odd zs R0 y i ⟨A ++ r :: B, mv⟩) (hA : A.length = i) (hk : kOf U odd r.zs mv ≠ r.zs.length) (hlast : (R0.map RW.zs)[R0.length - 1]? = some []) (n' : Nat) {hlt : (kOf U odd r.zs mv).toNat < r.zs.length} :
    RowsP U odd zs R0 y (i + 1) ⟨A ++ ⟨r.a, n', r.zs.set (kOf U odd r.zs mv).toNat mv⟩ :: B, r.zs[(kOf U odd r.zs mv).toNat]⟩ := by
  obtain ⟨h1, h2, h3, h4, h5, h6, h7⟩ := h
  simp only [rows_drop hA, rows_take hA] at h2 h3
  have hdr : (R0.drop (i + 1)).map RW.zs = B.map RW.zs := by
    rw [← List.drop_drop, List.map_drop, ← h2]; rfl
  have hA1 : (A ++ [(⟨r.a, n', r.zs.set (kOf U odd r.zs mv).toNat mv⟩ : RW)]).length = i + 1 := by rw [List.length_append, hA]; rfl
  have hsp : A ++ (⟨r.a, n', r.zs.set (kOf U odd r.zs mv).toNat mv⟩ : RW) :: B = (A ++ [⟨r.a, n', r.zs.set (kOf U odd r.zs mv).toNat mv⟩]) ++ B := by simp
  refine ⟨?_, ?_, ?_, ?_, ?_, ?_, ?_⟩
  · rw [← h1]; simp
  · show (List.drop (i + 1) (A ++ (⟨r.a, n', r.zs.set (kOf U odd r.zs mv).toNat mv⟩ : RW) :: B)).map RW.zs = _
    rw [hsp, ← hA1, List.drop_left, hA1, hdr]
  · show (List.take (i + 1) (A ++ (⟨r.a, n', r.zs.set (kOf U odd r.zs mv).toNat mv⟩ : RW) :: B)).map RW.zs ++ _ = _
    rw [hsp, ← hA1, List.take_left, hA1, hdr, ← h3, ← h2]
    simp only [List.map_append, List.map_cons, List.map_nil, List.append_assoc, List.singleton_append]
    conv => rhs; unfold insTab
    rw [if_neg hk, List.getD_eq_getElem?_getD, List.getElem?_eq_getElem hlt]
    rfl
  · rcases Nat.lt_or_ge (i + 1) R0.length with h | h
    · exact h
    · exfalso
      have e : i = R0.length - 1 := by omega
      have e2 : ((R0.drop i).map RW.zs)[0]? = some [] := by
        rw [List.map_drop, List.getElem?_drop, Nat.add_zero, e]; exact hlast
      rw [← h2] at e2
      simp only [List.map_cons, List.getElem?_cons_zero, Option.some.injEq] at e2
      rw [e2] at hlt
      exact Nat.not_lt_zero _ hlt
  · exact h6 r (List.mem_append.mpr (.inr (.head _))) _ (List.getElem_mem _)
  · intro q hq y' hy'
    rcases List.mem_append.mp hq with hq | hq
    · exact h6 q (List.mem_append.mpr (.inl hq)) y' hy'
    · rcases List.mem_cons.mp hq with rfl | hq
      · rcases List.mem_or_eq_of_mem_set hy' with hy' | hy'
        · exact h6 r (List.mem_append.mpr (.inr (.head _))) y' hy'
        · rw [hy']; exact h5
      · exact h6 q (List.mem_append.mpr (.inr (.tail _ hq))) y' hy'
  · intro q hq
    rcases List.mem_append.mp hq with hq | hq
    · exact h7 q (List.mem_append.mpr (.inl hq))
    · rcases List.mem_cons.mp hq with rfl | hq
      · show (r.zs.set _ _).length ≤ 101
        rw [List.length_set]
        exact h7 r (List.mem_append.mpr (.inr (.head _)))
      · exact h7 q (List.mem_append.mpr (.inr (.tail _ hq)))
end
theorem led_mem {tab : Addr × Obj} {A B : List RW} {r' : RW} {own2 X : List (Addr × Obj)} : ∀ p ∈ own2 ++ (tab :: ((A ++ r' :: B).map RW.entry ++ X)), p ∈ r'.entry :: (own2 ++ (tab :: ((A ++ B).map RW.entry ++ X))) := by
  intro p hp
  rcases List.mem_append.mp hp with hp | hp
  · exact .tail _ (List.mem_append.mpr (.inl hp))
  · rcases List.mem_cons.mp hp with rfl | hp
    · exact .tail _ (List.mem_append.mpr (.inr (.head _)))
    · rcases List.mem_append.mp hp with hp | hp
      · obtain ⟨q, hq, rfl⟩ := List.mem_map.mp hp
        rcases List.mem_append.mp hq with hq | hq
        · exact .tail _ (List.mem_append.mpr (.inr (.tail _ (List.mem_append.mpr (.inl (List.mem_map_of_mem (List.mem_append.mpr (.inl hq))))))))
        · rcases List.mem_cons.mp hq with rfl | hq
          · exact .head _
          · exact .tail _ (List.mem_append.mpr (.inr (.tail _ (List.mem_append.mpr (.inl (List.mem_map_of_mem (List.mem_append.mpr (.inr hq))))))))
      · exact .tail _ (List.mem_append.mpr (.inr (.tail _ (List.mem_append.mpr (.inr hp)))))
theorem entry_push (r : RW) (mv : ZV) (a : Addr) (n : Nat) : (a, listOf (((r.zs.map ZV.zt).map strV).toArray.push (.str mv.z mv.t)) n) = RW.entry ⟨a, n, r.zs ++ [mv]⟩ := by
  simp [RW.entry, ZV.zt]
theorem entry_set (r : RW) (mv : ZV) (a : Addr) (n j : Nat) : (a, listOf (((r.zs.map ZV.zt).map strV).toArray.setIfInBounds j (.str mv.z mv.t)) n) = RW.entry ⟨a, n, r.zs.set j mv⟩ := by
  simp [RW.entry, ZV.zt, List.map_set]
theorem led_I {tab : Addr × Obj} {A B : List RW} {r r' : RW} {X : List (Addr × Obj)} {I : Addr} (h : ∀ q ∈ tab :: ((A ++ r :: B).map RW.entry ++ X), q.1 ≠ I) (e : r'.a = r.a) : ∀ q ∈ tab :: ((A ++ r' :: B).map RW.entry ++ X), q.1 ≠ I := by
  intro p hp
  rcases List.mem_cons.mp hp with rfl | hp
  · exact h _ (.head _)
  · rcases List.mem_append.mp hp with hp | hp
    · obtain ⟨q, hq, rfl⟩ := List.mem_map.mp hp
      rcases List.mem_append.mp hq with hq | hq
      · exact h _ (.tail _ (List.mem_append.mpr (.inl (List.mem_map_of_mem (List.mem_append.mpr (.inl hq))))))
      · rcases List.mem_cons.mp hq with rfl | hq
        · have := h r.entry (.tail _ (List.mem_append.mpr (.inl (List.mem_map_of_mem (List.mem_append.mpr (.inr (.head _)))))))
          show q.a ≠ I
          rw [e]; exact this
        · exact h _ (.tail _ (List.mem_append.mpr (.inl (List.mem_map_of_mem (List.mem_append.mpr (.inr (.tail _ hq)))))))
    · exact h _ (.tail _ (List.mem_append.mpr (.inr hp)))
def keepsV (R : List RW) : Value → Bool
  | .ref a => (R.find? (fun r => r.a == a)).any fun r => !r.zs.isEmpty
  | _ => false
theorem keepsV_mem : ∀ {R : List RW}, (R.map RW.a).Nodup → ∀ r ∈ R, keepsV R (.ref r.a) = !r.zs.isEmpty
  | [], _, r, hr => by cases hr
  | q :: R, hn, r, hr => by
    rw [List.map_cons, List.nodup_cons] at hn
    rcases List.mem_cons.mp hr with rfl | hr
    · show ((List.find? (fun q => q.a == r.a) (r :: R)).any fun r => !r.zs.isEmpty) = _
      rw [List.find?_cons_of_pos (by simp)]; rfl
    · have hne : ¬ (q.a == r.a) = true := by
        intro e
        exact hn.1 ((beq_iff_eq.mp e) ▸ List.mem_map_of_mem hr)
      have := keepsV_mem hn.2 r hr
      show ((List.find? (fun q => q.a == r.a) (q :: R)).any fun r => !r.zs.isEmpty) = _
      rw [List.find?_cons_of_neg (p := fun q : RW => q.a == r.a) hne]; exact this
theorem filter_keepsV {R : List RW} (hn : (R.map RW.a).Nodup) : (R.map fun r => Value.ref r.a).filter (keepsV R) = (R.filter fun r => !r.zs.isEmpty).map fun r => Value.ref r.a := by
  have key : ∀ S : List RW, (∀ r ∈ S, r ∈ R) → (S.map fun r => Value.ref r.a).filter (keepsV R) = (S.filter fun r => !r.zs.isEmpty).map fun r => Value.ref r.a := by
    intro S
    induction S with
    | nil => intro _; rfl
    | cons r S ih =>
      intro hS
      have h1 := keepsV_mem hn r (hS r (.head _))
      have h2 := ih fun q hq => hS q (.tail _ hq)
      rw [List.map_cons, List.filter_cons, List.filter_cons, h1, h2]
      split <;> simp_all
  exact key R fun r hr => hr
theorem filter_zs (R : List RW) : (R.filter fun r => !r.zs.isEmpty).map RW.zs = (R.map RW.zs).filter fun r => !r.isEmpty := by
  induction R with
  | nil => rfl
  | cons r R ih =>
    rw [List.map_cons, List.filter_cons, List.filter_cons]
    split <;> simp_all
structure T1 where
  tl : Addr
  k : Nat
  R : List RW
theorem get_zs {zs : List ZV} {i : Nat} {v : Value} (h : ((zs.map ZV.zt).map strV).toArray[i]? = some v) : ∃ y, zs[i]? = some y ∧ v = .str y.z y.t := by
  simp only [List.map_map, List.getElem?_toArray, List.getElem?_map, Option.map_eq_some_iff] at h
  obtain ⟨y, hy, rfl⟩ := h
  exact ⟨y, hy, rfl⟩
end Mine
end
section
set_option maxRecDepth 100000
set_option maxHeartbeats 2000000
set_option pp.maxSteps 20000
namespace Mine
local macro_rules | `(tactic| walk_at "getMethod ref") => `(tactic| (k_here; (with_reducible show wpAny _ _ (getMethod (Value.ref _) (PySem.Str.ofString "search") _) _ _ _); k_dflt (refine' search_get ?k1 ?_; (case k1 => exact ⟨_, (Frag.In.keeps (by k_asm) (Fr.keep (by k_asm)) : (hd.heap_39 _).In _) 37 _ rfl, rfl, rfl⟩); k_whole)))
local macro_rules | `(tactic| walk_at "getMethod ref") => `(tactic| (k_here; (with_reducible show wpAny _ _ (getMethod (Value.ref _) (PySem.Str.ofString "group") _) _ _ _); k_dflt (refine' group_get ?k1 ?k2 ?_; (case k1 => k_asm); (case k2 => k_mem); k_whole)))
local macro_rules | `(tactic| walk_at "call builtin:re.Pattern.search") => `(tactic| (k_here; k_dflt (refine' search_call ?k1 ?k2 ?k3 ?k4 ?k5 ?_; (case k1 => k_asm); (case k2 => k_asm); (case k3 => exact ⟨_, (Frag.In.keeps (by k_asm) (Fr.keep (by k_asm)) : (hd.heap_39 _).In _) 37 _ rfl, rfl, rfl⟩); (case k4 => exact ⟨_, _, (Frag.In.keeps (by k_asm) (Fr.keep (by k_asm)) : (hd.heap_39 _).In _) 36 _ rfl, rfl⟩); (case k5 => assumption); k_whole); intro a' b' h' F' N' l1 l2; (try k_lt l1); (try k_lt2 l2); (try k_sweep)))
local macro_rules | `(tactic| walk_at "call builtin:re.Match.group") => `(tactic| (k_here; k_dflt (first | (refine' group_some ?k1 ?k2 ?k3 ?k4 ?k5 ?k6 ?k7 ?_; (case k1 => k_asm); (case k2 => k_mem); (case k3 => k_mem); (case k4 => decide); (case k5 => simp only [*]; decide); (case k6 => assumption); (case k7 => assumption); k_whole) | (refine' group_none ?k1 ?k2 ?k3 ?k4 ?k5 ?k6 ?k7 ?_; (case k1 => k_asm); (case k2 => k_mem); (case k3 => k_mem); (case k4 => decide); (case k5 => simp only [*]; decide); (case k6 => assumption); (case k7 => assumption); k_whole))))
local macro_rules | `(tactic| walk_at "truthy ref") => `(tactic| (k_here; k_dflt (refine' truthy_mat ?k1 ?k2 ?_; (case k1 => k_asm); (case k2 => k_mem); k_whole)))
theorem off_ctr {w : World} {mean : ExcName → Option Value} {mg mb : Str → Option Value} (tz : Str) (t : Tok) (sp : List Int) (li : Int) (g2 : Str) (g1 g3 : Option Str) (v2 v3 : Int) (ok : SearchOk tz sp li) (h8 : sp.length = 8) (hsz : tz.cps.size ≤ 1000)
    (e1 : grp tz sp (1 : Int).toNat = g1) (e2 : grp tz sp (2 : Int).toNat = some g2) (e3 : grp tz sp (3 : Int).toNat = g3)
    (i2 : PySem.intText? g2 = some v2) (l2 : g2.length ≤ 640) (b2 : 0 ≤ v2 ∧ v2 < 100) (i3 : ∀ x, g3 = some x → PySem.intText? x = some v3 ∧ x.length ≤ 640 ∧ 0 < x.length) (b3 : 0 ≤ v3 ∧ v3 < 100)
    (n1 : (decide (tz = { cps := #[71, 77, 84] }) || (decide (tz = { cps := #[85, 84, 67] }) || (decide (tz = { cps := #[85, 84] }) || (decide (tz = { cps := #[90] }) || false)))) = false) :
    Ctr w mean mg mb 44 [.str tz t] [] 2 (fun _ => True) (fun r => ∃ t', r = .int (if g1 = some (Str.ofString "-") then - (3600 * v2 + (if g3.isSome then 60 * v3 else 0)) else 3600 * v2 + (if g3.isSome then 60 * v3 else 0)) t') := by
  unfold Ctr
  k_fill
  intro dp un gd cn cs a ccd cl outer A₀ base h₀ L m news s Q E B F X N T hk hd hu _ hret
  w_top off
  k_with_none
  obtain ⟨b21, b22⟩ := b2
  obtain ⟨b31, b32⟩ := b3
  cases g1 with
  | none =>
    cases g3 with
    | none =>
      clear i3
      refine wpAny_call ?_
      k_dflt ktr_enter
      k_steps
      all_goals first
        | (exfalso; omega)
        | (refine hret _ _ _ (by assumption) (cb_drop (by assumption) (fun p hp => .tail _ (.tail _ hp))) ⟨_, congrArg (fun z => Value.int z _) ?_⟩; simp_all)
    | some g3 =>
      obtain ⟨i31, i32, i33⟩ := i3 g3 rfl
      clear i3
      refine wpAny_call ?_
      k_dflt ktr_enter
      k_steps
      all_goals first
        | (exfalso; omega)
        | (refine hret _ _ _ (by assumption) (cb_drop (by assumption) (fun p hp => .tail _ (.tail _ hp))) ⟨_, congrArg (fun z => Value.int z _) ?_⟩; simp_all)
  | some g1 =>
    cases g3 with
    | none =>
      clear i3
      refine wpAny_call ?_
      k_dflt ktr_enter
      k_steps
      all_goals first
        | (exfalso; omega)
        | (refine hret _ _ _ (by assumption) (cb_drop (by assumption) (fun p hp => .tail _ (.tail _ hp))) ⟨_, congrArg (fun z => Value.int z _) ?_⟩; simp_all)
    | some g3 =>
      obtain ⟨i31, i32, i33⟩ := i3 g3 rfl
      clear i3
      refine wpAny_call ?_
      k_dflt ktr_enter
      k_steps
      all_goals first
        | (exfalso; omega)
        | (refine hret _ _ _ (by assumption) (cb_drop (by assumption) (fun p hp => .tail _ (.tail _ hp))) ⟨_, congrArg (fun z => Value.int z _) ?_⟩; simp_all)
theorem off_utc {w : World} {mean : ExcName → Option Value} {mg mb : Str → Option Value} (tz : Str) (t : Tok)
    (n1 : (decide (tz = { cps := #[71, 77, 84] }) || (decide (tz = { cps := #[85, 84, 67] }) || (decide (tz = { cps := #[85, 84] }) || (decide (tz = { cps := #[90] }) || false)))) = true) :
    Ctr w mean mg mb 44 [.str tz t] [] 2 (fun _ => True) (fun r => ∃ t', r = .int 0 t') := by
  unfold Ctr
  k_fill
  intro dp un gd cn cs a ccd cl outer A₀ base h₀ L m news s Q E B F X N T hk hd hu _ hret
  w_top off
  k_with_none
  refine wpAny_call ?_
  k_dflt ktr_enter
  k_steps
  all_goals first
    | (exfalso; simp_all; done)
    | (refine hret _ _ _ (by assumption) (by assumption) ⟨_, rfl⟩)
end Mine
end
section
set_option maxRecDepth 100000
set_option maxHeartbeats 20000000
namespace Mine
theorem cut_wp {M : Model} {Γ : Ctx} {env : Env} {MID : Shared → Prop} {Q : Flow → Shared → Prop} {E : Value → Shared → Prop} {rest : List Stmt} (hΓ : ∀ p s, MID s → Sem.wp M Γ (execs rest env) (fun a _ s' => Q a s') (fun e _ s' => E e s') p s) :
    ∀ (ss : List Stmt) (p : Pos) (s : Shared), Sem.wp M Γ (execs ss env) (fun f _ s' => f = .next ∧ MID s') (fun e _ s' => E e s') p s → Sem.wp M Γ (execs (ss ++ rest) env) (fun a _ s' => Q a s') (fun e _ s' => E e s') p s
  | [], p, s, h => hΓ p s h.2
  | st :: ss, p, s, h => by
    rw [List.cons_append, execs_cons, Sem.wp_bind']
    rw [execs_cons, Sem.wp_bind'] at h
    refine Sem.wp_mono M Γ _ (fun f p' s' h' => ?_) (fun _ _ _ h' => h') _ _ h
    cases f with
    | next => exact cut_wp hΓ ss p' s' h'
    | ret v => exact absurd (show (Flow.ret v = .next ∧ MID s') from h').1 (fun e => nomatch e)
    | brk => exact absurd (show (Flow.brk = .next ∧ MID s') from h').1 (fun e => nomatch e)
    | cont => exact absurd (show (Flow.cont = .next ∧ MID s') from h').1 (fun e => nomatch e)
theorem cut_execs {M : Model} {A : Around} {env : Env} {MID : Shared → Prop} {Q : Flow → Shared → Prop} {E : Value → Shared → Prop} {rest ss : List Stmt} {s : Shared}
    (h1 : wpAny M A (execs ss env) (fun f s' => f = .next ∧ MID s') E s) (h2 : ∀ s', MID s' → wpAny M A (execs rest env) Q E s') : wpAny M A (execs (ss ++ rest) env) Q E s :=
  fun Γ p hΓ => cut_wp (fun p s hm => h2 s hm Γ p hΓ) ss p s (h1 Γ p hΓ)
abbrev intV (z : Int × Tok) : Value := .int z.1 z.2
abbrev intsO (zs : List (Int × Tok)) (n : Nat) : Obj := listOf (zs.map intV).toArray n
theorem intsO_get {zs : List (Int × Tok)} {i : Nat} (h : i < zs.length) : (zs.map intV).toArray[i]? = some (.int (zs[i]).1 (zs[i]).2) := by
  simp [h]
def rowInit (n : Nat) : List Int := (List.range n).map fun i => 2 + (i : Nat) * 2
section
variable {prog : Program} {w : World} {A : Around} {E : Value → Shared → Prop} {s : Shared} {h₀ : Heap} {L : Addr} {m : Str → Option Value} {news : List (Addr × Obj)}
theorem list_range2 {Q : Value → Shared → Prop} {r : Addr} {n : Nat} {b : Int} {t u v : Tok} (hn : n ≤ 5) (hb : b = 2 * ((n : Int) + 1)) (hh : A.handled = none) (F : Fr h₀ L s.heap m) (N : News h₀ L s.heap news) (hr : IsRange s.heap r 2 b 2 t u v)
    (h : ∀ h' tk (zs : List (Int × Tok)) c, zs.map Prod.fst = rowInit n → Fr h₀ L h' m → News h₀ L h' ((s.heap.objs.size, intsO zs c) :: news) → (∀ p ∈ news, p.1 ≠ s.heap.objs.size) → Q (.ref s.heap.objs.size) { s with heap := h', toks := tk }) :
    wpAny (model prog w) A (call (.type "list") [.ref r]) Q E s := by
  subst hb
  have hs : Builtin.Range.small 2 (2 * ((n : Int) + 1)) 2 = true ∧ Builtin.Range.rangeSize 2 (2 * ((n : Int) + 1)) 2 = (n : Int) := by
    rcases (by omega : n = 0 ∨ n = 1 ∨ n = 2 ∨ n = 3 ∨ n = 4 ∨ n = 5) with e | e | e | e | e | e <;> subst e <;> decide +kernel
  refine call_list_range hh hr hs.1 hs.2 (by omega) fun h' tk acc' c' hk hS' hacc => ?_
  have hv : ∀ i (hi : i < acc'.size), ∃ t, acc'[i] = .int (2 + (i : Int) * 2) t := fun i hi => by
    exact hacc.2 i _ (Array.getElem?_eq_getElem hi)
  have hz : ∃ zs : List (Int × Tok), zs.map intV = acc'.toList ∧ zs.map Prod.fst = rowInit n := by
    have hlen : acc'.toList.length = n := by simp [hacc.1]
    have key : ∀ (k : Nat), k ≤ n → ∃ zs : List (Int × Tok), zs.map intV = acc'.toList.take k ∧ zs.map Prod.fst = rowInit k := by
      intro k
      induction k with
      | zero => intro _; exact ⟨[], by simp, rfl⟩
      | succ k ih =>
        intro hk1
        obtain ⟨zs, e1, e2⟩ := ih (by omega)
        obtain ⟨t, ht⟩ := hv k (by rw [hacc.1]; omega)
        refine ⟨zs ++ [(2 + (k : Int) * 2, t)], ?_, ?_⟩
        · rw [List.map_append, e1, List.take_add_one, List.getElem?_eq_getElem (by omega)]
          simp [ht]
        · rw [List.map_append, e2]; simp [rowInit, List.range_succ]
    obtain ⟨zs, e1, e2⟩ := key n (Nat.le_refl _)
    exact ⟨zs, by rw [e1, List.take_of_length_le (by omega)], e2⟩
  obtain ⟨zs, e1, e2⟩ := hz
  have hnew : h₀.get? s.heap.objs.size = none := next_is_new F
  refine h _ _ zs c' e2 (F.keeps hk) ?_ fun p hp e => absurd (Heap.lt_size (N p hp).1) (by rw [e]; exact Nat.lt_irrefl _)
  intro p hp
  rcases List.mem_cons.mp hp with rfl | hp
  · refine ⟨?_, ?_, hnew⟩
    · rw [hS']; simp [e1]
    · intro e; exact absurd F.ns.lt (e ▸ Nat.lt_irrefl _)
  · exact ⟨hk _ _ (N p hp).1, (N p hp).2⟩
end
def rN (bc a : Nat) (x d r : Int) : Int :=
  if (d + if bc = a then 0 else 2) < (if x < r then x else r) + 2 then d + if bc = a then 0 else 2 else (if x < r then x else r) + 2
theorem rN_def (bc a : Nat) (x d r : Int) : (if (d + if bc = a then 0 else 2) < (if x < r then x else r) + 2 then d + if bc = a then 0 else 2 else (if x < r then x else r) + 2) = rN bc a x d r := rfl
def innG (bc : Nat) : List Nat → Nat → List Int → Int → Int → Int → List Int × Int × Int
  | [], _, row, _, r, mn => (row, r, mn)
  | a :: as, j, row, d, r, mn =>
    innG bc as (j + 1) (row.set j (rN bc a (row.getD j 0) d r)) (row.getD j 0) (rN bc a (row.getD j 0) d r) (if rN bc a (row.getD j 0) d r < mn then rN bc a (row.getD j 0) d r else mn)
theorem drop_getD {l : List Nat} {j : Nat} (hj : j < l.length) : l.drop j = l.getD j 0 :: l.drop (j + 1) := by
  rw [List.drop_eq_getElem_cons hj, List.getD_eq_getElem?_getD, List.getElem?_eq_getElem hj]; rfl
theorem inn_step {bc : Nat} {as : List Nat} {j : Nat} {zs : List (Int × Tok)} {d r mn : Int} {W : List Int × Int × Int} {tR : Tok} (hj : j < as.length) (h : innG bc (as.drop j) j (zs.map Prod.fst) d r mn = W) :
    innG bc (as.drop (j + 1)) (j + 1) ((zs.set j (rN bc (as.getD j 0) ((zs.map Prod.fst).getD j 0) d r, tR)).map Prod.fst) ((zs.map Prod.fst).getD j 0) (rN bc (as.getD j 0) ((zs.map Prod.fst).getD j 0) d r)
      (if rN bc (as.getD j 0) ((zs.map Prod.fst).getD j 0) d r < mn then rN bc (as.getD j 0) ((zs.map Prod.fst).getD j 0) d r else mn) = W := by
  rw [drop_getD hj] at h
  rw [List.map_set]
  exact h
def dpG (as : List Nat) : List Nat → Nat → List Int → Int → Int
  | [], _, _, res => res
  | b :: bs, i, row, _ =>
    let x := innG b as 0 row (i * 2) (i * 2) 9223372036854775807
    if 34 < x.2.2 then 35 else dpG as bs (i + 1) x.1 x.2.1
section
variable {prog : Program} {w : World} {A : Around} {E : Value → Shared → Prop} {s : Shared} {h₀ : Heap} {L : Addr} {m : Str → Option Value} {news : List (Addr × Obj)} {l : List Nat} {t : Tok} {value slice : Expr}
theorem trT {Q : Bool → Shared → Prop} (hp : 0 < l.length) (hz : l.length ≤ 1000) (h : ∀ k, Q true { s with toks := k }) : wpAny (model prog w) A (PySem.truthy (.str (tx l) t)) Q E s :=
  KXt.truthy_pos (K := 1000) (by rw [tx_len]; omega) (by rw [tx_len]; omega) (by omega) h
theorem trF {Q : Bool → Shared → Prop} (hp : l.length = 0) (h : ∀ k, Q false { s with toks := k }) : wpAny (model prog w) A (PySem.truthy (.str (tx l) t)) Q E s :=
  KXt.truthy (by rw [tx_len, hp]; rfl) (by rw [tx_len]; omega) h
theorem trG {Q : Bool → Shared → Prop} (hz : l.length ≤ 1000) (h1 : 0 < l.length → ∀ k, Q true { s with toks := k }) (h2 : l.length = 0 → ∀ k, Q false { s with toks := k }) : wpAny (model prog w) A (PySem.truthy (.str (tx l) t)) Q E s := by
  by_cases hp : 0 < l.length
  · exact trT hp hz (h1 hp)
  · exact trF (by omega) (h2 (by omega))
theorem trI0 {a : Int} {t : Tok} {Q : Bool → Shared → Prop} (h0 : a = 0) (h : Q false s) : wpAny (model prog w) A (PySem.truthy (.int a t)) Q E s := by
  refine PySem.P.truthy_int ?_; rw [bne_eq_false_iff_eq.mpr h0]; exact h
theorem trI1 {a : Int} {t : Tok} {Q : Bool → Shared → Prop} (h0 : a ≠ 0) (h : Q true s) : wpAny (model prog w) A (PySem.truthy (.int a t)) Q E s := by
  refine PySem.P.truthy_int ?_; rw [bne_iff_ne.mpr h0]; exact h
theorem len_tx {Q : Value → Shared → Prop} (hz : l.length ≤ 1000) (h : ∀ t' k, Q (.int l.length t') { s with toks := k }) : wpAny (model prog w) A (call (.builtin "len") [.str (tx l) t]) Q E s :=
  PyProof.Rows.SBL.len (by rw [tx_len]; omega) (by rw [tx_len]; exact h _ _)
theorem sl_from0 {Q : Value → Shared → Prop} {i : Int} {ui : Tok} (hF : Fr h₀ L s.heap m) (hN : News h₀ L s.heap news) (h0 : i = 0) (hz : l.length ≤ 1000) (h : ∀ h' t' k, Fr h₀ L h' m → News h₀ L h' news → Q (.str (tx l) t') { s with heap := h', toks := k })
    (hs : subscripted slice false (.str (tx l) t) (.ref s.heap.objs.size) = operate [.ref s.heap.objs.size, .str (tx l) t] (getItem (.str (tx l) t) (.ref s.heap.objs.size)) := by with_unfolding_all rfl)
    (ht : ∀ r, letTemporaryGo value (.str (tx l) t) r = pure () := by intro _; with_unfolding_all rfl) :
    wpAny (model prog w) A (subscriptTail value slice (.str (tx l) t) (.ref s.heap.objs.size)) Q E { s with heap := s.heap.push { cls := .type "slice", data := .fields #[.int i ui, .none, .none] } } :=
  sl_from hF hN (by omega) (by omega) hz (fun h' t' k F N => by have := h h' t' k F N; subst h0; simpa using this) hs ht
end
theorem st_pre {xs ys : List Nat} {p : Int} {C : Prop} (h0 : xs.getD 0 0 ≠ ys.getD 0 0) (hp : p = 0) (h : (tx [xs.getD p.toNat 0] == tx [ys.getD p.toNat 0]) = true) : C := by
  subst hp
  rw [tx_beq] at h
  have := of_decide_eq_true h
  simp only [List.cons.injEq, and_true] at this
  exact absurd this h0
theorem st_post {xs ys : List Nat} {cf : Nat} {p : Int} (hx : xs.length = 5) (hy : ys.length = 17) (hcf : cf ≤ 5) (hc2 : cf < 5 → xs.getD (4 - cf) 0 ≠ ys.getD (16 - cf) 0) (h1 : p ≤ 0) (h2 : 0 ≤ p + (cf : Int)) (h5 : -5 < p)
    (h : (tx [xs.getD (p - 1 + (xs.length : Int)).toNat 0] == tx [ys.getD (p - 1 + (ys.length : Int)).toNat 0]) = true) : p - 1 ≤ 0 ∧ 0 ≤ p - 1 + (cf : Int) := by
  refine ⟨by omega, ?_⟩
  rw [tx_beq] at h
  have he := of_decide_eq_true h
  simp only [List.cons.injEq, and_true, hx, hy] at he
  by_cases hlt : p = -(cf : Int)
  · exfalso
    have hc := hc2 (by omega)
    have e1 : (p - 1 + ((5 : Nat) : Int)).toNat = 4 - cf := by omega
    have e2 : (p - 1 + ((17 : Nat) : Int)).toNat = 16 - cf := by omega
    rw [e1, e2] at he
    exact hc he
  · omega
theorem st_ms {xs ys : List Nat} {cf : Nat} {p : Int} (hx : xs.length = 5) (hy : ys.length = 17) (hcf : cf ≤ 5) (hc2 : cf < 5 → xs.getD (4 - cf) 0 ≠ ys.getD (16 - cf) 0) (h1 : p ≤ 0) (h2 : 0 ≤ p + (cf : Int)) (h5 : -5 < p)
    (h : (tx [xs.getD (p - 1 + (xs.length : Int)).toNat 0] == tx [ys.getD (p - 1 + (ys.length : Int)).toNat 0]) = true) : (p - 1 + (cf : Int)).toNat < (p + (cf : Int)).toNat := by
  have := st_post hx hy hcf hc2 h1 h2 h5 h
  omega
theorem ex_post {xs ys : List Nat} {cf : Nat} {p : Int} (hx : xs.length = 5) (hy : ys.length = 17) (hc1 : ∀ j, j < cf → xs.getD (4 - j) 0 = ys.getD (16 - j) 0) (h1 : p ≤ 0) (h2 : 0 ≤ p + (cf : Int)) (h5 : -5 < p)
    (h : (tx [xs.getD (p - 1 + (xs.length : Int)).toNat 0] == tx [ys.getD (p - 1 + (ys.length : Int)).toNat 0]) = false) : p = -(cf : Int) := by
  by_cases hlt : p = -(cf : Int)
  · exact hlt
  · exfalso
    rw [tx_beq] at h
    have he := of_decide_eq_false h
    simp only [List.cons.injEq, and_true, hx, hy] at he
    have hc := hc1 (-p).toNat (by omega)
    have e1 : (p - 1 + ((5 : Nat) : Int)).toNat = 4 - (-p).toNat := by omega
    have e2 : (p - 1 + ((17 : Nat) : Int)).toNat = 16 - (-p).toNat := by omega
    rw [e1, e2] at he
    exact he hc
theorem inn_end {bc : Nat} {as : List Nat} {zs : List (Int × Tok)} {d r mn : Int} {W : List Int × Int × Int} (h : innG bc (as.drop as.length) as.length (zs.map Prod.fst) d r mn = W) : W = (zs.map Prod.fst, r, mn) := by
  rw [List.drop_length] at h; exact h.symm
theorem dp_step {as bs : List Nat} {i : Nat} {row row' : List Int} {res r' mn' V : Int} (hi : i < bs.length) (hW : innG (bs.getD i 0) as 0 row (i * 2) (i * 2) 9223372036854775807 = (row', r', mn')) (hmn : mn' ≤ 34)
    (h : dpG as (bs.drop i) i row res = V) : dpG as (bs.drop (i + 1)) (i + 1) row' r' = V := by
  rw [drop_getD hi] at h
  unfold dpG at h
  simp only [hW] at h
  rw [if_neg (by omega)] at h
  exact h
theorem dp_ret {as bs : List Nat} {i : Nat} {row row' : List Int} {res r' mn' V : Int} (hi : i < bs.length) (hW : innG (bs.getD i 0) as 0 row (i * 2) (i * 2) 9223372036854775807 = (row', r', mn')) (hmn : 34 < mn')
    (h : dpG as (bs.drop i) i row res = V) : V = 35 := by
  rw [drop_getD hi] at h
  unfold dpG at h
  simp only [hW] at h
  rw [if_pos hmn] at h
  exact h.symm
theorem fr_name {g h : Heap} {L : Addr} {m : Str → Option Value} (F : Fr g L h m) : ∃ m', m' = m ∧ Fr g L h m' := ⟨m, rfl, F⟩
def MidAB (g : Heap) (L : Addr) (s : Shared) (m₀ : Str → Option Value) (news : List (Addr × Obj)) (A B : List Nat) (s' : Shared) : Prop :=
  ∃ (h' : Heap) (tk' : Nat) (t1 t2 t3 : Tok) (p : Int), s' = { s with heap := h', toks := tk' } ∧ Fr g L h' (fun y => if y = Str.ofString "a" then some (.str (tx A) t1) else if y = Str.ofString "b" then some (.str (tx B) t2) else if y = Str.ofString "post" then some (.int p t3) else m₀ y) ∧ News g L h' news
theorem cut_ab {M : Model} {A : Around} {env : Env} {Q : Flow → Shared → Prop} {E : Value → Shared → Prop} {rest ss : List Stmt} {s : Shared} {g : Heap} {L : Addr} {m₀ : Str → Option Value} {news : List (Addr × Obj)} (as bs : List Nat) (hF9 : Fr g L s.heap m₀) (hN9 : News g L s.heap news)
    (h1 : wpAny M A (execs ss env) (fun f s' => f = .next ∧ MidAB g L s m₀ news as bs s') E s)
    (h2 : ∀ (h' : Heap) (tk' : Nat) (t1 t2 t3 : Tok) (p : Int), Fr g L h' (fun y => if y = Str.ofString "a" then some (.str (tx as) t1) else if y = Str.ofString "b" then some (.str (tx bs) t2) else if y = Str.ofString "post" then some (.int p t3) else m₀ y) → News g L h' news → wpAny M A (execs rest env) Q E { s with heap := h', toks := tk' }) :
    wpAny M A (execs (ss ++ rest) env) Q E s :=
  cut_execs h1 fun s' ⟨h', tk', t1, t2, t3, p, e, F, N⟩ => by subst e; exact h2 h' tk' t1 t2 t3 p F N
theorem fr_eq {g : Heap} {L : Addr} {h : Heap} {m₁ m₂ : Str → Option Value} (F : Fr g L h m₁) (e : ∀ y, m₁ y = m₂ y) : Fr g L h m₂ := by
  have : m₁ = m₂ := funext e
  rw [← this]; exact F
def levV (as bs : List Nat) : Int := if as.length = 0 ∨ bs.length = 0 then 2 * (as.length + bs.length) else dpG as bs 0 (rowInit as.length) 0
theorem fin_mid {g : Heap} {L : Addr} {s : Shared} {m₀ m1 : Str → Option Value} {news : List (Addr × Obj)} {A B A' B' : List Nat} {h : Heap} {tk : Nat} {ta tb t : Tok} {p : Int}
    (F : Fr g L h (fun y => if y = Str.ofString "b" then some (.str (tx B') tb) else if y = Str.ofString "a" then some (.str (tx A') ta) else if y = Str.ofString "post" then some (.int p t) else m1 y)) (N : News g L h news)
    (hA : A' = A) (hB : B' = B) (hm : ∀ y, y ≠ Str.ofString "a" → y ≠ Str.ofString "b" → y ≠ Str.ofString "post" → m1 y = m₀ y) : MidAB g L s m₀ news A B { s with heap := h, toks := tk } := by
  subst hA; subst hB
  refine ⟨h, tk, ta, tb, t, p, rfl, fr_eq F fun y => ?_, N⟩
  by_cases h1 : y = Str.ofString "a"
  · subst h1; rw [if_neg (by decide +kernel), if_pos rfl, if_pos rfl]
  · by_cases h2 : y = Str.ofString "b"
    · subst h2; rw [if_pos rfl, if_neg (by decide +kernel), if_pos rfl]
    · by_cases h3 : y = Str.ofString "post"
      · rw [if_neg h2, if_neg h1, if_pos h3, if_neg h1, if_neg h2, if_pos h3]
      · rw [if_neg h2, if_neg h1, if_neg h3, if_neg h1, if_neg h2, if_neg h3]; exact hm y h1 h2 h3
theorem take_neg {l : List Nat} {cf : Nat} {p : Int} (hp : p = -(cf : Int)) (n : Nat) (hl : l.length = n) : l.take (p + (l.length : Int)).toNat = l.take (n - cf) := by
  congr 1; omega
theorem take_zero {l : List Nat} {cf : Nat} {p : Int} (hp : p = -(cf : Int)) (h0 : p = 0) (n : Nat) (hl : l.length = n) : l = l.take (n - cf) := by
  rw [List.take_of_length_le (by omega)]
theorem lows_getD {l : List Nat} (h : ∀ c ∈ l, lowS c) {i : Nat} (hi : i < l.length) : lowS (l.getD i 0) := by
  rw [List.getD_eq_getElem?_getD, List.getElem?_eq_getElem hi]
  exact h _ (List.getElem_mem hi)
section
variable {prog : Program} {w : World} {A : Around} {E : Value → Shared → Prop} {s : Shared} {h₀ : Heap} {L : Addr} {m : Str → Option Value}
theorem set_I {D : Addr} {rest : List (Addr × Obj)} {zs : List (Int × Tok)} {n : Nat} {k r : Int} {t tr : Tok} {Q : Unit → Shared → Prop} (F : Fr h₀ L s.heap m) (N : News h₀ L s.heap ((D, intsO zs n) :: rest)) (hne : ∀ p ∈ rest, p.1 ≠ D)
    (h0 : 0 ≤ k) (hfit : k < 2 ^ 63) (hk : k.toNat < zs.length) (h : ∀ h', Fr h₀ L h' m → News h₀ L h' ((D, intsO (zs.set k.toNat (r, tr)) n) :: rest) → Q () { s with heap := h' }) :
    wpAny (model prog w) A (setItem (.ref D) (.int k t) (.int r tr)) Q E s :=
  set_L F N hne h0 hfit (by simpa using hk) fun h' F' N' => h h' F' (by
    have e : (zs.map intV).toArray.setIfInBounds k.toNat (.int r tr) = ((zs.set k.toNat (r, tr)).map intV).toArray := by
      rw [List.setIfInBounds_toArray, List.map_set]
    rw [e] at N'; exact N')
theorem item_I {value slice : Expr} {D : Addr} {zs : List (Int × Tok)} {n : Nat} {news : List (Addr × Obj)} {k : Int} {u : Tok} {Q : Value → Shared → Prop} (N : News h₀ L s.heap news) (hm : (D, intsO zs n) ∈ news)
    (h0 : 0 ≤ k) (hfit : k < 2 ^ 63) (hx : k.toNat < zs.length) (h : ∀ t, Q (.int ((zs.map Prod.fst).getD k.toNat 0) t) s)
    (hs : subscripted slice false (.ref D) (.int k u) = operate [.ref D, .int k u] (getItem (.ref D) (.int k u)) := by with_unfolding_all rfl) (hg : ∀ r, letTemporaryGo value (.ref D) r = pure () := by intro _; with_unfolding_all rfl) :
    wpAny (model prog w) A (subscriptTail value slice (.ref D) (.int k u)) Q E s :=
  item_L N hm h0 hfit (intsO_get hx) (by
    have := h (zs[k.toNat]).2
    rw [List.getD_eq_getElem?_getD, List.getElem?_map, List.getElem?_eq_getElem hx] at this
    exact this) hs hg
end
theorem hd_name {g h : Heap} {L : Addr} {a : Addr} {o : Obj} {rest : List (Addr × Obj)} (hN9 : News g L h ((a, o) :: rest)) : ∃ D, D = a := ⟨_, rfl⟩
structure S1 where
  zs : List (Int × Tok)
  res : Int
  tr : Tok
structure S2 where
  zs : List (Int × Tok)
  d : Int
  r : Int
  mn : Int
  td : Tok
  tr : Tok
  tm : Tok
end Mine
end
section
set_option maxRecDepth 100000
set_option maxHeartbeats 20000000
namespace Mine
def two (n : Nat) : Str := tx [48 + n / 10, 48 + n % 10]
def hrs (n : Nat) : Str := if n < 10 then tx [48 + n] else two n
theorem slice_two : ∀ n : Fin 100, Txt.slice (Str.ofString (toString (100 + ((n.val : Nat) : Int)))) (some 1) none = two n.val := by decide +kernel
theorem str_hrs : ∀ n : Fin 100, Str.ofString (toString ((n.val : Nat) : Int)) = hrs n.val := by decide +kernel
theorem len_100 : ∀ n : Fin 100, (Str.ofString (toString (100 + ((n.val : Nat) : Int)))).length = 3 := by decide +kernel
section
variable {prog : Program} {w : World} {A : Around} {E : Value → Shared → Prop} {s : Shared} {h₀ : Heap} {L : Addr} {m : Str → Option Value} {news : List (Addr × Obj)} {t : Tok} {value slice : Expr} {Q : Value → Shared → Prop}
theorem sl_two {n : Int} {ui : Tok} (hF : Fr h₀ L s.heap m) (hN : News h₀ L s.heap news) (h0 : 0 ≤ n) (h1 : n < 100) (h : ∀ h' t' k, Fr h₀ L h' m → News h₀ L h' news → Q (.str (two n.toNat) t') { s with heap := h', toks := k })
    (hs : subscripted slice false (.str (Str.ofString (toString (100 + n))) t) (.ref s.heap.objs.size) = operate [.ref s.heap.objs.size, .str (Str.ofString (toString (100 + n))) t] (getItem (.str (Str.ofString (toString (100 + n))) t) (.ref s.heap.objs.size)) := by with_unfolding_all rfl)
    (ht : ∀ r, letTemporaryGo value (.str (Str.ofString (toString (100 + n))) t) r = pure () := by intro _; with_unfolding_all rfl) :
    wpAny (model prog w) A (subscriptTail value slice (.str (Str.ofString (toString (100 + n))) t) (.ref s.heap.objs.size)) Q E { s with heap := s.heap.push { cls := .type "slice", data := .fields #[.int 1 ui, .none, .none] } } := by
  have e : ((n.toNat : Nat) : Int) = n := by omega
  have h2 := slice_two ⟨n.toNat, by omega⟩
  have h3 := len_100 ⟨n.toNat, by omega⟩
  simp only [e] at h2 h3
  exact slice_strN_sn hF hN (fun h' t' k F N => by rw [h2]; exact h h' t' k F N) hs ht (by rw [h3, PySem.sizeLine_eq]; omega)
end
def zoneF (mi : Int) (d : Int) : Str :=
  if mi = 0 then (if d = 0 then Str.ofString "Z" else if d = 1 then Str.ofString "UTC" else if d = 2 then Str.ofString "+00" else Str.ofString "-0:00")
  else
    (if mi < 0 then Str.ofString "-" else if d.fmod 2 = 0 then Str.ofString "" else Str.ofString "+") ++
    (if d < 2 then hrs (mi.natAbs / 60) ++ Str.ofString ":" else two (mi.natAbs / 60)) ++ two (mi.natAbs % 60)
theorem ends_div {mi : Int} (hm : -720 ≤ mi ∧ mi ≤ 1440) : (if mi < 0 then -mi else mi).fdiv 60 = ((mi.natAbs / 60 : Nat) : Int) ∧ (if mi < 0 then -mi else mi).fmod 60 = ((mi.natAbs % 60 : Nat) : Int) := by
  rw [Int.fdiv_eq_ediv_of_nonneg _ (by decide), Int.fmod_eq_emod_of_nonneg _ (by decide)]
  split <;> omega
theorem sl_rest {mi : Int} (hm : -720 ≤ mi ∧ mi ≤ 1440) : Txt.slice (Str.ofString (toString (100 + (if mi < 0 then -mi else mi).fmod 60))) (some 1) none = two (mi.natAbs % 60) := by
  rw [(ends_div hm).2]; exact slice_two ⟨mi.natAbs % 60, by omega⟩
theorem sl_hours {mi : Int} (hm : -720 ≤ mi ∧ mi ≤ 1440) : Txt.slice (Str.ofString (toString (100 + (if mi < 0 then -mi else mi).fdiv 60))) (some 1) none = two (mi.natAbs / 60) := by
  rw [(ends_div hm).1]; exact slice_two ⟨mi.natAbs / 60, by omega⟩
theorem str_hours {mi : Int} (hm : -720 ≤ mi ∧ mi ≤ 1440) : Str.ofString (toString ((if mi < 0 then -mi else mi).fdiv 60)) = hrs (mi.natAbs / 60) := by
  rw [(ends_div hm).1]; exact str_hrs ⟨mi.natAbs / 60, by omega⟩
end Mine
end
section
set_option maxRecDepth 100000
set_option maxHeartbeats 2000000
namespace Mine
def cellN (b a x d r : Nat) : Nat := (x - (x - r) + 2) - ((x - (x - r) + 2) - (d + cond (Nat.beq b a) 0 2))
def rowF (b : Nat) : List Nat → List Nat → Nat → Nat → List Nat
  | a :: as, x :: xs, d, r => cellN b a x d r :: rowF b as xs x (cellN b a x d r)
  | _, _, _, _ => []
def dpN (as : List Nat) : List Nat → Nat → List Nat → List Nat
  | [], _, row => row
  | b :: bs, i, row => dpN as bs (i + 2) (rowF b as row i i)
def levN (as bs : List Nat) : Nat := (dpN as bs 0 ((List.range as.length).map fun i => 2 + i * 2)).getLastD 0
abbrev up (l : List Nat) : List Int := l.map Int.ofNat
theorem mn1 (x y : Nat) : (if (x : Int) < (y : Int) then (x : Int) else (y : Int)) = ((x - (x - y) : Nat) : Int) := by
  split <;> omega
theorem mn2 (x y : Nat) : (if (x : Int) < (y : Int) then (x : Int) else (y : Int)) = ((y - (y - x) : Nat) : Int) := by
  split <;> omega
theorem cell_eq (b a x d r : Nat) : rN b a (x : Int) (d : Int) (r : Int) = ((cellN b a x d r : Nat) : Int) := by
  unfold rN cellN
  rw [mn1 x r]
  by_cases h : b = a
  · subst h
    simp only [if_true, Nat.beq_refl, cond_true]
    exact mn2 (d + 0) (x - (x - r) + 2)
  · have hb : Nat.beq b a = false := by
      cases h' : Nat.beq b a with
      | false => rfl
      | true => exact absurd (Nat.eq_of_beq_eq_true h') h
    simp only [if_neg h, hb, cond_false]
    exact mn2 (d + 2) (x - (x - r) + 2)
theorem rowF_cons (b a x d r : Nat) (as xs : List Nat) : rowF b (a :: as) (x :: xs) d r = cellN b a x d r :: rowF b as xs x (cellN b a x d r) := rfl
theorem rowF_len (b : Nat) : ∀ (as xs : List Nat) (d r : Nat), xs.length = as.length → (rowF b as xs d r).length = as.length
  | [], [], _, _, _ => rfl
  | a :: as, x :: xs, d, r, h => by
    unfold rowF
    rw [List.length_cons, List.length_cons, rowF_len b as xs _ _ (by simpa using h)]
theorem inn_eq (b : Nat) : ∀ (as xs : List Nat) (j : Nat) (row : List Int) (d r : Nat) (mn : Int), xs.length = as.length → row.drop j = up xs → j ≤ row.length →
    ∃ mn', innG b as j row (d : Int) (r : Int) mn = (row.take j ++ up (rowF b as xs d r), (((rowF b as xs d r).getLastD r : Nat) : Int), mn') ∧ mn' ≤ mn ∧ (as ≠ [] → mn' ≤ d + 2)
  | [], [], j, row, d, r, mn, _, hd, hj => by
    refine ⟨mn, ?_, Int.le_refl _, fun h => absurd rfl h⟩
    unfold innG rowF
    have : row.take j = row := List.take_of_length_le (List.drop_eq_nil_iff.mp hd)
    rw [this]; simp [up]
  | a :: as, x :: xs, j, row, d, r, mn, hl, hd, hj => by
    have hjl : j < row.length := by
      have := congrArg List.length hd
      simp [up] at this; omega
    have hx : row.getD j 0 = (x : Int) := by
      rw [List.drop_eq_getElem_cons hjl] at hd
      simp only [up, List.map_cons, List.cons.injEq] at hd
      rw [List.getD_eq_getElem?_getD, List.getElem?_eq_getElem hjl]
      exact hd.1
    have hd2 : (row.set j ((cellN b a x d r : Nat) : Int)).drop (j + 1) = up xs := by
      rw [List.drop_set_of_lt (by omega)]
      have := congrArg List.tail hd
      rw [List.tail_drop] at this
      simpa [up] using this
    have hcell : cellN b a x d r ≤ d + 2 := by unfold cellN; cases Nat.beq b a <;> simp only [cond_true, cond_false] <;> omega
    unfold innG
    rw [hx, cell_eq]
    obtain ⟨mn', e, h1, -⟩ := inn_eq b as xs (j + 1) (row.set j ((cellN b a x d r : Nat) : Int)) x (cellN b a x d r) (if ((cellN b a x d r : Nat) : Int) < mn then ((cellN b a x d r : Nat) : Int) else mn) (by simpa using hl) hd2 (by rw [List.length_set]; omega)
    refine ⟨mn', ?_, ?_, fun _ => ?_⟩
    · rw [e]
      rw [rowF_cons]
      congr 1
      · rw [List.take_succ_eq_append_getElem (by rw [List.length_set]; omega), List.take_set_of_le (by omega)]
        simp [up]
      · congr 1
        rw [List.getLastD_cons]
    · split at h1 <;> omega
    · split at h1 <;> omega
theorem dp_eq {as : List Nat} (ha : as ≠ []) : ∀ (bs : List Nat) (i : Nat) (rowN : List Nat) (res : Int), rowN.length = as.length → i + bs.length ≤ 17 → (bs = [] → res = ((rowN.getLastD 0 : Nat) : Int)) →
    dpG as bs i (up rowN) res = (((dpN as bs (i * 2) rowN).getLastD 0 : Nat) : Int)
  | [], i, rowN, res, _, _, hr => by unfold dpG dpN; exact hr rfl
  | b :: bs, i, rowN, res, hl, hi, _ => by
    unfold dpG dpN
    have hi2 : ((i : Int) * 2) = ((i * 2 : Nat) : Int) := by omega
    rw [hi2]
    obtain ⟨mn', e, -, h2⟩ := inn_eq b as rowN 0 (up rowN) (i * 2) (i * 2) 9223372036854775807 hl (List.drop_zero ..) (Nat.zero_le _)
    rw [e]
    simp only [List.take_zero, List.nil_append]
    have h2 := h2 ha
    rw [List.length_cons] at hi
    rw [if_neg (by omega)]
    have hne : rowF b as rowN (i * 2) (i * 2) ≠ [] := by
      intro h0
      have := rowF_len b as rowN (i * 2) (i * 2) hl
      rw [h0] at this
      exact ha (List.length_eq_zero_iff.mp this.symm)
    rw [show i * 2 + 2 = (i + 1) * 2 by omega]
    refine dp_eq ha bs (i + 1) _ _ (rowF_len _ _ _ _ _ hl) (by omega) fun _ => ?_
    congr 1
    rw [List.getLastD_eq_getLast?, List.getLastD_eq_getLast?, List.getLast?_eq_some_getLast hne]; rfl
theorem lev_eq {as bs : List Nat} (ha : as ≠ []) (hb : bs ≠ []) (hl : bs.length ≤ 17) : levV as bs = ((levN as bs : Nat) : Int) := by
  unfold levV levN
  have h1 : as.length ≠ 0 := fun h => ha (List.length_eq_zero_iff.mp h)
  have h2 : bs.length ≠ 0 := fun h => hb (List.length_eq_zero_iff.mp h)
  rw [if_neg (by omega)]
  have e : rowInit as.length = up ((List.range as.length).map fun i => 2 + i * 2) := by
    unfold rowInit up
    rw [List.map_map]
    refine List.map_congr_left fun i _ => ?_
    show (2 + (i : Int) * 2) = ((2 + i * 2 : Nat) : Int)
    omega
  rw [e]
  exact dp_eq ha bs 0 _ _ (by simp) (by omega) fun h => absurd h hb
noncomputable def rowR (b : Nat) (as : List Nat) : List Nat → Nat → Nat → List Nat :=
  @List.rec Nat (fun _ => List Nat → Nat → Nat → List Nat) (fun _ _ _ => []) (fun a _ ih xs d r => @List.rec Nat (fun _ => List Nat) [] (fun x xs _ => (fun c => c :: ih xs x c) (cellN b a x d r)) xs) as
noncomputable def dpR (as : List Nat) (bs : List Nat) : Nat → List Nat → List Nat :=
  @List.rec Nat (fun _ => Nat → List Nat → List Nat) (fun _ row => row) (fun b _ ih i row => ih (i + 2) (rowR b as row i i)) bs
theorem rowR_eq (b : Nat) : ∀ (as xs : List Nat) (d r : Nat), rowR b as xs d r = rowF b as xs d r
  | [], _, _, _ => by unfold rowF; rfl
  | a :: as, [], _, _ => by unfold rowF; rfl
  | a :: as, x :: xs, d, r => by rw [rowF_cons, ← rowR_eq b as]; rfl
theorem dpR_eq (as : List Nat) : ∀ (bs : List Nat) (i : Nat) (row : List Nat), dpR as bs i row = dpN as bs i row
  | [], _, _ => rfl
  | b :: bs, i, row => by unfold dpN; rw [← dpR_eq as bs, ← rowR_eq]; rfl
noncomputable def levR (as bs : List Nat) : Nat := (dpR as bs 0 ((List.range as.length).map fun i => 2 + i * 2)).getLastD 0
theorem levR_eq (as bs : List Nat) : levR as bs = levN as bs := by unfold levR levN; rw [dpR_eq]
def risL : List Nat := [46, 46, 46, 46, 46, 97, 98, 98, 98, 98, 98, 99, 100, 100, 100, 100, 100]
def falL : List Nat := [46, 46, 46, 46, 46, 100, 99, 99, 99, 99, 99, 98, 97, 97, 97, 97, 97]
def wn (n : Nat) : List Nat := [97 + n % 4, 97 + n / 4 % 4, 97 + n / 16 % 4, 97 + n / 64 % 4, 97 + n / 256 % 4]
end Mine
end
section
set_option maxRecDepth 100000
set_option maxHeartbeats 2000000
namespace Mine
open PySem.Sre
def spanI (mf : M) : List Int := (List.range 3).flatMap fun g =>
    match if ((2 * g + 1 : Nat) : Int) ≤ mf.lastmark then (mf.marks.getD (2 * g) none, mf.marks.getD (2 * g + 1) none) else (none, none) with
    | (some b, some e) => [(b : Int), (e : Int)]
    | _ => [-1, -1]
theorem spanV_eq (mf : M) : spanV mf = (spanI mf).map rawInt := by
  unfold spanV spanI
  rw [List.map_flatMap]
  congr 1
  funext g
  split <;> simp_all
def shapeB (sh : Array Nat) (sp : List Int) (li : Int) : Bool :=
  let mf := M.runFor 400 (forSearch reCode sh 3 0 sh.size false)
  (match mf.outcome with | some .matched => true | _ => false) && (!wrongV mf && (decide ((mf.start : Int) :: (mf.handed : Int) :: spanI mf = sp) && decide (mf.lastindex = li)))
theorem search_of {tz : Str} {sp : List Int} {li : Int} (hsz : tz.cps.size ≤ 1000) (h : shapeB (tz.cps.map ph) sp li = true) : SearchOk tz sp li := by
  obtain ⟨e, c⟩ := forSearch_ab tz.cps
  obtain ⟨e2, -⟩ := runFor_ab 400 c
  unfold shapeB at h
  rw [e, e2] at h
  simp only [Bool.and_eq_true, decide_eq_true_eq, Bool.not_eq_true'] at h
  obtain ⟨h1, h2, h3, h4⟩ := h
  refine ⟨99, _, by decide, rfl, ?_, h2, ?_, h4, hsz⟩
  · revert h1
    show (match (M.runFor 400 (forSearch reCode tz.cps 3 0 tz.cps.size false)).outcome with | some .matched => true | _ => false) = true → (M.runFor 400 (forSearch reCode tz.cps 3 0 tz.cps.size false)).outcome = some .matched
    split
    · rename_i e; intro _; exact e
    · intro h; cases h
  · rw [spanV_eq, ← h3]; rfl
theorem n1_of {tz : Str} (h : 4 ≤ tz.cps.size) : (decide (tz = { cps := #[71, 77, 84] }) || (decide (tz = { cps := #[85, 84, 67] }) || (decide (tz = { cps := #[85, 84] }) || (decide (tz = { cps := #[90] }) || false)))) = false := by
  simp only [Bool.or_false, Bool.or_eq_false_iff, decide_eq_false_iff_not]
  refine ⟨?_, ?_, ?_, ?_⟩ <;> (rintro rfl; revert h; decide)
theorem int_two : ∀ n : _root_.Fin 100, PySem.intText? (two n.val) = some (n.val : Int) := by decide +kernel
theorem int_one : ∀ n : _root_.Fin 10, PySem.intText? (tx [48 + n.val]) = some (n.val : Int) := by decide +kernel
theorem ph_dig {c : Nat} (h : c < 10) : ph (48 + c) = 48 := by unfold ph; rw [if_pos (by omega)]
section
variable {w : World} {mean : ExcName → Option Value} {mg mb : Str → Option Value}
theorem sh_offa : shapeB #[48, 58, 48, 48] [0, 4, -1, -1, 0, 1, 2, 4] 3 = true := by decide +kernel
theorem offa {a r : Nat} (ha : a < 10) (hr : r < 100) : Off w mean mg mb (tx [48 + a, 58, 48 + r / 10, 48 + r % 10]) (3600 * (a : Int) + 60 * (r : Int)) := by
  intro t
  have hm : (tx [48 + a, 58, 48 + r / 10, 48 + r % 10]).cps.map ph = #[48, 58, 48, 48] := by
    simp only [tx, List.map_toArray, List.map_cons, List.map_nil, ph_dig ha, ph_dig (show r / 10 < 10 by omega), ph_dig (show r % 10 < 10 by omega), show ph 58 = 58 from rfl]
  have h := off_ctr (w := w) (mean := mean) (mg := mg) (mb := mb) (tx [48 + a, 58, 48 + r / 10, 48 + r % 10]) t [0, 4, -1, -1, 0, 1, 2, 4] 3 (tx [48 + a]) (none) (some (two r)) (a : Int) (r : Int)
    (search_of (by show 4 ≤ 1000; decide) (by rw [hm]; exact sh_offa)) rfl (by show 4 ≤ 1000; decide) rfl rfl rfl (int_one ⟨a, ha⟩) (by show 1 ≤ 640; decide) (by omega)
    (fun x e => by cases e; exact ⟨int_two ⟨r, hr⟩, by show 2 ≤ 640; decide, by show 0 < 2; decide⟩) (by omega) (n1_of (by show 4 ≤ 4; decide))
  exact h
theorem sh_offb : shapeB #[48, 48, 58, 48, 48] [0, 5, -1, -1, 0, 2, 3, 5] 3 = true := by decide +kernel
theorem offb {a r : Nat} (ha : a < 100) (hr : r < 100) : Off w mean mg mb (tx [48 + a / 10, 48 + a % 10, 58, 48 + r / 10, 48 + r % 10]) (3600 * (a : Int) + 60 * (r : Int)) := by
  intro t
  have hm : (tx [48 + a / 10, 48 + a % 10, 58, 48 + r / 10, 48 + r % 10]).cps.map ph = #[48, 48, 58, 48, 48] := by
    simp only [tx, List.map_toArray, List.map_cons, List.map_nil, ph_dig (show a / 10 < 10 by omega), ph_dig (show a % 10 < 10 by omega), ph_dig (show r / 10 < 10 by omega), ph_dig (show r % 10 < 10 by omega), show ph 58 = 58 from rfl]
  have h := off_ctr (w := w) (mean := mean) (mg := mg) (mb := mb) (tx [48 + a / 10, 48 + a % 10, 58, 48 + r / 10, 48 + r % 10]) t [0, 5, -1, -1, 0, 2, 3, 5] 3 (two a) (none) (some (two r)) (a : Int) (r : Int)
    (search_of (by show 5 ≤ 1000; decide) (by rw [hm]; exact sh_offb)) rfl (by show 5 ≤ 1000; decide) rfl rfl rfl (int_two ⟨a, ha⟩) (by show 2 ≤ 640; decide) (by omega)
    (fun x e => by cases e; exact ⟨int_two ⟨r, hr⟩, by show 2 ≤ 640; decide, by show 0 < 2; decide⟩) (by omega) (n1_of (by show 4 ≤ 5; decide))
  exact h
theorem sh_offc : shapeB #[48, 48, 48, 48] [0, 4, -1, -1, 0, 2, 2, 4] 3 = true := by decide +kernel
theorem offc {a r : Nat} (ha : a < 100) (hr : r < 100) : Off w mean mg mb (tx [48 + a / 10, 48 + a % 10, 48 + r / 10, 48 + r % 10]) (3600 * (a : Int) + 60 * (r : Int)) := by
  intro t
  have hm : (tx [48 + a / 10, 48 + a % 10, 48 + r / 10, 48 + r % 10]).cps.map ph = #[48, 48, 48, 48] := by
    simp only [tx, List.map_toArray, List.map_cons, List.map_nil, ph_dig (show a / 10 < 10 by omega), ph_dig (show a % 10 < 10 by omega), ph_dig (show r / 10 < 10 by omega), ph_dig (show r % 10 < 10 by omega)]
  have h := off_ctr (w := w) (mean := mean) (mg := mg) (mb := mb) (tx [48 + a / 10, 48 + a % 10, 48 + r / 10, 48 + r % 10]) t [0, 4, -1, -1, 0, 2, 2, 4] 3 (two a) (none) (some (two r)) (a : Int) (r : Int)
    (search_of (by show 4 ≤ 1000; decide) (by rw [hm]; exact sh_offc)) rfl (by show 4 ≤ 1000; decide) rfl rfl rfl (int_two ⟨a, ha⟩) (by show 2 ≤ 640; decide) (by omega)
    (fun x e => by cases e; exact ⟨int_two ⟨r, hr⟩, by show 2 ≤ 640; decide, by show 0 < 2; decide⟩) (by omega) (n1_of (by show 4 ≤ 4; decide))
  exact h
theorem sh_offpa : shapeB #[43, 48, 58, 48, 48] [0, 5, 0, 1, 1, 2, 3, 5] 3 = true := by decide +kernel
theorem offpa {a r : Nat} (ha : a < 10) (hr : r < 100) : Off w mean mg mb (tx [43, 48 + a, 58, 48 + r / 10, 48 + r % 10]) (3600 * (a : Int) + 60 * (r : Int)) := by
  intro t
  have hm : (tx [43, 48 + a, 58, 48 + r / 10, 48 + r % 10]).cps.map ph = #[43, 48, 58, 48, 48] := by
    simp only [tx, List.map_toArray, List.map_cons, List.map_nil, ph_dig ha, ph_dig (show r / 10 < 10 by omega), ph_dig (show r % 10 < 10 by omega), show ph 58 = 58 from rfl, show ph 43 = 43 from rfl]
  have h := off_ctr (w := w) (mean := mean) (mg := mg) (mb := mb) (tx [43, 48 + a, 58, 48 + r / 10, 48 + r % 10]) t [0, 5, 0, 1, 1, 2, 3, 5] 3 (tx [48 + a]) (some (tx [43])) (some (two r)) (a : Int) (r : Int)
    (search_of (by show 5 ≤ 1000; decide) (by rw [hm]; exact sh_offpa)) rfl (by show 5 ≤ 1000; decide) rfl rfl rfl (int_one ⟨a, ha⟩) (by show 1 ≤ 640; decide) (by omega)
    (fun x e => by cases e; exact ⟨int_two ⟨r, hr⟩, by show 2 ≤ 640; decide, by show 0 < 2; decide⟩) (by omega) (n1_of (by show 4 ≤ 5; decide))
  exact h
theorem sh_offpb : shapeB #[43, 48, 48, 58, 48, 48] [0, 6, 0, 1, 1, 3, 4, 6] 3 = true := by decide +kernel
theorem offpb {a r : Nat} (ha : a < 100) (hr : r < 100) : Off w mean mg mb (tx [43, 48 + a / 10, 48 + a % 10, 58, 48 + r / 10, 48 + r % 10]) (3600 * (a : Int) + 60 * (r : Int)) := by
  intro t
  have hm : (tx [43, 48 + a / 10, 48 + a % 10, 58, 48 + r / 10, 48 + r % 10]).cps.map ph = #[43, 48, 48, 58, 48, 48] := by
    simp only [tx, List.map_toArray, List.map_cons, List.map_nil, ph_dig (show a / 10 < 10 by omega), ph_dig (show a % 10 < 10 by omega), ph_dig (show r / 10 < 10 by omega), ph_dig (show r % 10 < 10 by omega), show ph 58 = 58 from rfl, show ph 43 = 43 from rfl]
  have h := off_ctr (w := w) (mean := mean) (mg := mg) (mb := mb) (tx [43, 48 + a / 10, 48 + a % 10, 58, 48 + r / 10, 48 + r % 10]) t [0, 6, 0, 1, 1, 3, 4, 6] 3 (two a) (some (tx [43])) (some (two r)) (a : Int) (r : Int)
    (search_of (by show 6 ≤ 1000; decide) (by rw [hm]; exact sh_offpb)) rfl (by show 6 ≤ 1000; decide) rfl rfl rfl (int_two ⟨a, ha⟩) (by show 2 ≤ 640; decide) (by omega)
    (fun x e => by cases e; exact ⟨int_two ⟨r, hr⟩, by show 2 ≤ 640; decide, by show 0 < 2; decide⟩) (by omega) (n1_of (by show 4 ≤ 6; decide))
  exact h
theorem sh_offpc : shapeB #[43, 48, 48, 48, 48] [0, 5, 0, 1, 1, 3, 3, 5] 3 = true := by decide +kernel
theorem offpc {a r : Nat} (ha : a < 100) (hr : r < 100) : Off w mean mg mb (tx [43, 48 + a / 10, 48 + a % 10, 48 + r / 10, 48 + r % 10]) (3600 * (a : Int) + 60 * (r : Int)) := by
  intro t
  have hm : (tx [43, 48 + a / 10, 48 + a % 10, 48 + r / 10, 48 + r % 10]).cps.map ph = #[43, 48, 48, 48, 48] := by
    simp only [tx, List.map_toArray, List.map_cons, List.map_nil, ph_dig (show a / 10 < 10 by omega), ph_dig (show a % 10 < 10 by omega), ph_dig (show r / 10 < 10 by omega), ph_dig (show r % 10 < 10 by omega), show ph 43 = 43 from rfl]
  have h := off_ctr (w := w) (mean := mean) (mg := mg) (mb := mb) (tx [43, 48 + a / 10, 48 + a % 10, 48 + r / 10, 48 + r % 10]) t [0, 5, 0, 1, 1, 3, 3, 5] 3 (two a) (some (tx [43])) (some (two r)) (a : Int) (r : Int)
    (search_of (by show 5 ≤ 1000; decide) (by rw [hm]; exact sh_offpc)) rfl (by show 5 ≤ 1000; decide) rfl rfl rfl (int_two ⟨a, ha⟩) (by show 2 ≤ 640; decide) (by omega)
    (fun x e => by cases e; exact ⟨int_two ⟨r, hr⟩, by show 2 ≤ 640; decide, by show 0 < 2; decide⟩) (by omega) (n1_of (by show 4 ≤ 5; decide))
  exact h
theorem sh_offma : shapeB #[45, 48, 58, 48, 48] [0, 5, 0, 1, 1, 2, 3, 5] 3 = true := by decide +kernel
theorem offma {a r : Nat} (ha : a < 10) (hr : r < 100) : Off w mean mg mb (tx [45, 48 + a, 58, 48 + r / 10, 48 + r % 10]) (-(3600 * (a : Int) + 60 * (r : Int))) := by
  intro t
  have hm : (tx [45, 48 + a, 58, 48 + r / 10, 48 + r % 10]).cps.map ph = #[45, 48, 58, 48, 48] := by
    simp only [tx, List.map_toArray, List.map_cons, List.map_nil, ph_dig ha, ph_dig (show r / 10 < 10 by omega), ph_dig (show r % 10 < 10 by omega), show ph 58 = 58 from rfl, show ph 45 = 45 from rfl]
  have h := off_ctr (w := w) (mean := mean) (mg := mg) (mb := mb) (tx [45, 48 + a, 58, 48 + r / 10, 48 + r % 10]) t [0, 5, 0, 1, 1, 2, 3, 5] 3 (tx [48 + a]) (some (tx [45])) (some (two r)) (a : Int) (r : Int)
    (search_of (by show 5 ≤ 1000; decide) (by rw [hm]; exact sh_offma)) rfl (by show 5 ≤ 1000; decide) rfl rfl rfl (int_one ⟨a, ha⟩) (by show 1 ≤ 640; decide) (by omega)
    (fun x e => by cases e; exact ⟨int_two ⟨r, hr⟩, by show 2 ≤ 640; decide, by show 0 < 2; decide⟩) (by omega) (n1_of (by show 4 ≤ 5; decide))
  exact h
theorem sh_offmb : shapeB #[45, 48, 48, 58, 48, 48] [0, 6, 0, 1, 1, 3, 4, 6] 3 = true := by decide +kernel
theorem offmb {a r : Nat} (ha : a < 100) (hr : r < 100) : Off w mean mg mb (tx [45, 48 + a / 10, 48 + a % 10, 58, 48 + r / 10, 48 + r % 10]) (-(3600 * (a : Int) + 60 * (r : Int))) := by
  intro t
  have hm : (tx [45, 48 + a / 10, 48 + a % 10, 58, 48 + r / 10, 48 + r % 10]).cps.map ph = #[45, 48, 48, 58, 48, 48] := by
    simp only [tx, List.map_toArray, List.map_cons, List.map_nil, ph_dig (show a / 10 < 10 by omega), ph_dig (show a % 10 < 10 by omega), ph_dig (show r / 10 < 10 by omega), ph_dig (show r % 10 < 10 by omega), show ph 58 = 58 from rfl, show ph 45 = 45 from rfl]
  have h := off_ctr (w := w) (mean := mean) (mg := mg) (mb := mb) (tx [45, 48 + a / 10, 48 + a % 10, 58, 48 + r / 10, 48 + r % 10]) t [0, 6, 0, 1, 1, 3, 4, 6] 3 (two a) (some (tx [45])) (some (two r)) (a : Int) (r : Int)
    (search_of (by show 6 ≤ 1000; decide) (by rw [hm]; exact sh_offmb)) rfl (by show 6 ≤ 1000; decide) rfl rfl rfl (int_two ⟨a, ha⟩) (by show 2 ≤ 640; decide) (by omega)
    (fun x e => by cases e; exact ⟨int_two ⟨r, hr⟩, by show 2 ≤ 640; decide, by show 0 < 2; decide⟩) (by omega) (n1_of (by show 4 ≤ 6; decide))
  exact h
theorem sh_offmc : shapeB #[45, 48, 48, 48, 48] [0, 5, 0, 1, 1, 3, 3, 5] 3 = true := by decide +kernel
theorem offmc {a r : Nat} (ha : a < 100) (hr : r < 100) : Off w mean mg mb (tx [45, 48 + a / 10, 48 + a % 10, 48 + r / 10, 48 + r % 10]) (-(3600 * (a : Int) + 60 * (r : Int))) := by
  intro t
  have hm : (tx [45, 48 + a / 10, 48 + a % 10, 48 + r / 10, 48 + r % 10]).cps.map ph = #[45, 48, 48, 48, 48] := by
    simp only [tx, List.map_toArray, List.map_cons, List.map_nil, ph_dig (show a / 10 < 10 by omega), ph_dig (show a % 10 < 10 by omega), ph_dig (show r / 10 < 10 by omega), ph_dig (show r % 10 < 10 by omega), show ph 45 = 45 from rfl]
  have h := off_ctr (w := w) (mean := mean) (mg := mg) (mb := mb) (tx [45, 48 + a / 10, 48 + a % 10, 48 + r / 10, 48 + r % 10]) t [0, 5, 0, 1, 1, 3, 3, 5] 3 (two a) (some (tx [45])) (some (two r)) (a : Int) (r : Int)
    (search_of (by show 5 ≤ 1000; decide) (by rw [hm]; exact sh_offmc)) rfl (by show 5 ≤ 1000; decide) rfl rfl rfl (int_two ⟨a, ha⟩) (by show 2 ≤ 640; decide) (by omega)
    (fun x e => by cases e; exact ⟨int_two ⟨r, hr⟩, by show 2 ≤ 640; decide, by show 0 < 2; decide⟩) (by omega) (n1_of (by show 4 ≤ 5; decide))
  exact h
theorem sh_plus : shapeB #[43, 48, 48] [0, 3, 0, 1, 1, 3, -1, -1] 2 = true := by decide +kernel
theorem off_plus : Off w mean mg mb (tx [43, 48, 48]) 0 := by
  intro t
  have hm : (tx [43, 48, 48]).cps.map ph = #[43, 48, 48] := by decide +kernel
  exact off_ctr (w := w) (mean := mean) (mg := mg) (mb := mb) (tx [43, 48, 48]) t [0, 3, 0, 1, 1, 3, -1, -1] 2 (two 0) (some (tx [43])) none 0 0
    (search_of (by show 3 ≤ 1000; decide) (by rw [hm]; exact sh_plus)) rfl (by show 3 ≤ 1000; decide) rfl rfl rfl (int_two ⟨0, by decide⟩) (by show 2 ≤ 640; decide) (by decide)
    (fun x e => by cases e) (by decide) (by decide +kernel)
theorem off_Z : Off w mean mg mb (tx [90]) 0 := fun t => off_utc (tx [90]) t (by decide +kernel)
theorem off_U : Off w mean mg mb (tx [85, 84, 67]) 0 := fun t => off_utc (tx [85, 84, 67]) t (by decide +kernel)
theorem tx_app (a b : List Nat) : tx a ++ tx b = tx (a ++ b) := by
  show Str.mk (a.toArray ++ b.toArray) = _
  simp [tx]
theorem zone_off {mi d : Int} (hm : -720 ≤ mi ∧ mi ≤ 1440) (hd0 : 0 ≤ d ∧ d < 4) : Off w mean mg mb (zoneF mi d) (60 * mi) := by
  unfold zoneF
  have k1 : Str.ofString "-" = tx [45] := by decide +kernel
  have k2 : Str.ofString "+" = tx [43] := by decide +kernel
  have k3 : Str.ofString "" = tx [] := by decide +kernel
  have k4 : Str.ofString ":" = tx [58] := by decide +kernel
  have k5 : Str.ofString "-0:00" = tx [45, 48 + 0, 58, 48 + 0 / 10, 48 + 0 % 10] := by decide +kernel
  have k6 : Str.ofString "Z" = tx [90] := by decide +kernel
  have k7 : Str.ofString "UTC" = tx [85, 84, 67] := by decide +kernel
  have k8 : Str.ofString "+00" = tx [43, 48, 48] := by decide +kernel
  rw [k1, k2, k3, k4, k5, k6, k7, k8]
  by_cases hz : mi = 0
  · subst hz
    rw [if_pos rfl]
    split
    · exact off_Z
    · split
      · exact off_U
      · split
        · exact off_plus
        · exact offma (a := 0) (r := 0) (by decide) (by decide)
  · rw [if_neg hz]
    have hr : mi.natAbs % 60 < 100 := by omega
    unfold hrs two
    by_cases hn : mi < 0
    · have e : 60 * mi = -(3600 * ((mi.natAbs / 60 : Nat) : Int) + 60 * ((mi.natAbs % 60 : Nat) : Int)) := by omega
      rw [if_pos hn, e]
      by_cases h2 : d < 2
      · rw [if_pos h2]
        by_cases h10 : mi.natAbs / 60 < 10
        · rw [if_pos h10]; simp only [tx_app, List.cons_append, List.nil_append]; exact offma h10 hr
        · rw [if_neg h10]; simp only [tx_app, List.cons_append, List.nil_append]; exact offmb (by omega) hr
      · rw [if_neg h2]; simp only [tx_app, List.cons_append, List.nil_append]; exact offmc (by omega) hr
    · have e : 60 * mi = 3600 * ((mi.natAbs / 60 : Nat) : Int) + 60 * ((mi.natAbs % 60 : Nat) : Int) := by omega
      rw [if_neg hn, e]
      by_cases hf : d.fmod 2 = 0
      · rw [if_pos hf]
        by_cases h2 : d < 2
        · rw [if_pos h2]
          by_cases h10 : mi.natAbs / 60 < 10
          · rw [if_pos h10]; simp only [tx_app, List.cons_append, List.nil_append]; exact offa h10 hr
          · rw [if_neg h10]; simp only [tx_app, List.cons_append, List.nil_append]; exact offb (by omega) hr
        · rw [if_neg h2]; simp only [tx_app, List.cons_append, List.nil_append]; exact offc (by omega) hr
      · rw [if_neg hf]
        by_cases h2 : d < 2
        · rw [if_pos h2]
          by_cases h10 : mi.natAbs / 60 < 10
          · rw [if_pos h10]; simp only [tx_app, List.cons_append, List.nil_append]; exact offpa h10 hr
          · rw [if_neg h10]; simp only [tx_app, List.cons_append, List.nil_append]; exact offpb (by omega) hr
        · rw [if_neg h2]; simp only [tx_app, List.cons_append, List.nil_append]; exact offpc (by omega) hr
theorem ok_app {x y : Str} (hx : PyData.strOk x = true) (hy : PyData.strOk y = true) : PyData.strOk (x ++ y) = true := by
  show ((x.cps ++ y.cps).all fun c => decide (c < 0x110000)) = true
  rw [Array.all_append]
  show (PyData.strOk x && PyData.strOk y) = true
  rw [hx, hy]; rfl
theorem ok_ite {c : Prop} [Decidable c] {x y : Str} (hx : PyData.strOk x = true) (hy : PyData.strOk y = true) : PyData.strOk (if c then x else y) = true := by
  split <;> assumption
theorem ok_two : ∀ n : _root_.Fin 100, PyData.strOk (two n.val) = true := by decide +kernel
theorem ok_hrs : ∀ n : _root_.Fin 100, PyData.strOk (hrs n.val) = true := by decide +kernel
theorem zone_ok {mi d : Int} (hm : -720 ≤ mi ∧ mi ≤ 1440) : PyData.strOk (zoneF mi d) = true := by
  have h1 := ok_two ⟨mi.natAbs / 60, by omega⟩
  have h2 := ok_two ⟨mi.natAbs % 60, by omega⟩
  have h3 := ok_hrs ⟨mi.natAbs / 60, by omega⟩
  unfold zoneF
  exact ok_ite (ok_ite (by decide +kernel) (ok_ite (by decide +kernel) (ok_ite (by decide +kernel) (by decide +kernel))))
    (ok_app (ok_app (ok_ite (by decide +kernel) (ok_ite (by decide +kernel) (by decide +kernel))) (ok_ite (ok_app h3 (by decide +kernel)) h1)) h2)
end
end Mine
end
section
set_option maxRecDepth 100000
set_option maxHeartbeats 2000000
set_option pp.maxSteps 20000
namespace Mine

local macro_rules | `(tactic| ktr_enter) => `(tactic| (refine' code_def ?k1 ?k2 ?k3 ?k4 ?k5 ?kA ?kF ?kK ?k6 ?k7 ?k8 ?k9 ?kB ?_ ?c2 ?c3 ?c4 ?c5; (case kA => exact rfl); (case kF => exact rfl); (case kK => assumption); (case k1 => k_asm); (case k2 => k_asm); (case k3 => k_asm); (case k4 => k_asm); (case k5 => k_asm); (case k6 => k_is); (case k7 => k_is); (case k8 => ktr_room); (case k9 => first | exact BindsTo.of_eq rfl | exact binds_K (by k_in) rfl (by k_is) rfl rfl rfl | fail "no binds"); (case c5 => decide); (case kB => exact locs rfl); (case c2 => exact rfl); (case c3 => exact rfl); (case c4 => exact rfl); k_whole; intro g' L' h' FG' F' N' B' X' T'; (try dsimp only); (try k_lift B'); (try k_fold)))
local macro_rules | `(tactic| walk_at "exec For Name Name cons nil") => `(tactic| (refine Hold.out ?_))
local macro_rules | `(tactic| walk_at "pyIter ref") => `(tactic| (refine Hold.out ?_))

noncomputable abbrev CtrN (w : World) (mean : ExcName → Option Value) (mg mb : Str → Option Value) (f : Addr) (pos : List Value) (kw : List (Str × Value)) (deep : Nat) (Pre : List (Addr × Obj) → Prop) (R : Value → List (Addr × Obj) → Prop) : Prop :=
  ∀ (dp un : Nat) (gd : Option (List Code)) (cn : Str) (cs : Scope) (a : Addr) (ccd : Value) (cl : List (Str × Addr)) (outer : List Env) (A₀ : Around) (base h₀ : Heap) (L : Addr) (m : Str → Option Value) (news : List (Addr × Obj)) (s : Shared) (Q E : Value → Shared → Prop),
    Below A₀ base outer h₀ → Fr h₀ L s.heap m → (hd.heap_39 w.params).In h₀ → News h₀ L s.heap news → Top hd.view_39 LO mean mg mb h₀ → cs.kind = .function → dp + deep < recursionLimit → un + 8 * deep < cLine → Pre news →
    (∀ r tl h' tk', Fr h₀ L h' m → News h₀ L h' (tl ++ news) → (∀ q ∈ tl, ∀ p ∈ news, p.1 ≠ q.1) → R r tl → Q r { s with heap := h', toks := tk' }) →
    wpAny (model PySem.Challenge.rw_xe0027_01.row.prog w) (ktrTop dp un gd cn cs L a ccd cl outer) (call (.ref f) pos kw) Q E s

local macro_rules | `(tactic| size_fits) => `(tactic| (simp only [List.size_toArray, List.length_map, PySem.sizeLine_eq]; omega))
local macro_rules | `(tactic| k_all) => `(tactic| assumption)

local macro_rules | `(tactic| walk_at "subscriptTail Name Name ref int") => `(tactic| (k_here; (k_dflt (refine' item_L ?k1 ?k2 ?k3 ?k4 ?k5 ?_; (case k1 => k_asm); (case k2 => k_mem); (case k3 => l_fact); (case k4 => l_fact); (case k5 => exact zs_get (by l_fact)); k_whole))))
theorem tab_ctr {w : World} {mean : ExcName → Option Value} {mg mb : Str → Option Value} (zl : Addr) (n : Nat) (zs : List ZV) (hz : ∀ y ∈ zs, Off w mean mg mb y.z y.v) (hok : ∀ y ∈ zs, PyData.strOk y.z = true) (hsm : zs.length ≤ 100) (U odd : Int) (tU tO : Tok) (hU : 0 < U) (hU2 : U < 1000000) :
    CtrN w mean mg mb 88 [.ref zl, .int U tU, .int odd tO] [] 14 (fun news => (zl, strsO (zs.map ZV.zt) n) ∈ news) (fun r tl => ∃ a k R, r = .ref a ∧ tl = tabO a k R :: R.map RW.entry ∧ R.map RW.zs = tabOf U odd zs) := by
  unfold CtrN
  k_fill
  intro dp un gd cn cs a ccd cl outer A₀ base h₀ L m news s Q E B F X N T hk hd hu hpre hret
  w_top off
  k_with_none
  refine wpAny_call ?_
  k_dflt ktr_enter
  k_steps
  unfold Hold
  (rename Fr _ _ _ _ => lF'); (with_unfolding_all refine' For_invVF lF' ?k1 ?k2 ?_; (case k1 => exact rfl); (case k2 => exact rfl))
  k_steps
  unfold Hold
  rename Fr _ _ _ _ => F1
  rename News _ _ _ _ => N1
  rename (∀ p ∈ news, p.1 < _) => hlt
  refine iter_S (σ := T1) (l := zl) (its := ((zs.map ZV.zt).map strV).toArray) (fun c => tabO c.tl c.k c.R :: (c.R.map RW.entry ++ news)) (fun c => [(Str.ofString "table", Value.ref c.tl)])
    [Str.ofString "zone", Str.ofString "row", Str.ofString "moved", Str.ofString "told", Str.ofString "k", Str.ofString "left"]
    (fun i c => c.R.map RW.zs = tabOf U odd (zs.take i) ∧ (c.R.map RW.a).Nodup ∧ (∀ r ∈ c.R, r.a ≠ c.tl ∧ ∀ p ∈ news, p.1 ≠ r.a) ∧ (∀ p ∈ news, p.1 ≠ c.tl) ∧ (∀ r ∈ c.R, ∀ y ∈ r.zs, y ∈ zs))
    ⟨_, 0, []⟩ rfl ⟨_, (N1 _ (.tail _ hpre)).1, rfl, _, rfl⟩ (N1 _ (.tail _ hpre)).2.1 F1 N1 ?_ ?_ ?_ ?_
  · exact List.forall_mem_cons.mpr ⟨rfl, List.forall_mem_nil _⟩
  · exact ⟨rfl, List.nodup_nil, List.forall_mem_nil _, fun p hp => Nat.ne_of_lt (hlt p hp), List.forall_mem_nil _⟩
  · intro i v c u h tk I own hv hP hown hIown hLI Ft Nt
    obtain ⟨y, hy, rfl⟩ := get_zs hv
    obtain ⟨hR, hnd, hRa, hnt, hRz⟩ := hP
    have hne1 : ∀ p ∈ own ++ (c.R.map RW.entry ++ news), p.1 ≠ c.tl := by
      intro p hp
      rcases List.mem_append.mp hp with hp | hp
      · rcases hown p hp with e | e
        · rw [e]; exact fun e' => hLI (tabO c.tl c.k c.R) (.head _) e'.symm
        · rw [e]; exact hnt _ hpre
      · rcases List.mem_append.mp hp with hp | hp
        · obtain ⟨r, hr, rfl⟩ := List.mem_map.mp hp
          exact (hRa r hr).1
        · exact hnt p hp
    have Nt2 := cb_drop (news := tabO c.tl c.k c.R :: (own ++ (c.R.map RW.entry ++ news))) Nt (by
      intro p hp
      rcases List.mem_cons.mp hp with rfl | hp
      · exact List.mem_append.mpr (.inr (.head _))
      · rcases List.mem_append.mp hp with hp | hp
        · exact List.mem_append.mpr (.inl hp)
        · exact List.mem_append.mpr (.inr (.tail _ hp)))
    clear Nt F1 N1
    dsimp only [envOf] at Ft Nt2
    have hsz := tabOf_size U odd (zs.take i)
    rw [← hR, List.length_map] at hsz
    have htk : (zs.take i).length ≤ 100 := by rw [List.length_take]; omega
    have hRlen : c.R.length ≤ 100 := Nat.le_trans hsz.1 htk
    generalize hrest : own ++ (c.R.map RW.entry ++ news) = rest at hne1 Nt2
    try k_fold
    k_steps
    unfold Hold
    rename Fr _ _ _ _ => F1
    rename News _ _ _ _ => N1
    rename (_ ∧ AllLt _ rest) => hlt2
    rename_i rl _ _ hh1
    have hall : ∀ p ∈ rest, p.1 < rl := ktn_ltOf hlt2.2
    have htl : c.tl < rl := hlt2.1
    clear hlt2
    subst hrest
    have hR0 : ∀ r ∈ c.R ++ [(⟨rl, 0, []⟩ : RW)], r.a ≠ c.tl ∧ ∀ p ∈ own ++ news, p.1 ≠ r.a := by
      intro r hr
      rcases List.mem_append.mp hr with hr | hr
      · refine ⟨(hRa r hr).1, fun p hp => ?_⟩
        rcases List.mem_append.mp hp with hp | hp
        · rcases hown p hp with e | e
          · rw [e]; exact fun e' => hLI r.entry (.tail _ (List.mem_append.mpr (.inl (List.mem_map_of_mem hr)))) e'.symm
          · rw [e]; exact (hRa r hr).2 _ hpre
        · exact (hRa r hr).2 p hp
      · rw [List.mem_singleton.mp hr]
        refine ⟨Nat.ne_of_gt htl, fun p hp => Nat.ne_of_lt (hall p ?_)⟩
        rcases List.mem_append.mp hp with hp | hp
        · exact List.mem_append.mpr (.inl hp)
        · exact List.mem_append.mpr (.inr (List.mem_append.mpr (.inr hp)))
    have hnd0 : ((c.R ++ [(⟨rl, 0, []⟩ : RW)]).map RW.a).Nodup := by
      rw [List.map_append]
      refine List.nodup_append.mpr ⟨hnd, by simp, fun a ha b hb => ?_⟩
      obtain ⟨r, hr, rfl⟩ := List.mem_map.mp ha
      have hb' : b = rl := by simpa using hb
      rw [hb']
      exact Nat.ne_of_lt (hall r.entry (List.mem_append.mpr (.inr (List.mem_append.mpr (.inl (List.mem_map_of_mem hr))))))
    have hR0z : (c.R ++ [(⟨rl, 0, []⟩ : RW)]).map RW.zs = tabOf U odd (zs.take i) ++ [[]] := by rw [List.map_append, hR]; rfl
    have hR0s : ∀ r ∈ c.R ++ [(⟨rl, 0, []⟩ : RW)], r.zs.length ≤ 101 ∧ ∀ y ∈ r.zs, y ∈ zs := by
      intro r hr
      rcases List.mem_append.mp hr with hr | hr
      · have := hsz.2 r.zs (List.mem_map_of_mem hr)
        exact ⟨by omega, hRz r hr⟩
      · rw [List.mem_singleton.mp hr]
        exact ⟨Nat.zero_le _, fun y hy => by cases hy⟩
    have N2 := cb_drop (news := (c.tl, listOf ((c.R ++ [(⟨rl, 0, []⟩ : RW)]).map fun r => Value.ref r.a).toArray (c.k + 1)) :: ((c.R ++ [(⟨rl, 0, []⟩ : RW)]).map RW.entry ++ (own ++ news))) N1 (by
      intro p hp
      rcases List.mem_cons.mp hp with rfl | hp
      · refine .tail _ ?_
        have : ((c.R ++ [(⟨rl, 0, []⟩ : RW)]).map fun r => Value.ref r.a).toArray = (c.R.map fun r => Value.ref r.a).toArray.push (.ref rl) := by simp
        rw [this]; exact .head _
      · rcases List.mem_append.mp hp with hp | hp
        · obtain ⟨r, hr, rfl⟩ := List.mem_map.mp hp
          rcases List.mem_append.mp hr with hr | hr
          · exact .tail _ (.tail _ (List.mem_append.mpr (.inr (List.mem_append.mpr (.inl (List.mem_map_of_mem hr))))))
          · rw [List.mem_singleton.mp hr]; exact .head _
        · refine .tail _ (.tail _ ?_)
          rcases List.mem_append.mp hp with hp | hp
          · exact List.mem_append.mpr (.inl hp)
          · exact List.mem_append.mpr (.inr (List.mem_append.mpr (.inr hp))))
    have hlast : ((c.R ++ [(⟨rl, 0, []⟩ : RW)]).map RW.zs)[(c.R ++ [(⟨rl, 0, []⟩ : RW)]).length - 1]? = some [] := by simp
    have hpos : 0 < (c.R ++ [(⟨rl, 0, []⟩ : RW)]).length := by rw [List.length_append]; exact Nat.succ_pos _
    clear N1 hne1 hall
    generalize c.R ++ [(⟨rl, 0, []⟩ : RW)] = R0 at hR0 hnd0 hR0z hR0s N2 hlast hpos
    have hyz : y ∈ zs := List.mem_of_getElem? hy
    refine for_iter_S (σ := T2) (l := c.tl) (its := (R0.map fun r => Value.ref r.a).toArray) (fun c2 => (c.tl, listOf (R0.map fun r => Value.ref r.a).toArray (c.k + 1)) :: (c2.R.map RW.entry ++ (own ++ news)))
      (fun c2 => [(Str.ofString "moved", Value.str c2.mv.z c2.mv.t)]) [Str.ofString "row", Str.ofString "told", Str.ofString "k", Str.ofString "left"]
      (RowsP U odd zs R0 y) (RowsQ U odd zs R0 y) ⟨R0, y⟩ rfl rfl (fun Q' hq => ld F1 rfl hq) rfl ⟨_, (N2 _ (.head _)).1, rfl, _, rfl⟩ (N2 _ (.head _)).2.1 F1 N2 ?_ ?_ ?_ ?_ ?_
    · exact List.forall_mem_cons.mpr ⟨rfl, List.forall_mem_nil _⟩
    · exact ⟨rfl, rfl, rfl, hpos, hyz, fun r hr => (hR0s r hr).2, fun r hr => (hR0s r hr).1⟩
    · intro i2 v2 c2 u2 h2 tk2 I2 own2 hv2 hP2 hown2 hIown2 hLI2 Ft2 Nt2
      obtain ⟨c2R, mv⟩ := c2
      have hlt2 : i2 < c2R.length := by
        have e1 : c2R.length = R0.length := by simpa using congrArg List.length hP2.1
        have := hP2.2.2.2.1
        omega
      obtain ⟨r, A, B, hA, hAB⟩ : ∃ (r : RW) (A B : List RW), A.length = i2 ∧ c2R = A ++ r :: B :=
        ⟨c2R[i2], c2R.take i2, c2R.drop (i2 + 1), by rw [List.length_take]; omega, by rw [← List.drop_eq_getElem_cons hlt2, List.take_append_drop]⟩
      subst hAB
      have hv2' : v2 = .ref r.a := by
        have e1 : ((A ++ r :: B).map RW.a)[i2]? = some r.a := by rw [List.map_append, List.getElem?_append_right (by rw [List.length_map]; omega), List.length_map, hA]; simp
        rw [hP2.1] at e1
        have e2 : (R0.map fun r => Value.ref r.a)[i2]? = some (.ref r.a) := by
          have : (R0.map fun r => Value.ref r.a) = (R0.map RW.a).map Value.ref := by simp
          rw [this, List.getElem?_map, e1]; rfl
        have e3 : (R0.map fun r => Value.ref r.a)[i2]? = some v2 := by simpa using hv2
        rw [e2] at e3
        exact (Option.some.inj e3).symm
      subst hv2'
      have haddr : ∀ q ∈ A ++ r :: B, ∃ r0 ∈ R0, r0.a = q.a := fun q hq => by
        have : q.a ∈ R0.map RW.a := by rw [← hP2.1]; exact List.mem_map_of_mem hq
        obtain ⟨r0, h1, h2⟩ := List.mem_map.mp this
        exact ⟨r0, h1, h2⟩
      have hrm : r ∈ A ++ r :: B := List.mem_append.mpr (.inr (.head _))
      have hnd2 : ((A ++ r :: B).map RW.a).Nodup := by rw [hP2.1]; exact hnd0
      have hAr : ∀ q ∈ A ++ B, q.a ≠ r.a := by
        rw [List.map_append, List.map_cons] at hnd2
        have h3 := (List.nodup_append.mp hnd2)
        intro q hq
        rcases List.mem_append.mp hq with hq | hq
        · exact h3.2.2 _ (List.mem_map_of_mem hq) _ (.head _)
        · exact fun e => (List.nodup_cons.mp h3.2.1).1 (e ▸ List.mem_map_of_mem hq)
      have hne2 : ∀ p ∈ own2 ++ ((c.tl, listOf (R0.map fun r => Value.ref r.a).toArray (c.k + 1)) :: ((A ++ B).map RW.entry ++ (own ++ news))), p.1 ≠ r.a := by
        obtain ⟨r0, hr0, er0⟩ := haddr r hrm
        intro p hp
        rcases List.mem_append.mp hp with hp | hp
        · rcases hown2 p hp with e | e
          · rw [e]; exact fun e' => hLI2 r.entry (.tail _ (List.mem_append.mpr (.inl (List.mem_map_of_mem hrm)))) e'.symm
          · rw [e, ← er0]; exact (hR0 r0 hr0).1.symm
        · rcases List.mem_cons.mp hp with rfl | hp
          · rw [← er0]; exact (hR0 r0 hr0).1.symm
          · rcases List.mem_append.mp hp with hp | hp
            · obtain ⟨q, hq, rfl⟩ := List.mem_map.mp hp
              exact hAr q hq
            · rw [← er0]; exact (hR0 r0 hr0).2 p hp
      have Nt3 := cb_drop (news := (r.a, strsO (r.zs.map ZV.zt) r.n) :: (own2 ++ ((c.tl, listOf (R0.map fun r => Value.ref r.a).toArray (c.k + 1)) :: ((A ++ B).map RW.entry ++ (own ++ news))))) Nt2 (by
        intro p hp
        rcases List.mem_cons.mp hp with rfl | hp
        · exact List.mem_append.mpr (.inr (.tail _ (List.mem_append.mpr (.inl (List.mem_map_of_mem (f := RW.entry) hrm)))))
        · rcases List.mem_append.mp hp with hp | hp
          · exact List.mem_append.mpr (.inl hp)
          · refine List.mem_append.mpr (.inr ?_)
            rcases List.mem_cons.mp hp with rfl | hp
            · exact .head _
            · refine .tail _ ?_
              rcases List.mem_append.mp hp with hp | hp
              · obtain ⟨q, hq, rfl⟩ := List.mem_map.mp hp
                refine List.mem_append.mpr (.inl (List.mem_map_of_mem ?_))
                rcases List.mem_append.mp hq with hq | hq
                · exact List.mem_append.mpr (.inl hq)
                · exact List.mem_append.mpr (.inr (.tail _ hq))
              · exact List.mem_append.mpr (.inr hp))
      generalize hrest2 : own2 ++ ((c.tl, listOf (R0.map fun r => Value.ref r.a).toArray (c.k + 1)) :: ((A ++ B).map RW.entry ++ (own ++ news))) = rest2 at hne2 Nt3
      clear Nt2 F1 N2
      have hmv : mv ∈ zs := hP2.2.2.2.2.1
      have hrz : r.zs.length ≤ 101 := hP2.2.2.2.2.2.2 r hrm
      have hrzz : ∀ y ∈ r.zs, y ∈ zs := hP2.2.2.2.2.2.1 r hrm
      have hrow : ∀ j (hj : j < (r.zs.map ZV.zt).length), Off w mean mg mb ((r.zs.map ZV.zt)[j]).1 ((r.zs.map ZV.v)[j]'(by simpa using hj)) := by
        intro j hj
        have hj' : j < r.zs.length := by simpa using hj
        have := hz _ (hrzz _ (List.getElem_mem hj'))
        simpa [ZV.zt] using this
      obtain ⟨kk, hkk⟩ : ∃ kk, kOf U odd r.zs mv = kk := ⟨_, rfl⟩
      have hbk := kOf_bounds U odd r.zs mv
      rw [hkk] at hbk
      have cR : (mv.v.fdiv U).fmod 2 = odd → ∀ tx, Ctr w mean mg mb 53 [.ref r.a, .int mv.v tx] [(Str.ofString "key", .ref 44)] 4 (fun news => (r.a, strsO (r.zs.map ZV.zt) r.n) ∈ news) (fun r => ∃ t', r = .int kk t') := by
        intro hodd tx
        have hc := bisR_ctr (w := w) (mean := mean) (mg := mg) (mb := mb) r.a r.n (r.zs.map ZV.zt) (r.zs.map ZV.v) (by simp) hrow (by simp; omega) mv.v tx
        have e : bR (r.zs.map ZV.v) mv.v (r.zs.map ZV.v).length 0 (r.zs.map ZV.v).length = kk := by rw [← hkk]; unfold kOf; rw [if_pos hodd, List.length_map]
        rw [e] at hc
        exact hc
      have cL : ¬ (mv.v.fdiv U).fmod 2 = odd → ∀ tx, Ctr w mean mg mb 62 [.ref r.a, .int mv.v tx] [(Str.ofString "key", .ref 44)] 4 (fun news => (r.a, strsO (r.zs.map ZV.zt) r.n) ∈ news) (fun r => ∃ t', r = .int kk t') := by
        intro hodd tx
        have hc := bisL_ctr (w := w) (mean := mean) (mg := mg) (mb := mb) r.a r.n (r.zs.map ZV.zt) (r.zs.map ZV.v) (by simp) hrow (by simp; omega) mv.v tx
        have e : bL (r.zs.map ZV.v) mv.v (r.zs.map ZV.v).length 0 (r.zs.map ZV.v).length = kk := by rw [← hkk]; unfold kOf; rw [if_neg hodd, List.length_map]
        rw [e] at hc
        exact hc
      clear hrow
      dsimp only [envOf] at Ft2 Nt3
      try k_fold
      k_with "call ref" => (k_dflt (first | refine' Ctr.use (hz mv hmv _) ?k1 ?k2 ?k3 ?k4 ?k5 ?kK ?kd ?ku trivial ?_; (case k1 => k_asm); (case k2 => k_asm); (case k3 => k_asm); (case k4 => k_asm); (case k5 => k_asm); (case kK => exact rfl); (case kd => ktr_room); (case ku => ktr_units); k_whole; intro r9 h9 tk9 F9 N9 R9; obtain ⟨t9, e9⟩ := R9; subst e9; (try dsimp only); (try k_fold) | refine' Ctr.use (cR (by assumption) _) ?k1 ?k2 ?k3 ?k4 ?k5 ?kK ?kd ?ku ?kp ?_; (case k1 => k_asm); (case k2 => k_asm); (case k3 => k_asm); (case k4 => k_asm); (case k5 => k_asm); (case kK => exact rfl); (case kd => ktr_room); (case ku => ktr_units); (case kp => k_mem); k_whole; intro r9 h9 tk9 F9 N9 R9; obtain ⟨t9, e9⟩ := R9; subst e9; (try dsimp only); (try k_fold) | refine' Ctr.use (cL (by assumption) _) ?k1 ?k2 ?k3 ?k4 ?k5 ?kK ?kd ?ku ?kp ?_; (case k1 => k_asm); (case k2 => k_asm); (case k3 => k_asm); (case k4 => k_asm); (case k5 => k_asm); (case kK => exact rfl); (case kd => ktr_room); (case ku => ktr_units); (case kp => k_mem); k_whole; intro r9 h9 tk9 F9 N9 R9; obtain ⟨t9, e9⟩ := R9; subst e9; (try dsimp only); (try k_fold)))
      k_with "binaryOp FloorDiv int int" => (with_reducible refine floordiv_int (by omega) ?_ (Or.inl (PyProof.noPylong_small (by omega))))
      k_with "call builtin:len" => (k_dflt (refine' len_L ?k1 ?k2 ?k3 ?_; (case k1 => k_asm); (case k2 => k_mem); (case k3 => (simp only [List.size_toArray, List.length_map]; omega)); k_whole))
      k_with "setItem ref int" => (k_dflt (refine' set_L ?k1 ?k2 ?k3 ?k4 ?k5 ?k6 ?_; (case k1 => k_asm); (case k2 => k_asm); (case k3 => assumption); (case k4 => l_fact); (case k5 => l_fact); (case k6 => (simp only [List.size_toArray, List.length_map]; l_fact)); k_whole); intro h' F' N'; (try k_sweep))
      k_steps
      all_goals (rename Fr _ _ _ _ => Fe; rename News _ _ _ _ => Ne)
      · rename (kk = _) => he
        have hk9 : kOf U odd r.zs mv = r.zs.length := by rw [hkk, he]; simp
        rw [entry_push, ← hrest2] at Ne
        refine (show BrkEnd _ _ _ _ _ _ _ _ _ from ⟨⟨A ++ ⟨r.a, r.n + 1, r.zs ++ [mv]⟩ :: B, mv⟩, _, _, _, rfl, Fe, cb_drop Ne (fun p hp => led_mem p (List.mem_append.mpr (.inr hp))), List.forall_mem_cons.mpr ⟨rfl, List.forall_mem_nil _⟩, ?_, rows_brk hP2 hA hk9 _ _⟩)
        · intro z h1 h2
          have a0 : z ≠ Str.ofString "moved" := h1 _ (.head _)
          have h3 := h2
          simp only [List.contains_cons, List.contains_nil, Bool.or_false, Bool.or_eq_false_iff, beq_eq_false_iff_ne, ne_eq] at h3
          obtain ⟨a1, a2, a3, a4⟩ := h3
          simp only [kstB, if_neg a0, if_neg a1, if_neg a2, if_neg a3, if_neg a4, h2, Bool.false_eq_true, if_false]
      · rename (kk ≠ _) => he
        have hk9 : kOf U odd r.zs mv ≠ r.zs.length := by rw [hkk]; intro e; apply he; rw [e]; simp
        rw [entry_set, ← hrest2] at Ne
        have hlt9 : (kOf U odd r.zs mv).toNat < r.zs.length := by rw [hkk]; have := hbk; omega
        have hP3 := rows_next hP2 hA hk9 hlast r.n (hlt := hlt9)
        simp only [hkk] at hP3
        refine (show IterEnd _ _ _ _ _ _ _ _ _ _ _ _ from ⟨_, _, _, _, rfl, Fe, cb_drop Ne (fun p hp => led_mem p hp), led_I (r := r) (r' := ⟨r.a, r.n, r.zs.set kk.toNat mv⟩) hLI2 rfl, List.forall_mem_cons.mpr ⟨rfl, List.forall_mem_nil _⟩, ?_, hP3⟩)
        · intro z h1 h2
          have a0 : z ≠ Str.ofString "moved" := h1 _ (.head _)
          have h3 := h2
          simp only [List.contains_cons, List.contains_nil, Bool.or_false, Bool.or_eq_false_iff, beq_eq_false_iff_ne, ne_eq] at h3
          obtain ⟨a1, a2, a3, a4⟩ := h3
          simp only [kstB, if_neg a0, if_neg a1, if_neg a2, if_neg a3, if_neg a4, h2, Bool.false_eq_true, if_false]
      · rename (kk = _) => he
        have hk9 : kOf U odd r.zs mv = r.zs.length := by rw [hkk, he]; simp
        rw [entry_push, ← hrest2] at Ne
        refine (show BrkEnd _ _ _ _ _ _ _ _ _ from ⟨⟨A ++ ⟨r.a, r.n + 1, r.zs ++ [mv]⟩ :: B, mv⟩, _, _, _, rfl, Fe, cb_drop Ne (fun p hp => led_mem p (List.mem_append.mpr (.inr hp))), List.forall_mem_cons.mpr ⟨rfl, List.forall_mem_nil _⟩, ?_, rows_brk hP2 hA hk9 _ _⟩)
        · intro z h1 h2
          have a0 : z ≠ Str.ofString "moved" := h1 _ (.head _)
          have h3 := h2
          simp only [List.contains_cons, List.contains_nil, Bool.or_false, Bool.or_eq_false_iff, beq_eq_false_iff_ne, ne_eq] at h3
          obtain ⟨a1, a2, a3, a4⟩ := h3
          simp only [kstB, if_neg a0, if_neg a1, if_neg a2, if_neg a3, if_neg a4, h2, Bool.false_eq_true, if_false]
      · rename (kk ≠ _) => he
        have hk9 : kOf U odd r.zs mv ≠ r.zs.length := by rw [hkk]; intro e; apply he; rw [e]; simp
        rw [entry_set, ← hrest2] at Ne
        have hlt9 : (kOf U odd r.zs mv).toNat < r.zs.length := by rw [hkk]; have := hbk; omega
        have hP3 := rows_next hP2 hA hk9 hlast r.n (hlt := hlt9)
        simp only [hkk] at hP3
        refine (show IterEnd _ _ _ _ _ _ _ _ _ _ _ _ from ⟨_, _, _, _, rfl, Fe, cb_drop Ne (fun p hp => led_mem p hp), led_I (r := r) (r' := ⟨r.a, r.n, r.zs.set kk.toNat mv⟩) hLI2 rfl, List.forall_mem_cons.mpr ⟨rfl, List.forall_mem_nil _⟩, ?_, hP3⟩)
        · intro z h1 h2
          have a0 : z ≠ Str.ofString "moved" := h1 _ (.head _)
          have h3 := h2
          simp only [List.contains_cons, List.contains_nil, Bool.or_false, Bool.or_eq_false_iff, beq_eq_false_iff_ne, ne_eq] at h3
          obtain ⟨a1, a2, a3, a4⟩ := h3
          simp only [kstB, if_neg a0, if_neg a1, if_neg a2, if_neg a3, if_neg a4, h2, Bool.false_eq_true, if_false]
    · rintro c2 ⟨_, _, _, h4, _⟩
      exfalso
      simp at h4
    · intro c2 u2 h2 tk2 hQ2 Ft2 Nt2
      obtain ⟨hQa, hQz, hQm⟩ := hQ2
      dsimp only [envOf] at Ft2 Nt2
      k_steps
      unfold Hold
      rename Fr _ _ _ _ => F2
      have hnd2 : (c2.R.map RW.a).Nodup := by rw [hQa]; exact hnd0
      have hrefs : (R0.map fun r => Value.ref r.a) = c2.R.map fun r => Value.ref r.a := by
        have e1 : (R0.map fun r => Value.ref r.a) = (R0.map RW.a).map Value.ref := by simp
        have e2 : (c2.R.map fun r => Value.ref r.a) = (c2.R.map RW.a).map Value.ref := by simp
        rw [e1, e2, hQa]
      rw [hrefs] at Nt2
      refine comp_L (l := c.tl) (its := (c2.R.map fun r => Value.ref r.a).toArray) (keepsV c2.R) rfl (fun C => rfl) (by decide) rfl ⟨_, (Nt2 _ (.head _)).1, rfl, _, rfl⟩ F2 Nt2 ?_ ?_ ?_
      · have hlen : c2.R.length ≤ 101 := by
          have e1 := congrArg List.length hQz
          rw [List.length_map, insTab_len, hR0z, List.length_append, List.length_cons, List.length_nil] at e1
          have := (tabOf_size U odd (zs.take i)).1
          omega
        rw [List.size_toArray, List.length_map, PySem.sizeLine_eq]; omega
      · intro C v s₂ m₂ E' hv up hn hm
        obtain ⟨r, hr, rfl⟩ : ∃ r ∈ c2.R, Value.ref r.a = v := by simpa using hv
        have he := (Nt2 r.entry (.tail _ (List.mem_append.mpr (.inl (List.mem_map_of_mem hr))))).1
        have hkv : keepsV c2.R (.ref r.a) = !(r.zs.map ZV.zt).isEmpty := by
          rw [keepsV_mem hnd2 r hr]
          cases r.zs <;> rfl
        rw [hkv]
        exact test_nonempty (r := r.a) (zs := r.zs.map ZV.zt) rfl rfl (by decide) (by have hcL9 := cLine_is; simp only [units_deeper]; omega) hn hm ⟨_, up _ _ he, rfl, _, rfl⟩ (fun q hq => by
          obtain ⟨y', hy', rfl⟩ := List.mem_map.mp hq
          exact hok _ (hQm r hr y' hy'))
      · intro D h' tk' n' F3 N3 hD
        k_steps
        have hlist : (c2.R.map fun r => Value.ref r.a).toArray.toList.filter (keepsV c2.R) = (c2.R.filter fun r => !r.zs.isEmpty).map fun r => Value.ref r.a := filter_keepsV hnd2
        rw [hlist] at N3
        obtain ⟨oI, hoI⟩ := hIown
        have hsub : ∀ r ∈ c2.R.filter (fun r => !r.zs.isEmpty), r ∈ c2.R := fun r hr => (List.mem_filter.mp hr).1
        have haddr : ∀ r ∈ c2.R, ∃ r0 ∈ R0, r0.a = r.a := fun q hq => by
          have : q.a ∈ R0.map RW.a := by rw [← hQa]; exact List.mem_map_of_mem hq
          obtain ⟨r0, h1, h2⟩ := List.mem_map.mp this
          exact ⟨r0, h1, h2⟩
        have hmemR : ∀ r ∈ c2.R, r.entry ∈ (c.tl, listOf (c2.R.map fun r => Value.ref r.a).toArray (c.k + 1)) :: (c2.R.map RW.entry ++ (own ++ news)) := fun r hr => .tail _ (List.mem_append.mpr (.inl (List.mem_map_of_mem hr)))
        dsimp only [IterPost]
        unfold IterEnd
        refine ⟨⟨D, n', c2.R.filter fun r => !r.zs.isEmpty⟩, _, _, _, rfl, F3, cb_drop N3 ?_, ?_, List.forall_mem_cons.mpr ⟨rfl, List.forall_mem_nil _⟩, ?_, ?_, ?_, ?_, ?_, ?_⟩
        · intro p hp
          rcases List.mem_append.mp hp with hp | hp
          · exact .tail _ (.tail _ (List.mem_append.mpr (.inr (List.mem_append.mpr (.inl hp)))))
          · rcases List.mem_cons.mp hp with rfl | hp
            · exact .head _
            · refine .tail _ (.tail _ ?_)
              rcases List.mem_append.mp hp with hp | hp
              · obtain ⟨r, hr, rfl⟩ := List.mem_map.mp hp
                exact List.mem_append.mpr (.inl (List.mem_map_of_mem (hsub r hr)))
              · exact List.mem_append.mpr (.inr (List.mem_append.mpr (.inr hp)))
        · intro q hq
          rcases List.mem_cons.mp hq with rfl | hq
          · exact hD I oI (Nt2 _ (.tail _ (List.mem_append.mpr (.inr (List.mem_append.mpr (.inl hoI)))))).1
          · rcases List.mem_append.mp hq with hq | hq
            · obtain ⟨r, hr, rfl⟩ := List.mem_map.mp hq
              obtain ⟨r0, hr0, e0⟩ := haddr r (hsub r hr)
              show r.a ≠ I
              rw [← e0]
              exact ((hR0 r0 hr0).2 (I, oI) (List.mem_append.mpr (.inl hoI))).symm
            · exact hLI q (.tail _ (List.mem_append.mpr (.inr hq)))
        · intro z h1 h2
          have a0 : z ≠ Str.ofString "table" := h1 _ (.head _)
          have h3 := h2
          simp only [List.contains_cons, List.contains_nil, Bool.or_false, Bool.or_eq_false_iff, beq_eq_false_iff_ne, ne_eq] at h3
          obtain ⟨a1, a2, a3, a4, a5, a6⟩ := h3
          have h4 : [Str.ofString "row", Str.ofString "told", Str.ofString "k", Str.ofString "left"].contains z = false := by
            simp only [List.contains_cons, List.contains_nil, Bool.or_false, Bool.or_eq_false_iff, beq_eq_false_iff_ne, ne_eq]
            exact ⟨a2, a4, a5, a6⟩
          simp only [kstB, if_neg a0, if_neg a1, if_neg a3, h2, h4, Bool.false_eq_true, if_false]
        · show (c2.R.filter fun r => !r.zs.isEmpty).map RW.zs = _
          have e1 : zs.take (i + 1) = zs.take i ++ [y] := by rw [List.take_add_one, hy]; rfl
          rw [filter_zs, hQz, hR0z, e1, tabOf_snoc]; rfl
        · exact (hnd2.sublist (List.Sublist.map _ List.filter_sublist))
        · intro r hr
          obtain ⟨r0, hr0, e0⟩ := haddr r (hsub r hr)
          refine ⟨(hD r.a _ (Nt2 _ (hmemR r (hsub r hr))).1).symm, fun p hp => ?_⟩
          rw [← e0]
          exact (hR0 r0 hr0).2 p (List.mem_append.mpr (.inr hp))
        · intro p hp
          exact (hD p.1 _ (Nt2 p (.tail _ (List.mem_append.mpr (.inr (List.mem_append.mpr (.inr hp)))))).1).symm
        · intro r hr
          exact hQm r (hsub r hr)
  · intro c u h tk hP Ft Nt
    obtain ⟨hR, hnd, hRa, hnt, hRz⟩ := hP
    dsimp only [envOf] at Ft Nt
    k_steps
    rename News h₀ L _ _ => kN
    rename Fr h₀ L _ _ => kF
    refine hret _ (tabO c.tl c.k c.R :: c.R.map RW.entry) _ _ kF kN ?_ ⟨_, _, _, rfl, rfl, ?_⟩
    · intro q hq p hp
      rcases List.mem_cons.mp hq with rfl | hq
      · exact hnt p hp
      · obtain ⟨r, hr, rfl⟩ := List.mem_map.mp hq
        exact (hRa r hr).2 p hp
    · rw [hR]
      have e : ((zs.map ZV.zt).map strV).toArray.size = zs.length := by simp
      rw [e, List.take_length]
end Mine
end
section
set_option maxRecDepth 100000
set_option maxHeartbeats 20000000
set_option pp.maxSteps 20000
namespace Mine
local macro_rules | `(tactic| walk_at "exec For Name Call cons nil") => `(tactic| (refine Hold.out ?_))
local macro_rules | `(tactic| walk_at "pyIter ref") => `(tactic| (refine Hold.out ?_))
local macro_rules | `(tactic| walk_at "execs cons") => `(tactic| ((with_reducible show wpAny _ _ (execs (Stmt.While _ _ _ _ :: Stmt.Assign _ _ _ :: Stmt.Assign _ _ _ :: Stmt.If _ _ _ _ :: _) _) _ _ _); refine Hold.out ?_))
local macro_rules | `(tactic| walk_at "subscriptTail Name Slice str ref") => `(tactic| (k_here; (first | (refine sl_from0 (s := ⟨_,_,_,_,_⟩) (by assumption) (by assumption) (by omega) (by omega) ?_; intro _ _ _ _ _; (try dsimp only); (try k_fold)) | (refine sl_none (s := ⟨_,_,_,_,_⟩) (by assumption) (by assumption) (by omega) ?_; intro _ _ _ _ _; (try dsimp only); (try k_fold)) | (refine sl_neg (s := ⟨_,_,_,_,_⟩) (by assumption) (by assumption) (by omega) (by omega) (by omega) ?_; intro _ _ _ _ _; (try dsimp only); (try k_fold)))))
local macro_rules | `(tactic| walk_at "subscriptTail Name Name ref int") => `(tactic| (k_here; (k_dflt (refine' item_I ?k1 ?k2 ?k3 ?k4 ?k5 ?_; (case k1 => k_asm); (case k2 => k_mem); (case k3 => omega); (case k4 => omega); (case k5 => omega); k_whole; intro _; (try simp only [Int.toNat_natCast]); (try dsimp only); (try k_fold)))))
theorem lev_ctr {w : World} {mean : ExcName → Option Value} {mg mb : Str → Option Value} (xs ys : List Nat) (t1 t2 t3 : Tok) (hx : xs.length = 5) (hy : ys.length = 17) (h0 : xs.getD 0 0 ≠ ys.getD 0 0)
    (cf : Nat) (hcf : cf ≤ 5) (hc1 : ∀ j, j < cf → xs.getD (4 - j) 0 = ys.getD (16 - j) 0) (hlx : ∀ c ∈ xs, lowS c) (hly : ∀ c ∈ ys, lowS c) (hc2 : cf < 5 → xs.getD (4 - cf) 0 ≠ ys.getD (16 - cf) 0) :
    Ctr w mean mg mb 76 [.str (tx xs) t1, .str (tx ys) t2, .int 34 t3] [] 6 (fun _ => True) (fun r => ∃ t', r = .int (levV (xs.take (5 - cf)) (ys.take (17 - cf))) t') := by
  unfold Ctr
  k_fill
  intro dp un gd cn cs a ccd cl outer A₀ base h₀ L m news s Q E B F X N T hk hd hu hpre hret
  w_top off
  k_with_none
  k_with "exec While BoolOp cons nil" => first | (k_while (fun _ p => p ≤ 0 ∧ 0 ≤ p + (cf : Int)) (fun _ p => (p + (cf : Int)).toNat) "post"; trace "POST") | (k_while (fun _ p => p = 0) (fun _ p => 0) "pre"; trace "PRE")
  k_with "state" => first | exact st_pre h0 (by assumption) (by assumption) | (exact st_post hx hy hcf hc2 (by omega) (by omega) (by omega) (by assumption))
  k_with "measure" => first | exact st_pre h0 (by assumption) (by assumption) | exact st_ms hx hy hcf hc2 (by omega) (by omega) (by omega) (by assumption)
  k_with "subscriptTail Name Name str int" => (refine itm_pos (by omega) (by omega) (by omega) ?_; intro _ _; (try dsimp only); (try k_fold))
  k_with "subscriptTail Name BinOp str int" => (refine itm_neg (by omega) (by omega) (by omega) ?_; intro _ _; (try dsimp only); (try k_fold))
  k_with "subscriptTail" => first | (refine sl_from0 (s := ⟨_,_,_,_,_⟩) (by assumption) (by assumption) (by omega) (by omega) ?_; intro _ _ _ _ _; (try dsimp only); (try k_fold)) | (refine sl_none (s := ⟨_,_,_,_,_⟩) (by assumption) (by assumption) (by omega) ?_; intro _ _ _ _ _; (try dsimp only); (try k_fold)) | (refine sl_neg (s := ⟨_,_,_,_,_⟩) (by assumption) (by assumption) (by omega) (by omega) (by omega) ?_; intro _ _ _ _ _; (try dsimp only); (try k_fold)) | (refine itm_pos (by omega) (by omega) (by omega) ?_; intro _ _; (try dsimp only); (try k_fold)) | (refine itm_neg (by omega) (by omega) (by omega) ?_; intro _ _; (try dsimp only); (try k_fold))
  k_with "truthy int" => first | (refine trI0 (by assumption) ?_) | (refine trI1 (by assumption) ?_)
  k_with "truthy str" => first | (refine trT (by (try simp only [List.length_drop, List.length_take]); omega) (by (try simp only [List.length_drop, List.length_take]); omega) ?_; intro _; (try dsimp only); (try k_fold)) | (refine trF (by (try simp only [List.length_drop, List.length_take]); omega) ?_; intro _; (try dsimp only); (try k_fold)) | (refine trG (by (try simp only [List.length_drop, List.length_take]); omega) ?_ ?_ <;> (intro hlen _; (try simp only [List.length_take] at hlen); (try dsimp only); (try k_fold)))
  k_with "call builtin:len" => (refine len_tx (by (try simp only [List.length_drop, List.length_take]); omega) ?_; intro _ _; (try simp only [List.length_take, hx, hy]); (try dsimp only); (try k_fold))
  refine wpAny_call ?_
  k_dflt ktr_enter
  k_steps
  · exfalso
    rename (tx xs == tx ys) = true => ha
    rw [tx_beq] at ha
    have := congrArg List.length (of_decide_eq_true ha)
    omega
  unfold Hold
  rename Fr _ _ _ _ => F1
  rename News _ _ _ _ => N1
  refine cut_ab (ss := [_, _, _]) (rest := _ :: _) (xs.take (5 - cf)) (ys.take (17 - cf)) F1 N1 ?_ ?_
  · try k_fold
    k_steps
    all_goals (rename Fr _ _ _ _ => F9)
    all_goals (rename News _ _ _ _ => N9)
    · rename (tx _ == tx _) = false => hq
      refine fin_mid F9 N9 (take_neg (ex_post hx hy hc1 (by assumption) (by assumption) (by omega) hq) 5 hx) (take_neg (ex_post hx hy hc1 (by assumption) (by assumption) (by omega) hq) 17 hy) ?_
      intro y h1 h2 h3
      simp [h1, h2, h3]
    · refine fin_mid F9 N9 (take_neg ?_ 5 hx) (take_neg ?_ 17 hy) ?_
      · omega
      · omega
      · intro y h1 h2 h3
        simp [h1, h2, h3]
    · rename (tx _ == tx _) = false => hq
      refine fin_mid F9 N9 (take_zero (ex_post hx hy hc1 (by assumption) (by assumption) (by omega) hq) (by assumption) 5 hx) (take_zero (ex_post hx hy hc1 (by assumption) (by assumption) (by omega) hq) (by assumption) 17 hy) ?_
      intro y h1 h2 h3
      simp [h1, h2, h3]
  · have hA : (xs.take (5 - cf)).length = 5 - cf := by rw [List.length_take]; omega
    have hB : (ys.take (17 - cf)).length = 17 - cf := by rw [List.length_take]; omega
    have hlA : ∀ c ∈ xs.take (5 - cf), lowS c := fun c hc => hlx c (List.mem_of_mem_take hc)
    have hlB : ∀ c ∈ ys.take (17 - cf), lowS c := fun c hc => hly c (List.mem_of_mem_take hc)
    clear F1 N1 hc1 hc2 hlx hly h0
    generalize xs.take (5 - cf) = as at *
    generalize ys.take (17 - cf) = bs at *
    clear hx hy
    intro h4 tk4 t14 t24 t34 p4 F4 N4
    try k_fold
    w_top off
    k_with_none
    k_with "truthy str" => first | (refine trT (by omega) (by omega) ?_; intro _; (try dsimp only); (try k_fold)) | (refine trF (by omega) ?_; intro _; (try dsimp only); (try k_fold)) | (refine trG (by omega) ?_ ?_ <;> (intro hlen _; (try dsimp only); (try k_fold)))
    k_with "call builtin:len" => (refine len_tx (by omega) ?_; intro _ _; (try dsimp only); (try k_fold))
    k_with "call type:list" => (k_dflt (refine' list_range2 (n := as.length) ?k1 ?k2 ?k3 ?k4 ?k5 ?k6 ?_; (case k1 => omega); (case k2 => first | rfl | omega); (case k3 => exact rfl); (case k4 => k_asm); (case k5 => k_asm); (case k6 => k_asm); k_whole; intro h9 tk9 zs9 c9 hz9 F9 N9 hne9; (try dsimp only); (try k_fold)))
    k_steps
    · unfold Hold
      (rename Fr _ _ _ _ => lF'); (with_unfolding_all refine' For_invVF lF' ?k1 ?k2 ?_; (case k1 => exact rfl); (case k2 => exact rfl))
      try k_fold
      k_steps
      unfold Hold
      rename Fr _ _ _ _ => F1
      rename News _ _ _ _ => N1
      rename IsRange _ _ _ _ _ _ _ _ => hR1
      rename (∀ p ∈ news, p.1 ≠ _) => hneD
      rename (List.map _ _ = rowInit _) => hz0
      dsimp only at F1 N1 hneD
      obtain ⟨D, hD⟩ := hd_name N1
      rw [← hD] at F1 N1 hneD
      clear hD
      refine' iter_R (σ := S1) (n := bs.length) (fun c => (D, intsO c.zs c9) :: news) (fun c => [(Str.ofString "result", Value.int c.res c.tr)])
        [Str.ofString "bindex", Str.ofString "bchar", Str.ofString "distance", Str.ofString "minimum", Str.ofString "index", Str.ofString "substitute", Str.ofString "insert_delete"]
        (fun i c => c.zs.length = as.length ∧ dpG as (bs.drop i) i (c.zs.map Prod.fst) c.res = dpG as bs 0 (rowInit as.length) 0) ⟨zs9, 0, tk⟩ rfl hR1 (by omega) F1 N1 ?hk ?hp ?turn ?done
      case hk => exact List.forall_mem_cons.mpr ⟨rfl, List.forall_mem_nil _⟩
      case hp => exact ⟨by rw [← List.length_map (f := Prod.fst), hz0]; simp [rowInit], by rw [hz0]; rfl⟩
      case turn =>
        intro i t c u h tk I own hi hP hown hIown hLI Ft Nt
        obtain ⟨hlen1, hdp⟩ := hP
        have hne1 : ∀ p ∈ own ++ news, p.1 ≠ D := by
          intro p hp
          rcases List.mem_append.mp hp with hp | hp
          · rw [hown p hp]; exact fun e' => hLI (D, intsO c.zs c9) (.head _) e'.symm
          · exact hneD p hp
        have Nt2 := cb_drop (news := (D, intsO c.zs c9) :: (own ++ news)) Nt (by
          intro p hp
          rcases List.mem_cons.mp hp with rfl | hp
          · exact List.mem_append.mpr (.inr (.head _))
          · rcases List.mem_append.mp hp with hp | hp
            · exact List.mem_append.mpr (.inl hp)
            · exact List.mem_append.mpr (.inr (.tail _ hp)))
        clear Nt F1 N1
        dsimp only [envOf] at Ft Nt2
        generalize hrest : own ++ news = rest at hne1 Nt2
        try k_fold
        k_with "subscriptTail Name Name str int" => (refine itm_pos (by omega) (by omega) (by omega) ?_; intro _ _; (try simp only [Int.toNat_natCast]); (try dsimp only); (try k_fold))
        k_with "subscriptTail" => (k_dflt (refine' item_I ?k1 ?k2 ?k3 ?k4 ?k5 ?_; (case k1 => k_asm); (case k2 => k_mem); (case k3 => omega); (case k4 => omega); (case k5 => omega); k_whole; intro _; (try simp only [Int.toNat_natCast]); (try dsimp only); (try k_fold)))
        k_with "setItem ref int" => (k_dflt (refine' set_I ?k1 ?k2 ?k3 ?k4 ?k5 ?k6 ?_; (case k1 => k_asm); (case k2 => k_asm); (case k3 => assumption); (case k4 => omega); (case k5 => omega); (case k6 => omega); k_whole); intro h' F' N'; (try k_sweep))
        k_with "call ref" => (k_dflt (refine' Ctr.use (sub_ctr _ _ _ _ (lows_getD hlB (by omega)) (lows_getD hlA (by omega))) ?k1 ?k2 ?k3 ?k4 ?k5 ?kK ?kd ?ku trivial ?_; (case k1 => k_asm); (case k2 => k_asm); (case k3 => k_asm); (case k4 => k_asm); (case k5 => k_asm); (case kK => exact rfl); (case kd => ktr_room); (case ku => ktr_units); k_whole; intro r9 h9 tk9 F9 N9 R9; obtain ⟨t9, e9⟩ := R9; subst e9; (try dsimp only); (try k_fold)))
        k_steps
        unfold Hold
        (rename Fr _ _ _ _ => lF'); (with_unfolding_all refine' For_invVF lF' ?k1 ?k2 ?_; (case k1 => exact rfl); (case k2 => exact rfl))
        try k_fold
        k_steps
        unfold Hold
        rename Fr _ _ _ _ => F2
        rename News _ _ _ _ => N2
        rename IsRange _ _ _ _ _ _ _ _ => hR2
        refine' iter_R (σ := S2) (n := as.length) (fun c => (D, intsO c.zs c9) :: rest) (fun c => [(Str.ofString "distance", Value.int c.d c.td), (Str.ofString "result", Value.int c.r c.tr), (Str.ofString "minimum", Value.int c.mn c.tm)])
          [Str.ofString "index", Str.ofString "substitute", Str.ofString "insert_delete"]
          (fun j c2 => c2.zs.length = as.length ∧ innG (bs.getD i 0) (as.drop j) j (c2.zs.map Prod.fst) c2.d c2.r c2.mn = innG (bs.getD i 0) as 0 (c.zs.map Prod.fst) (i * 2) (i * 2) 9223372036854775807) ⟨c.zs, (i : Int) * 2, (i : Int) * 2, 9223372036854775807, tk, tk, tk + 1 + 1 + 1⟩ rfl hR2 (by omega) F2 N2 ?hk2 ?hp2 ?turn2 ?done2
        case hk2 => exact List.forall_mem_cons.mpr ⟨rfl, List.forall_mem_cons.mpr ⟨rfl, List.forall_mem_cons.mpr ⟨rfl, List.forall_mem_nil _⟩⟩⟩
        case hp2 => exact ⟨hlen1, rfl⟩
        case turn2 =>
          intro j t2 c2 u2 h2 tk2 I2 own2 hj hP2 hown2 hIown2 hLI2 Ft2 Nt3
          obtain ⟨hlen2, hinn⟩ := hP2
          have hne2 : ∀ p ∈ own2 ++ rest, p.1 ≠ D := by
            intro p hp
            rcases List.mem_append.mp hp with hp | hp
            · rw [hown2 p hp]; exact fun e' => hLI2 (D, intsO c2.zs c9) (.head _) e'.symm
            · exact hne1 p hp
          have Nt4 := cb_drop (news := (D, intsO c2.zs c9) :: (own2 ++ rest)) Nt3 (by
            intro p hp
            rcases List.mem_cons.mp hp with rfl | hp
            · exact List.mem_append.mpr (.inr (.head _))
            · rcases List.mem_append.mp hp with hp | hp
              · exact List.mem_append.mpr (.inl hp)
              · exact List.mem_append.mpr (.inr (.tail _ hp)))
          clear Nt3 F2 N2
          dsimp only [envOf] at Ft2 Nt4
          generalize hrest2 : own2 ++ rest = rest2 at hne2 Nt4
          try k_fold
          k_steps
          all_goals (rename Fr _ _ _ _ => Fe; rename News _ _ _ _ => Ne; obtain ⟨mf, hmf, Fe⟩ := fr_name Fe; simp only [Int.toNat_natCast, rN_def] at hmf Ne)
          all_goals
            have hN5 : ∃ tR, News _ _ _ (own2 ++ ((D, intsO (c2.zs.set j (rN (bs.getD i 0) (as.getD j 0) ((c2.zs.map Prod.fst).getD j 0) c2.d c2.r, tR)) c9) :: rest)) := ⟨_, cb_drop Ne (by
              intro p hp
              rw [← hrest2]
              rcases List.mem_append.mp hp with hp | hp
              · exact .tail _ (List.mem_append.mpr (.inl hp))
              · rcases List.mem_cons.mp hp with rfl | hp
                · exact .head _
                · exact .tail _ (List.mem_append.mpr (.inr hp)))⟩
            obtain ⟨tR, hN5⟩ := hN5
            have hd5 : ∃ t, mf (Str.ofString "distance") = some (.int ((c2.zs.map Prod.fst).getD j 0) t) := ⟨_, by rw [hmf]; (repeat (first | exact if_pos rfl | refine (if_neg (by decide +kernel)).trans ?_))⟩
            have hr5 : ∃ t, mf (Str.ofString "result") = some (.int (rN (bs.getD i 0) (as.getD j 0) ((c2.zs.map Prod.fst).getD j 0) c2.d c2.r) t) := ⟨_, by rw [hmf]; (repeat (first | exact if_pos rfl | refine (if_neg (by decide +kernel)).trans ?_))⟩
            obtain ⟨td, hd5⟩ := hd5
            obtain ⟨tr, hr5⟩ := hr5
          · rename (_ < c2.mn) => hlt
            rw [rN_def] at hlt
            have hm5 : ∃ t, mf (Str.ofString "minimum") = some (.int (if rN (bs.getD i 0) (as.getD j 0) ((c2.zs.map Prod.fst).getD j 0) c2.d c2.r < c2.mn then rN (bs.getD i 0) (as.getD j 0) ((c2.zs.map Prod.fst).getD j 0) c2.d c2.r else c2.mn) t) := by rw [if_pos hlt]; exact ⟨_, by rw [hmf]; (repeat (first | exact if_pos rfl | refine (if_neg (by decide +kernel)).trans ?_))⟩
            obtain ⟨tm, hm5⟩ := hm5
            dsimp only [IterPost, IterEnd, envOf]
            refine ⟨⟨c2.zs.set j (_, tR), _, _, _, td, tr, tm⟩, _, _, mf, rfl, Fe, hN5, ?_, List.forall_mem_cons.mpr ⟨hd5, List.forall_mem_cons.mpr ⟨hr5, List.forall_mem_cons.mpr ⟨hm5, List.forall_mem_nil _⟩⟩⟩, ?_, by simpa using hlen2, inn_step hj hinn⟩
            · intro q hq
              rcases List.mem_cons.mp hq with rfl | hq
              · exact hLI2 (D, intsO c2.zs c9) (.head _)
              · exact hLI2 q (.tail _ hq)
            · intro z h1 h2
              have a1 : z ≠ Str.ofString "distance" := h1 _ (.head _)
              have a2 : z ≠ Str.ofString "result" := h1 _ (.tail _ (.head _))
              have a3 : z ≠ Str.ofString "minimum" := h1 _ (.tail _ (.tail _ (.head _)))
              have h3 := h2
              simp only [List.contains_cons, List.contains_nil, Bool.or_false, Bool.or_eq_false_iff, beq_eq_false_iff_ne, ne_eq] at h3
              obtain ⟨b1, b2, b3⟩ := h3
              rw [hmf]
              simp only [kstB, if_neg a1, if_neg a2, if_neg a3, if_neg b1, if_neg b2, if_neg b3, h2, Bool.false_eq_true, if_false]
          · rename (¬ _ < c2.mn) => hlt
            rw [rN_def] at hlt
            have hm5 : ∃ t, mf (Str.ofString "minimum") = some (.int (if rN (bs.getD i 0) (as.getD j 0) ((c2.zs.map Prod.fst).getD j 0) c2.d c2.r < c2.mn then rN (bs.getD i 0) (as.getD j 0) ((c2.zs.map Prod.fst).getD j 0) c2.d c2.r else c2.mn) t) := by
              rw [if_neg hlt]; exact ⟨c2.tm, by rw [hmf]; rfl⟩
            obtain ⟨tm, hm5⟩ := hm5
            dsimp only [IterPost, IterEnd, envOf]
            refine ⟨⟨c2.zs.set j (_, tR), _, _, _, td, tr, tm⟩, _, _, mf, rfl, Fe, hN5, ?_, List.forall_mem_cons.mpr ⟨hd5, List.forall_mem_cons.mpr ⟨hr5, List.forall_mem_cons.mpr ⟨hm5, List.forall_mem_nil _⟩⟩⟩, ?_, by simpa using hlen2, inn_step hj hinn⟩
            · intro q hq
              rcases List.mem_cons.mp hq with rfl | hq
              · exact hLI2 (D, intsO c2.zs c9) (.head _)
              · exact hLI2 q (.tail _ hq)
            · intro z h1 h2
              have a1 : z ≠ Str.ofString "distance" := h1 _ (.head _)
              have a2 : z ≠ Str.ofString "result" := h1 _ (.tail _ (.head _))
              have a3 : z ≠ Str.ofString "minimum" := h1 _ (.tail _ (.tail _ (.head _)))
              have h3 := h2
              simp only [List.contains_cons, List.contains_nil, Bool.or_false, Bool.or_eq_false_iff, beq_eq_false_iff_ne, ne_eq] at h3
              obtain ⟨b1, b2, b3⟩ := h3
              rw [hmf]
              simp only [kstB, if_neg a1, if_neg a2, if_neg a3, if_neg b1, if_neg b2, if_neg b3, h2, Bool.false_eq_true, if_false]
        case done2 =>
          intro c2 u2 h2 tk2 hP2 Ft2 Nt3
          obtain ⟨hlen2, hinn⟩ := hP2
          have hW := inn_end hinn
          clear F2 N2
          dsimp only [envOf] at Ft2 Nt3
          try k_fold
          k_steps
          · rename (34 < _) => hgt
            dsimp only [IterPost]
            k_steps
            refine hret (.int _ _) _ _ (by assumption) (cb_drop (by assumption) (fun p hp => .tail _ (by rw [← hrest]; exact List.mem_append.mpr (.inr hp)))) ⟨_, congrArg (fun z => Value.int z _) ?_⟩
            unfold levV
            rw [if_neg (by omega), dp_ret hi hW hgt hdp]
            rfl
          · rename (¬ 34 < _) => hgt
            rename Fr _ _ _ _ => Fe
            rename News _ _ _ _ => Ne
            dsimp only [IterPost, IterEnd, envOf]
            obtain ⟨mf, hmf, Fe⟩ := fr_name Fe
            refine ⟨⟨c2.zs, c2.r, c2.tr⟩, _, _, mf, rfl, Fe, cb_drop Ne (by
              intro p hp
              rw [← hrest]
              rcases List.mem_append.mp hp with hp | hp
              · exact .tail _ (List.mem_append.mpr (.inl hp))
              · rcases List.mem_cons.mp hp with rfl | hp
                · exact .head _
                · exact .tail _ (List.mem_append.mpr (.inr hp))), ?_, List.forall_mem_cons.mpr ⟨by rw [hmf]; rfl, List.forall_mem_nil _⟩, ?_, hlen2, dp_step hi hW (by omega) hdp⟩
            · intro q hq
              rcases List.mem_cons.mp hq with rfl | hq
              · exact hLI (D, intsO c.zs c9) (.head _)
              · exact hLI q (.tail _ hq)
            · intro z h1 h2
              have a1 : z ≠ Str.ofString "result" := h1 _ (.head _)
              have h3 := h2
              simp only [List.contains_cons, List.contains_nil, Bool.or_false, Bool.or_eq_false_iff, beq_eq_false_iff_ne, ne_eq] at h3
              obtain ⟨b1, b2, b3, b4, b5, b6, b7⟩ := h3
              rw [hmf]
              simp only [kstB, List.contains_cons, List.contains_nil, beq_eq_false_iff_ne.mpr b5, beq_eq_false_iff_ne.mpr b6, beq_eq_false_iff_ne.mpr b7, if_neg a1, if_neg b1, if_neg b2, if_neg b3, if_neg b4, h2, Bool.or_false, Bool.false_eq_true, if_false]
      case done =>
        intro c u h tk hP Ft Nt
        obtain ⟨hlen1, hdp⟩ := hP
        clear F1 N1
        dsimp only [envOf] at Ft Nt
        try k_fold
        k_steps
        refine hret (.int _ _) _ _ (by assumption) (cb_drop (by assumption) (fun p hp => .tail _ hp)) ⟨_, congrArg (fun z => Value.int z _) ?_⟩
        unfold levV
        rw [if_neg (by omega)]
        rw [List.drop_length] at hdp
        exact hdp
    · refine hret (.int _ _) _ _ (by assumption) (by assumption) ⟨_, congrArg (fun z => Value.int z _) ?_⟩
      unfold levV
      rw [if_pos (.inl (by assumption))]
end Mine
end
section
set_option maxRecDepth 100000
set_option maxHeartbeats 20000000
set_option pp.maxSteps 20000
namespace Mine
local macro_rules | `(tactic| walk_at "pad") => `(tactic| fail)
local macro_rules | `(tactic| walk_at "pyIter ref") => `(tactic| (refine Hold.out ?_))
local macro_rules | `(tactic| walk_at "eval ListComp") => `(tactic| (refine Hold.out ?_))
local macro_rules | `(tactic| walk_at "CompSrcT") => `(tactic| (refine Hold.out ?_))
local macro_rules | `(tactic| walk_at "exec For Name Call cons nil") => `(tactic| (refine Hold.out ?_))
local macro_rules | `(tactic| ktr_enter) => `(tactic| (refine' code_defC ?k1 ?k2 ?k3 ?k4 ?k5 ?kA ?kF ?kK ?k6 ?k7 ?k8 ?k9 ?kB ?kD ?_ ?c2 ?c3 ?c4; (case kA => exact rfl); (case kF => exact rfl); (case kK => assumption); (case k1 => k_asm); (case k2 => k_asm); (case k3 => k_asm); (case k4 => k_asm); (case k5 => k_asm); (case k6 => k_is); (case k7 => k_is); (case k8 => ktr_room); (case k9 => first | exact BindsTo.of_eq rfl | exact binds_K (by k_in) rfl (by k_is) rfl rfl rfl | fail "no binds"); (case kB => exact rfl); (case kD => decide +kernel); (case c2 => exact rfl); (case c3 => exact rfl); (case c4 => exact rfl); k_whole; intro g' L' h' tk' cells' FG' F' N' Y' B' X' T' l1; (try k_lt l1); k_cells Y'; (try simp only [List.cons_append, List.nil_append] at N'); (try dsimp only); (try k_lift B'); (try k_fold)))
theorem ne_tail {l : List (Addr × Obj)} {L d : Nat} (h : ∀ p ∈ l, p.1 < L) (hd : L ≤ d) : ∀ p ∈ l, p.1 ≠ d := fun p hp => by have := h p hp; exact Nat.ne_of_lt (Nat.lt_of_lt_of_le this hd)
local macro_rules | `(tactic| k_all) => `(tactic| first | assumption | exact ne_tail (by assumption) (by omega))
local macro_rules | `(tactic| k_mem) => `(tactic| first | assumption | exact List.mem_cons_self | (refine List.mem_cons_of_mem _ ?_; k_mem))
theorem nm4 {g h : Heap} {L l b s hh : Addr} {ol ob os oh : Obj} {news : List (Addr × Obj)} (hN9 : News g L h ((l, ol) :: (b, ob) :: (s, os) :: (hh, oh) :: news)) : ∃ l' ob' os' oh' L', l' = l ∧ ob' = ob ∧ os' = os ∧ oh' = oh ∧ L' = L := ⟨_, _, _, _, _, rfl, rfl, rfl, rfl, rfl⟩
theorem mx_uniq : ∀ {l : List Int} {x M : Int}, M ∈ x :: l → (∀ a ∈ x :: l, a ≤ M) → M = l.foldl max x
  | [], x, M, h1, _ => by simpa using h1
  | y :: l, x, M, h1, h2 => by
    rw [List.foldl_cons]
    have hx := h2 x (.head _)
    have hy := h2 y (.tail _ (.head _))
    refine mx_uniq (l := l) (x := max x y) ?_ fun a ha => ?_
    · rcases List.mem_cons.mp h1 with e | h1
      · have : max x y = M := by omega
        rw [this]; exact .head _
      · rcases List.mem_cons.mp h1 with e | h1
        · have : max x y = M := by omega
          rw [this]; exact .head _
        · exact .tail _ h1
    · rcases List.mem_cons.mp ha with e | ha
      · omega
      · exact h2 a (.tail _ (.tail _ ha))
def selG (H S : List Int) (i : Nat) : List Int → Int → List Int := fun l k => if H.getD k.toNat 0 < H.getD i 0 + (H.getD i 0).fmod 2 then l ++ [S.getD k.toNat 0] else l
def sizesF (H : List Int) : Nat → List Int
  | 0 => []
  | i + 1 => sizesF H i ++ [1 + ((rangeKs 0 i).foldl (selG H (sizesF H i) i) []).foldl max 0]
def longest (H : List Int) : Int := match sizesF H 5 with | [] => 0 | x :: r => r.foldl max x
theorem sizesF_len (H : List Int) : ∀ i, (sizesF H i).length = i
  | 0 => rfl
  | i + 1 => by unfold sizesF; rw [List.length_append, sizesF_len H i]; rfl
theorem intsAre_map : ∀ zs : List (Int × Tok), IntsAre (zs.map intV) (zs.map Prod.fst)
  | [] => .nil
  | z :: zs => .cons z.1 z.2 (intsAre_map zs)
section
variable {prog : Program} {w : World} {A : Around} {E : Value → Shared → Prop} {s : Shared} {h₀ : Heap} {L : Addr} {m : Str → Option Value}
theorem app_I {D : Addr} {rest all : List (Addr × Obj)} {zs : List (Int × Tok)} {n : Nat} {r : Int} {tr : Tok} {Q : Value → Shared → Prop} (F : Fr h₀ L s.heap m) (N : News h₀ L s.heap all) (hsub : ∀ p ∈ (D, intsO zs n) :: rest, p ∈ all) (hne : ∀ p ∈ rest, p.1 ≠ D) (hz : zs.length ≤ 1000)
    (h : ∀ h', Fr h₀ L h' m → News h₀ L h' ((D, intsO (zs ++ [(r, tr)]) (n + 1)) :: rest) → Q .none { s with heap := h' }) :
    wpAny (model prog w) A (call (.builtin "list.append") [.ref D, .int r tr]) Q E s := by
  have N1 := cb_drop N hsub
  have e : (zs.map intV).toArray.push (.int r tr) = ((zs ++ [(r, tr)]).map intV).toArray := by simp
  refine append_K F N1 (Upd.head hne) (fun h' F' N' => h h' F' ?_) (by rw [List.size_toArray, List.length_map, PySem.sizeLine_eq]; omega)
  rw [e] at N'; exact N'
end
structure S3 where
  zs : List (Int × Tok)
  k : Nat
  ob : Obj

local macro_rules | `(tactic| walk_at "subscriptTail Name Name ref int") => `(tactic| (k_here; (k_dflt (refine' item_I ?k1 ?k2 ?k3 ?k4 ?k5 ?_; (case k1 => k_asm); (case k2 => k_mem); (case k3 => omega); (case k4 => omega); (case k5 => omega); k_whole; intro _; (try simp only [Int.toNat_natCast]); (try dsimp only); (try k_fold)))))
theorem lon_ctr {w : World} {mean : ExcName → Option Value} {mg mb : Str → Option Value} (hl : Addr) (n : Nat) (hs : List (Int × Tok)) (h5 : hs.length = 5) 
    : Ctr w mean mg mb 93 [.ref hl] [] 6 (fun news => (hl, intsO hs n) ∈ news) (fun r => ∃ t', r = .int (longest (hs.map Prod.fst)) t') := by
  unfold Ctr
  k_fill
  intro dp un gd cn cs a ccd cl outer A₀ base h₀ L m news s Q E B F X N T hk hd hu hpre hret
  w_top off
  k_with_none
  k_with "call builtin:len" => (k_dflt (refine' len_L ?k1 ?k2 ?k3 ?_; (case k1 => k_asm); (case k2 => k_mem); (case k3 => (simp only [List.size_toArray, List.length_map]; omega)); k_whole))
  refine wpAny_call ?_
  k_dflt ktr_enter
  k_steps
  unfold Hold
  (rename Fr _ _ _ _ => lF'); (with_unfolding_all refine' For_invVF lF' ?k1 ?k2 ?_; (case k1 => exact rfl); (case k2 => exact rfl))
  try k_fold
  k_steps
  unfold Hold
  rename Fr _ _ _ _ => F1
  rename News _ _ _ _ => N1
  rename IsRange _ _ _ _ _ _ _ _ => hR1
  obtain ⟨l, oB, oS, oH, Lf, rfl, rfl, rfl, rfl, rfl⟩ := nm4 N1
  rename (_ ∧ _ ∧ _ ∧ AllLt _ news) => hlt
  obtain ⟨q1, q2, q3, q4⟩ := hlt
  rename (∀ p ∈ news, p.1 < _) => q5
  rename (oB.data = _) => dB
  rename (oS.data = _) => dS
  rename (oH.data = _) => dH
  change oB.data = Data.cell none at dB
  change oH.data = Data.cell (some (.ref hl)) at dH
  simp only [List.size_toArray, List.length_map, h5] at hR1
  refine' iter_R (σ := S3) (n := 5) (fun c => (l, intsO c.zs c.k) :: (_, c.ob) :: (_, oS) :: (_, oH) :: news) (fun c => []) [Str.ofString "i"]
    (fun i c => (∃ v, c.ob.data = .cell v) ∧ c.zs.map Prod.fst = sizesF (hs.map Prod.fst) i) ⟨[], 0, oB⟩ rfl hR1 (by omega) F1 N1 ?hk ?hp ?turn ?done
  case hk => exact List.forall_mem_nil _
  case hp => exact ⟨⟨_, dB⟩, rfl⟩
  case turn =>
    intro i t c u h tk I own hi hP hown hIown hLI Ft Nt
    obtain ⟨⟨vb, hb⟩, hsz⟩ := hP
    have hlen : c.zs.length = i := by rw [← List.length_map (f := Prod.fst), hsz, sizesF_len]
    have hI1 : l ≠ I := hLI _ (.head _)
    have hI2 := hLI _ (.tail _ (.head _))
    have hI3 := hLI _ (.tail _ (.tail _ (.head _)))
    have hI4 := hLI _ (.tail _ (.tail _ (.tail _ (.head _))))
    dsimp only at hI2 hI3 hI4
    have hO : ∀ d, I ≠ d → (∀ p ∈ news, p.1 ≠ d) → ∀ p ∈ own ++ news, p.1 ≠ d := by
      intro d h1 h2 p hp
      rcases List.mem_append.mp hp with hp | hp
      · rw [hown p hp]; exact h1
      · exact h2 p hp
    have e1 := hO _ hI1.symm (ne_tail q5 (by omega))
    have e2 := hO _ hI2.symm (ne_tail q5 (by omega))
    have e3 := hO _ hI3.symm (ne_tail q5 (by omega))
    have e4 := hO _ hI4.symm (ne_tail q5 (by omega))
    have hmem : (hl, intsO hs n) ∈ own ++ news := List.mem_append.mpr (.inr hpre)
    have Nt2 := cb_drop (news := (l, intsO c.zs c.k) :: (_, c.ob) :: (_, oS) :: (_, oH) :: (own ++ news)) Nt (by
      intro p hp
      rcases List.mem_cons.mp hp with rfl | hp
      · exact List.mem_append.mpr (.inr (.head _))
      · rcases List.mem_cons.mp hp with rfl | hp
        · exact List.mem_append.mpr (.inr (.tail _ (.head _)))
        · rcases List.mem_cons.mp hp with rfl | hp
          · exact List.mem_append.mpr (.inr (.tail _ (.tail _ (.head _))))
          · rcases List.mem_cons.mp hp with rfl | hp
            · exact List.mem_append.mpr (.inr (.tail _ (.tail _ (.tail _ (.head _)))))
            · rcases List.mem_append.mp hp with hp | hp
              · exact List.mem_append.mpr (.inl hp)
              · exact List.mem_append.mpr (.inr (.tail _ (.tail _ (.tail _ (.tail _ hp))))))
    clear Nt F1 N1 hO
    dsimp only [envOf] at Ft Nt2
    generalize hrest : own ++ news = rest at e1 e2 e3 e4 hmem Nt2
    try k_fold
    k_steps
    unfold Hold
    k_here
    (refine LCt.ListComp_T (F₀ := by k_asm) (by with_unfolding_all rfl) (by decide) (by rfl) (by decide) (by rfl) ?_)
    k_steps
    unfold Hold
    rename IsRange _ _ _ _ _ _ _ _ => hR2
    refine LCt.CompSrcT.range (n := i) (by rfl) (by k_asm) (by k_asm) hR2 (small_one (by decide) (by decide) (by omega) (by omega)) ((rangeSize_nat _ _).trans (by simp)) (by rw [PySem.sizeLine_eq]; omega) ?_
    intro g'
    refine' kci_range (selG (hs.map Prod.fst) (c.zs.map Prod.fst) i) (fun k' t' I' oI' C' oC' D' m' ys' l' h' tk' E' hlo' hhi' hI' hC' hx' F' N' off' ne' => ?_) ?_ ?_
    all_goals (try ((show KPfMark → _); intro hMark'))
    · k_steps
      · exact ⟨_, _, _, rfl, by assumption, by assumption, off', trivial, rfl, _, _, rfl, if_pos (by assumption)⟩
      · exact ⟨_, _, _, rfl, by assumption, by assumption, off', trivial, rfl, if_neg (by assumption)⟩
    · intro ys hys hylen D h6 tk6 F6 N6 off6
      simp only [LCg.Off1] at off6
      obtain ⟨u1, u2, u3, u4, u5, u6⟩ := off6
      try k_fold
      k_steps
      refine' app_I (rest := (Lf + 1 + 1 + 1, _) :: (Lf + 1 + 1, oS) :: (Lf + 1, oH) :: rest) ?k1 ?k2 ?k3 ?k4 ?k5 ?_
      case k1 => k_asm
      case k2 => k_asm
      case k3 => exact List.forall_mem_cons.mpr ⟨by k_mem, List.forall_mem_cons.mpr ⟨by k_mem, List.forall_mem_cons.mpr ⟨by k_mem, List.forall_mem_cons.mpr ⟨by k_mem, fun p hp => by (repeat (first | exact hp | refine List.mem_cons_of_mem _ ?_))⟩⟩⟩⟩
      case k4 => exact List.forall_mem_cons.mpr ⟨Nat.ne_of_lt q1, List.forall_mem_cons.mpr ⟨Nat.ne_of_lt q2, List.forall_mem_cons.mpr ⟨Nat.ne_of_lt q3, e1⟩⟩⟩
      case k5 => omega
      intro h9 F9 N9
      (try dsimp only); (try k_fold)
      k_steps
      k_steps
      rename (_ ∈ [0] ++ _) => hm1
      rename (∀ a ∈ [0] ++ _, _) => hm2
      have hM := mx_uniq hm1 hm2
      rename Fr _ _ _ _ => Fe
      rename (Obj.data _ = Data.cell (some (Value.int _ _))) => hob
      dsimp only [IterPost, IterEnd, envOfC]
      obtain ⟨mf, hmf, Fe⟩ := fr_name Fe
      refine ⟨⟨_, _, _⟩, _, _, mf, rfl, Fe, cb_drop N9 (by
        intro p hp
        rw [← hrest]
        rcases List.mem_append.mp hp with hp | hp
        · exact .tail _ (.tail _ (.tail _ (.tail _ (List.mem_append.mpr (.inl hp)))))
        · rcases List.mem_cons.mp hp with rfl | hp
          · exact .head _
          · rcases List.mem_cons.mp hp with rfl | hp
            · exact .tail _ (.head _)
            · rcases List.mem_cons.mp hp with rfl | hp
              · exact .tail _ (.tail _ (.head _))
              · rcases List.mem_cons.mp hp with rfl | hp
                · exact .tail _ (.tail _ (.tail _ (.head _)))
                · exact .tail _ (.tail _ (.tail _ (.tail _ (List.mem_append.mpr (.inr hp)))))), ?_, List.forall_mem_nil _, ?_, ⟨_, hob⟩, ?_⟩
      · intro q hq
        rcases List.mem_cons.mp hq with rfl | hq
        · exact hI1
        · rcases List.mem_cons.mp hq with rfl | hq
          · exact hI2
          · rcases List.mem_cons.mp hq with rfl | hq
            · exact hI3
            · rcases List.mem_cons.mp hq with rfl | hq
              · exact hI4
              · exact hLI q (.tail _ (.tail _ (.tail _ (.tail _ hq))))
      · intro z h1 h2
        have h3 := h2
        simp only [List.contains_cons, List.contains_nil, Bool.or_false, Bool.or_eq_false_iff, beq_eq_false_iff_ne, ne_eq] at h3
        rw [hmf]
        simp only [kstB, if_neg h3, h2, Bool.false_eq_true, if_false]
        rfl
      · rw [List.map_append, hsz, hM, hsz]; rfl
    · intro l6 k6
      unfold selG
      split
      · simp
      · omega
  case done =>
    intro c u h tk hP Ft Nt
    obtain ⟨⟨vb, hb⟩, hsz⟩ := hP
    clear F1 N1
    have hia := intsAre_map c.zs
    dsimp only [envOf] at Ft Nt
    try k_fold
    k_steps
    rename Fr _ _ _ _ => F5
    rename News _ _ _ _ => N5
    refine kso_max (vs := c.zs.map intV) F5 N5 (News.isL N5 List.mem_cons_self) hia (by rw [hsz, sizesF_len]; omega) rfl ?_
    intro h7 M7 t7 tk7 F7 N7 hm1 hm2
    clear F5 N5
    (try dsimp only); (try k_fold)
    k_steps
    refine hret (.int _ _) _ _ (by assumption) (cb_drop (by assumption) (fun p hp => .tail _ (.tail _ (.tail _ (.tail _ hp))))) ⟨_, congrArg (fun z => Value.int z _) ?_⟩
    rw [hsz] at hm1 hm2
    unfold longest
    cases hS : sizesF (hs.map Prod.fst) 5 with
    | nil => have := sizesF_len (hs.map Prod.fst) 5; rw [hS] at this; cases this
    | cons x r => rw [hS] at hm1 hm2; exact mx_uniq hm1 hm2
end Mine
end
section
set_option maxRecDepth 100000
set_option maxHeartbeats 20000000
set_option pp.maxSteps 20000
namespace Mine
local macro_rules | `(tactic| walk_at "binaryOp Add str str") => `(tactic| (k_here; (refine SBL.add (hsz := ?hsz) ?_); (case hsz => size_fits); intro _ _ _))
theorem zon_ctr {w : World} {mean : ExcName → Option Value} {mg mb : Str → Option Value} (mi d : Int) (t1 t2 : Tok) (hm : -720 ≤ mi ∧ mi ≤ 1440) (hd0 : 0 ≤ d ∧ d < 4) :
    Ctr w mean mg mb 83 [.int mi t1, .int d t2] [] 6 (fun _ => True) (fun r => ∃ t', r = .str (zoneF mi d) t') := by
  have hd4 : d = 0 ∨ d = 1 ∨ d = 2 ∨ d = 3 := by omega
  have hdm : 0 ≤ (if mi < 0 then -mi else mi).fdiv 60 ∧ (if mi < 0 then -mi else mi).fdiv 60 < 100 ∧ 0 ≤ (if mi < 0 then -mi else mi).fmod 60 ∧ (if mi < 0 then -mi else mi).fmod 60 < 100 := by
    rw [Int.fdiv_eq_ediv_of_nonneg _ (by decide), Int.fmod_eq_emod_of_nonneg _ (by decide)]
    split <;> omega
  obtain ⟨m1, m2, m3, m4⟩ := hdm
  unfold Ctr
  k_fill
  rcases hd4 with rfl | rfl | rfl | rfl
  all_goals
    intro dp un gd cn cs a ccd cl outer A₀ base h₀ L m news s Q E B F X N T hk hd hu hpre hret
    w_top off
    k_with_none
    refine wpAny_call ?_
    k_dflt ktr_enter
    k_steps
  all_goals
    refine hret (.str _ _) _ _ (by assumption) (by first | assumption | exact cb_drop (by assumption) (fun p hp => .tail _ hp) | exact cb_drop (by assumption) (fun p hp => .tail _ (.tail _ hp))) ⟨_, congrArg (fun z => Value.str z _) ?_⟩
    (try simp only [sl_rest hm, sl_hours hm, str_hours hm])
    unfold zoneF
    simp_all [Str.append_assoc]
  all_goals (rw [if_neg (by omega)])
end Mine
end
section
set_option maxRecDepth 100000
set_option maxHeartbeats 2000000
namespace Mine
section
variable {U : Int}
theorem getD_mul (vs : List Int) (i : Nat) : (vs.map (U * ·)).getD i 0 = U * vs.getD i 0 := by
  simp only [List.getD_eq_getElem?_getD, List.getElem?_map]
  cases vs[i]? with
  | none => simp
  | some x => rfl
theorem bR_mul (hU : 0 < U) (vs : List Int) (x : Int) : ∀ (f : Nat) (lo hi : Int), bR (vs.map (U * ·)) (U * x) f lo hi = bR vs x f lo hi
  | 0, _, _ => rfl
  | f + 1, lo, hi => by
    unfold bR
    simp only [getD_mul, bR_mul hU vs x f]
    split
    · by_cases h : x < vs.getD ((lo + hi) / 2).toNat 0
      · rw [if_pos h, if_pos (Int.mul_lt_mul_of_pos_left h hU)]
      · rw [if_neg h, if_neg (fun h' => h (Int.lt_of_mul_lt_mul_left h' (Int.le_of_lt hU)))]
    · rfl
theorem bL_mul (hU : 0 < U) (vs : List Int) (x : Int) : ∀ (f : Nat) (lo hi : Int), bL (vs.map (U * ·)) (U * x) f lo hi = bL vs x f lo hi
  | 0, _, _ => rfl
  | f + 1, lo, hi => by
    unfold bL
    simp only [getD_mul, bL_mul hU vs x f]
    split
    · by_cases h : vs.getD ((lo + hi) / 2).toNat 0 < x
      · rw [if_pos h, if_pos (Int.mul_lt_mul_of_pos_left h hU)]
      · rw [if_neg h, if_neg (fun h' => h (Int.lt_of_mul_lt_mul_left h' (Int.le_of_lt hU)))]
    · rfl
def upZ (U : Int) (g : Nat → Str × Tok) (y : ZV) : ZV := ⟨(g y.t).1, (g y.t).2, U * y.v⟩
variable {g : Nat → Str × Tok}
theorem up_vs (row : List ZV) : (row.map (upZ U g)).map ZV.v = (row.map ZV.v).map (U * ·) := by
  rw [List.map_map, List.map_map]; rfl
theorem kOf_up (hU : 0 < U) (odd : Int) (row : List ZV) (x : ZV) : kOf U odd (row.map (upZ U g)) (upZ U g x) = kOf 1 odd row x := by
  unfold kOf
  rw [up_vs, List.length_map]
  have h1 : ((upZ U g x).v.fdiv U) = x.v.fdiv 1 := by
    show (U * x.v).fdiv U = _
    rw [Int.mul_fdiv_cancel_left _ (by omega), Int.fdiv_one]
  rw [h1]
  show (if _ then bR _ (U * x.v) _ _ _ else bL _ (U * x.v) _ _ _) = _
  rw [bR_mul hU, bL_mul hU]
theorem ins_up (hU : 0 < U) (odd : Int) : ∀ (T : List (List ZV)) (x : ZV), insTab U odd (T.map (List.map (upZ U g))) (upZ U g x) = (insTab 1 odd T x).map (List.map (upZ U g))
  | [], _ => rfl
  | row :: rest, x => by
    rw [List.map_cons]
    unfold insTab
    rw [kOf_up hU, List.length_map]
    split
    · rw [List.map_cons, List.map_append]; rfl
    · rw [List.map_cons, List.map_set]
      have : (row.map (upZ U g)).getD (kOf 1 odd row x).toNat (upZ U g x) = upZ U g (row.getD (kOf 1 odd row x).toNat x) := by
        simp only [List.getD_eq_getElem?_getD, List.getElem?_map]
        cases row[(kOf 1 odd row x).toNat]? <;> rfl
      rw [this, ins_up hU odd rest]
theorem add_up (hU : 0 < U) (odd : Int) (T : List (List ZV)) (x : ZV) : tabAdd U odd (T.map (List.map (upZ U g))) (upZ U g x) = (tabAdd 1 odd T x).map (List.map (upZ U g)) := by
  unfold tabAdd
  have e : T.map (List.map (upZ U g)) ++ [[]] = (T ++ [[]]).map (List.map (upZ U g)) := by rw [List.map_append]; rfl
  rw [e, ins_up hU, List.filter_map]
  congr 1
  apply List.filter_congr
  intro r _
  cases r <;> rfl
theorem tab_up (hU : 0 < U) (odd : Int) : ∀ (zs : List ZV) (T : List (List ZV)), (zs.map (upZ U g)).foldl (tabAdd U odd) (T.map (List.map (upZ U g))) = (zs.foldl (tabAdd 1 odd) T).map (List.map (upZ U g))
  | [], _ => rfl
  | x :: zs, T => by
    rw [List.map_cons, List.foldl_cons, List.foldl_cons, add_up hU]
    exact tab_up hU odd zs _
theorem tabOf_up (hU : 0 < U) (odd : Int) (zs : List ZV) : tabOf U odd (zs.map (upZ U g)) = (tabOf 1 odd zs).map (List.map (upZ U g)) := tab_up hU odd zs []
end
/-- the columns of a table -/
def turnG {α : Type} (T : List (List α)) (w : Nat) : List (List α) := (List.range w).map fun k => T.filterMap fun row => row[k]?
theorem turn_map {α β : Type} (f : α → β) (T : List (List α)) (w : Nat) : turnG (T.map (List.map f)) w = (turnG T w).map (List.map f) := by
  unfold turnG
  rw [List.map_map]
  refine List.map_congr_left fun k _ => ?_
  rw [List.filterMap_map]
  show T.filterMap _ = (T.filterMap _).map f
  rw [List.map_filterMap]
  congr 1
  funext row
  simp
def mini (H : List Int) : List ZV := (List.range H.length).map fun i => ⟨⟨#[]⟩, i, H.getD i 0 - 1⟩
def vec (n : Nat) : List Int := [((n % 4 : Nat) : Int), ((n / 4 % 4 : Nat) : Int), ((n / 16 % 4 : Nat) : Int), ((n / 64 % 4 : Nat) : Int), ((n / 256 % 4 : Nat) : Int)]
def chkT (H : List Int) : Bool :=
  let T := (tabOf 1 0 (mini H)).map (List.map ZV.t)
  let T2 := (tabOf 1 1 (mini H).reverse).map (List.map ZV.t)
  let wd := longest H
  decide ((((T.headD []).length : Nat) : Int) = wd) && (decide (((T.length : Nat) : Int) = longest (H.map (3 - ·))) && (T2 == turnG T wd.toNat && !T.isEmpty))
def wrd (H : List Int) : List Nat := H.map fun v => 97 + v.toNat
def suf (xs ys : List Nat) : Nat := ((List.range 5).takeWhile fun j => Nat.beq (xs.getD (4 - j) 0) (ys.getD (16 - j) 0)).length
noncomputable def chkC (xs ys : List Nat) (k : Int) (cf : Nat) : Bool :=
  (List.range cf).all (fun j => Nat.beq (xs.getD (4 - j) 0) (ys.getD (16 - j) 0)) && ((Nat.beq cf 5 || !Nat.beq (xs.getD (4 - cf) 0) (ys.getD (16 - cf) 0)) && (Nat.ble cf 5 &&
    decide ((if cf = 5 then 24 else ((levR (xs.take (5 - cf)) (ys.take (17 - cf)) : Nat) : Int)) = 34 - 2 * k)))
noncomputable def chkA (n : Nat) : Bool := chkT (vec n) && (chkC (wn n) risL (longest (vec n)) (suf (wn n) risL) && chkC (wn n) falL (longest ((vec n).map (3 - ·))) (suf (wn n) falL))
theorem chk0 : (List.range' 0 64).all chkA = true := by decide +kernel
theorem chk1 : (List.range' 64 64).all chkA = true := by decide +kernel
theorem chk2 : (List.range' 128 64).all chkA = true := by decide +kernel
theorem chk3 : (List.range' 192 64).all chkA = true := by decide +kernel
theorem chk4 : (List.range' 256 64).all chkA = true := by decide +kernel
theorem chk5 : (List.range' 320 64).all chkA = true := by decide +kernel
theorem chk6 : (List.range' 384 64).all chkA = true := by decide +kernel
theorem chk7 : (List.range' 448 64).all chkA = true := by decide +kernel
theorem chk8 : (List.range' 512 64).all chkA = true := by decide +kernel
theorem chk9 : (List.range' 576 64).all chkA = true := by decide +kernel
theorem chk10 : (List.range' 640 64).all chkA = true := by decide +kernel
theorem chk11 : (List.range' 704 64).all chkA = true := by decide +kernel
theorem chk12 : (List.range' 768 64).all chkA = true := by decide +kernel
theorem chk13 : (List.range' 832 64).all chkA = true := by decide +kernel
theorem chk14 : (List.range' 896 64).all chkA = true := by decide +kernel
theorem chk15 : (List.range' 960 64).all chkA = true := by decide +kernel
theorem chk_all {n : Nat} (h : n < 1024) : chkA n = true := by
  have key : ∀ k, n / 64 = k → (List.range' (64 * k) 64).all chkA = true → chkA n = true := by
    intro k hk hc
    rw [List.all_eq_true] at hc
    exact hc n (by rw [List.mem_range'_1]; omega)
  rcases (by omega : n / 64 = 0 ∨ n / 64 = 1 ∨ n / 64 = 2 ∨ n / 64 = 3 ∨ n / 64 = 4 ∨ n / 64 = 5 ∨ n / 64 = 6 ∨ n / 64 = 7 ∨ n / 64 = 8 ∨ n / 64 = 9 ∨ n / 64 = 10 ∨ n / 64 = 11 ∨ n / 64 = 12 ∨ n / 64 = 13 ∨ n / 64 = 14 ∨ n / 64 = 15) with e | e | e | e | e | e | e | e | e | e | e | e | e | e | e | e
  · exact key 0 e chk0
  · exact key 1 e chk1
  · exact key 2 e chk2
  · exact key 3 e chk3
  · exact key 4 e chk4
  · exact key 5 e chk5
  · exact key 6 e chk6
  · exact key 7 e chk7
  · exact key 8 e chk8
  · exact key 9 e chk9
  · exact key 10 e chk10
  · exact key 11 e chk11
  · exact key 12 e chk12
  · exact key 13 e chk13
  · exact key 14 e chk14
  · exact key 15 e chk15
end Mine
end
section
set_option maxRecDepth 100000
set_option maxHeartbeats 2000000
namespace Mine
theorem dig {a q : Nat} (h : a < 4) : (a + 4 * q) % 4 = a ∧ (a + 4 * q) / 4 = q := by omega
theorem digs {a b c d e n : Nat} (ha : a < 4) (hb : b < 4) (hc : c < 4) (hd : d < 4) (he : e < 4) (hn : n = a + 4 * (b + 4 * (c + 4 * (d + 4 * e)))) :
    n % 4 = a ∧ n / 4 % 4 = b ∧ n / 16 % 4 = c ∧ n / 64 % 4 = d ∧ n / 256 % 4 = e := by
  have e1 : n / 4 = b + 4 * (c + 4 * (d + 4 * e)) := by rw [hn]; exact (dig ha).2
  have e2 : n / 16 = c + 4 * (d + 4 * e) := by rw [show 16 = 4 * 4 from rfl, ← Nat.div_div_eq_div_mul, e1]; exact (dig hb).2
  have e3 : n / 64 = d + 4 * e := by rw [show 64 = 16 * 4 from rfl, ← Nat.div_div_eq_div_mul, e2]; exact (dig hc).2
  have e4 : n / 256 = e := by rw [show 256 = 64 * 4 from rfl, ← Nat.div_div_eq_div_mul, e3]; exact (dig hd).2
  rw [e1, e2, e3, e4]
  exact ⟨by rw [hn]; exact (dig ha).1, (dig hb).1, (dig hc).1, (dig hd).1, Nat.mod_eq_of_lt he⟩
theorem n_lt {a b c d e : Nat} (ha : a < 4) (hb : b < 4) (hc : c < 4) (hd : d < 4) (he : e < 4) : a + 4 * (b + 4 * (c + 4 * (d + 4 * e))) < 1024 := by omega
theorem toN {a : Int} (h : 0 ≤ a ∧ a < 4) : ((a.toNat : Nat) : Int) = a ∧ a.toNat < 4 := by omega
theorem pl_ex {H : List Int} (h5 : H.length = 5) (hb : ∀ h ∈ H, 0 ≤ h ∧ h < 4) : ∃ n, vec n = H ∧ wn n = wrd H ∧ chkA n = true := by
  match H, h5 with
  | [a, b, c, d, e], _ =>
    obtain ⟨a1, a2⟩ := toN (hb a (.head _))
    obtain ⟨b1, b2⟩ := toN (hb b (.tail _ (.head _)))
    obtain ⟨c1, c2⟩ := toN (hb c (.tail _ (.tail _ (.head _))))
    obtain ⟨d1, d2⟩ := toN (hb d (.tail _ (.tail _ (.tail _ (.head _)))))
    obtain ⟨e1, e2⟩ := toN (hb e (.tail _ (.tail _ (.tail _ (.tail _ (.head _))))))
    obtain ⟨x1, x2, x3, x4, x5⟩ := digs a2 b2 c2 d2 e2 rfl
    refine ⟨_, ?_, ?_, chk_all (n_lt a2 b2 c2 d2 e2)⟩
    · unfold vec
      rw [x1, x2, x3, x4, x5, a1, b1, c1, d1, e1]
    · unfold wn
      rw [x1, x2, x3, x4, x5]; rfl
def zvs (g : Nat → Str × Tok) (U : Int) (H : List Int) : List ZV := (mini H).map (upZ U g)
theorem map_tt (X : List (List ZV)) (U : Int) (g : Nat → Str × Tok) : (X.map (List.map (upZ U g))).map (List.map ZV.z) = (X.map (List.map ZV.t)).map (List.map fun t => (g t).1) := by
  rw [List.map_map, List.map_map]
  refine List.map_congr_left fun r _ => ?_
  simp only [Function.comp, List.map_map]
  rfl
theorem pl_tab {H : List Int} (h5 : H.length = 5) (hb : ∀ h ∈ H, 0 ≤ h ∧ h < 4) {U : Int} (hU : 0 < U) (g : Nat → Str × Tok) :
    (tabOf U 0 (zvs g U H)) ≠ [] ∧ ((((tabOf U 0 (zvs g U H)).headD []).length : Nat) : Int) = longest H ∧ (((tabOf U 0 (zvs g U H)).length : Nat) : Int) = longest (H.map (3 - ·)) ∧
      (tabOf U 1 (zvs g U H).reverse).map (List.map ZV.z) = turnG ((tabOf U 0 (zvs g U H)).map (List.map ZV.z)) (longest H).toNat := by
  obtain ⟨n, hv, -, hc⟩ := pl_ex h5 hb
  unfold chkA at hc
  rw [hv] at hc
  rw [Bool.and_eq_true] at hc
  have hc := hc.1
  unfold chkT at hc
  simp only [Bool.and_eq_true, decide_eq_true_eq, beq_iff_eq] at hc
  obtain ⟨h1, h2, h3, h4⟩ := hc
  unfold zvs
  rw [← List.map_reverse, tabOf_up hU, tabOf_up hU]
  refine ⟨?_, ?_, ?_, ?_⟩
  · intro h
    rw [List.map_eq_nil_iff.mp h] at h4
    cases h4
  · rw [← h1]
    cases tabOf 1 0 (mini H) with
    | nil => rfl
    | cons r T => simp
  · rw [← h2]; simp
  · rw [map_tt, map_tt, h3, ← turn_map]
theorem pl_lev1 {H : List Int} (h5 : H.length = 5) {ys : List Nat} (hy : ys.length = 17) {k : Int} {cf : Nat} (h : chkC (wrd H) ys k cf = true) :
    cf ≤ 5 ∧ (∀ j < cf, (wrd H).getD (4 - j) 0 = ys.getD (16 - j) 0) ∧ (cf < 5 → (wrd H).getD (4 - cf) 0 ≠ ys.getD (16 - cf) 0) ∧ levV ((wrd H).take (5 - cf)) (ys.take (17 - cf)) = 34 - 2 * k := by
  unfold chkC at h
  simp only [Bool.and_eq_true, decide_eq_true_eq, List.all_eq_true, Bool.or_eq_true, Bool.not_eq_true'] at h
  obtain ⟨h1, h2, h3, h4⟩ := h
  have hcf := Nat.le_of_ble_eq_true h3
  have hx : (wrd H).length = 5 := by unfold wrd; rw [List.length_map, h5]
  refine ⟨hcf, fun j hj => Nat.eq_of_beq_eq_true (h1 j (List.mem_range.mpr hj)), fun hlt e => ?_, ?_⟩
  · rcases h2 with h2 | h2
    · have := Nat.eq_of_beq_eq_true h2; omega
    · rw [e, Nat.beq_refl] at h2; cases h2
  · rw [← h4]
    by_cases e : cf = 5
    · subst e
      rw [if_pos rfl]
      unfold levV
      rw [if_pos (.inl (by simp)), List.length_take, List.length_take, hx, hy]; rfl
    · rw [if_neg e, levR_eq]
      refine lev_eq ?_ ?_ ?_
      · intro h; have := congrArg List.length h; rw [List.length_take, hx, List.length_nil] at this; omega
      · intro h; have := congrArg List.length h; rw [List.length_take, hy, List.length_nil] at this; omega
      · rw [List.length_take, hy]; omega
theorem pl_lev {H : List Int} (h5 : H.length = 5) (hb : ∀ h ∈ H, 0 ≤ h ∧ h < 4) :
    (∃ cf, cf ≤ 5 ∧ (∀ j < cf, (wrd H).getD (4 - j) 0 = risL.getD (16 - j) 0) ∧ (cf < 5 → (wrd H).getD (4 - cf) 0 ≠ risL.getD (16 - cf) 0) ∧ levV ((wrd H).take (5 - cf)) (risL.take (17 - cf)) = 34 - 2 * longest H) ∧
    (∃ cf, cf ≤ 5 ∧ (∀ j < cf, (wrd H).getD (4 - j) 0 = falL.getD (16 - j) 0) ∧ (cf < 5 → (wrd H).getD (4 - cf) 0 ≠ falL.getD (16 - cf) 0) ∧ levV ((wrd H).take (5 - cf)) (falL.take (17 - cf)) = 34 - 2 * longest (H.map (3 - ·))) := by
  obtain ⟨n, hv, hw, hc⟩ := pl_ex h5 hb
  unfold chkA at hc
  rw [hv, hw] at hc
  simp only [Bool.and_eq_true] at hc
  exact ⟨⟨_, pl_lev1 h5 rfl hc.2.1⟩, ⟨_, pl_lev1 h5 rfl hc.2.2⟩⟩
theorem wrd_low {H : List Int} (hb : ∀ h ∈ H, 0 ≤ h ∧ h < 4) : ∀ c ∈ wrd H, 97 ≤ c ∧ c ≤ 100 := by
  intro c hc
  obtain ⟨v, hv, rfl⟩ := List.mem_map.mp hc
  have := hb v hv
  omega
end Mine
end
section
set_option maxRecDepth 100000
set_option maxHeartbeats 20000000
set_option pp.maxSteps 20000
namespace Mine
theorem intsAre_zip {ws : List Value} {ns : List Int} (h : IntsAre ws ns) : ∃ zs : List (Int × Tok), ws = zs.map intV ∧ zs.map Prod.fst = ns := by
  induction h with
  | nil => exact ⟨[], rfl, rfl⟩
  | cons n t _ ih => obtain ⟨zs, h1, h2⟩ := ih; exact ⟨(n, t) :: zs, by rw [h1]; rfl, by rw [List.map_cons, h2]⟩
theorem frPick {g : Heap} {L : Addr} {h : Heap} {m : Str → Option Value} (F : Fr g L h m) (x : Str) (v : Value) (e : m x = some v) : Fr g L h (fun y => if y = x then some v else m y) :=
  fr_eq F fun y => by
    by_cases hy : y = x
    · subst hy; rw [if_pos rfl, e]
    · rw [if_neg hy]
theorem frName {g : Heap} {L : Addr} {h : Heap} {m : Str → Option Value} (F : Fr g L h m) : ∃ m', Fr g L h m' ∧ m' = m := ⟨m, F, rfl⟩
theorem cellU {g h : Heap} {L a b c d e u t : Addr} {oa ob oc od oe oU oT : Obj} (hN9 : News g L h [(a, oa), (b, ob), (c, oc), (d, od), (e, oe), (u, oU), (t, oT)]) : ∃ oU' oT', oU' = oU ∧ oT' = oT := ⟨_, _, rfl, rfl⟩
theorem fmod720 (x : Int) : ∃ U : Int, U = 1 + x.fmod 720 ∧ 1 ≤ U ∧ U ≤ 720 := ⟨_, rfl, by have := Int.fmod_nonneg_of_pos x (b := 720) (by omega); omega, by have := Int.fmod_lt_of_pos x (b := 720) (by omega); omega⟩
theorem cell3 {g h : Heap} {L b c : Addr} {news : List (Addr × Obj)} {ob oc : Obj} (hN9 : News g L h (news ++ [(b, ob), (c, oc)])) : ∃ ob' oc', ob' = ob ∧ oc' = oc := ⟨_, _, rfl, rfl⟩
section
variable {prog : Program} {w : World} {A : Around} {h₀ : Heap} {L : Addr} {m : Str → Option Value} {env : Env} {elt : Expr} {x : Str} {scope : Scope} {cl : List (Str × Addr)} {s : Shared} {S : List (Addr × Obj) → Prop} {P : Nat → Value → Prop} {Fin : List Value → List (Addr × Obj) → Prop} {news : List (Addr × Obj)}
theorem cmp_inv {n : Nat} (J : Nat → List Value → List (Addr × Obj) → Prop) (h0 : J 0 [] news)
    (turn : ∀ i v I oI C oC D m₂ ys nw h tk (E' : Value → Shared → Prop), i < n → P i v → J i ys nw → LCg.NsObj oC m₂ → m₂ x = some v → Fr h₀ L h m → News h₀ L h ((I, oI) :: (C, oC) :: (D, LCg.lst ys) :: nw) → LCg.Off3 I C D nw → ((@Ne Nat I C) ∧ (@Ne Nat I D) ∧ (@Ne Nat C D)) →
      wpAny (model prog w) A (eval elt (compEnvC scope cl C env)) (LCg.CompEnd h₀ L m { s with heap := h, toks := tk } I oI C oC D (LCg.lst ys) S (fun y nw' => J (i + 1) (ys ++ [y]) nw')) E' { s with heap := h, toks := tk })
    (fin : ∀ ys nw, J n ys nw → Fin ys nw) : LCg.CompRest prog w A h₀ L m env elt x scope cl s S P Fin n 0 [] news := by
  have key : ∀ (j i : Nat) (ys : List Value) nw, i + j = n → J i ys nw → LCg.CompRest prog w A h₀ L m env elt x scope cl s S P Fin j i ys nw := by
    intro j
    induction j with
    | zero =>
      intro i ys nw hi hy
      have e : i = n := by omega
      subst e
      exact LCg.CompRest.zero (fin ys nw hy)
    | succ j ih =>
      intro i ys nw hi hy
      refine LCg.CompRest.succ ?_
      intro v I oI C oC D m₂ h tk E' hv hC hx F N off ne
      refine wpAny_mono (turn i v I oI C oC D m₂ ys nw h tk E' (by omega) hv hy hC hx F N off ne) (fun y s₂ hq => ?_) fun _ _ e => e
      obtain ⟨h', tk', nw', e, F', N', off', hS, hJ⟩ := hq
      exact ⟨h', tk', nw', e, F', N', off', hS, ih (i + 1) _ nw' (by omega) hJ⟩
  exact key n 0 [] news (by omega) h0
end
theorem hd_name2 {g h : Heap} {L : Addr} {a : Addr} {o : Obj} {rest : List (Addr × Obj)} (hN9 : News g L h ((a, o) :: rest)) : ∃ D o', D = a ∧ o' = o := ⟨_, _, rfl, rfl⟩
theorem intsO_at {zs : List (Int × Tok)} {i : Nat} {v : Value} (h : (zs.map intV).toArray[i]? = some v) : ∃ k t, zs[i]? = some (k, t) ∧ v = .int k t := by
  simp only [List.getElem?_toArray, List.getElem?_map] at h
  cases e : zs[i]? with
  | none => rw [e] at h; cases h
  | some z => rw [e] at h; exact ⟨z.1, z.2, rfl, (Option.some.inj h).symm⟩
abbrev zoG (U : Int) (z : Int × Tok) : Str := zoneF ((z.1.fmod 4 - 1) * U) ((z.1.fdiv 4).fmod 4)
theorem zoG_ok {U k : Int} (h1 : 1 ≤ U) (h2 : U ≤ 720) : (-720 ≤ (k.fmod 4 - 1) * U ∧ (k.fmod 4 - 1) * U ≤ 1440) ∧ (0 ≤ (k.fdiv 4).fmod 4 ∧ (k.fdiv 4).fmod 4 < 4) := by
  have a1 := Int.fmod_nonneg_of_pos k (b := 4) (by omega)
  have a2 := Int.fmod_lt_of_pos k (b := 4) (by omega)
  have b1 := Int.fmod_nonneg_of_pos (k.fdiv 4) (b := 4) (by omega)
  have b2 := Int.fmod_lt_of_pos (k.fdiv 4) (b := 4) (by omega)
  refine ⟨?_, b1, b2⟩
  have : k.fmod 4 = 0 ∨ k.fmod 4 = 1 ∨ k.fmod 4 = 2 ∨ k.fmod 4 = 3 := by omega
  rcases this with e | e | e | e <;> rw [e] <;> omega
theorem zo_snoc {U : Int} {zs : List (Int × Tok)} {zt : List (Str × Tok)} {i : Nat} {k : Int} {t t' : Tok} (hk : zs[i]? = some (k, t)) (h : zt.map Prod.fst = (zs.take i).map (zoG U)) : (zt ++ [(zoG U (k, t), t')]).map Prod.fst = (zs.take (i + 1)).map (zoG U) := by
  rw [List.take_add_one, hk, List.map_append, List.map_append, h]; rfl
abbrev ofG (U : Int) (z : Int × Tok) : Int := 60 * ((z.1.fmod 4 - 1) * U)
theorem of_snoc {U : Int} {zs : List (Int × Tok)} {os : List (Int × Tok)} {i : Nat} {k : Int} {t t' : Tok} (hk : zs[i]? = some (k, t)) (h : os.map Prod.fst = (zs.take i).map (ofG U)) : (os ++ [(ofG U (k, t), t')]).map Prod.fst = (zs.take (i + 1)).map (ofG U) := by
  rw [List.take_add_one, hk, List.map_append, List.map_append, h]; rfl
theorem strsO_at {zt : List (Str × Tok)} {i : Nat} {v : Value} (h : (zt.map strV).toArray[i]? = some v) : ∃ z t, zt[i]? = some (z, t) ∧ v = .str z t := by
  simp only [List.getElem?_toArray, List.getElem?_map] at h
  cases e : zt[i]? with
  | none => rw [e] at h; cases h
  | some z => rw [e] at h; exact ⟨z.1, z.2, rfl, (Option.some.inj h).symm⟩
theorem zt_at {U : Int} {zs : List (Int × Tok)} {zt : List (Str × Tok)} {i : Nat} {z : Str} {t : Tok} (h : zt.map Prod.fst = zs.map (zoG U)) (hz : zt[i]? = some (z, t)) : ∃ k t', zs[i]? = some (k, t') ∧ z = zoG U (k, t') := by
  have e := congrArg (·[i]?) h
  simp only [List.getElem?_map, hz] at e
  cases e2 : zs[i]? with
  | none => rw [e2] at e; cases e
  | some q => rw [e2] at e; exact ⟨q.1, q.2, rfl, Option.some.inj e⟩
theorem nums5 (w : List Int) : (List.take 5 w ++ List.drop ((List.take 5 w).length : Int).toNat [13, 7, 0, 10, 21]).length = 5 := by
  rw [List.length_append, List.length_drop, Int.toNat_natCast, List.length_take, List.length_cons, List.length_cons, List.length_cons, List.length_cons, List.length_cons, List.length_nil]; omega
end Mine
end
section
open PySem PySem.W PyProof.Rows PySem.Spec PySem.Calls
set_option maxRecDepth 100000
set_option maxHeartbeats 2000000
namespace Mine
def Off4 (I C K D : Addr) (nw : List (Addr × Obj)) : Prop := ∀ p ∈ nw, (@Ne Nat p.1 I) ∧ (@Ne Nat p.1 C) ∧ (@Ne Nat p.1 K) ∧ (@Ne Nat p.1 D)
def EndC (h₀ : Heap) (L : Addr) (m : Str → Option Value) (s₁ : Shared) (I : Addr) (oI : Obj) (C : Addr) (oC : Obj) (K : Addr) (oK : Obj) (D : Addr) (oD : Obj) (rest : Value → List (Addr × Obj) → Prop) (y : Value) (s₂ : Shared) : Prop :=
  ∃ h' tk nw, s₂ = { s₁ with heap := h', toks := tk } ∧ Fr h₀ L h' m ∧ News h₀ L h' ((I, oI) :: (C, oC) :: (K, oK) :: (D, oD) :: nw) ∧ Off4 I C K D nw ∧ rest y nw
def TurnC (prog : Program) (w : World) (A : Around) (h₀ : Heap) (L : Addr) (m : Str → Option Value) (env : Env) (elt : Expr) (x : Str) (scope : Scope) (cl : List (Str × Addr)) (s : Shared) (n : Nat) (J : Nat → List Value → List (Addr × Obj) → Prop) : Prop :=
  ∀ (i : Nat) (t : Tok) I oI C oC K oK D ys nw h tk (E' : Value → Shared → Prop), i < n → J i ys nw → oK.data = .cell (some (.int (i : Int) t)) → Fr h₀ L h m → News h₀ L h ((I, oI) :: (C, oC) :: (K, oK) :: (D, LCg.lst ys) :: nw) → Off4 I C K D nw →
    ((@Ne Nat I C) ∧ (@Ne Nat I K) ∧ (@Ne Nat I D) ∧ (@Ne Nat C K) ∧ (@Ne Nat C D) ∧ (@Ne Nat K D)) →
    wpAny (model prog w) A (eval elt (compEnvC scope ((x, K) :: cl) C env)) (EndC h₀ L m { s with heap := h, toks := tk } I oI C oC K oK D (LCg.lst ys) (fun y nw' => J (i + 1) (ys ++ [y]) nw')) E' { s with heap := h, toks := tk }
section
variable {M : Model} {A : Around} {E : Value → Shared → Prop} {s : Shared}
theorem newEnv_C {scope : Scope} {globals : Addr} {cl : List (Str × Addr)} {qual : Str} {outer : Env} {Q : Env → Shared → Prop} {x : Str}
    (hcf : ∀ n, cellsFrom n scope.names cl = (x, n) :: cl) (hpc : ∀ h, pushCells h scope.names = h.push { cls := .type "cell", data := .cell none })
    (hQ : Q (newEnv scope s.heap.objs.size globals ((x, s.heap.objs.size + 1) :: cl) qual none .none (some outer) builtinsNs) { s with heap := (s.heap.push { cls := .type "dict", data := .dict #[] }).push { cls := .type "cell", data := .cell none } }) :
    wpAny M A (newFunctionEnv scope globals cl [] qual none .none (some outer)) Q E s := by
  simp only [newFunctionEnv, Option.isSome_some, if_true]
  refine wpAny_bind (wpAny_alloc ?_)
  refine wpAny_bind (wpAny_layCells _ (fun name kind cells => by cases hkc : kind == NameKind.cell <;> simp) _ _ _ _ ?_)
  rw [hcf, hpc]
  refine wpAny_bind ?_
  rw [List.forIn_nil]
  refine wpAny_pure (wpAny_pure ?_)
  rw [show ({ s with heap := s.heap.push { cls := .type "dict", data := .dict #[] } } : Shared).heap.objs.size = s.heap.objs.size + 1 from Heap.size_push ..]
  exact hQ
end
section
variable {prog : Program} {w : World} {A : Around} {E : Value → Shared → Prop} {s : Shared} {h₀ : Heap} {L : Addr} {m : Str → Option Value} {env : Env}
theorem nes {d I L : Nat} (hI : I < d) (hL : L < d) : (d ≠ I ∧ d + 1 ≠ I ∧ d + 2 ≠ I) ∧ (d ≠ L ∧ d + 1 ≠ L ∧ d + 2 ≠ L) ∧ (I ≠ d ∧ I ≠ d + 1 ∧ I ≠ d + 2) :=
  ⟨⟨Nat.ne_of_gt hI, Nat.ne_of_gt (Nat.lt_succ_of_lt hI), Nat.ne_of_gt (Nat.lt_succ_of_lt (Nat.lt_succ_of_lt hI))⟩, ⟨Nat.ne_of_gt hL, Nat.ne_of_gt (Nat.lt_succ_of_lt hL), Nat.ne_of_gt (Nat.lt_succ_of_lt (Nat.lt_succ_of_lt hL))⟩,
    ⟨Nat.ne_of_lt hI, Nat.ne_of_lt (Nat.lt_succ_of_lt hI), Nat.ne_of_lt (Nat.lt_succ_of_lt (Nat.lt_succ_of_lt hI))⟩⟩
theorem nes3 (d : Nat) : d ≠ d + 1 ∧ d ≠ d + 2 ∧ d + 1 ≠ d ∧ d + 2 ≠ d ∧ d + 1 ≠ d + 2 ∧ d + 2 ≠ d + 1 := by omega
theorem block_C {elt iter : Expr} {x : Str} {px : Pos} {scope : Scope} {cl : List (Str × Addr)} {pos : Pos} {s₂ : Shared} {I : Addr} {n : Nat} {news : List (Addr × Obj)}
    {J : Nat → List Value → List (Addr × Obj) → Prop} {RR : Value → Addr → Result → Shared → Prop}
    (hh : A.handled = none) (hsz : n ≤ sizeLine)
    (hcf : ∀ n, cellsFrom n scope.names cl = (x, n) :: cl) (hpc : ∀ h, pushCells h scope.names = h.push { cls := .type "cell", data := .cell none })
    (hkind : scope.kind = .function) (hx : (relabel scope env).names.lookup x = some .cell) (hst : IsRangeIter s₂.heap I 0 (n : Int) 1) (hIlt : @LT.lt Nat _ I s₂.heap.objs.size)
    (F : Fr h₀ L s₂.heap m) (N : News h₀ L s₂.heap news) (hIL : L ≠ I) (hI₀ : h₀.get? I = none) (off : ∀ p ∈ news, p.1 ≠ I)
    (hJ : J 0 [] news) (turn : TurnC prog w A h₀ L m env elt x scope cl s₂ n J)
    (hRR : ∀ D C h tk m' ys news', Fr h₀ L h m → News h₀ L h ((D, LCg.lst ys) :: news') → LCg.Off1 D news' → h.Ns C m' → h₀.get? C = none → h₀.get? D = none → C ≠ L → D ≠ L → C ≠ D → (∀ p ∈ news', p.1 ≠ C) → J n ys news' → RR (.ref D) C (.ok .next) { s₂ with heap := h, toks := tk }) :
    wpAny (model prog w) A (newList []) (fun acc s₃ => wpAny (model prog w) A (newFunctionEnv scope env.globals cl [] env.qual none .none (some env)) (fun cenv s₄ =>
      codeAny (model prog w) A (.compStart (.ListComp elt [⟨.Name x px, iter, [], 0⟩] scope pos) 0 (.ref I) acc { cenv with scope := relabel scope env }) (RR acc cenv.locals) s₄) E s₃) E s₂ := by
  refine wpAny_newObj_type (newEnv_C hcf hpc ?_)
  dsimp only
  generalize hH2 : s₂.heap.push { cls := .type "list", dict := none, data := .seq ([] : List Value).toArray } = H2
  generalize hH3 : H2.push { cls := .type "dict", data := .dict #[] } = H3
  generalize hH4 : H3.push { cls := .type "cell", data := .cell none } = H4
  have hC : H2.objs.size = s₂.heap.objs.size + 1 := by rw [← hH2, Heap.size_push]
  have hK : H3.objs.size = s₂.heap.objs.size + 2 := by rw [← hH3, Heap.size_push, hC]
  have hacc : H4.get? s₂.heap.objs.size = some (LCg.lst []) := hH4 ▸ Heap.get?_push_of_some _ (hH3 ▸ Heap.get?_push_of_some _ (hH2 ▸ Heap.get?_push_size _ rfl))
  have hdict : H4.get? H2.objs.size = some { cls := .type "dict", data := .dict #[] } := hH4 ▸ Heap.get?_push_of_some _ (hH3 ▸ Heap.get?_push_size _ rfl)
  have hcell : H4.get? H3.objs.size = some { cls := .type "cell", data := .cell none } := hH4 ▸ Heap.get?_push_size _ rfl
  rw [hK] at hcell
  rw [hC] at hdict ⊢
  generalize hd : s₂.heap.objs.size = d at *
  have old : ∀ b o, s₂.heap.get? b = some o → H4.get? b = some o := fun b o e => hH4 ▸ Heap.get?_push_of_some _ (hH3 ▸ Heap.get?_push_of_some _ (hH2 ▸ Heap.get?_push_of_some _ e))
  have lt : ∀ b o, s₂.heap.get? b = some o → @LT.lt Nat _ b d := fun b o e => hd ▸ Heap.lt_size e
  have fresh₀ : ∀ a, d ≤ a → h₀.get? a = none := fun a ha => by
    cases e : h₀.get? a with
    | none => rfl
    | some o' => exact absurd (lt _ _ (F.keep a o' e)) (Nat.not_lt.mpr ha)
  have hD₀ := fresh₀ d (Nat.le_refl _)
  have hC₀ := fresh₀ (d + 1) (Nat.le_succ _)
  have hK₀ := fresh₀ (d + 2) (Nat.le_add_right _ _)
  have hLlt : @LT.lt Nat _ L d := hd ▸ F.ns.lt
  obtain ⟨⟨nDI, nCI, nKI⟩, ⟨nDL, nCL, nKL⟩, ⟨nID, nIC, nIK⟩⟩ := nes hIlt hLlt
  obtain ⟨nDC, nDK, nCD, nKD, nCK, nKC⟩ := nes3 d
  have W := LCg.range_walks (prog := prog) (w := w) (A := A) (I := I) hh 0 n
  have nsC : H4.Ns (d + 1) (fun _ => none) := ⟨_, _, _, hdict, rfl, by intro e he; simp at he, fun _ => rfl⟩
  have loop : ∀ s₃ : Shared, s₃ = { s₂ with heap := H4 } →
      codeAny (model prog w) A (.compLoop (.ListComp elt [⟨.Name x px, iter, [], 0⟩] scope pos) 0 (.ref I) (.ref d) (compEnvC scope ((x, d + 2) :: cl) (d + 1) env))
        (RR (.ref d) (d + 1)) s₃ := by
    rintro s₃ rfl
    refine codeAny_compLoop_tests
      (fun k s' => ∃ h' tk i ys m' oK v₀ news', s' = { s₂ with heap := h', toks := tk } ∧ i ≤ n ∧ k = n + 1 - i ∧ ys.length = i ∧ IsRangeIter h' I (0 + (i : Nat) * 1) ((n : Int) - (i : Nat)) 1 ∧ Fr h₀ L h' m ∧ h'.Ns (d + 1) m' ∧ oK.data = .cell v₀ ∧ News h₀ L h' ((d + 2, oK) :: (d, LCg.lst ys) :: news') ∧
        Off4 I (d + 1) (d + 2) d news' ∧ J i ys news') ?_ (n + 1)
      ⟨H4, _, 0, [], _, { cls := .type "cell", data := .cell none }, none, news, rfl, Nat.zero_le _, rfl, rfl, ?_, F.keeps old, nsC, rfl, fun p hp => ?_, ?_, hJ⟩
    · rintro k s' ⟨h', tk, i, ys, m', oK, v₀, news', rfl, hi, rfl, hyl, hst', F', hn', hoK, N', off', R'⟩
      by_cases hlt : i < n
      · refine W.item i _ _ _ hlt hst' fun v h₂ tk₂ hPv hst₂ hk₂ => ?_
        obtain ⟨t, rfl⟩ := hPv
        have zK := N' _ (.head _)
        have zD := N' _ (.tail _ (.head _))
        have hKI : d + 2 ≠ I := nKI
        have hCI : d + 1 ≠ I := nCI
        have hDI : d ≠ I := nDI
        refine wpAny_assign_Name (wpAny_storeName_cell (env := compEnvC scope ((x, d + 2) :: cl) (d + 1) env) (c := d + 2) (by show scope.kind = .function; exact hkind) hx (by show List.lookup x ((x, d + 2) :: cl) = some (d + 2); simp) ⟨oK, hk₂ _ _ (by simpa using hKI) zK.1, hoK⟩ (fun h₃ hc₃ hs₃ => ?_))
        obtain ⟨oK', heK, hdK⟩ := hc₃
        refine wpAny_tests_nil ?_
        simp only [if_true]
        have hst₃ := W.frame _ _ _ hst₂ fun b hb o e => hs₃.extBut b o (fun q => hKI (by rw [← q]; exact List.mem_singleton.mp hb)) e
        have heI : h₃.get? I = some _ := hst₃
        have hn₂ : h₂.Ns (d + 1) m' := hn'.at' fun o e => hk₂ _ o (by simpa using hCI) e
        have hn₃ : h₃.Ns (d + 1) m' := hn₂.sameBut hs₃ (by assumption)
        obtain ⟨oC, heC, hoC⟩ := LCg.ns_obj hn₃
        have F₃ : Fr h₀ L h₃ m := (LCg.fr_but F' hk₂ hIL hI₀).change hs₃ (by assumption) hK₀
        have e3 : ∀ p ∈ (d, LCg.lst ys) :: news', h₃.get? p.1 = some p.2 ∧ p.1 ≠ L ∧ h₀.get? p.1 = none := fun p hp => by
          have z := N' p (.tail _ hp)
          have hpI : p.1 ≠ I := by
            rcases List.mem_cons.mp hp with rfl | hp
            · exact hDI
            · exact (off' p hp).1
          have hpK : p.1 ≠ d + 2 := by
            rcases List.mem_cons.mp hp with rfl | hp
            · exact nDK
            · exact (off' p hp).2.2.1
          exact ⟨hs₃.extBut _ _ hpK (hk₂ _ _ (by simpa using hpI) z.1), z.2⟩
        have N₃ : News h₀ L h₃ ((I, _) :: (d + 1, oC) :: (d + 2, oK') :: (d, LCg.lst ys) :: news') := fun p hp => by
          rcases List.mem_cons.mp hp with rfl | hp
          · exact ⟨heI, Ne.symm hIL, hI₀⟩
          · rcases List.mem_cons.mp hp with rfl | hp
            · exact ⟨heC, nCL, hC₀⟩
            · rcases List.mem_cons.mp hp with rfl | hp
              · exact ⟨heK, nKL, hK₀⟩
              · exact e3 p hp
        refine wpAny_mono (turn i t I _ (d + 1) oC (d + 2) oK' d ys news' h₃ _ _ hlt R' (by rw [hdK, Int.zero_add]) F₃ N₃ off' ⟨nIC, nIK, nID, nCK, nCD, nKD⟩) (fun y s₄ h₄ => ?_) fun _ _ e => e
        obtain ⟨h₄, tk₄, news₄, rfl, F₄, N₄, off₄, R₄⟩ := h₄
        have zI := (N₄ _ (.head _)).1
        have zC := (N₄ _ (.tail _ (.head _))).1
        have zK := N₄ _ (.tail _ (.tail _ (.head _)))
        have zD := (N₄ _ (.tail _ (.tail _ (.tail _ (.head _))))).1
        have N₄' : News h₀ L h₄ news₄ := fun p hp => N₄ p (.tail _ (.tail _ (.tail _ (.tail _ hp))))
        refine append_at (hsz := by show ys.toArray.size ≤ sizeLine; rw [List.size_toArray, hyl]; exact Nat.le_trans hi hsz) zD fun h₅ hs₅ hD₅ => ?_
        refine ⟨n + 1 - (i + 1), Nat.sub_lt_sub_left (Nat.lt_succ_of_lt hlt) (Nat.lt_succ_self i), h₅, tk₄, i + 1, ys ++ [y], _, oK', _, news₄, rfl, hlt, rfl, by rw [List.length_append, List.length_singleton, hyl], hs₅.extBut _ _ (by assumption) zI, F₄.change hs₅ (by assumption) hD₀,
          (hoC.ns zC).sameBut hs₅ (by assumption), hdK, fun p hp => ?_, off₄, R₄⟩
        rcases List.mem_cons.mp hp with rfl | hp
        · exact ⟨hs₅.extBut _ _ nKD zK.1, zK.2⟩
        · rcases List.mem_cons.mp hp with rfl | hp
          · exact ⟨hD₅.trans (congrArg some (LCg.lst_snoc ys y)), nDL, hD₀⟩
          · exact ⟨hs₅.extBut _ _ (off₄ p hp).2.2.2 (N₄' p hp).1, (N₄' p hp).2⟩
      · obtain rfl : i = n := Nat.le_antisymm hi (Nat.not_lt.mp hlt)
        refine W.done _ _ _ hst' fun h₂ tk₂ hk₂ => ?_
        have hDI : d ≠ I := nDI
        have hCI : d + 1 ≠ I := nCI
        exact hRR _ _ h₂ tk₂ _ ys news' (LCg.fr_but F' hk₂ hIL hI₀) (LCg.news_but (fun p hp => N' p (.tail _ hp)) hk₂ fun p hp => by
          rcases List.mem_cons.mp hp with rfl | hp
          · exact hDI
          · exact (off' p hp).1) (by
            clear hRR R' N'
            induction news' with
            | nil => trivial
            | cons p r ih => exact ⟨(off' p (.head _)).2.2.2, ih fun q hq => off' q (.tail _ hq)⟩) (hn'.at' fun o e => hk₂ _ o (by simpa using hCI) e) hC₀ hD₀ (by assumption) (by assumption) (by assumption) (fun p hp => (off' p hp).2.1) R'
    · show IsRangeIter H4 I (0 + ((0 : Nat) : Int) * 1) ((n : Int) - ((0 : Nat) : Int)) 1
      have e1 : (0 + ((0 : Nat) : Int) * 1) = 0 := rfl
      have e2 : ((n : Int) - ((0 : Nat) : Int)) = n := Int.sub_zero _
      rw [e1, e2]
      exact old _ _ hst
    · rcases List.mem_cons.mp hp with rfl | hp
      · exact ⟨hcell, nKL, hK₀⟩
      · rcases List.mem_cons.mp hp with rfl | hp
        · exact ⟨hacc, nDL, hD₀⟩
        · exact ⟨old _ _ (N p hp).1, (N p hp).2⟩
    · intro p hp
      have := lt _ _ (N p hp).1
      exact ⟨off p hp, Nat.ne_of_lt (Nat.lt_succ_of_lt this), Nat.ne_of_lt (Nat.lt_succ_of_lt (Nat.lt_succ_of_lt this)), Nat.ne_of_lt this⟩
  exact codeAny_compStart_list (loop _ rfl) (W.self 0 _ _ _ (by
      show IsRangeIter H4 I (0 + ((0 : Nat) : Int) * 1) ((n : Int) - ((0 : Nat) : Int)) 1
      have e1 : (0 + ((0 : Nat) : Int) * 1) = 0 := rfl
      have e2 : ((n : Int) - ((0 : Nat) : Int)) = n := Int.sub_zero _
      rw [e1, e2]
      exact old _ _ hst) (loop _ rfl))
def SrcC (prog : Program) (w : World) (A : Around) (h₀ : Heap) (L : Addr) (m : Str → Option Value) (env : Env) (elt : Expr) (x : Str) (scope : Scope) (cl : List (Str × Addr)) (y : Str) (Q : Flow → Shared → Prop) (xv : Value) (s₁ : Shared) : Prop :=
  ∃ r b t u v n news J, xv = .ref r ∧ A.handled = none ∧ Fr h₀ L s₁.heap m ∧ News h₀ L s₁.heap news ∧ IsRange s₁.heap r 0 b 1 t u v ∧ Builtin.Range.small 0 b 1 = true ∧ Builtin.Range.rangeSize 0 b 1 = ((n : Nat) : Int) ∧ n ≤ sizeLine ∧ J 0 [] news ∧
    (∀ g, TurnC prog w A h₀ L m env elt x scope cl { s₁ with heap := g } n J) ∧
    ∀ ys nw D h tk, J n ys nw → Fr h₀ L h (fun z => if z = y then some (.ref D) else m z) → News h₀ L h ((D, LCg.lst ys) :: nw) → LCg.Off1 D nw → Q .next { s₁ with heap := h, toks := tk }
theorem Assign_C {elt iter : Expr} {x y : Str} {px py : Pos} {scope : Scope} {cl : List (Str × Addr)} {pos spos : Pos} {Q : Flow → Shared → Prop} (F₀ : Fr h₀ L s.heap m) (hLe : env.locals = L)
    (hsw : swapsWith (.ListComp elt [⟨.Name x px, iter, [], 0⟩] scope pos) (some (.Name y py)) spos.line env = pure true)
    (hclos : closureFor scope env = pure cl) (hkind : scope.kind = .function)
    (hnames : ∀ z ∈ scope.names, z.2 = .local → scope.names.lookup z.1 = some .local)
    (hcf : ∀ n, cellsFrom n scope.names cl = (x, n) :: cl) (hpc : ∀ h, pushCells h scope.names = h.push { cls := .type "cell", data := .cell none })
    (hx : (relabel scope env).names.lookup x = some .cell)
    (hy : env.kindOf y = some .local) (hp : (env.scope.kind == .class || (env.scope.kind == .module && env.locals != env.globals)) = false)
    (h : wpAny (model prog w) A (eval iter env) (SrcC prog w A h₀ L m env elt x scope cl y Q) E s)
    (hs : ∀ x, foldedSetIterable iter env x = pure x := by intro _; rfl) :
    wpAny (model prog w) A (exec (.Assign [.Name y py] (.ListComp elt [⟨.Name x px, iter, [], 0⟩] scope pos) spos) env) Q E s := by
  subst hLe
  rw [exec_Assign_Name_used _ _ _ _ hsw]
  refine wpAny_bind (wpAny_standAt (wpAny_bind ?_))
  show wpAny _ A (do let _ ← comprehension (.ListComp elt [⟨.Name x px, iter, [], 0⟩] scope pos) scope env _ (newList []) false (eval iter env) (some (assign (.Name y py) env))) _ _ s
  refine wpAny_bind (wpAny_mono (wpAny_comprehension_free (use := some (assign (.Name y py) env)) (Q := fun _ s' => Q .next s') rfl hs hclos hkind hnames
    (wpAny_mono h (fun xv s₁ h₁ => ?_) fun _ _ e => e)) (fun _ s' hq => wpAny_pure (wpAny_pure hq)) fun _ _ e => e)
  obtain ⟨r, b, t, u, v, n, news, J, rfl, hh, F, N, hr, hsm, hn, hsz, hJ, turn, fin⟩ := h₁
  refine wpAny_pyIter_range hr hsm ?_
  refine block_C (J := J) hh hsz hcf hpc hkind hx (by show IsRangeIter _ _ _ _ _; rw [← hn]; simpa using Heap.get?_push_size _ rfl) (by show _ < (s₁.heap.push _).objs.size; rw [Heap.size_push]; exact Nat.lt_succ_self _)
    (F.keeps fun _ _ e => Heap.get?_push_of_some _ e) (N.grown fun _ _ e => Heap.get?_push_of_some _ e) (Nat.ne_of_lt F.ns.lt) (next_is_new F) (fun p hp => Nat.ne_of_lt (Heap.lt_size (N p hp).1)) hJ (turn _) ?_
  intro D C h' tk m' ys news' F' N' o1 hn hC₀ hD₀ hCL hDL hCD offC fin'
  show wpAny _ A (assign (.Name y py) env (.ref D)) _ _ _
  refine wpAny_assign_Name (wpAny_storeName_local hy F'.ns (fun h₂ hn₂ hs₂ => ?_) hp)
  have hL₀ : h₀.get? env.locals = none := Heap.get?_none_of_le F'.above
  have F₂ : Fr h₀ env.locals h₂ (fun z => if z = y then some (.ref D) else m z) := ⟨hn₂, fun b o e => hs₂.extBut b o (fun q => by rw [q, hL₀] at e; cases e) (F'.keep b o e), F'.above⟩
  refine ⟨m', hn.sameBut hs₂ hCL, fun h'' hs'' => fin _ _ D h'' _ fin' (F₂.change hs'' hCL hC₀) (fun p hp => ?_) o1⟩
  have z : h₂.get? p.1 = some p.2 := hs₂.extBut _ _ (N' p hp).2.1 (N' p hp).1
  refine ⟨hs''.extBut _ _ ?_ z, (N' p hp).2⟩
  rcases List.mem_cons.mp hp with rfl | hp
  · exact Ne.symm hCD
  · exact offC p hp
end
end Mine
end
section
set_option maxRecDepth 100000
set_option maxHeartbeats 2000000
namespace Mine
def lawBody : List Stmt := match PySem.Challenge.pw_xe0027_01.main.body.drop 18 with
  | .FunctionDef _ _ b .. :: _ => b
  | _ => []
def lawSc : Scope := match PySem.Challenge.pw_xe0027_01.main.body.drop 18 with
  | .FunctionDef (scope := sc) .. :: _ => sc
  | _ => { kind := .function, names := [], isGenerator := false, isCoroutine := false, more := [] }
end Mine
end
section
set_option maxRecDepth 100000
set_option maxHeartbeats 20000000
set_option pp.maxSteps 20000
namespace Mine
local macro_rules | `(tactic| walk_at "pad") => `(tactic| fail)
local macro_rules | `(tactic| walk_at "execs cons") => `(tactic| (refine Hold.out ?_))
local macro_rules | `(tactic| k_mem) => `(tactic| first | assumption | exact List.mem_cons_self | (refine List.mem_cons_of_mem _ ?_; k_mem))
local macro_rules | `(tactic| k_all) => `(tactic| assumption)
theorem CtrN.use {w : World} {mean : ExcName → Option Value} {mg mb : Str → Option Value} {f : Addr} {pos : List Value} {kw : List (Str × Value)} {deep : Nat} {Pre : List (Addr × Obj) → Prop} {R : Value → List (Addr × Obj) → Prop}
    (C : CtrN w mean mg mb f pos kw deep Pre R) {dp un : Nat} {gd : Option (List Code)} {cn : Str} {cs : Scope} {a : Addr} {ccd : Value} {cl : List (Str × Addr)} {outer : List Env} {A₀ : Around} {base : Heap} {Q E : Value → Shared → Prop} {h₀ : Heap} {L : Addr} {s : Shared} {m : Str → Option Value} {news : List (Addr × Obj)}
    (B : Below A₀ base outer h₀) (F : Fr h₀ L s.heap m) (X : (hd.heap_39 w.params).In h₀) (N : News h₀ L s.heap news) (T : Top hd.view_39 LO mean mg mb h₀) (hk : cs.kind = .function) (hd : dp + deep < recursionLimit) (hu : un + 8 * deep < cLine) (hp : Pre news)
    (hret : ∀ r tl h' tk', Fr h₀ L h' m → News h₀ L h' (tl ++ news) → (∀ q ∈ tl, ∀ p ∈ news, p.1 ≠ q.1) → R r tl → Q r { s with heap := h', toks := tk' }) :
    wpAny (model PySem.Challenge.rw_xe0027_01.row.prog w) (ktrTop dp un gd cn cs L a ccd cl outer) (call (.ref f) pos kw) Q E s :=
  C dp un gd cn cs a ccd cl outer A₀ base h₀ L m news s Q E B F X N T hk hd hu hp hret
theorem lawB {w : World} {mean : ExcName → Option Value} {mg mb : Str → Option Value} (U : Int) (hU1 : 1 ≤ U) (hU2 : U ≤ 720) (V : List ZV) (h5 : V.length = 5)
    (hz : ∀ y ∈ V, Off w mean mg mb y.z y.v) (hok : ∀ y ∈ V, PyData.strOk y.z = true)
    (ss : List Stmt) (hss : lawBody.drop 5 = ss) (rest : List Stmt) (hrest : lawBody.drop 6 = rest) (sc : Scope) (hsc : lawSc = sc)
    (dp un : Nat) (gd : Option (List Code)) (a : Addr) (ccd : Value) (outer : List Env) (A₀ : Around) (base h₀ : Heap) (L : Addr) (m : Str → Option Value) (s : Shared) (Q : Flow → Shared → Prop) (E : Value → Shared → Prop)
    (Z Hl : Addr) (nz nh : Nat) (hs : List (Int × Tok)) (oT oU : Obj) (tU : Tok) (dT : oT.data = .cell none) (dU : oU.data = .cell (some (.int U tU)))
    (B : Below A₀ base outer h₀) (F : Fr h₀ L s.heap (fun y => if y = Str.ofString "zones" then some (.ref Z) else if y = Str.ofString "heights" then some (.ref Hl) else m y)) (X : (hd.heap_39 w.params).In h₀)
    (N : News h₀ L s.heap [(Z, strsO (V.map ZV.zt) nz), (Hl, intsO hs nh), (L + 1 + 1, oT), (L + 1, oU)]) (T : Top hd.view_39 LO mean mg mb h₀)
    (hne1 : @Ne Nat (L + 1 + 1) Z) (hne2 : @Ne Nat (L + 1 + 1) Hl)
    (hd : dp + 30 < recursionLimit) (hu : un + 8 * 30 < cLine) 
    (cont : ∀ (a1 : Addr) (k1 : Nat) (R : List RW) (oT' : Obj) (news : List (Addr × Obj)) (h' : Heap) (tk' : Nat), R.map RW.zs = tabOf (U * 60) 0 V → oT'.data = .cell (some (.ref a1)) →
      Fr h₀ L h' (fun y => if y = Str.ofString "zones" then some (.ref Z) else if y = Str.ofString "heights" then some (.ref Hl) else m y) → News h₀ L h' news →
      (Z, strsO (V.map ZV.zt) nz) ∈ news → (Hl, intsO hs nh) ∈ news → (L + 1 + 1, oT') ∈ news → (L + 1, oU) ∈ news → tabO a1 k1 R ∈ news → (∀ r ∈ R, r.entry ∈ news) →
      wpAny (model PySem.Challenge.rw_xe0027_01.row.prog w) (ktrTop dp un gd (Str.ofString "law") sc L a ccd (PySem.cellsFrom (L + 1) sc.names []) outer) (execs rest (envOfC (Str.ofString "law") sc L a ccd)) Q E { s with heap := h', toks := tk' }) :
    wpAny (model PySem.Challenge.rw_xe0027_01.row.prog w) (ktrTop dp un gd (Str.ofString "law") sc L a ccd (PySem.cellsFrom (L + 1) sc.names []) outer) (execs ss (envOfC (Str.ofString "law") sc L a ccd)) Q E s := by
  conv at hss => lhs; whnf
  conv at hrest => lhs; whnf
  conv at hsc => lhs; whnf
  subst hss
  subst hrest
  subst hsc
  revert X
  k_fill
  intro X
  w_top off
  k_with_none
  (with_reducible refine wpAny_execs_cons ?_); try dsimp only
  try k_fold
  k_with "call ref" => (refine Hold.out ?_)
  k_steps
  unfold Hold
  k_dflt (refine' CtrN.use (tab_ctr Z nz V hz hok (by omega) (U * 60) 0 _ _ (by omega) (by omega)) ?k1 ?k2 ?k3 ?k4 ?k5 ?kK ?kd ?ku ?kp ?_; (case k1 => k_asm); (case k2 => k_asm); (case k3 => k_asm); (case k4 => k_asm); (case k5 => k_asm); (case kK => exact rfl); (case kd => ktr_room); (case ku => ktr_units); (case kp => k_mem); k_whole)
  intro r9 tl h9 tk9 F9 N9 off9 R9
  obtain ⟨a1, k1, R, rfl, rfl, hR⟩ := R9
  (try dsimp only)
  (try k_fold)
  have hall : ∀ p ∈ (Z, strsO (V.map ZV.zt) nz) :: (Hl, intsO hs nh) :: (L + 1, oU) :: (tabO a1 k1 R :: R.map RW.entry), p.1 ≠ L + 1 + 1 :=
    List.forall_mem_cons.mpr ⟨Ne.symm hne1, List.forall_mem_cons.mpr ⟨Ne.symm hne2, List.forall_mem_cons.mpr ⟨Nat.ne_of_lt (Nat.lt_succ_self _), fun p hp => Ne.symm (off9 p hp (L + 1 + 1, oT) (.tail _ (.tail _ (.head _))))⟩⟩⟩
  have N8 := cb_drop (news := (L + 1 + 1, oT) :: (Z, strsO (V.map ZV.zt) nz) :: (Hl, intsO hs nh) :: (L + 1, oU) :: (tabO a1 k1 R :: R.map RW.entry)) N9 (by
    intro p hp
    rcases List.mem_cons.mp hp with rfl | hp
    · exact List.mem_append.mpr (.inr (.tail _ (.tail _ (.head _))))
    · rcases List.mem_cons.mp hp with rfl | hp
      · exact List.mem_append.mpr (.inr (.head _))
      · rcases List.mem_cons.mp hp with rfl | hp
        · exact List.mem_append.mpr (.inr (.tail _ (.head _)))
        · rcases List.mem_cons.mp hp with rfl | hp
          · exact List.mem_append.mpr (.inr (.tail _ (.tail _ (.tail _ (.head _)))))
          · exact List.mem_append.mpr (.inl hp))
  have m1 : (Z, strsO (V.map ZV.zt) nz) ∈ (Z, strsO (V.map ZV.zt) nz) :: (Hl, intsO hs nh) :: (L + 1, oU) :: (tabO a1 k1 R :: R.map RW.entry) := .head _
  have m2 : (Hl, intsO hs nh) ∈ (Z, strsO (V.map ZV.zt) nz) :: (Hl, intsO hs nh) :: (L + 1, oU) :: (tabO a1 k1 R :: R.map RW.entry) := .tail _ (.head _)
  have m3 : (L + 1, oU) ∈ (Z, strsO (V.map ZV.zt) nz) :: (Hl, intsO hs nh) :: (L + 1, oU) :: (tabO a1 k1 R :: R.map RW.entry) := .tail _ (.tail _ (.head _))
  have m4 : tabO a1 k1 R ∈ (Z, strsO (V.map ZV.zt) nz) :: (Hl, intsO hs nh) :: (L + 1, oU) :: (tabO a1 k1 R :: R.map RW.entry) := .tail _ (.tail _ (.tail _ (.head _)))
  have m5 : ∀ r ∈ R, r.entry ∈ (Z, strsO (V.map ZV.zt) nz) :: (Hl, intsO hs nh) :: (L + 1, oU) :: (tabO a1 k1 R :: R.map RW.entry) := fun r hr => .tail _ (.tail _ (.tail _ (.tail _ (List.mem_map_of_mem hr))))
  generalize (Z, strsO (V.map ZV.zt) nz) :: (Hl, intsO hs nh) :: (L + 1, oU) :: (tabO a1 k1 R :: R.map RW.entry) = nws at hall N8 m1 m2 m3 m4 m5
  clear N9 off9 N F
  k_steps
  unfold Hold
  rename Fr _ _ _ _ => Fe
  rename News _ _ _ _ => Ne
  rename (_ = Data.cell (some (Value.ref _))) => de
  exact cont a1 k1 R _ _ _ _ hR de Fe Ne (.tail _ m1) (.tail _ m2) (.head _) (.tail _ m3) (.tail _ m4) (fun r hr => .tail _ (m5 r hr))
end Mine
end
section
set_option maxRecDepth 100000
set_option maxHeartbeats 20000000
set_option pp.maxSteps 20000
namespace Mine
local macro_rules | `(tactic| walk_at "execs cons") => `(tactic| (refine Hold.out ?_))
local macro_rules | `(tactic| k_mem) => `(tactic| first | assumption | exact List.mem_cons_self | (refine List.mem_cons_of_mem _ ?_; k_mem))
local macro_rules | `(tactic| k_all) => `(tactic| assumption)
local macro_rules | `(tactic| walk_at "CompSrc") => `(tactic| (refine Hold.out ?_))
local macro_rules | `(tactic| walk_at "eval ListComp") => `(tactic| (refine Hold.out ?_))
theorem hv_snoc {hs os : List (Int × Tok)} {i : Nat} {k : Int} {t t' : Tok} (hk : hs[i]? = some (k, t)) (h : os.map Prod.fst = (hs.take i).map (fun z => 3 - z.1)) : (os ++ [(3 - k, t')]).map Prod.fst = (hs.take (i + 1)).map (fun z => 3 - z.1) := by
  rw [List.take_add_one, hk, List.map_append, List.map_append, h]; rfl
theorem get0 {v : Value} {vs : List Value} : (v :: vs).toArray[Int.toNat 0]? = some v := rfl
theorem lawC {w : World} {mean : ExcName → Option Value} {mg mb : Str → Option Value} (V : List ZV)
    (ss : List Stmt) (hss : lawBody.drop 6 = ss) (rest : List Stmt) (hrest : lawBody.drop 9 = rest) (sc : Scope) (hsc : lawSc = sc)
    (dp un : Nat) (gd : Option (List Code)) (a : Addr) (ccd : Value) (outer : List Env) (A₀ : Around) (base h₀ : Heap) (L : Addr) (m : Str → Option Value) (s : Shared) (Q : Flow → Shared → Prop) (E : Value → Shared → Prop)
    (Z Hl : Addr) (nz nh : Nat) (hs : List (Int × Tok)) (h5 : hs.length = 5) (oT : Obj) (a1 : Addr) (k1 : Nat) (R : List RW) (dT : oT.data = .cell (some (.ref a1)))
    (hR0 : R ≠ []) (hR1 : ((((R.map RW.zs).headD []).length : Nat) : Int) = longest (hs.map Prod.fst)) (hR2 : ((R.length : Nat) : Int) = longest ((hs.map Prod.fst).map (3 - ·))) (hR3 : R.length ≤ 5) (hR4 : ∀ r ∈ R, r.zs.length ≤ 5)
    (B : Below A₀ base outer h₀) (F : Fr h₀ L s.heap (fun y => if y = Str.ofString "zones" then some (.ref Z) else if y = Str.ofString "heights" then some (.ref Hl) else m y)) (X : (hd.heap_39 w.params).In h₀)
    (news : List (Addr × Obj)) (N : News h₀ L s.heap news) (T : Top hd.view_39 LO mean mg mb h₀)
    (m1 : (Z, strsO (V.map ZV.zt) nz) ∈ news) (m2 : (Hl, intsO hs nh) ∈ news) (m3 : (L + 1 + 1, oT) ∈ news) (m4 : tabO a1 k1 R ∈ news) (m5 : ∀ r ∈ R, r.entry ∈ news)
    (hd : dp + 30 < recursionLimit) (hu : un + 8 * 30 < cLine) 
    (cont : ∀ (h' : Heap) (tk' : Nat) (t1 t2 : Tok),
      Fr h₀ L h' (fun y => if y = Str.ofString "high" then some (.int (longest ((hs.map Prod.fst).map (3 - ·))) t2) else if y = Str.ofString "wide" then some (.int (longest (hs.map Prod.fst)) t1) else if y = Str.ofString "zones" then some (.ref Z) else if y = Str.ofString "heights" then some (.ref Hl) else m y) → News h₀ L h' news →
      wpAny (model PySem.Challenge.rw_xe0027_01.row.prog w) (ktrTop dp un gd (Str.ofString "law") sc L a ccd (PySem.cellsFrom (L + 1) sc.names []) outer) (execs rest (envOfC (Str.ofString "law") sc L a ccd)) Q E { s with heap := h', toks := tk' }) :
    wpAny (model PySem.Challenge.rw_xe0027_01.row.prog w) (ktrTop dp un gd (Str.ofString "law") sc L a ccd (PySem.cellsFrom (L + 1) sc.names []) outer) (execs ss (envOfC (Str.ofString "law") sc L a ccd)) Q E s := by
  conv at hss => lhs; whnf
  conv at hrest => lhs; whnf
  conv at hsc => lhs; whnf
  subst hss
  subst hrest
  subst hsc
  have hrow : ∃ r R', R = r :: R' := by
    cases R with
    | nil => exact absurd rfl hR0
    | cons r R' => exact ⟨r, R', rfl⟩
  have hI : IntsAre (hs.map intV) (hs.map Prod.fst) := intsAre_map hs
  have hI5 : (hs.map intV).length = 5 := by rw [List.length_map, h5]
  have N2 := cb_drop (news := (Hl, intsO hs nh) :: news) N (List.forall_mem_cons.mpr ⟨m2, fun p hp => hp⟩)
  clear N
  revert X
  k_fill
  intro X
  w_top off
  k_with_none
  (with_reducible refine wpAny_execs_cons ?_); try dsimp only
  try k_fold
  k_with "call ref" => (k_dflt (refine' Ctr.use (lon_ctr _ _ _ h5) ?k1 ?k2 ?k3 ?k4 ?k5 ?kK ?kd ?ku ?kp ?_; (case k1 => k_asm); (case k2 => k_asm); (case k3 => k_asm); (case k4 => k_asm); (case k5 => k_asm); (case kK => exact rfl); (case kd => ktr_room); (case ku => ktr_units); (case kp => k_mem); k_whole; intro r9 h9 tk9 F9 N9 R9; obtain ⟨t9,e9⟩ := R9; subst e9; (try dsimp only); (try k_fold)))
  k_steps
  unfold Hold
  (with_reducible refine wpAny_execs_cons ?_); try dsimp only
  try k_fold
  k_steps
  unfold Hold
  k_here
  (refine LCg.ListComp_U (F₀ := by k_asm) (by with_unfolding_all rfl) (by decide) (by rfl) (by decide) (by rfl) ?_)
  k_steps
  unfold Hold
  refine LCg.CompSrc.ledger (by rfl) (by k_asm) (by k_asm) (by k_mem) ?hsz ?hcr
  case hsz => (rw [PySem.sizeLine_eq, List.size_toArray, List.length_map, h5]; decide)
  intro g'
  refine cmp_inv (fun i ys nw => nw = _ ∧ ∃ os : List (Int × Tok), ys = os.map intV ∧ os.map Prod.fst = (hs.take i).map (fun z => 3 - z.1)) ⟨rfl, [], rfl, rfl⟩ ?turn ?fin
  case turn =>
    intro i v I oI C oC D' m₂ ys nw h tk E' hi hv hJ hC hx F N off ne
    obtain ⟨rfl, os, rfl, hos⟩ := hJ
    obtain ⟨k, t, hk, rfl⟩ := intsO_at hv
    try k_fold
    k_steps
    exact ⟨_, _, _, rfl, by assumption, by assumption, off, .inr ⟨_, by k_mem, rfl, _, rfl⟩, rfl, _, (List.map_append (l₁ := os) (l₂ := [(3 - k, _)])).symm, hv_snoc hk hos⟩
  rintro ys nw ⟨rfl, os, rfl, hos⟩
  have hos1 : os.map Prod.fst = (hs.map Prod.fst).map (3 - ·) := by
    rw [List.size_toArray, List.length_map, List.take_of_length_le (by omega)] at hos
    rw [hos, List.map_map]; rfl
  have hos5 : os.length = 5 := by rw [← List.length_map (f := Prod.fst), hos1, List.length_map, List.length_map, h5]
  clear hos
  try k_fold
  k_with "call ref" => (refine Hold.out ?_)
  k_steps
  unfold Hold
  k_dflt (refine' Ctr.use (lon_ctr _ (os.map intV).length os hos5) ?k1 ?k2 ?k3 ?k4 ?k5 ?kK ?kd ?ku ?kp ?_; (case k1 => k_asm); (case k2 => k_asm); (case k3 => k_asm); (case k4 => k_asm); (case k5 => k_asm); (case kK => exact rfl); (case kd => ktr_room); (case ku => ktr_units); (case kp => exact .head _); k_whole; intro r8 h8 tk8 F8 N8 R8; obtain ⟨t8,e8⟩ := R8; subst e8; (try dsimp only); (try k_fold))
  k_steps
  unfold Hold
  rw [hos1] at *
  obtain ⟨r, R', rfl⟩ := hrow
  have m4' : (a1, listOf ((Value.ref r.a) :: (R'.map fun r => Value.ref r.a)).toArray k1) ∈ news := m4
  have m5' : (r.a, strsO (r.zs.map ZV.zt) r.n) ∈ news := m5 r (.head _)
  have hr5 : r.zs.length ≤ 5 := hR4 r (.head _)
  have hR3' : R'.length ≤ 4 := Nat.le_of_succ_le_succ hR3
  have hR1' : ((r.zs.length : Nat) : Int) = longest (hs.map Prod.fst) := hR1
  have hR2' : ((R'.length + 1 : Nat) : Int) = longest ((hs.map Prod.fst).map (3 - ·)) := hR2
  clear m4 hR1 hR2 hR3 hR4 hR0
  (with_reducible refine wpAny_execs_cons ?_); try dsimp only
  try k_fold
  k_with "subscriptTail" => (k_dflt (refine' item_L ?k1 ?k2 ?k3 ?k4 ?k5 ?_; (case k1 => k_asm); (case k2 => k_mem); (case k3 => decide); (case k4 => decide); (case k5 => exact get0); k_whole))
  k_with "call builtin:len" => (k_dflt (refine' len_L ?k1 ?k2 ?k3 ?_; (case k1 => k_asm); (case k2 => k_mem); (case k3 => (simp only [List.size_toArray, List.length_map, List.length_cons]; omega)); k_whole; (try simp only [List.size_toArray, List.length_map, List.length_cons])))
  k_steps
  · exfalso; first | omega | (simp only [List.size_toArray, List.length_map, List.length_cons] at *; omega)
  · exfalso; first | omega | (simp only [List.size_toArray, List.length_map, List.length_cons] at *; omega)
  · unfold Hold
    rename Fr _ _ _ _ => Fe
    rename News _ _ _ _ => Ne
    exact cont _ _ _ _ Fe (cb_drop Ne fun p hp => .tail _ (.tail _ hp))
end Mine
end
section
set_option maxRecDepth 100000
set_option maxHeartbeats 20000000
set_option pp.maxSteps 20000
namespace Mine
local macro_rules | `(tactic| walk_at "execs cons") => `(tactic| (refine Hold.out ?_))
local macro_rules | `(tactic| k_mem) => `(tactic| first | assumption | exact List.mem_cons_self | (refine List.mem_cons_of_mem _ ?_; k_mem))
local macro_rules | `(tactic| k_all) => `(tactic| assumption)
local macro_rules | `(tactic| walk_at "SrcC") => `(tactic| (refine Hold.out ?_))
local macro_rules | `(tactic| walk_at "CompSrcT") => `(tactic| (refine Hold.out ?_))
local macro_rules | `(tactic| walk_at "eval ListComp") => `(tactic| (refine Hold.out ?_))
section
variable {prog : Program} {w : World} {A : Around} {h₀ : Heap} {L : Addr} {m : Str → Option Value} {env : Env} {ct elt : Expr} {x : Str} {scope : Scope} {cl : List (Str × Addr)} {s : Shared} {S : List (Addr × Obj) → Prop} {P : Nat → Value → Prop} {Fin : List Value → List (Addr × Obj) → Prop} {news : List (Addr × Obj)}
theorem cmpT_inv {n : Nat} (J : Nat → List Value → List (Addr × Obj) → Prop) (h0 : J 0 [] news)
    (turn : ∀ i v I oI C oC D m₂ ys nw h tk (E' : Value → Shared → Prop), i < n → P i v → J i ys nw → LCg.NsObj oC m₂ → m₂ x = some v → Fr h₀ L h m → News h₀ L h ((I, oI) :: (C, oC) :: (D, LCg.lst ys) :: nw) → LCg.Off3 I C D nw → ((@Ne Nat I C) ∧ (@Ne Nat I D) ∧ (@Ne Nat C D)) →
      wpAny (model prog w) A (isTrue ct (compEnvC scope cl C env) (eval ct (compEnvC scope cl C env))) (fun ok s' => if ok = true then
        wpAny (model prog w) A (eval elt (compEnvC scope cl C env)) (LCg.CompEnd h₀ L m { s with heap := h, toks := tk } I oI C oC D (LCg.lst ys) S (fun y nw' => J (i + 1) (ys ++ [y]) nw')) E' s'
        else LCg.CompEnd h₀ L m { s with heap := h, toks := tk } I oI C oC D (LCg.lst ys) S (fun _ nw' => J (i + 1) ys nw') Value.none s') E' { s with heap := h, toks := tk })
    (fin : ∀ ys nw, J n ys nw → Fin ys nw) : LCt.CompRestT prog w A h₀ L m env ct elt x scope cl s S P Fin n 0 [] news := by
  have key : ∀ (j i : Nat) (ys : List Value) nw, i + j = n → J i ys nw → LCt.CompRestT prog w A h₀ L m env ct elt x scope cl s S P Fin j i ys nw := by
    intro j
    induction j with
    | zero =>
      intro i ys nw hi hy
      have e : i = n := by omega
      subst e
      exact LCt.CompRestT.zero (fin ys nw hy)
    | succ j ih =>
      intro i ys nw hi hy
      refine LCt.CompRestT.succ ?_
      intro v I oI C oC D m₂ h tk E' hv hC hx F N off ne
      refine wpAny_mono (turn i v I oI C oC D m₂ ys nw h tk E' (by omega) hv hy hC hx F N off ne) (fun ok s₂ hq => ?_) fun _ _ e => e
      cases ok with
      | true =>
        rw [if_pos rfl] at hq ⊢
        refine wpAny_mono hq (fun y s₃ hq => ?_) fun _ _ e => e
        obtain ⟨h', tk', nw', e, F', N', off', hS, hJ⟩ := hq
        exact ⟨h', tk', nw', e, F', N', off', hS, ih (i + 1) _ nw' (by omega) hJ⟩
      | false =>
        rw [if_neg (by decide)] at hq ⊢
        obtain ⟨h', tk', nw', e, F', N', off', hS, hJ⟩ := hq
        exact ⟨h', tk', nw', e, F', N', off', hS, ih (i + 1) _ nw' (by omega) hJ⟩
  exact key n 0 [] news (by omega) h0
end
theorem SrcC.of {prog : Program} {w : World} {A : Around} {h₀ : Heap} {L : Addr} {m : Str → Option Value} {env : Env} {elt : Expr} {x : Str} {scope : Scope} {cl : List (Str × Addr)} {y : Str} {Q : Flow → Shared → Prop} {s₁ : Shared} {r : Addr} {W : Nat} {t u v : Tok} {news : List (Addr × Obj)} (J : Nat → List Value → List (Addr × Obj) → Prop)
    (hh : A.handled = none) (F : Fr h₀ L s₁.heap m) (N : News h₀ L s₁.heap news) (hr : IsRange s₁.heap r 0 (W : Int) 1 t u v) (hW : W ≤ 5) (hJ : J 0 [] news)
    (turn : ∀ g, TurnC prog w A h₀ L m env elt x scope cl { s₁ with heap := g } W J)
    (fin : ∀ ys nw D h tk, J W ys nw → Fr h₀ L h (fun z => if z = y then some (.ref D) else m z) → News h₀ L h ((D, LCg.lst ys) :: nw) → LCg.Off1 D nw → Q .next { s₁ with heap := h, toks := tk }) :
    SrcC prog w A h₀ L m env elt x scope cl y Q (.ref r) s₁ :=
  ⟨r, _, t, u, v, W, news, J, rfl, hh, F, N, hr, small_one (by decide) (by decide) (by omega) (by omega), (rangeSize_nat _ _).trans (by simp), by rw [PySem.sizeLine_eq]; omega, hJ, turn, fin⟩
structure TW where
  a : Addr
  zs : List (Str × Tok)
def TW.entry (r : TW) : Addr × Obj := (r.a, strsO r.zs r.zs.length)
theorem refs_at {R : List RW} {i : Nat} {v : Value} (h : (R.map fun r => Value.ref r.a).toArray[i]? = some v) : ∃ r, R[i]? = some r ∧ v = .ref r.a := by
  simp only [List.getElem?_toArray, List.getElem?_map] at h
  cases e : R[i]? with
  | none => rw [e] at h; cases h
  | some z => rw [e] at h; exact ⟨z, rfl, (Option.some.inj h).symm⟩
theorem fm_take {R : List RW} {i j : Nat} {r : RW} (hr : R[j]? = some r) : (((R.map RW.zs).map (List.map ZV.z)).take (j + 1)).filterMap (fun row => row[i]?) = (((R.map RW.zs).map (List.map ZV.z)).take j).filterMap (fun row => row[i]?) ++ ((r.zs.map ZV.z)[i]?).toList := by
  rw [List.take_add_one, List.filterMap_append, List.getElem?_map, List.getElem?_map, hr]
  rw [Option.map_some, Option.map_some, Option.toList_some, List.filterMap_cons, List.filterMap_nil]
  cases h : (r.zs.map ZV.z)[i]? <;> rfl
theorem fm_snoc {R : List RW} {i j : Nat} {r : RW} {zt : List (Str × Tok)} {t : Tok} (hr : R[j]? = some r) (hi : i < r.zs.length) (h : zt.map Prod.fst = (((R.map RW.zs).map (List.map ZV.z)).take j).filterMap fun row => row[i]?) :
    (zt ++ [((r.zs[i]).z, t)]).map Prod.fst = (((R.map RW.zs).map (List.map ZV.z)).take (j + 1)).filterMap fun row => row[i]? := by
  rw [fm_take hr, List.map_append, h, List.getElem?_map, List.getElem?_eq_getElem hi]; rfl
theorem fm_skip {R : List RW} {i j : Nat} {r : RW} {zt : List (Str × Tok)} (hr : R[j]? = some r) (hi : ¬ i < r.zs.length) (h : zt.map Prod.fst = (((R.map RW.zs).map (List.map ZV.z)).take j).filterMap fun row => row[i]?) :
    zt.map Prod.fst = (((R.map RW.zs).map (List.map ZV.z)).take (j + 1)).filterMap fun row => row[i]? := by
  rw [fm_take hr, h, List.getElem?_map, List.getElem?_eq_none (by omega)]; simp
theorem row_get {zs : List ZV} {i : Nat} (h : i < zs.length) : ((zs.map ZV.zt).map strV).toArray[(i : Int).toNat]? = some (.str (zs[i]).z (zs[i]).t) := by
  rw [Int.toNat_natCast, List.getElem?_toArray, List.getElem?_map, List.getElem?_map, List.getElem?_eq_getElem h]; rfl
local macro_rules | `(tactic| walk_at "subscriptTail Name Name ref int") => `(tactic| (k_here; (k_dflt (refine' item_L ?k1 ?k2 ?k3 ?k4 ?k5 ?_; (case k1 => k_asm); (case k2 => k_mem); (case k3 => omega); (case k4 => omega); (case k5 => exact row_get (by omega)); k_whole))))
theorem lawD {w : World} {mean : ExcName → Option Value} {mg mb : Str → Option Value}
    (ss : List Stmt) (hss : lawBody.drop 9 = ss) (rest : List Stmt) (hrest : lawBody.drop 10 = rest) (sc : Scope) (hsc : lawSc = sc)
    (dp un : Nat) (gd : Option (List Code)) (a : Addr) (ccd : Value) (outer : List Env) (A₀ : Around) (base h₀ : Heap) (L : Addr) (m : Str → Option Value) (s : Shared) (Q : Flow → Shared → Prop) (E : Value → Shared → Prop)
    (oT : Obj) (a1 : Addr) (k1 : Nat) (R : List RW) (dT : oT.data = .cell (some (.ref a1))) (hR3 : R.length ≤ 5) (hR4 : ∀ r ∈ R, r.zs.length ≤ 5) (W : Nat) (hW : W ≤ 5) (tw : Tok)
    (B : Below A₀ base outer h₀) (F : Fr h₀ L s.heap (fun y => if y = Str.ofString "wide" then some (.int (W : Int) tw) else m y)) (X : (hd.heap_39 w.params).In h₀)
    (news : List (Addr × Obj)) (N : News h₀ L s.heap news) (T : Top hd.view_39 LO mean mg mb h₀)
    (m3 : (L + 1 + 1, oT) ∈ news) (m4 : tabO a1 k1 R ∈ news) (m5 : ∀ r ∈ R, r.entry ∈ news)
    (hd : dp + 30 < recursionLimit) (hu : un + 8 * 30 < cLine) 
    (cont : ∀ (h' : Heap) (tk' : Nat) (D : Addr) (TR : List TW) (nw : List (Addr × Obj)), TR.map (fun r => r.zs.map Prod.fst) = turnG ((R.map RW.zs).map (List.map ZV.z)) W → (∀ p ∈ news, p ∈ nw) → (∀ r ∈ TR, r.entry ∈ nw) →
      Fr h₀ L h' (fun y => if y = Str.ofString "turned" then some (.ref D) else if y = Str.ofString "wide" then some (.int (W : Int) tw) else m y) → News h₀ L h' ((D, LCg.lst (TR.map fun r => .ref r.a)) :: nw) → LCg.Off1 D nw →
      wpAny (model PySem.Challenge.rw_xe0027_01.row.prog w) (ktrTop dp un gd (Str.ofString "law") sc L a ccd (PySem.cellsFrom (L + 1) sc.names []) outer) (execs rest (envOfC (Str.ofString "law") sc L a ccd)) Q E { s with heap := h', toks := tk' }) :
    wpAny (model PySem.Challenge.rw_xe0027_01.row.prog w) (ktrTop dp un gd (Str.ofString "law") sc L a ccd (PySem.cellsFrom (L + 1) sc.names []) outer) (execs ss (envOfC (Str.ofString "law") sc L a ccd)) Q E s := by
  conv at hss => lhs; whnf
  conv at hrest => lhs; whnf
  conv at hsc => lhs; whnf
  subst hss
  subst hrest
  subst hsc
  revert X
  k_fill
  intro X
  w_top off
  k_with_none
  (with_reducible refine wpAny_execs_cons ?_); try dsimp only
  try k_fold
  k_here
  k_dflt (refine Assign_C (F₀ := by k_asm) (by rfl) (by with_unfolding_all rfl) (by with_unfolding_all rfl) (by rfl) (by decide) (by intro _; rfl) (by intro _; rfl) (by rfl) (by rfl) (by rfl) ?_)
  k_steps
  unfold Hold
  refine SrcC.of (fun i ys nw => ∃ TR : List TW, ys = TR.map (fun r => Value.ref r.a) ∧ TR.map (fun r => r.zs.map Prod.fst) = (List.range i).map (fun k => ((R.map RW.zs).map (List.map ZV.z)).filterMap fun row => row[k]?) ∧ (∀ p ∈ news, p ∈ nw) ∧ (∀ r ∈ TR, r.entry ∈ nw))
    (by rfl) (by k_asm) (by k_asm) (by assumption) hW ⟨[], rfl, rfl, fun p hp => hp, fun r hr => nomatch hr⟩ ?turn ?fin
  case turn =>
    intro g' i t I oI C oC K oK D ys nw h tk E' hi hJ hK F9 N9 off ne
    obtain ⟨TR, rfl, hTR, hsub, hTRm⟩ := hJ
    have m3n := hsub _ m3
    have m4n := hsub _ m4
    have m5n : ∀ r ∈ R, r.entry ∈ nw := fun r hr => hsub _ (m5 r hr)
    try k_fold
    k_here
    (refine LCt.ListComp_T (F₀ := by k_asm) (by with_unfolding_all rfl) (by decide) (by rfl) (by decide) (by rfl) ?_)
    k_steps
    unfold Hold
    refine LCt.CompSrcT.ledger (by rfl) (by k_asm) (by k_asm) (List.mem_cons_of_mem _ (List.mem_cons_of_mem _ (List.mem_cons_of_mem _ (List.mem_cons_of_mem _ m4n)))) ?hsz ?hcr
    case hsz => (rw [PySem.sizeLine_eq, List.size_toArray, List.length_map]; omega)
    intro g2
    refine cmpT_inv (fun j ys nw2 => nw2 = _ ∧ ∃ zt : List (Str × Tok), ys = zt.map strV ∧ zt.map Prod.fst = (((R.map RW.zs).map (List.map ZV.z)).take j).filterMap fun row => row[i]?) ⟨rfl, [], rfl, rfl⟩ ?turn2 ?fin2
    case turn2 =>
      intro j v I2 oI2 C2 oC2 D2 m₂ ys nw2 h2 tk2 E2 hj hv hJ2 hC2 hx2 F2 N2 off2 ne2
      obtain ⟨rfl, zt, rfl, hzt⟩ := hJ2
      obtain ⟨r, hr, rfl⟩ := refs_at hv
      have hrm := List.mem_of_getElem? hr
      have m5r : (r.a, strsO (r.zs.map ZV.zt) r.n) ∈ nw := m5n r hrm
      have hr5 := hR4 r hrm
      try k_fold
      k_with "call builtin:len" => (k_dflt (refine' len_L ?k1 ?k2 ?k3 ?_; (case k1 => k_asm); (case k2 => k_mem); (case k3 => (simp only [List.size_toArray, List.length_map, List.length_cons]; omega)); k_whole; (try simp only [List.size_toArray, List.length_map, List.length_cons])))
      k_steps
      · exact ⟨_, _, _, rfl, by assumption, by assumption, off2, .inr ⟨_, List.mem_cons_of_mem _ (List.mem_cons_of_mem _ (List.mem_cons_of_mem _ (List.mem_cons_of_mem _ m4n))), rfl, _, rfl⟩, rfl, _, (List.map_append (l₁ := zt) (l₂ := [((r.zs[i]'(by omega)).z, _)])).symm, fm_snoc hr (by omega) hzt⟩
      · exact ⟨_, _, _, rfl, by assumption, by assumption, off2, .inr ⟨_, List.mem_cons_of_mem _ (List.mem_cons_of_mem _ (List.mem_cons_of_mem _ (List.mem_cons_of_mem _ m4n))), rfl, _, rfl⟩, rfl, zt, rfl, fm_skip hr (by omega) hzt⟩
    rintro ys nw2 ⟨rfl, zt, rfl, hzt⟩
    intro D2 h2 tk2 F2 N2 off2
    obtain ⟨o2I, o2C, o2K, o2D, o2⟩ := off2
    refine ⟨h2, tk2, (D2, LCg.lst (zt.map strV)) :: nw, rfl, F2, cb_drop N2 ?_, ?_, TR ++ [⟨D2, zt⟩], ?_, ?_, ?_, ?_⟩
    · intro p hp
      rcases List.mem_cons.mp hp with rfl | hp
      · exact .tail _ (.head _)
      · rcases List.mem_cons.mp hp with rfl | hp
        · exact .tail _ (.tail _ (.head _))
        · rcases List.mem_cons.mp hp with rfl | hp
          · exact .tail _ (.tail _ (.tail _ (.head _)))
          · rcases List.mem_cons.mp hp with rfl | hp
            · exact .tail _ (.tail _ (.tail _ (.tail _ (.head _))))
            · rcases List.mem_cons.mp hp with rfl | hp
              · exact .head _
              · exact .tail _ (.tail _ (.tail _ (.tail _ (.tail _ hp))))
    · intro p hp
      rcases List.mem_cons.mp hp with rfl | hp
      · exact ⟨Ne.symm o2I, Ne.symm o2C, Ne.symm o2K, Ne.symm o2D⟩
      · exact off p hp
    · rw [List.map_append]; rfl
    · rw [List.size_toArray, List.length_map] at hzt
      rw [List.map_append, hTR, List.range_succ, List.map_append]
      congr 1
      show [zt.map Prod.fst] = _
      rw [hzt, List.take_of_length_le (by rw [List.length_map, List.length_map]; exact Nat.le_refl _)]; rfl
    · exact fun p hp => .tail _ (hsub p hp)
    · intro r hr
      rcases List.mem_append.mp hr with hr | hr
      · exact .tail _ (hTRm r hr)
      · rw [List.mem_singleton.mp hr]
        have e : TW.entry ⟨D2, zt⟩ = (D2, LCg.lst (zt.map strV)) := by unfold TW.entry; rw [show (zt.length) = (zt.map strV).length from (List.length_map _).symm]
        rw [e]; exact .head _
  case fin =>
    rintro ys nw D h tk ⟨TR, rfl, hTR, hsub, hTRm⟩ F9 N9 off9
    exact cont _ _ D TR nw hTR hsub hTRm F9 N9 off9
end Mine
end
section
set_option maxRecDepth 100000
set_option maxHeartbeats 20000000
set_option pp.maxSteps 20000
namespace Mine
local macro_rules | `(tactic| walk_at "execs cons") => `(tactic| (refine Hold.out ?_))
local macro_rules | `(tactic| k_mem) => `(tactic| first | assumption | exact List.mem_cons_self | (refine List.mem_cons_of_mem _ ?_; k_mem))
local macro_rules | `(tactic| k_all) => `(tactic| assumption)
theorem insTab_mem (U odd : Int) (P : ZV → Prop) : ∀ (T : List (List ZV)) (x : ZV), P x → (∀ r ∈ T, ∀ y ∈ r, P y) → ∀ r ∈ insTab U odd T x, ∀ y ∈ r, P y
  | [], _, _, _, r, hr => by cases hr
  | row :: rest, x, hx, h, r, hr => by
    unfold insTab at hr
    have h0 := h row (.head _)
    split at hr
    · rcases List.mem_cons.mp hr with rfl | hr
      · intro y hy
        rcases List.mem_append.mp hy with hy | hy
        · exact h0 y hy
        · rw [List.mem_singleton.mp hy]; exact hx
      · exact h r (.tail _ hr)
    · rcases List.mem_cons.mp hr with rfl | hr
      · intro y hy
        rcases List.mem_or_eq_of_mem_set hy with hy | hy
        · exact h0 y hy
        · rw [hy]; exact hx
      · refine insTab_mem U odd P rest _ ?_ (fun r hr => h r (.tail _ hr)) r hr
        rw [List.getD_eq_getElem?_getD]
        cases e : row[(kOf U odd row x).toNat]? with
        | none => exact hx
        | some y => exact h0 y (List.mem_of_getElem? e)
theorem tab_mem (U odd : Int) (P : ZV → Prop) : ∀ (l : List ZV) (T : List (List ZV)), (∀ y ∈ l, P y) → (∀ r ∈ T, ∀ y ∈ r, P y) → ∀ r ∈ l.foldl (tabAdd U odd) T, ∀ y ∈ r, P y
  | [], _, _, h => h
  | x :: l, T, hl, h => by
    rw [List.foldl_cons]
    refine tab_mem U odd P l _ (fun y hy => hl y (.tail _ hy)) fun r hr => ?_
    unfold tabAdd at hr
    refine insTab_mem U odd P _ x (hl x (.head _)) (fun r hr => ?_) r (List.mem_filter.mp hr).1
    rcases List.mem_append.mp hr with hr | hr
    · exact h r hr
    · rw [List.mem_singleton.mp hr]; intro y hy; cases hy
theorem tabOf_mem {U odd : Int} {P : ZV → Prop} {l : List ZV} (hl : ∀ y ∈ l, P y) : ∀ r ∈ tabOf U odd l, ∀ y ∈ r, P y := tab_mem U odd P l [] hl (fun r hr => by cases hr)
open PySem.Spec in
theorem reads_rows {α : Type} (h : Heap) (f : α → Addr) (g : α → List (Str × Tok)) (k : α → Nat) : ∀ l : List α, (∀ r ∈ l, h.get? (f r) = some (strsO (g r) (k r))) → ∃ as, ReadsAll h (l.map fun r => Value.ref (f r)) (l.map fun r => PyData.list ((g r).map fun z => PyData.str z.1)) as
  | [], _ => ⟨_, ReadsAll.nil⟩
  | r :: l, hl => by
    obtain ⟨as, ih⟩ := reads_rows h f g k l fun r hr => hl r (.tail _ hr)
    obtain ⟨bs, rb⟩ := readsAll_strs h (g r)
    exact ⟨_, ReadsAll.cons (reads_list_at (hl r (.head _)) rfl rfl rb) ih⟩
open PySem.Spec in
abbrev dRow (r : List Str) : PyData := .list (r.map PyData.str)
open PySem.Spec in
theorem lay_row : ∀ r : List Str, (∀ z ∈ r, PyData.strOk z = true) → PyData.canLayAll0 (r.map PyData.str) = true
  | [], _ => rfl
  | z :: r, h => by
    rw [List.map_cons]
    unfold PyData.canLayAll0 PyData.canLay0
    rw [h z (.head _), lay_row r fun q hq => h q (.tail _ hq)]; rfl
open PySem.Spec in
theorem lay_rows : ∀ T : List (List Str), (∀ r ∈ T, ∀ z ∈ r, PyData.strOk z = true) → PyData.canLayAll0 (T.map dRow) = true
  | [], _ => rfl
  | r :: T, h => by
    rw [List.map_cons]
    unfold PyData.canLayAll0
    have h1 : (dRow r).canLay0 = true := by unfold PyData.canLay0; exact lay_row r (h r (.head _))
    rw [h1, lay_rows T fun q hq => h q (.tail _ hq)]; rfl
open PySem.Spec in
theorem dep_row : ∀ r : List Str, PyData.depthAll (r.map PyData.str) = 0
  | [] => rfl
  | z :: r => by
    rw [List.map_cons]
    unfold PyData.depthAll PyData.depth
    rw [dep_row r]; rfl
open PySem.Spec in
theorem dep_rows : ∀ T : List (List Str), PyData.depthAll (T.map dRow) ≤ 1
  | [] => by rw [List.map_nil]; unfold PyData.depthAll; omega
  | r :: T => by
    rw [List.map_cons]
    unfold PyData.depthAll
    have h1 : (dRow r).depth = 1 := by unfold PyData.depth; rw [dep_row]
    have := dep_rows T
    rw [h1]
    omega
open PySem.Spec in
theorem shaped_rows (T : List (List Str)) (h : ∀ r ∈ T, ∀ z ∈ r, PyData.strOk z = true) : SeqAt.shaped (.list (T.map dRow)) = true := by
  unfold SeqAt.shaped
  have h1 : (PyData.list (T.map dRow)).canLay0 = true := by unfold PyData.canLay0; exact lay_rows T h
  have h2 : (PyData.list (T.map dRow)).depth ≤ 64 := by
    unfold PyData.depth
    have := dep_rows T
    omega
  rw [h1, decide_eq_true h2]; rfl
section
variable {prog : Program} {w : World} {A : Around} {E : Value → Shared → Prop} {s : Shared} {h₀ : Heap} {L : Addr} {m : Str → Option Value} {news : List (Addr × Obj)}
open PySem.Spec in
theorem ne_tabs {a2 k2 D : Nat} {R2 : List RW} {TR : List TW} {Q : Value → Shared → Prop} (N : News h₀ L s.heap news) (m1 : tabO a2 k2 R2 ∈ news) (m2 : ∀ r ∈ R2, r.entry ∈ news) (m3 : (D, LCg.lst (TR.map fun r => Value.ref r.a)) ∈ news) (m4 : ∀ r ∈ TR, r.entry ∈ news)
    (e : TR.map (fun r => r.zs.map Prod.fst) = (R2.map RW.zs).map (List.map ZV.z)) (hok : ∀ r ∈ R2, ∀ y ∈ r.zs, PyData.strOk y.z = true) (hu : A.units + 64 < cLine) (h : Q (.bool false) s) :
    wpAny (model prog w) A (compareOp .NotEq (.ref a2) (.ref D)) Q E s := by
  obtain ⟨as, ra⟩ := reads_rows s.heap RW.a (fun r => r.zs.map ZV.zt) RW.n R2 fun r hr => (N _ (m2 r hr)).1
  obtain ⟨bs, rb⟩ := reads_rows s.heap TW.a TW.zs (fun r => r.zs.length) TR fun r hr => (N _ (m4 r hr)).1
  have e1 : (R2.map fun r => PyData.list ((r.zs.map ZV.zt).map fun z => PyData.str z.1)) = ((R2.map RW.zs).map (List.map ZV.z)).map dRow := by
    rw [List.map_map, List.map_map]
    refine List.map_congr_left fun r _ => ?_
    unfold dRow; simp only [Function.comp, List.map_map]; rfl
  have e2 : (TR.map fun r => PyData.list (r.zs.map fun z => PyData.str z.1)) = ((R2.map RW.zs).map (List.map ZV.z)).map dRow := by
    rw [← e, List.map_map]
    refine List.map_congr_left fun r _ => ?_
    unfold dRow; simp only [Function.comp, List.map_map]; rfl
  rw [e1] at ra
  rw [e2] at rb
  have r1 := reads_list_at (N _ m1).1 rfl rfl ra
  have r2 := reads_list_at (N _ m3).1 rfl rfl rb
  have hsh : SeqAt.shaped (.list (((R2.map RW.zs).map (List.map ZV.z)).map dRow)) = true := shaped_rows _ fun r hr z hz => by
    obtain ⟨r', hr', rfl⟩ := List.mem_map.mp hr
    obtain ⟨r'', hr'', rfl⟩ := List.mem_map.mp hr'
    obtain ⟨y, hy, rfl⟩ := List.mem_map.mp hz
    exact hok r'' hr'' y hy
  refine ne_dataH r1 r2 hsh hsh hu ?_
  have hq : PyData.eqv (.list (((R2.map RW.zs).map (List.map ZV.z)).map dRow)) (.list (((R2.map RW.zs).map (List.map ZV.z)).map dRow)) = true := by
    refine SeqAt.eqv_refl _ ?_
    unfold SeqAt.shaped at hsh
    exact (Bool.and_eq_true_iff.mp hsh).1
  rw [hq]; exact h
end
theorem lawE {w : World} {mean : ExcName → Option Value} {mg mb : Str → Option Value} (U : Int) (hU1 : 1 ≤ U) (hU2 : U ≤ 720) (V : List ZV) (h5 : V.length = 5)
    (hz : ∀ y ∈ V, Off w mean mg mb y.z y.v) (hok : ∀ y ∈ V, PyData.strOk y.z = true)
    (ss : List Stmt) (hss : lawBody.drop 10 = ss) (rest : List Stmt) (hrest : lawBody.drop 11 = rest) (sc : Scope) (hsc : lawSc = sc)
    (dp un : Nat) (gd : Option (List Code)) (a : Addr) (ccd : Value) (outer : List Env) (A₀ : Around) (base h₀ : Heap) (L : Addr) (m : Str → Option Value) (s : Shared) (Q : Flow → Shared → Prop) (E : Value → Shared → Prop)
    (Z : Addr) (nz : Nat) (oU : Obj) (tU : Tok) (dU : oU.data = .cell (some (.int U tU))) (D : Addr) (TR : List TW)
    (hTR : TR.map (fun r => r.zs.map Prod.fst) = (tabOf (U * 60) 1 V.reverse).map (List.map ZV.z))
    (B : Below A₀ base outer h₀) (F : Fr h₀ L s.heap (fun y => if y = Str.ofString "zones" then some (.ref Z) else if y = Str.ofString "turned" then some (.ref D) else m y)) (X : (hd.heap_39 w.params).In h₀)
    (news : List (Addr × Obj)) (N : News h₀ L s.heap news) (T : Top hd.view_39 LO mean mg mb h₀)
    (m1 : (Z, strsO (V.map ZV.zt) nz) ∈ news) (m2 : (L + 1, oU) ∈ news) (m3 : (D, LCg.lst (TR.map fun r => .ref r.a)) ∈ news) (m4 : ∀ r ∈ TR, r.entry ∈ news)
    (hd : dp + 30 < recursionLimit) (hu : un + 8 * 30 < cLine)
    (cont : ∀ (h' : Heap) (tk' : Nat),
      Fr h₀ L h' (fun y => if y = Str.ofString "zones" then some (.ref Z) else if y = Str.ofString "turned" then some (.ref D) else m y) → News h₀ L h' news →
      wpAny (model PySem.Challenge.rw_xe0027_01.row.prog w) (ktrTop dp un gd (Str.ofString "law") sc L a ccd (PySem.cellsFrom (L + 1) sc.names []) outer) (execs rest (envOfC (Str.ofString "law") sc L a ccd)) Q E { s with heap := h', toks := tk' }) :
    wpAny (model PySem.Challenge.rw_xe0027_01.row.prog w) (ktrTop dp un gd (Str.ofString "law") sc L a ccd (PySem.cellsFrom (L + 1) sc.names []) outer) (execs ss (envOfC (Str.ofString "law") sc L a ccd)) Q E s := by
  conv at hss => lhs; whnf
  conv at hrest => lhs; whnf
  conv at hsc => lhs; whnf
  subst hss
  subst hrest
  subst hsc
  have hz' : ∀ y ∈ V.reverse, Off w mean mg mb y.z y.v := fun y hy => hz y (List.mem_reverse.mp hy)
  have hok' : ∀ y ∈ V.reverse, PyData.strOk y.z = true := fun y hy => hok y (List.mem_reverse.mp hy)
  have hV' : V.reverse.length ≤ 100 := by rw [List.length_reverse]; omega
  revert X
  k_fill
  intro X
  w_top off
  k_with_none
  (with_reducible refine wpAny_execs_cons ?_); try dsimp only
  try k_fold
  k_with "subscriptTail Name Slice ref ref" => (k_dflt (refine' krv_lit (zs := (V.reverse.map ZV.zt).map strV) ?F ?N ?l ?k ?e ?_ ?s ?t ?z; (case F => k_asm); (case N => k_asm); (case l => exact News.isL (by k_asm) m1); (case k => exact IsPart.int _ _); (case e => (simp only [List.map_reverse])); (case s => with_unfolding_all rfl); (case t => kmk_pure); (case z => (rw [PySem.sizeLine_eq, List.size_toArray, List.length_map, List.length_map]; omega))); intro D' h' F' N' l1; (try k_sweep))
  k_with "call ref" => (k_dflt (refine' CtrN.use (tab_ctr _ 0 V.reverse hz' hok' hV' (U * 60) 1 _ _ (by omega) (by omega)) ?k1 ?k2 ?k3 ?k4 ?k5 ?kK ?kd ?ku ?kp ?_; (case k1 => k_asm); (case k2 => k_asm); (case k3 => k_asm); (case k4 => k_asm); (case k5 => k_asm); (case kK => exact rfl); (case kd => ktr_room); (case ku => ktr_units); (case kp => exact .head _); k_whole); intro r9 tl h9 tk9 F9 N9 off9 R9; obtain ⟨a2, k2, R2, hr9, htl9, hR2⟩ := R9; subst hr9; subst htl9; (refine Hold.out ?_))
  k_with "compareOp NotEq ref ref" => (refine Hold.out ?_)
  k_steps
  unfold Hold
  (try dsimp only); (try k_fold)
  walk1
  k_unfold
  try dsimp only
  refine ne_tabs (a2 := a2) (k2 := k2) (R2 := R2) (D := D) (TR := TR) N9 (List.mem_append.mpr (.inl (.head _))) (fun r hr => List.mem_append.mpr (.inl (.tail _ (List.mem_map_of_mem hr)))) (List.mem_append.mpr (.inr (.tail _ m3))) (fun r hr => List.mem_append.mpr (.inr (.tail _ (m4 r hr)))) (by rw [hR2]; exact hTR) (fun r hr => tabOf_mem hok' _ (hR2 ▸ List.mem_map_of_mem hr)) (by show un + 64 < cLine; omega) ?_
  have N8 := cb_drop (news := news) N9 (fun p hp => List.mem_append.mpr (.inr (.tail _ hp)))
  clear N9 off9 hTR hR2 hz hok hz' hok' m1 m3 m4
  (try dsimp only); (try k_fold)
  k_steps
  unfold Hold
  exact cont _ _ F9 N8
end Mine
end
section
set_option maxRecDepth 100000
set_option maxHeartbeats 20000000
set_option pp.maxSteps 20000
namespace Mine
local macro_rules | `(tactic| walk_at "execs cons") => `(tactic| (refine Hold.out ?_))
local macro_rules | `(tactic| k_mem) => `(tactic| first | assumption | exact List.mem_cons_self | (refine List.mem_cons_of_mem _ ?_; k_mem))
local macro_rules | `(tactic| k_all) => `(tactic| assumption)
local macro_rules | `(tactic| walk_at "CompSrc") => `(tactic| (refine Hold.out ?_))
local macro_rules | `(tactic| walk_at "eval ListComp") => `(tactic| (refine Hold.out ?_))
theorem abcd_tx : Str.ofString "abcd" = tx [97, 98, 99, 100] := by decide +kernel
theorem abcd_getD {k : Int} (h : 0 ≤ k ∧ k < 4) : [97, 98, 99, 100].getD k.toNat 0 = 97 + k.toNat := by
  have : k = 0 ∨ k = 1 ∨ k = 2 ∨ k = 3 := by omega
  rcases this with rfl | rfl | rfl | rfl <;> rfl
theorem abcd_item {k : Int} (h : 0 ≤ k ∧ k < 4) : Txt.item (Str.ofString "abcd") k = tx [97 + k.toNat] := by
  rw [abcd_tx, it_pos h.1 (by have := h.2; simpa using this), abcd_getD h]
theorem join_tx : ∀ l : List Nat, Str.join (Str.ofString "") (l.map fun c => tx [c]) = tx l
  | [] => rfl
  | [c] => rfl
  | c :: d :: l => by
    rw [List.map_cons, List.map_cons]
    have ih := join_tx (d :: l)
    rw [List.map_cons] at ih
    rw [show Str.join (Str.ofString "") (tx [c] :: tx [d] :: List.map (fun c => tx [c]) l) = tx [c] ++ Str.ofString "" ++ Str.join (Str.ofString "") (tx [d] :: List.map (fun c => tx [c]) l) from rfl, ih]
    refine Str.ext' ?_
    have e : (Str.ofString "").cps = #[] := rfl
    simp [tx, Str.cps_append, e]
theorem strs_are : ∀ cs : List (Str × Tok), StrsAre (cs.map strV) (cs.map Prod.fst)
  | [] => .nil
  | c :: cs => .cons c.1 c.2 (strs_are cs)
theorem ab_snoc {hs : List (Int × Tok)} {cs : List (Str × Tok)} {i : Nat} {k : Int} {t t' : Tok} (hk : hs[i]? = some (k, t)) (hb : 0 ≤ k ∧ k < 4) (h : cs.map Prod.fst = (hs.take i).map (fun z => tx [97 + z.1.toNat])) : (cs ++ [(Txt.item (Str.ofString "abcd") k, t')]).map Prod.fst = (hs.take (i + 1)).map (fun z => tx [97 + z.1.toNat]) := by
  rw [List.take_add_one, hk, List.map_append, List.map_append, h, abcd_item hb]; rfl
theorem sum_tx (hs : List (Int × Tok)) (h5 : hs.length = 5) : (List.map ((fun x : Str => x.length) ∘ fun c => tx [c]) (wrd (hs.map Prod.fst))).sum + (List.map (fun c => tx [c]) (wrd (hs.map Prod.fst))).length ≤ 1048576 := by
  match hs, h5 with
  | [a, b, c, d, e], _ => exact Nat.le_of_ble_eq_true rfl
section
variable {prog : Program} {w : World} {A : Around} {E : Value → Shared → Prop} {s : Shared} {t u : Tok} {Q : Value → Shared → Prop}
theorem mul_tx5 (c : Nat) : Txt.mul (tx [c]) 5 = tx [c, c, c, c, c] := by
  refine Str.ext' ?_
  rw [← Array.toList_inj]
  rw [show tx [c] = ⟨#[c]⟩ from rfl, mul_one_list]; rfl
theorem mulL {z : Str} (c : Nat) (hz : z = tx [c]) (h : ∀ t' k, Q (.str (tx [c, c, c, c, c]) t') { s with toks := k }) : wpAny (model prog w) A (binaryOp .Mult (.str z t) (.int 5 u)) Q E s := by
  subst hz
  exact SB.mul (mulOk_of 1 5 (by rw [tx_len]; exact Nat.le_refl 1) (by decide) (by decide) (by decide) (by decide)) fun t' k => by rw [mul_tx5]; exact h t' k
theorem addT (l1 l2 : List Nat) (hl : l1.length + l2.length ≤ 1000) (h : ∀ t' k, Q (.str (tx (l1 ++ l2)) t') { s with toks := k }) : wpAny (model prog w) A (binaryOp .Add (.str (tx l1) t) (.str (tx l2) u)) Q E s := by
  refine SBL.add (fun t' k _ => ?_) (by rw [tx_len, tx_len, PySem.sizeLine_eq]; omega)
  rw [show tx l1 ++ tx l2 = tx (l1 ++ l2) from Str.ext' (by simp [tx, Str.cps_append])]
  exact h t' k
theorem addLit {l1 : List Nat} {z : Str} (c : Nat) (hz : z = tx [c]) (hl : l1.length ≤ 100) (h : ∀ t' k, Q (.str (tx (l1 ++ [c])) t') { s with toks := k }) : wpAny (model prog w) A (binaryOp .Add (.str (tx l1) t) (.str z u)) Q E s := by
  subst hz
  exact addT l1 [c] (by simp only [List.length_cons, List.length_nil]; omega) h
end
local macro_rules | `(tactic| walk_at "binaryOp Mult str int") => `(tactic| (k_here; (first | (refine mulL 46 (by decide +kernel) ?_) | (refine mulL 97 (by decide +kernel) ?_) | (refine mulL 98 (by decide +kernel) ?_) | (refine mulL 99 (by decide +kernel) ?_) | (refine mulL 100 (by decide +kernel) ?_)); intro _ _; (try dsimp only); (try k_fold)))
local macro_rules | `(tactic| walk_at "binaryOp Add str str") => `(tactic| (k_here; (first | (refine addLit 97 (by decide +kernel) (by decide) ?_) | (refine addLit 98 (by decide +kernel) (by decide) ?_) | (refine addLit 99 (by decide +kernel) (by decide) ?_) | (refine addLit 100 (by decide +kernel) (by decide) ?_) | (refine addT _ _ (by decide) ?_)); intro _ _; (try dsimp only [List.cons_append, List.nil_append]); (try k_fold)))
theorem lawF {w : World} {mean : ExcName → Option Value} {mg mb : Str → Option Value}
    (ss : List Stmt) (hss : lawBody.drop 11 = ss) (rest : List Stmt) (hrest : lawBody.drop 14 = rest) (sc : Scope) (hsc : lawSc = sc)
    (dp un : Nat) (gd : Option (List Code)) (a : Addr) (ccd : Value) (outer : List Env) (A₀ : Around) (base h₀ : Heap) (L : Addr) (m : Str → Option Value) (s : Shared) (Q : Flow → Shared → Prop) (E : Value → Shared → Prop)
    (Hl : Addr) (nh : Nat) (hs : List (Int × Tok)) (h5 : hs.length = 5) (hb : ∀ z ∈ hs, 0 ≤ z.1 ∧ z.1 < 4)
    (B : Below A₀ base outer h₀) (F : Fr h₀ L s.heap (fun y => if y = Str.ofString "heights" then some (.ref Hl) else m y)) (X : (hd.heap_39 w.params).In h₀)
    (news : List (Addr × Obj)) (N : News h₀ L s.heap news) (T : Top hd.view_39 LO mean mg mb h₀)
    (m1 : (Hl, intsO hs nh) ∈ news)
    (hd : dp + 30 < recursionLimit) (hu : un + 8 * 30 < cLine)
    (cont : ∀ (h' : Heap) (tk' : Nat) (t1 t2 t3 : Tok) (news' : List (Addr × Obj)),
      Fr h₀ L h' (fun y => if y = Str.ofString "falling" then some (.str (tx falL) t3) else if y = Str.ofString "rising" then some (.str (tx risL) t2) else if y = Str.ofString "word" then some (.str (tx (wrd (hs.map Prod.fst))) t1) else if y = Str.ofString "heights" then some (.ref Hl) else m y) → News h₀ L h' news' →
      wpAny (model PySem.Challenge.rw_xe0027_01.row.prog w) (ktrTop dp un gd (Str.ofString "law") sc L a ccd (PySem.cellsFrom (L + 1) sc.names []) outer) (execs rest (envOfC (Str.ofString "law") sc L a ccd)) Q E { s with heap := h', toks := tk' }) :
    wpAny (model PySem.Challenge.rw_xe0027_01.row.prog w) (ktrTop dp un gd (Str.ofString "law") sc L a ccd (PySem.cellsFrom (L + 1) sc.names []) outer) (execs ss (envOfC (Str.ofString "law") sc L a ccd)) Q E s := by
  conv at hss => lhs; whnf
  conv at hrest => lhs; whnf
  conv at hsc => lhs; whnf
  subst hss
  subst hrest
  subst hsc
  revert X
  k_fill
  intro X
  w_top off
  k_with_none
  (with_reducible refine wpAny_execs_cons ?_); try dsimp only
  try k_fold
  k_steps
  unfold Hold
  k_here
  (refine LCg.ListComp_U (F₀ := by k_asm) (by with_unfolding_all rfl) (by decide) (by rfl) (by decide) (by rfl) ?_)
  k_steps
  unfold Hold
  refine LCg.CompSrc.ledger (by rfl) (by k_asm) (by k_asm) (by k_mem) ?hsz ?hcr
  case hsz => (rw [PySem.sizeLine_eq, List.size_toArray, List.length_map, h5]; decide)
  intro g'
  refine cmp_inv (fun i ys nw => nw = _ ∧ ∃ cs : List (Str × Tok), ys = cs.map strV ∧ cs.map Prod.fst = (hs.take i).map (fun z => tx [97 + z.1.toNat])) ⟨rfl, [], rfl, rfl⟩ ?turn ?fin
  case turn =>
    intro i v I oI C oC D' m₂ ys nw h tk E' hi hv hJ hC hx F N off ne
    obtain ⟨rfl, cs9, rfl, hcs⟩ := hJ
    obtain ⟨k, t, hk, rfl⟩ := intsO_at hv
    have hkb := hb _ (List.mem_of_getElem? hk)
    try k_fold
    k_steps
    exact ⟨_, _, _, rfl, by assumption, by assumption, off, .inr ⟨_, by k_mem, rfl, _, rfl⟩, rfl, _, (List.map_append (l₁ := cs9) (l₂ := [(Txt.item (Str.ofString "abcd") k, _)])).symm, ab_snoc hk hkb hcs⟩
  rintro ys nw ⟨rfl, cs9, rfl, hcs⟩
  have hcs1 : cs9.map Prod.fst = (wrd (hs.map Prod.fst)).map (fun c => tx [c]) := by
    rw [List.size_toArray, List.length_map, List.take_of_length_le (by omega)] at hcs
    rw [hcs]; unfold wrd; rw [List.map_map, List.map_map]; rfl
  have hcs5 : cs9.length = 5 := by rw [← List.length_map (f := Prod.fst), hcs1, List.length_map]; unfold wrd; rw [List.length_map, List.length_map, h5]
  clear hcs
  try k_fold
  k_with "call builtin:str.join" => (refine Hold.out ?_)
  k_steps
  unfold Hold
  rename News _ _ _ _ => N8
  refine join_listW (News.isL N8 List.mem_cons_self) (strs_are cs9) (by decide +kernel) (by rw [hcs1, List.map_map]; exact sum_tx hs h5) ?_
  intro t8 k8
  rw [hcs1, show Txt.join (Str.ofString "") ((wrd (hs.map Prod.fst)).map fun c => tx [c]) = tx (wrd (hs.map Prod.fst)) from (eq_of_beq (join_plain_closes _ _)).trans (join_tx _)]
  (try dsimp only); (try k_fold)
  k_steps
  unfold Hold
  (with_reducible refine wpAny_execs_cons ?_); try dsimp only
  try k_fold
  k_steps
  unfold Hold
  (with_reducible refine wpAny_execs_cons ?_); try dsimp only
  try k_fold
  k_steps
  unfold Hold
  rename Fr _ _ _ _ => Fe
  rename News _ _ _ _ => Ne
  exact cont _ _ _ _ _ _ Fe Ne
end Mine
end
section
set_option maxRecDepth 100000
set_option maxHeartbeats 20000000
set_option pp.maxSteps 20000
namespace Mine
local macro_rules | `(tactic| walk_at "execs cons") => `(tactic| (refine Hold.out ?_))
theorem lawG {w : World} {mean : ExcName → Option Value} {mg mb : Str → Option Value}
    (ss : List Stmt) (hss : lawBody.drop 14 = ss) (sc : Scope) (hsc : lawSc = sc)
    (dp un : Nat) (gd : Option (List Code)) (a : Addr) (ccd : Value) (outer : List Env) (A₀ : Around) (base h₀ : Heap) (L : Addr) (m : Str → Option Value) (s : Shared) (Q : Flow → Shared → Prop) (E : Value → Shared → Prop)
    (x y z : Str) (ta tb tc td te : Tok) (k1 k2 : Int) (hk1 : 0 ≤ k1 ∧ k1 ≤ 100) (hk2 : 0 ≤ k2 ∧ k2 ≤ 100)
    (C1 : ∀ t1 t2 t3, Ctr w mean mg mb 76 [.str x t1, .str y t2, .int 34 t3] [] 6 (fun _ => True) (fun r => ∃ t', r = .int (34 - 2 * k1) t'))
    (C2 : ∀ t1 t2 t3, Ctr w mean mg mb 76 [.str x t1, .str z t2, .int 34 t3] [] 6 (fun _ => True) (fun r => ∃ t', r = .int (34 - 2 * k2) t'))
    (B : Below A₀ base outer h₀) (F : Fr h₀ L s.heap (fun q => if q = Str.ofString "falling" then some (.str z tc) else if q = Str.ofString "rising" then some (.str y tb) else if q = Str.ofString "word" then some (.str x ta) else if q = Str.ofString "high" then some (.int k2 te) else if q = Str.ofString "wide" then some (.int k1 td) else m q)) (X : (hd.heap_39 w.params).In h₀)
    (news : List (Addr × Obj)) (N : News h₀ L s.heap news) (T : Top hd.view_39 LO mean mg mb h₀)
    (hd : dp + 30 < recursionLimit) (hu : un + 8 * 30 < cLine)
    (hret : ∀ (h' : Heap) (tk' : Nat) (m' : Str → Option Value), Fr h₀ L h' m' → News h₀ L h' news → Q (.ret (.bool true)) { s with heap := h', toks := tk' }) :
    wpAny (model PySem.Challenge.rw_xe0027_01.row.prog w) (ktrTop dp un gd (Str.ofString "law") sc L a ccd (PySem.cellsFrom (L + 1) sc.names []) outer) (execs ss (envOfC (Str.ofString "law") sc L a ccd)) Q E s := by
  conv at hss => lhs; whnf
  conv at hsc => lhs; whnf
  subst hss
  subst hsc
  revert X
  k_fill
  intro X
  w_top off
  k_with_none
  (with_reducible refine wpAny_execs_cons ?_); try dsimp only
  try k_fold
  k_with "call ref" => (k_dflt (refine' Ctr.use (by first | exact C1 _ _ _ | exact C2 _ _ _) ?k1 ?k2 ?k3 ?k4 ?k5 ?kK ?kd ?ku trivial ?_; (case k1 => k_asm); (case k2 => k_asm); (case k3 => k_asm); (case k4 => k_asm); (case k5 => k_asm); (case kK => exact rfl); (case kd => ktr_room); (case ku => ktr_units); k_whole; intro r9 h9 tk9 F9 N9 R9; obtain ⟨t9,e9⟩ := R9; subst e9; (try dsimp only); (try k_fold)))
  k_steps
  · exfalso; omega
  unfold Hold
  (with_reducible refine wpAny_execs_cons ?_); try dsimp only
  try k_fold
  k_steps
  rw [beq_self_eq_true]
  rename Fr _ _ _ _ => Fe
  rename News _ _ _ _ => Ne
  exact hret _ _ _ Fe Ne
end Mine
end
section
set_option maxRecDepth 100000
set_option maxHeartbeats 2000000
namespace Mine
theorem ris_low : ∀ c ∈ risL, lowS c := by unfold lowS risL; decide
theorem fal_low : ∀ c ∈ falL, lowS c := by unfold lowS falL; decide
theorem wrd_lowS {H : List Int} (hb : ∀ h ∈ H, 0 ≤ h ∧ h < 4) : ∀ c ∈ wrd H, lowS c := by
  intro c hc
  have := wrd_low hb c hc
  unfold lowS
  omega
theorem wrd_head {H : List Int} (h5 : H.length = 5) (hb : ∀ h ∈ H, 0 ≤ h ∧ h < 4) : (wrd H).getD 0 0 ≠ 46 := by
  match H, h5 with
  | a :: l, _ =>
    have := wrd_low hb (97 + a.toNat) (by unfold wrd; exact .head _)
    show 97 + a.toNat ≠ 46
    omega
theorem zvs_len (g : Nat → Str × Tok) (U : Int) (H : List Int) : (zvs g U H).length = H.length := by
  unfold zvs mini; rw [List.length_map, List.length_map, List.length_range]
theorem lawR {w : World} {mean : ExcName → Option Value} {mg mb : Str → Option Value} (U : Int) (hU1 : 1 ≤ U) (hU2 : U ≤ 720) (hs : List (Int × Tok)) (h5 : hs.length = 5) (hb : ∀ z ∈ hs, 0 ≤ z.1 ∧ z.1 < 4) (g : Nat → Str × Tok)
    (hz : ∀ y ∈ zvs g (U * 60) (hs.map Prod.fst), Off w mean mg mb y.z y.v) (hok : ∀ y ∈ zvs g (U * 60) (hs.map Prod.fst), PyData.strOk y.z = true)
    (ss : List Stmt) (hss : lawBody.drop 5 = ss) (sc : Scope) (hsc : lawSc = sc)
    (dp un : Nat) (gd : Option (List Code)) (a : Addr) (ccd : Value) (outer : List Env) (A₀ : Around) (base h₀ : Heap) (L : Addr) (m : Str → Option Value) (s : Shared) (Q : Flow → Shared → Prop) (E : Value → Shared → Prop)
    (Z Hl : Addr) (nz nh : Nat) (oT oU : Obj) (tU : Tok) (dT : oT.data = .cell none) (dU : oU.data = .cell (some (.int U tU)))
    (B : Below A₀ base outer h₀) (F : Fr h₀ L s.heap (fun y => if y = Str.ofString "zones" then some (.ref Z) else if y = Str.ofString "heights" then some (.ref Hl) else m y)) (X : (hd.heap_39 w.params).In h₀)
    (N : News h₀ L s.heap [(Z, strsO ((zvs g (U * 60) (hs.map Prod.fst)).map ZV.zt) nz), (Hl, intsO hs nh), (L + 1 + 1, oT), (L + 1, oU)]) (T : Top hd.view_39 LO mean mg mb h₀)
    (hne1 : @Ne Nat (L + 1 + 1) Z) (hne2 : @Ne Nat (L + 1 + 1) Hl)
    (hd : dp + 30 < recursionLimit) (hu : un + 8 * 30 < cLine)
    (hret : ∀ (h' : Heap) (tk' : Nat) (m' : Str → Option Value), Fr h₀ L h' m' → Q (.ret (.bool true)) { s with heap := h', toks := tk' }) :
    wpAny (model PySem.Challenge.rw_xe0027_01.row.prog w) (ktrTop dp un gd (Str.ofString "law") sc L a ccd (PySem.cellsFrom (L + 1) sc.names []) outer) (execs ss (envOfC (Str.ofString "law") sc L a ccd)) Q E s := by
  subst hss
  subst hsc
  have hH5 : (hs.map Prod.fst).length = 5 := by rw [List.length_map, h5]
  have hHb : ∀ h ∈ hs.map Prod.fst, 0 ≤ h ∧ h < 4 := fun h hh => by obtain ⟨z, hz, rfl⟩ := List.mem_map.mp hh; exact hb z hz
  have hV5 : (zvs g (U * 60) (hs.map Prod.fst)).length = 5 := by rw [zvs_len, hH5]
  obtain ⟨p1, p2, p3, p4⟩ := pl_tab hH5 hHb (U := U * 60) (by omega) g
  obtain ⟨⟨c1, q1, q2, q3, q4⟩, ⟨c2, r1, r2, r3, r4⟩⟩ := pl_lev hH5 hHb
  have hsz0 := tabOf_size (U * 60) 0 (zvs g (U * 60) (hs.map Prod.fst))
  rw [hV5] at hsz0
  obtain ⟨hs1, hs2⟩ := hsz0
  refine lawB U hU1 hU2 _ hV5 hz hok _ rfl _ rfl _ rfl dp un gd a ccd outer A₀ base h₀ L m s Q E Z Hl nz nh hs oT oU tU dT dU B F X N T hne1 hne2 hd hu ?_
  intro a1 k1 R oT' news h1 tk1 hR dT' F1 N1 mZ mH mT mU mTab mR
  have hRl : R.length = (tabOf (U * 60) 0 (zvs g (U * 60) (hs.map Prod.fst))).length := by rw [← hR, List.length_map]
  have hRr : ∀ r ∈ R, r.zs.length ≤ 5 := fun r hr => hs2 _ (hR ▸ List.mem_map_of_mem hr)
  have hhead : ((tabOf (U * 60) 0 (zvs g (U * 60) (hs.map Prod.fst))).headD []).length ≤ 5 := by
    cases hT : tabOf (U * 60) 0 (zvs g (U * 60) (hs.map Prod.fst)) with
    | nil => exact absurd hT p1
    | cons r l => exact hs2 r (hT ▸ .head _)
  refine lawC (zvs g (U * 60) (hs.map Prod.fst)) _ rfl _ rfl _ rfl dp un gd a ccd outer A₀ base h₀ L m _ Q E Z Hl nz nh hs h5 oT' a1 k1 R dT' (fun e => p1 (by rw [← hR, e]; rfl)) (by rw [hR]; exact p2) (by rw [hRl]; exact p3) (by omega) hRr B F1 X news N1 T mZ mH mT mTab mR hd hu ?_
  intro h2 tk2 t1 t2 F2 N2
  obtain ⟨W, hW⟩ : ∃ W : Nat, (W : Int) = longest (hs.map Prod.fst) := ⟨_, p2⟩
  have hW5 : W ≤ 5 := by omega
  have hWn : (longest (hs.map Prod.fst)).toNat = W := by omega
  obtain ⟨W2, hW2⟩ : ∃ W2 : Nat, (W2 : Int) = longest ((hs.map Prod.fst).map (3 - ·)) := ⟨_, p3⟩
  have F2' := frPick F2 (Str.ofString "wide") (.int (W : Int) t1) (by rw [hW]; rfl)
  refine lawD _ rfl _ rfl _ rfl dp un gd a ccd outer A₀ base h₀ L _ _ Q E oT' a1 k1 R dT' (by omega) hRr W hW5 t1 B F2' X news N2 T mT mTab mR hd hu ?_
  intro h3 tk3 D TR nw hTR hsub hTRm F3 N3 off3
  have F3' := frPick (frPick F3 (Str.ofString "turned") (.ref D) rfl) (Str.ofString "zones") (.ref Z) rfl
  refine lawE U hU1 hU2 _ hV5 hz hok _ rfl _ rfl _ rfl dp un gd a ccd outer A₀ base h₀ L _ _ Q E Z nz oU tU dU D TR (by rw [hTR, hR, p4, hWn]) B F3' X _ N3 T (.tail _ (hsub _ mZ)) (.tail _ (hsub _ mU)) (.head _) (fun r hr => .tail _ (hTRm r hr)) hd hu ?_
  intro h4 tk4 F4 N4
  have F4' := frPick F4 (Str.ofString "heights") (.ref Hl) rfl
  refine lawF _ rfl _ rfl _ rfl dp un gd a ccd outer A₀ base h₀ L _ _ Q E Hl nh hs h5 hb B F4' X _ N4 T (.tail _ (hsub _ mH)) hd hu ?_
  intro h5' tk5 t3 t4 t6 news5 F5 N5
  have F5' := frPick (frPick (frPick (frPick (frPick F5 (Str.ofString "wide") (.int (W : Int) t1) rfl) (Str.ofString "high") (.int (longest ((hs.map Prod.fst).map (3 - ·))) t2) rfl) (Str.ofString "word") (.str (tx (wrd (hs.map Prod.fst))) t3) rfl) (Str.ofString "rising") (.str (tx risL) t4) rfl) (Str.ofString "falling") (.str (tx falL) t6) rfl
  have hwl : (wrd (hs.map Prod.fst)).length = 5 := by unfold wrd; rw [List.length_map, hH5]
  refine lawG _ rfl _ rfl dp un gd a ccd outer A₀ base h₀ L _ _ Q E (tx (wrd (hs.map Prod.fst))) (tx risL) (tx falL) t3 t4 t6 t1 t2 (W : Int) (longest ((hs.map Prod.fst).map (3 - ·))) (by omega) (by omega) (fun x1 x2 x3 => ?_) (fun x1 x2 x3 => ?_) B F5' X _ N5 T hd hu ?_
  · have := lev_ctr (w := w) (mean := mean) (mg := mg) (mb := mb) (wrd (hs.map Prod.fst)) risL x1 x2 x3 hwl rfl (wrd_head hH5 hHb) c1 q1 q2 (wrd_lowS hHb) ris_low q3
    rw [q4, ← hW] at this
    exact this
  · have := lev_ctr (w := w) (mean := mean) (mg := mg) (mb := mb) (wrd (hs.map Prod.fst)) falL x1 x2 x3 hwl rfl (wrd_head hH5 hHb) c2 r1 r2 (wrd_lowS hHb) fal_low r3
    rw [r4] at this
    exact this
  · intro h6 tk6 m6 F6 _
    exact hret h6 tk6 m6 F6
end Mine
end
section
set_option maxRecDepth 100000
set_option maxHeartbeats 2000000
namespace Mine
theorem of_eq {U : Int} (zs : List (Int × Tok)) : zs.map (ofG U) = ((zs.map Prod.fst).map fun k' => k'.fmod 4).map fun k' => (k' - 1) * U * 60 := by
  rw [List.map_map, List.map_map]
  refine List.map_congr_left fun z _ => ?_
  show 60 * ((z.1.fmod 4 - 1) * U) = (z.1.fmod 4 - 1) * U * 60
  exact Int.mul_comm _ _
theorem hs_bd {hs zs : List (Int × Tok)} (hh1 : hs.map Prod.fst = (zs.map Prod.fst).map fun k' => k'.fmod 4) : ∀ z ∈ hs, 0 ≤ z.1 ∧ z.1 < 4 := by
  intro z hz
  have h := List.mem_map_of_mem (f := Prod.fst) hz
  rw [hh1] at h
  obtain ⟨k, _, e⟩ := List.mem_map.mp h
  rw [← e]
  exact ⟨Int.fmod_nonneg_of_pos k (by omega), Int.fmod_lt_of_pos k (by omega)⟩
theorem lawV {w : World} {mean : ExcName → Option Value} {mg mb : Str → Option Value} {U : Int} (hU1 : 1 ≤ U) (hU2 : U ≤ 720) {zs hs : List (Int × Tok)} {zt : List (Str × Tok)} (h5 : zs.length = 5) (hzt5 : zt.length = 5)
    (hzt : zt.map Prod.fst = zs.map (zoG U)) (hh1 : hs.map Prod.fst = (zs.map Prod.fst).map fun k' => k'.fmod 4) :
    ∃ g : Nat → Str × Tok, (zvs g (U * 60) (hs.map Prod.fst)).map ZV.zt = zt ∧ (∀ y ∈ zvs g (U * 60) (hs.map Prod.fst), Off w mean mg mb y.z y.v) ∧ (∀ y ∈ zvs g (U * 60) (hs.map Prod.fst), PyData.strOk y.z = true) := by
  have hl : (hs.map Prod.fst).length = 5 := by rw [hh1, List.length_map, List.length_map, h5]
  have key : ∀ y ∈ zvs (fun i => zt.getD i (⟨#[]⟩, 0)) (U * 60) (hs.map Prod.fst), ∃ k : Int, y.z = zoG U (k, 0) ∧ y.v = 60 * ((k.fmod 4 - 1) * U) := by
    intro y hy
    unfold zvs mini at hy
    obtain ⟨y0, hy0, rfl⟩ := List.mem_map.mp hy
    obtain ⟨i, hi, rfl⟩ := List.mem_map.mp hy0
    have hi5 : @LT.lt Nat _ i 5 := by rw [← hl]; exact List.mem_range.mp hi
    have hiz : @LT.lt Nat _ i zs.length := by omega
    refine ⟨zs[i].1, ?_, ?_⟩
    · show (zt.getD i (⟨#[]⟩, 0)).1 = _
      have e : (zt.map Prod.fst)[i]? = (zs.map (zoG U))[i]? := by rw [hzt]
      rw [List.getElem?_map, List.getElem?_map, List.getElem?_eq_getElem (by omega), List.getElem?_eq_getElem hiz] at e
      rw [List.getD_eq_getElem?_getD, List.getElem?_eq_getElem (by omega)]
      exact Option.some.inj e
    · show U * 60 * ((hs.map Prod.fst).getD i 0 - 1) = _
      rw [hh1, List.getD_eq_getElem?_getD, List.getElem?_map, List.getElem?_map, List.getElem?_eq_getElem hiz]
      show U * 60 * (zs[i].1.fmod 4 - 1) = _
      rw [Int.mul_comm U 60, Int.mul_assoc, Int.mul_comm U]
  refine ⟨fun i => zt.getD i (⟨#[]⟩, 0), ?_, ?_, ?_⟩
  · unfold zvs mini
    rw [List.map_map, List.map_map, hl]
    match zt, hzt5 with
    | [a, b, c, d, e], _ => rfl
  · intro y hy
    obtain ⟨k, e1, e2⟩ := key y hy
    rw [e1, e2]
    exact zone_off (zoG_ok hU1 hU2).1 (zoG_ok hU1 hU2).2
  · intro y hy
    obtain ⟨k, e1, -⟩ := key y hy
    rw [e1]
    exact zone_ok (zoG_ok hU1 hU2).1
end Mine
end
section
set_option maxRecDepth 100000
set_option maxHeartbeats 20000000
set_option pp.maxSteps 20000
namespace Mine
local macro_rules | `(tactic| walk_at "execs cons") => `(tactic| (refine Hold.out ?_))
local macro_rules | `(tactic| k_mem) => `(tactic| (repeat (first | exact List.mem_cons_self | refine List.mem_cons_of_mem _ ?_)))
local macro_rules | `(tactic| walk_at "CompSrc") => `(tactic| (k_here; (with_reducible show LCg.CompSrc _ _ _ _ _ _ _ (Expr.Call _ _ _ _) _ _ _ _ _ _); (refine Hold.out ?_)))
theorem lawV' {w : World} {mean : ExcName → Option Value} {mg mb : Str → Option Value} {h₀ : Heap} {U : Int} (hT9 : Top hd.view_39 LO mean mg mb h₀) (hX9 : (hd.heap_39 w.params).In h₀) (hU1 : 1 ≤ U) (hU2 : U ≤ 720) {zs hs : List (Int × Tok)} {zt : List (Str × Tok)} (h5 : zs.length = 5) (hzt5 : zt.length = 5)
    (hzt : zt.map Prod.fst = zs.map (zoG U)) (hh1 : hs.map Prod.fst = (zs.map Prod.fst).map fun k' => k'.fmod 4) :
    ∃ g : Nat → Str × Tok, (zvs g (U * 60) (hs.map Prod.fst)).map ZV.zt = zt ∧ (∀ y ∈ zvs g (U * 60) (hs.map Prod.fst), Off w mean mg mb y.z y.v) ∧ (∀ y ∈ zvs g (U * 60) (hs.map Prod.fst), PyData.strOk y.z = true) :=
  lawV hU1 hU2 h5 hzt5 hzt hh1
theorem law : PySem.Challenge.rw_xe0027_01.Holds := hd (by
  w_top off
  k_with_none
  k_go0
  all_goals try k_fold
  (with_reducible refine wpAny_execs_cons ?_); try dsimp only
  iterate 42 (first | (k_unfold; (try dsimp only)) | walk1 | (dsimp only; walk1) | (leave1; walk_say "STEP leave1"; try dsimp only))
  (k_dflt (refine kba_turn (value' := PySem.Expr.Name (PySem.Str.ofString "_") ⟨0, 0, 0, 0⟩) (fun _ => rfl) ?_))
  (k_dflt (refine' kmk_slice_ints ?xF ?xN ?xl ?xp ?xq ?xi ?xm ?xc ?_ ?xs ?xt ?xz; (case xF => k_asm); (case xN => k_asm); (case xl => kmk_list); (case xp => kmk_part); (case xq => kmk_part); (case xi => exact .cons _ _ (.cons _ _ (.cons _ _ (.cons _ _ (.cons _ _ .nil))))); (case xm => exact kmk_from (.cons _ _ (.cons _ _ (.cons _ _ (.cons _ _ (.cons _ _ .nil))))) (by omega)); (case xc => kmk_len); (case xs => with_unfolding_all rfl); (case xt => kmk_pure); (case xz => kmk_size)))
  intro D' ws' h' F' N' l1 hI' hC' hL'
  (try k_lt l1); (try k_sweep)
  refine' kmk_add_ints ?xF ?xN ?xa ?xb ?xi ?xj ?_ ?xz
  case xF => k_asm
  case xN => k_asm
  case xa => kmk_list
  case xb => kmk_list
  case xi => assumption
  case xj => assumption
  case xz => (simp only [PySem.sizeLine_eq, List.length_take, List.length_drop, List.length_cons, List.length_nil]; omega)
  intro D us h6 F6 N6 l6 hI6
  obtain ⟨zs, hus, hz1⟩ := intsAre_zip hI6
  subst hus
  have h5 : zs.length = 5 := by rw [← List.length_map (f := Prod.fst), hz1, nums5]
  (try dsimp only); (try k_fold)
  k_steps
  unfold Hold
  have hI7 : IntsAre (zs.map intV) (zs.map Prod.fst) := intsAre_map zs
  (try k_lt l6)
  rename Fr _ _ _ _ => F7
  rename News _ _ _ _ => N7
  obtain ⟨oU, oT, rfl, rfl⟩ := cellU N7
  rename (oU.data = _) => dU
  rename (oT.data = _) => dT
  change oU.data = Data.cell none at dU
  change oT.data = Data.cell none at dT
  obtain ⟨m1, F8, hm1⟩ := frName F7
  have F9 := frPick F8 (Str.ofString "numbers") (.ref D) (by rw [hm1]; rfl)
  have N9 := cb_drop (news := [(D, intsO zs 0), (_, oU), (_, oT)]) N7 (List.forall_mem_cons.mpr ⟨by k_mem, List.forall_mem_cons.mpr ⟨by k_mem, List.forall_mem_cons.mpr ⟨by k_mem, List.forall_mem_nil _⟩⟩⟩)
  obtain ⟨-, -, -, -, lU, lT⟩ := l6
  clear hm1 F8 F7 N7 hI6 hz1
  (with_reducible refine wpAny_execs_cons ?_); try dsimp only
  k_steps
  unfold Hold
  rename Fr _ _ _ _ => F10
  rename News _ _ _ _ => N10
  obtain ⟨oT', oU', e1, e2⟩ := cell3 (news := [_]) N10
  subst e1
  subst e2
  rename (oU'.data = _) => dU2
  obtain ⟨U, hU, hU1, hU2⟩ := fmod720 (zs.map Prod.fst).sum
  rw [← hU] at dU2
  clear hU dT
  rename (oT'.data = _) => dT
  (with_reducible refine wpAny_execs_cons ?_); try dsimp only
  k_steps
  unfold Hold
  rename Fr _ _ _ _ => F11
  rename News _ _ _ _ => N11
  rename IntsAre _ (List.map (fun k' => Int.fmod k' 4) (List.map Prod.fst zs)) => hI8
  obtain ⟨H, o9, rfl, e9⟩ := hd_name2 N11
  clear e9 o9
  obtain ⟨hs, hus, hh1⟩ := intsAre_zip hI8
  subst hus
  have hh5 : hs.length = 5 := by rw [← List.length_map (f := Prod.fst), hh1, List.length_map, List.length_map, h5]
  have N12 : News _ _ _ [(H, intsO hs (hs.map intV).length), (D, intsO zs 0), (_, oT'), (_, oU')] := N11
  clear N11; try clear F10; try clear F9; try clear N9; try clear N10; try clear dU
  rename (_ ∧ _ ∧ _) => o12
  (with_reducible refine wpAny_execs_cons ?_); try dsimp only
  obtain ⟨tU, dU⟩ : ∃ t, oU'.data = .cell (some (.int U t)) := ⟨_, dU2⟩
  clear dU2
  k_steps
  unfold Hold
  refine LCg.CompSrc.ledger (by rfl) F11 N12 (by k_mem) ?hsz ?hcr
  case hsz => (rw [PySem.sizeLine_eq, List.size_toArray, List.length_map, h5]; decide)
  intro g'
  refine cmp_inv (fun i ys nw => nw = _ ∧ ∃ zt : List (Str × Tok), ys = zt.map strV ∧ zt.map Prod.fst = (zs.take i).map (zoG U)) ⟨rfl, [], rfl, rfl⟩ ?turn ?fin
  case turn =>
    intro i v I oI C oC D' m₂ ys nw h tk E' hi hv hJ hC hx F N off ne
    obtain ⟨rfl, zt, rfl, hzt⟩ := hJ
    obtain ⟨k, t, hk, rfl⟩ := intsO_at hv
    try k_fold
    k_with "call ref" => (k_dflt (refine' Ctr.use (zon_ctr _ _ _ _ (zoG_ok hU1 hU2).1 (zoG_ok hU1 hU2).2) ?k1 ?k2 ?k3 ?k4 ?k5 ?kK ?kd ?ku trivial ?_; (case k1 => k_asm); (case k2 => k_asm); (case k3 => k_asm); (case k4 => k_asm); (case k5 => k_asm); (case kK => exact rfl); (case kd => ktr_room); (case ku => ktr_units); k_whole; intro r9 h9 tk9 F9 N9 R9; obtain ⟨t9,e9⟩ := R9; subst e9; (try dsimp only); (try k_fold)))
    k_steps
    exact ⟨h9, tk9, _, rfl, F9, N9, off, .inr ⟨_, by k_mem, rfl, _, rfl⟩, rfl, _, (List.map_append (l₁ := zt) (l₂ := [(zoG U (k, t), t9)])).symm, zo_snoc hk hzt⟩
  rintro ys nw ⟨rfl, zt, rfl, hzt⟩
  rw [List.size_toArray, List.length_map, List.take_length] at hzt
  have hzt5 : zt.length = 5 := by rw [← List.length_map (f := Prod.fst), hzt, List.length_map, h5]
  try k_fold
  k_steps
  unfold Hold
  rename Fr _ _ _ _ => F13
  rename News _ _ _ _ => N13
  obtain ⟨Z, o9, rfl, e9⟩ := hd_name2 N13
  clear e9 o9
  have N14 : News _ _ _ [(Z, strsO zt (zt.map strV).length), (H, intsO hs (hs.map intV).length), (D, intsO zs 0), (_, oT'), (_, oU')] := N13
  clear N13; try clear F11; try clear N12
  (with_reducible refine wpAny_execs_cons ?_); try dsimp only
  k_steps
  unfold Hold
  refine LCg.CompSrc.ledger (by rfl) F13 N14 (by k_mem) ?hsz2 ?hcr2
  case hsz2 => (rw [PySem.sizeLine_eq, List.size_toArray, List.length_map, hzt5]; decide)
  intro g'
  refine cmp_inv (fun i ys nw => nw = _ ∧ ∃ os : List (Int × Tok), ys = os.map intV ∧ os.map Prod.fst = (zs.take i).map (ofG U)) ⟨rfl, [], rfl, rfl⟩ ?turn2 ?fin2
  case turn2 =>
    intro i v I oI C oC D' m₂ ys nw h tk E' hi hv hJ hC hx F N off ne
    obtain ⟨rfl, os, rfl, hos⟩ := hJ
    obtain ⟨z, tz, hz, rfl⟩ := strsO_at hv
    obtain ⟨k, t, hk, rfl⟩ := zt_at hzt hz
    try k_fold
    k_with "call ref" => (k_dflt (refine' Ctr.use (zone_off (zoG_ok hU1 hU2).1 (zoG_ok hU1 hU2).2 _) ?k1 ?k2 ?k3 ?k4 ?k5 ?kK ?kd ?ku trivial ?_; (case k1 => k_asm); (case k2 => k_asm); (case k3 => k_asm); (case k4 => k_asm); (case k5 => k_asm); (case kK => exact rfl); (case kd => ktr_room); (case ku => ktr_units); k_whole; intro r9 h9 tk9 F9 N9 R9; obtain ⟨t9,e9⟩ := R9; subst e9; (try dsimp only); (try k_fold)))
    k_steps
    exact ⟨h9, tk9, _, rfl, F9, N9, off, .inr ⟨_, by k_mem, rfl, _, rfl⟩, rfl, _, (List.map_append (l₁ := os) (l₂ := [(ofG U (k, t), t9)])).symm, of_snoc hk hos⟩
  rintro ys nw ⟨rfl, os, rfl, hos⟩
  have hos1 : os.map Prod.fst = zs.map (ofG U) := by
    rw [List.size_toArray, List.length_map, List.take_of_length_le (by omega)] at hos
    exact hos
  clear hos
  have hI9 : IntsAre (os.map intV) (zs.map (ofG U)) := hos1 ▸ intsAre_map os
  try k_fold
  k_steps
  · unfold Hold
    rename Fr _ _ _ _ => Fe
    rename News _ _ _ _ => Ne
    rename (_ ≠ Z ∧ _) => hZne
    have N9 := cb_drop (news := [(Z, strsO zt (zt.map strV).length), (H, intsO hs (hs.map intV).length), (_, oT'), (_, oU')]) Ne (List.forall_mem_cons.mpr ⟨by k_mem, List.forall_mem_cons.mpr ⟨by k_mem, List.forall_mem_cons.mpr ⟨by k_mem, List.forall_mem_cons.mpr ⟨by k_mem, List.forall_mem_nil _⟩⟩⟩⟩)
    obtain ⟨g, hg1, hg2, hg3⟩ := lawV' (by k_asm) (by k_asm) hU1 hU2 h5 hzt5 hzt hh1
    rw [← hg1] at N9
    (try dsimp only); (try k_fold)
    k_dflt (refine' lawR U hU1 hU2 hs hh5 (hs_bd hh1) g hg2 hg3 _ ?hss _ ?hsc _ _ _ _ _ _ _ _ _ _ _ _ _ _ Z H _ _ oT' oU' tU dT dU ?B Fe ?X N9 ?T hZne.2.2.1 o12.2.1 ?hd ?hu ?hret)
    case hss => exact rfl
    case hsc => exact rfl
    case B => k_asm
    case X => k_asm
    case T => k_asm
    case hd => ktr_room
    case hu => ktr_units
    case hret =>
      intro h9 tk9 m9 F9
      k_steps


  · exfalso
    rename (_ ≠ _) => hne
    exact hne (of_eq zs))
end Mine
end
set_option maxRecDepth 100000 in
set_option maxHeartbeats 8000000 in
theorem PySem.Challenge.cw_xe0027_01_holds : PySem.Challenge.rw_xe0027_01.Holds := by
  exact Mine.law
