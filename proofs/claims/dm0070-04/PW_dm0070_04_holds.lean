import PyProof.Rows.All
import Wide.All
import OpenK.AllK
import Wide.FinOn
import PySem.Challenge.RW_dm0070_04
/-! The law of pretty_flags: the module's top, each def and the law walked by the library's rules; the plain laws of the binary places beside them. -/
set_option Elab.async false

section 
open PySem PySem.W PyProof.Rows
namespace Mine

/-! ## whole numbers by their binary places -/
def bit (n : Int) (i : Nat) : Bool := decide (n / 2 ^ i % 2 = 1)

theorem ediv_step (n : Int) (i : Nat) : n / 2 ^ (i + 1) = n / 2 ^ i / 2 := by
  rw [Int.pow_succ, Int.ediv_ediv_of_nonneg (Int.le_of_lt (kbt_pos i))]
theorem ediv_step' (n : Int) (i : Nat) : n / 2 ^ (i + 1) = n / 2 / 2 ^ i := by
  rw [Int.pow_succ, Int.mul_comm, Int.ediv_ediv_of_nonneg (by decide)]
theorem and_half (x y : Int) : Builtin.bitAnd x y / 2 = Builtin.bitAnd (x / 2) (y / 2) ∧ (Builtin.bitAnd x y % 2 = 1 ↔ (x % 2 = 1 ∧ y % 2 = 1)) := by
  have h := kbt_halves x y
  by_cases c : x % 2 = 1 ∧ y % 2 = 1
  · rw [if_pos c] at h; exact ⟨by omega, by omega⟩
  · rw [if_neg c] at h; refine ⟨by omega, ⟨fun e => absurd e (by omega), fun e => absurd e c⟩⟩
theorem sh_and (x y : Int) : ∀ k : Nat, Builtin.bitAnd x y / 2 ^ k = Builtin.bitAnd (x / 2 ^ k) (y / 2 ^ k)
  | 0 => by simp
  | k + 1 => by rw [ediv_step, sh_and x y k, (and_half _ _).1, ← ediv_step, ← ediv_step]
theorem bit_and (x y : Int) (i : Nat) : bit (Builtin.bitAnd x y) i = (bit x i && bit y i) := by
  unfold bit; rw [sh_and]
  have := (and_half (x / 2 ^ i) (y / 2 ^ i)).2
  rw [Bool.eq_iff_iff, Bool.and_eq_true, decide_eq_true_eq, decide_eq_true_eq, decide_eq_true_eq]; exact this
theorem sh_not (x : Int) : ∀ k : Nat, (-1 - x) / 2 ^ k = -1 - x / 2 ^ k
  | 0 => by simp
  | k + 1 => by rw [ediv_step, sh_not x k, ediv_step]; omega
theorem bit_not (x : Int) (i : Nat) : bit (-1 - x) i = !bit x i := by
  unfold bit; rw [sh_not]
  rw [Bool.eq_iff_iff, Bool.not_eq_true', decide_eq_true_eq, decide_eq_false_iff_not]; omega
theorem or_not (x y : Int) : Builtin.bitOr x y = -1 - Builtin.bitAnd (-1 - x) (-1 - y) := by
  unfold Builtin.bitOr; rw [kbt_not, kbt_not, kbt_not]
  have e : ∀ z : Int, -z - 1 = -1 - z := fun z => by omega
  rw [e, e, e]
theorem bit_or (x y : Int) (i : Nat) : bit (Builtin.bitOr x y) i = (bit x i || bit y i) := by
  rw [or_not, bit_not, bit_and, bit_not, bit_not]; cases bit x i <;> cases bit y i <;> rfl
theorem sh_or (x y : Int) (k : Nat) : Builtin.bitOr x y / 2 ^ k = Builtin.bitOr (x / 2 ^ k) (y / 2 ^ k) := by
  rw [or_not, sh_not, sh_and, sh_not, sh_not, ← or_not]
theorem xor_half (x y : Int) : Builtin.bitXor x y / 2 = Builtin.bitXor (x / 2) (y / 2) ∧ (Builtin.bitXor x y % 2 = 1 ↔ ¬ (x % 2 = 1 ↔ y % 2 = 1)) := by
  have h := kbt_halves x y
  rw [bitXor_and, bitXor_and]
  by_cases c : x % 2 = 1 ∧ y % 2 = 1
  · rw [if_pos c] at h; rw [h]; exact ⟨by omega, by omega⟩
  · rw [if_neg c] at h; rw [h]; exact ⟨by omega, by omega⟩
theorem sh_xor (x y : Int) : ∀ k : Nat, Builtin.bitXor x y / 2 ^ k = Builtin.bitXor (x / 2 ^ k) (y / 2 ^ k)
  | 0 => by simp
  | k + 1 => by rw [ediv_step, sh_xor x y k, (xor_half _ _).1, ← ediv_step, ← ediv_step]
theorem bit_xor (x y : Int) (i : Nat) : bit (Builtin.bitXor x y) i = (bit x i != bit y i) := by
  unfold bit; rw [sh_xor]
  have := (xor_half (x / 2 ^ i) (y / 2 ^ i)).2
  rw [Bool.eq_iff_iff, bne_iff_ne, decide_eq_true_eq, this]
  by_cases a : x / 2 ^ i % 2 = 1 <;> by_cases b : y / 2 ^ i % 2 = 1 <;> simp [a, b]

/-- within 2 ** 50 -/
def Small (n : Int) : Prop := -(2 ^ 50) ≤ n ∧ n < 2 ^ 50
theorem small_iff (n : Int) : Small n ↔ (n / 2 ^ 50 = 0 ∨ n / 2 ^ 50 = -1) := by unfold Small; omega
theorem small_and {x y : Int} (hx : Small x) (hy : Small y) : Small (Builtin.bitAnd x y) := by
  rw [small_iff] at *; rw [sh_and]
  rcases hx with e | e <;> rcases hy with f | f <;> rw [e, f] <;> decide
theorem small_or {x y : Int} (hx : Small x) (hy : Small y) : Small (Builtin.bitOr x y) := by
  rw [small_iff] at *; rw [sh_or]
  rcases hx with e | e <;> rcases hy with f | f <;> rw [e, f] <;> decide
theorem small_xor {x y : Int} (hx : Small x) (hy : Small y) : Small (Builtin.bitXor x y) := by
  rw [small_iff] at *; rw [sh_xor]
  rcases hx with e | e <;> rcases hy with f | f <;> rw [e, f] <;> decide
theorem small_not {x : Int} (hx : Small x) : Small (-1 - x) := by unfold Small at *; omega

/-! ## the words -/
def wordsL : List Str := [Str.ofString "OPTIMIZED", Str.ofString "NEWLOCALS", Str.ofString "VARARGS", Str.ofString "VARKEYWORDS", Str.ofString "NESTED", Str.ofString "GENERATOR", Str.ofString "NOFREE", Str.ofString "COROUTINE",
  Str.ofString "ITERABLE_COROUTINE", Str.ofString "ASYNC_GENERATOR", Str.ofString "0x400", Str.ofString "0x800", Str.ofString "0x1000", Str.ofString "0x2000", Str.ofString "0x4000", Str.ofString "0x8000",
  Str.ofString "0x10000", Str.ofString "0x20000", Str.ofString "0x40000", Str.ofString "0x80000", Str.ofString "0x100000", Str.ofString "0x200000", Str.ofString "0x400000", Str.ofString "0x800000",
  Str.ofString "0x1000000", Str.ofString "0x2000000", Str.ofString "0x4000000", Str.ofString "0x8000000", Str.ofString "0x10000000", Str.ofString "0x20000000", Str.ofString "0x40000000", Str.ofString "0x80000000"]
def wd (i : Nat) : Str := wordsL.getD i (Str.ofString "")
theorem wordsL_len : wordsL.length = 32 := rfl
theorem wordsL_get {i : Nat} (h : i < 32) : wordsL[i]? = some (wd i) := by
  unfold wd; rw [List.getD_eq_getElem?_getD, List.getElem?_eq_getElem (by rw [wordsL_len]; exact h)]; rfl
theorem wordsL_nodup : wordsL.Nodup := by decide +kernel
theorem wd_len : ∀ w ∈ wordsL, w.length ≤ 18 := by decide +kernel
theorem wordsL_eq : wordsL = (List.range 32).map wd := by decide +kernel
theorem wd_hex : ∀ i : Nat, i < 32 → 10 ≤ i → baseText "0x" 16 (2 ^ i) = wd i := by decide +kernel
theorem wd_inj {i j : Nat} (hi : i < 32) (hj : j < 32) (e : wd i = wd j) : i = j := by
  have h1 := wordsL_get hi; have h2 := wordsL_get hj
  rw [← e] at h2
  exact (List.getElem?_inj (by rw [wordsL_len]; exact hi) wordsL_nodup).mp (h1.trans h2.symm)

def rowOf (n : Int) (k : Nat) : List Str := ((List.range k).filter (bit n)).map wd
theorem rowOf_succ (n : Int) (k : Nat) : rowOf n (k + 1) = rowOf n k ++ if bit n k then [wd k] else [] := by
  unfold rowOf; rw [List.range_succ, List.filter_append, List.map_append]
  by_cases h : bit n k <;> simp [h]
theorem mem_rowOf {n : Int} {k i : Nat} (hk : k ≤ 32) (hi : i < 32) : wd i ∈ rowOf n k ↔ i < k ∧ bit n i = true := by
  unfold rowOf; rw [List.mem_map]
  constructor
  · rintro ⟨j, hj, e⟩
    obtain ⟨h1, h2⟩ := List.mem_filter.mp hj
    have := List.mem_range.mp h1
    have e' := wd_inj (by omega) hi e
    subst e'; exact ⟨this, h2⟩
  · rintro ⟨h1, h2⟩; exact ⟨i, List.mem_filter.mpr ⟨List.mem_range.mpr h1, h2⟩, rfl⟩
theorem filter_words {S : Str → Bool} {p : Nat → Bool} (h : ∀ i, i < 32 → S (wd i) = p i) : wordsL.filter S = ((List.range 32).filter p).map wd := by
  rw [wordsL_eq, List.filter_map]
  congr 1
  refine List.filter_congr fun i hi => ?_
  exact h i (List.mem_range.mp hi)
theorem filter_row {S : Str → Bool} {n : Int} (h : ∀ i, i < 32 → S (wd i) = bit n i) : wordsL.filter S = rowOf n 32 := filter_words h

/-! ## the text -/
def comma : Str := Str.ofString ", "
def txt (row : List Str) (ab : Int) : Str :=
  if ab = 0 ∧ row ≠ [] then Txt.join comma row else Txt.join comma (row ++ [baseText "0x" 16 (ab * 2 ^ 32)])
def pf (n : Int) : Str := txt (rowOf n 32) (n / 2 ^ 32)

end Mine
end

section 
open PySem PySem.W PyProof.Rows PySem.Calls
namespace Mine

theorem halt_done {den : Code → Sem Fin} {prog : Program} {w : World} {s s' : Shared} {T : Thread} {f : Flow} (h : step den prog w s T = .halt (.done f) s') : through T = true ∧ s' = s := by
  obtain ⟨heap, gens, drawn, toks, os⟩ := s
  obtain ⟨cur, code, pos, stack⟩ := T
  cases cur <;> simp only [step, finish] at h <;> (repeat' split at h) <;> simp_all [through]

theorem runs_through {prog : Program} {w : World} {f : Flow} : ∀ (n : Nat) (s : Shared) (T : Thread) (s' : Shared), runN (denote table) prog w n s T = .halted (.done f) s' → s.asleep →
    (∀ k s₁ t₁, runN (denote table) prog w k s T = .running s₁ t₁ → t₁.calm = true) →
    (∃ m t, schedN (denote table) prog w m (.single s T) = .running (.single s' t) ∧ through t = true) ∧ s'.heap.life = s.heap.life
  | 0, s, T, s', h, _, _ => by cases h
  | n + 1, s, T, s', h, hz, hc => by
    unfold runN at h
    have hcT := hc 0 s T rfl
    cases hs : step (denote table) prog w s T with
    | halt o s₂ =>
      rw [hs] at h
      cases h
      obtain ⟨ht, rfl⟩ := halt_done hs
      exact ⟨⟨0, T, rfl, ht⟩, rfl⟩
    | go s₂ T₂ =>
      rw [hs] at h
      have hl := step_life (denote table) prog w s s₂ T T₂ hs
      obtain ⟨⟨m, t, hm, ht⟩, l⟩ := runs_through n s₂ T₂ s' h (Shared.asleep_of_life hl hz) (fun k s₁ t₁ e => hc (k + 1) s₁ t₁ (by unfold runN; rw [hs]; exact e))
      refine ⟨⟨m + 1, t, ?_, ht⟩, l.trans hl⟩
      have e : sstep (denote table) prog w (.single s T) = .go (.single s₂ T₂) := by
        rcases sstep_single (denote table) prog w s T hcT hz with e | e
        · rw [e, hs]; rfl
        · rw [hs] at e; cases e
      simp only [schedN, e]; exact hm

/-- a thread whose tree ends well in the calculus runs through, and what the calculus says of its end is so -/
theorem thread_through {prog : Program} {w : World} {t : Sem Fin} {s : Shared} {R : Shared → Prop} (hz : s.asleep)
    (h : wpAny (model prog w) callerA t (fun fin s' => ∃ f, fin = .done f ∧ R s' ∧ s'.gens = #[]) (fun _ _ => False) s) :
    ∃ s₁, (∃ m T, schedN (denote table) prog w m (.single s ⟨t, .builtin "claim.caller" {}, default, []⟩) = .running (.single s₁ T) ∧ through T = true) ∧ s₁.heap.life = s.heap.life ∧ R s₁ ∧ s₁.gens = #[] := by
  have h' := wp_of_wpAny_done (R := fun r s' => (∃ f, r = .ok f ∧ R s' ∧ s'.gens = #[]) ∧ leftWithCleanup s'.gens = false) caller_in (wpAny_mono h (fun fin s' ⟨f, e, hR, hg⟩ => ⟨f, e, ⟨⟨f, rfl, hR, hg⟩, by rw [hg]; simp [leftWithCleanup]⟩⟩) fun _ _ x => x.elim) default
  obtain ⟨n, r, s', hn, f, rfl, hR, hg⟩ := (wp_iff_halts (M := model prog w) t (fun r s' => ∃ f, r = .ok f ∧ R s' ∧ s'.gens = #[]) default s).mp h'
  obtain ⟨s'', hr, hf, hcalm⟩ := runNI_real _ _ _ hn (outcomeOf_ends (.ok f))
  obtain rfl := Shared.eq_of_forget_eq hf hg
  obtain ⟨a, l⟩ := runs_through n s _ s'' hr hz hcalm
  exact ⟨s'', a, l, hR, hg⟩
end Mine
end

section 
open PySem PySem.W PyProof.Rows PySem.Calls PyProof.V
namespace Mine

section
variable {prog : Program} {w : World} {A : Around} {E : Value → Shared → Prop} {s : Shared} {c F : Addr} {mg mb : Str → Option Value}

/-- a name of the module's own, or of the builtins, read at the module's top -/
theorem name_g {x : Str} {pos : Pos} {v : Value} {Q : Value → Shared → Prop} (hg : s.heap.Ns mainGlobals mg) (hv : mg x = some v) (h : Q v s)
    (hmod : prog.main.scope.kind = .module := by rfl) (hd : (x == ("__debug__" : Str)) = false := by decide) : wpAny (model prog w) A (eval (.Name x pos) (mainEnv prog c F)) Q E s := by
  refine wpAny_Name ?_ hd
  have e : loadName (mainEnv prog c F) x = loadGlobal (mainEnv prog c F) x := by
    unfold loadName
    simp only [mainEnv, Env.blockKind, hmod, ScopeKind.isAnnotationScope]
    rfl
  rw [e]
  exact loadGlobal_global (env := mainEnv prog c F) hg hv h
theorem name_b {x : Str} {pos : Pos} {v : Value} {Q : Value → Shared → Prop} (hg : s.heap.Ns mainGlobals mg) (hn : mg x = none) (hb : s.heap.Ns builtinsNs mb) (hv : mb x = some v) (h : Q v s)
    (hmod : prog.main.scope.kind = .module := by rfl) (hd : (x == ("__debug__" : Str)) = false := by decide) : wpAny (model prog w) A (eval (.Name x pos) (mainEnv prog c F)) Q E s := by
  refine wpAny_Name ?_ hd
  have e : loadName (mainEnv prog c F) x = loadGlobal (mainEnv prog c F) x := by
    unfold loadName
    simp only [mainEnv, Env.blockKind, hmod, ScopeKind.isAnnotationScope]
    rfl
  rw [e]
  exact loadGlobal_builtin (env := mainEnv prog c F) hg hn hb hv h
end

section
variable {prog : Program} {w : World} {K : Type} [DecidableEq K] {knd : KeyKind prog w K} {A : Around} {E : Value → Shared → Prop} {s : Shared}

theorem dictPut_new {d : Addr} {kvs : List (K × Value)} {k : K} {key v : Value} {Q : Unit → Shared → Prop} (hkey : knd.is k key = true) (hm : s.heap.DictOf knd d kvs) (hnew : k ∉ kvs.map (·.1))
    (hQ : ∀ h', h'.DictOf knd d (kvs ++ [(k, v)]) → Heap.SameBut d s.heap h' → Q () { s with heap := h' })
    (hsz : kvs.length ≤ sizeLine := by size_fits) :
    wpAny (model prog w) A (dictPut d (knd.hash k) key v) Q E s := by
  obtain ⟨o, es, ep, ho, hc, hd, hk, hp, hn⟩ := hm
  have hes : es.size ≤ sizeLine := by
    have e1 := hp.length
    have e2 : es.toList.length = es.size := by simp
    omega
  unfold dictPut
  refine wpAny_bind (wpAny_dictFind_of hkey ho hd hk ?_)
  have hidx : (es.findIdx? fun e => knd.is k e.key) = kvs.findIdx? fun kv => decide (kv.1 = k) := by
    rw [← hp.findIdx k]; obtain ⟨l⟩ := es; simp
  cases hi : es.findIdx? fun e => knd.is k e.key with
  | some i =>
    obtain ⟨hlt, hq, _⟩ := List.findIdx?_eq_some_iff_getElem.mp (hidx ▸ hi)
    exact absurd (List.mem_map.mpr ⟨_, List.getElem_mem hlt, of_decide_eq_true hq⟩) hnew
  | none =>
    refine wpAny_updateDictKeys (hz := hes) ho hd (hQ _ ⟨_, _, ep + 1, Heap.get?_update_self _ ho (Obj.isFreed_of_dict (Obj.data_mapDictKeys hd _)),
      hc.mapDictKeys _, Obj.data_mapDictKeys hd _, hk.push hkey _, ?_, ?_⟩ (Heap.SameBut.update ..))
    · have := hp.append hkey (knd.hash k) v
      obtain ⟨l⟩ := es
      simpa using this
    · rw [List.map_append, List.nodup_append]
      exact ⟨hn, by simp, fun a ha b hb => by simp at hb; subst hb; exact fun e => hnew (e ▸ ha)⟩
end
end Mine
end

section 
open PySem PySem.W PyProof.Rows PySem.Calls PyProof.V
namespace Mine

section
variable {prog : Program} {w : World} {K : Type} [DecidableEq K] {knd : KeyKind prog w K} {A : Around} {E : Value → Shared → Prop} {s : Shared}

theorem merge_dict {d o : Addr} {kvs more : List (K × Value)} {Q : Unit → Shared → Prop} (hdo : d ≠ o) (hoS : (o == sysModules) = false)
    (hd : s.heap.DictOf knd d kvs) (ho : s.heap.DictOf knd o more) (hne : kvs ≠ []) (hnd : ((kvs ++ more).map (·.1)).Nodup)
    (hQ : ∀ h', h'.DictOf knd d (kvs ++ more) → Heap.SameBut d s.heap h' → Q () { s with heap := h' })
    (hsz : kvs.length + more.length ≤ sizeLine := by size_fits) :
    wpAny (model prog w) A (mergeMapping d (.ref o) false) Q E s := by
  obtain ⟨od, esd, epd, hod, hcd, hdd, hkd, hpd, hnd'⟩ := id hd
  obtain ⟨oo, eso, epo, hoo, hco, hdo', hko, hpo, hno⟩ := id ho
  have hlen : more.length = eso.size := by rw [← hpo.length]; simp
  have hemp : esd.isEmpty = false := by
    cases hq : esd.isEmpty with
    | false => rfl
    | true =>
      have h0 : esd = #[] := Array.isEmpty_iff.mp hq
      have := hpd.length
      rw [h0] at this
      exact absurd (List.length_eq_zero_iff.mp (by simpa using this.symm)) hne
  unfold mergeMapping
  refine wpAny_bind (wpAny_isInstance ho.typeIs isSubtype_dict_dict ?_)
  simp only [↓reduceIte]
  refine wpAny_bind (wpAny_specialOf ho.typeIs F.slot_dict_iter.lookup ?_)
  refine wpAny_bind (wpAny_pure ?_)
  have hb : (some (Value.builtin "dict.__iter__") == some (Value.builtin "dict.__iter__")) = true := by decide
  rw [hb]
  dsimp only
  rw [hoS]
  simp only [Bool.false_eq_true, ↓reduceIte]
  refine wpAny_bind (wpAny_dictEntries hod hdd ?_)
  rw [hemp]
  simp only [Bool.false_eq_true, ↓reduceIte]
  refine wpAny_bind (wpAny_dictEntries hoo hdo' ?_)
  refine wpAny_bind (wpAny_dictEpoch hoo hdo' ?_)
  refine wpAny_bind ?_
  refine wpAny_forIn_list _
      (fun rest _ s' => ∃ h' i, s' = { s with heap := h' } ∧ rest = List.range' i (eso.size - i) ∧ i ≤ eso.size ∧ h'.DictOf knd d (kvs ++ more.take i) ∧ h'.get? o = some oo ∧ Heap.SameBut d s.heap h')
      _ ?_ ?_ _ _ ⟨s.heap, 0, rfl, by simp [List.range_eq_range'], Nat.zero_le _, by simpa using hd, hoo, Heap.SameBut.refl _ _⟩
  · rintro x rest b s' ⟨h', i, rfl, hr, hi, hd', hoo', hs'⟩
    have hlt : i < eso.size := by
      rcases Nat.lt_or_ge i eso.size with h | h
      · exact h
      · rw [Nat.sub_eq_zero_of_le h] at hr; simp at hr
    obtain ⟨rfl, hrest⟩ : x = i ∧ rest = List.range' (i + 1) (eso.size - (i + 1)) := by
      have e : eso.size - i = (eso.size - (i + 1)) + 1 := by omega
      rw [e, List.range'_succ] at hr
      injection hr with h1 h2
      exact ⟨h1, h2⟩
    refine wpAny_bind (wpAny_dictEntries hoo' hdo' ?_)
    rw [Array.getElem?_eq_getElem hlt]
    obtain ⟨kv, hkv⟩ : ∃ kv, more[x]? = some kv := ⟨more[x]'(by rw [hlen]; exact hlt), List.getElem?_eq_getElem _⟩
    obtain ⟨k, v⟩ := kv
    obtain ⟨hkey, hval⟩ := hpo.get? (e := eso[x]) (by simp [hlt]) hkv
    obtain ⟨k', hkey', hhash⟩ := hko eso[x] (Array.getElem_mem hlt)
    obtain rfl : k' = k := knd.inj _ _ _ hkey' hkey
    dsimp only
    try simp only [Bool.false_eq_true, ↓reduceIte]
    rw [hhash, hval]
    have hnew : k' ∉ (kvs ++ more.take x).map (·.1) := by
      intro hm
      have hsplit : more = more.take x ++ (k', v) :: more.drop (x + 1) := by
        have h1 : x < more.length := by rw [hlen]; exact hlt
        have h2 : more[x] = (k', v) := by rw [List.getElem?_eq_getElem h1] at hkv; exact Option.some.inj hkv
        rw [← h2, List.getElem_cons_drop, List.take_append_drop]
      rw [hsplit, ← List.append_assoc, List.map_append, List.map_cons, List.nodup_append] at hnd
      exact hnd.2.2 k' hm k' List.mem_cons_self rfl
    have hmx : (kvs ++ more.take x).length ≤ sizeLine := by
      rw [List.length_append, List.length_take]; omega
    refine wpAny_bind (wpAny_holding (dictPut_new (hsz := hmx) hkey hd' hnew fun h'' hd'' hs'' => ?_))
    have hoo'' : h''.get? o = some oo := (hs''.2 o (Ne.symm hdo)).trans hoo'
    refine wpAny_bind (wpAny_dictEpoch hoo'' hdo' ?_)
    rw [if_neg (by simp)]
    refine wpAny_pure ⟨h'', x + 1, rfl, hrest, hlt, ?_, hoo'', hs'.trans hs''⟩
    rw [List.append_assoc] at hd''
    have e : more.take (x + 1) = more.take x ++ [(k', v)] := by rw [List.take_add_one, hkv]; rfl
    rw [e]; exact hd''
  · rintro b s' ⟨h', i, rfl, hr, hi, hd', hoo', hs'⟩
    have hin : i = eso.size := by
      rcases Nat.lt_or_ge i eso.size with h | h
      · have e : eso.size - i = (eso.size - (i + 1)) + 1 := by omega
        rw [e, List.range'_succ] at hr; exact nomatch hr
      · exact Nat.le_antisymm hi h
    refine wpAny_pure (hQ h' ?_ hs')
    rw [hin, ← hlen, List.take_length] at hd'; exact hd'
end

/-! ## a long display of a dict: literal texts and ints -/
section
variable {prog : Program} {w : World}

/-- what a display's pair evaluates to -/
def Lit (prog : Program) (w : World) (p : Sem Value × Sem Value) (d : Str × Int) : Prop :=
  (∀ (A : Around) (E : Value → Shared → Prop) (s : Shared) (Q : Value → Shared → Prop), (∀ t tk, Q (.str d.1 t) { s with toks := tk }) → wpAny (model prog w) A p.1 Q E s) ∧
  (∀ (A : Around) (E : Value → Shared → Prop) (s : Shared) (Q : Value → Shared → Prop), (∀ t tk, Q (.int d.2 t) { s with toks := tk }) → wpAny (model prog w) A p.2 Q E s)
inductive Lits (prog : Program) (w : World) : List (Sem Value × Sem Value) → List (Str × Int) → Prop
  | nil : Lits prog w [] []
  | cons {p d ps ds} : Lit prog w p d → Lits prog w ps ds → Lits prog w (p :: ps) (d :: ds)
theorem Lits.length {ps ds} (h : Lits prog w ps ds) : ps.length = ds.length := by induction h <;> simp_all
theorem Lits.append {ps ds ps' ds'} (h : Lits prog w ps ds) (h' : Lits prog w ps' ds') : Lits prog w (ps ++ ps') (ds ++ ds') := by
  induction h with
  | nil => exact h'
  | cons a _ ih => exact .cons a ih

/-- pairs of a text and an int -/
inductive Ints : List (Str × Value) → List (Str × Int) → Prop
  | nil : Ints [] []
  | cons {k i t kvs ds} : Ints kvs ds → Ints ((k, .int i t) :: kvs) ((k, i) :: ds)
theorem Ints.append {a b a' b'} (h : Ints a b) (h' : Ints a' b') : Ints (a ++ a') (b ++ b') := by
  induction h with
  | nil => exact h'
  | cons _ ih => exact .cons ih
theorem Ints.keys {a b} (h : Ints a b) : a.map (·.1) = b.map (·.1) := by induction h <;> simp_all
theorem Ints.length {a b} (h : Ints a b) : a.length = b.length := by induction h <;> simp_all

variable {A : Around} {E : Value → Shared → Prop} {s : Shared}
theorem storePairs {d : Addr} : ∀ (ps : List (Sem Value × Sem Value)) (ds : List (Str × Int)) (kvs : List (Str × Value)) (done : List (Str × Int)) (s : Shared) (Q : PUnit → Shared → Prop), Lits prog w ps ds →
    s.heap.DictOf (strKind prog w) d kvs → Ints kvs done → ((done ++ ds).map (·.1)).Nodup → (done ++ ds).length ≤ sizeLine →
    (∀ h' tk kvs', h'.DictOf (strKind prog w) d kvs' → Ints kvs' (done ++ ds) → Heap.SameBut d s.heap h' → Q ⟨⟩ { s with heap := h', toks := tk }) →
    wpAny (model prog w) A (forIn ps PUnit.unit fun (p : Sem Value × Sem Value) (_ : PUnit) => (do
        let kv ← p.1
        let vv ← holding [kv] p.2
        holding [kv, vv] (dictSet d kv vv)
        pure (ForInStep.yield PUnit.unit) : Sem (ForInStep PUnit))) Q E s
  | [], _, kvs, done, s, Q, .nil, hd, hi, _, _, h => by
    rw [List.forIn_nil]
    exact wpAny_pure (h s.heap s.toks kvs hd (by simpa using hi) (Heap.SameBut.refl _ _))
  | p :: ps, _, kvs, done, s, Q, .cons (d := dd) (ds := ds) hp hr, hd, hi, hnd, hsz, h => by
    rw [List.forIn_cons]
    refine wpAny_bind (wpAny_bind (hp.1 _ _ _ _ fun t tk => wpAny_bind (wpAny_holding (hp.2 _ _ _ _ fun u tk' => ?_))))
    have hlen : kvs.length ≤ sizeLine := by rw [hi.length]; rw [List.length_append] at hsz; omega
    refine wpAny_bind (wpAny_holding (wpAny_dictSet_pairs (hsz := hlen) (strKind_is prog w dd.1 t) hd fun h' hd' hs' => wpAny_pure ?_))
    have hst : stored kvs dd.1 (.int dd.2 u) = kvs ++ [(dd.1, .int dd.2 u)] := by
      have hfresh : ¬ (kvs.any fun x => decide (x.1 = dd.1)) = true := by
        rw [List.any_eq_true]; rintro ⟨x, hx, he⟩
        rw [List.map_append, List.map_cons, List.nodup_append] at hnd
        refine hnd.2.2 x.1 ?_ dd.1 List.mem_cons_self (of_decide_eq_true he)
        rw [← hi.keys]; exact List.mem_map.mpr ⟨x, hx, rfl⟩
      rw [stored, if_neg hfresh]
    rw [hst] at hd'
    have e : done ++ dd :: ds = (done ++ [(dd.1, dd.2)]) ++ ds := by simp
    refine storePairs ps ds (kvs ++ [(dd.1, .int dd.2 u)]) (done ++ [(dd.1, dd.2)]) _ Q hr hd' (hi.append (.cons .nil)) (e ▸ hnd) (e ▸ hsz) fun h'' tk'' kvs' hd'' hi'' hs'' => ?_
    exact h h'' tk'' kvs' hd'' (e ▸ hi'') (hs'.trans hs'')
end
end Mine
end

section 
open PySem PySem.W PyProof.Rows PySem.Calls PyProof.V
namespace Mine
section
variable {prog : Program} {w : World} {A : Around} {E : Value → Shared → Prop}

theorem evalPairs_lits' : ∀ (ps : List (Sem Value × Sem Value)) (ds : List (Str × Int)) (s : Shared) (Q : List (Value × Value) → Shared → Prop), Lits prog w ps ds →
    (∀ vs kvs tk, Carries (strKind prog w) vs kvs → Ints kvs ds → Q vs { s with toks := tk }) → wpAny (model prog w) A (evalPairs ps) Q E s
  | [], _, s, Q, .nil, h => wpAny_pure (h [] [] s.toks trivial .nil)
  | p :: ps, _, s, Q, .cons (d := dd) hp hr, h => by
    unfold evalPairs
    refine wpAny_bind (hp.1 _ _ _ _ fun t tk => wpAny_bind (wpAny_holding (hp.2 _ _ _ _ fun u tk' => ?_)))
    refine wpAny_bind (wpAny_holding (evalPairs_lits' ps _ _ _ hr fun vs kvs tk'' hc hi => wpAny_pure ?_))
    exact h _ ((dd.1, .int dd.2 u) :: kvs) tk'' ⟨strKind_is prog w dd.1 t, rfl, hc⟩ (.cons hi)

theorem subDict_lits {ps : List (Sem Value × Sem Value)} {ds : List (Str × Int)} {s : Shared} {Q : Addr → Shared → Prop} (hl : Lits prog w ps ds) (hnd : (ds.map (·.1)).Nodup) (hsz : ds.length ≤ sizeLine)
    (h : ∀ h' tk kvs, h'.DictOf (strKind prog w) s.heap.objs.size kvs → Ints kvs ds → (∀ b o, s.heap.get? b = some o → h'.get? b = some o) → Q s.heap.objs.size { s with heap := h', toks := tk }) :
    wpAny (model prog w) A (subDict ps) Q E s := by
  have up : ∀ (o' : Obj) (h' : Heap), Heap.SameBut s.heap.objs.size (s.heap.push o') h' → ∀ b o, s.heap.get? b = some o → h'.get? b = some o := fun o' h' hs b o e =>
    (hs.2 b (Nat.ne_of_lt (Heap.lt_size e))).trans (Heap.get?_push_of_some _ e)
  by_cases hlen : ps.length ≤ 15
  · refine wpAny_subDict (knd := strKind prog w) hlen (evalPairs_lits' ps ds _ _ hl fun vs kvs tk hc hi => ?_)
    refine ⟨kvs, hc, Heap.DictOf.new _, fun h' hd hs => ?_⟩
    rw [merged_nil_of_nodup kvs (by rw [hi.keys]; exact hnd)] at hd
    exact h h' _ kvs hd hi (up _ h' hs)
  · unfold subDict
    refine wpAny_bind (wpAny_alloc (wpAny_bind (wpAny_holding ?_)))
    rw [if_neg hlen]
    refine wpAny_bind (wpAny_rule (wpAny_bind ?_))
    refine storePairs ps ds [] [] _ _ hl (Heap.DictOf.new _) .nil hnd hsz fun h' tk kvs' hd hi hs => ?_
    exact wpAny_pure (wpAny_pure (h h' tk kvs' hd hi (up _ h' hs)))

theorem dictDisplay_long {ps : List (Sem Value × Sem Value)} {D : List (Str × Int)} {s : Shared} {Q : Value → Shared → Prop} (hl : Lits prog w ps D) (hnd : (D.map (·.1)).Nodup) (hsz : D.length ≤ sizeLine) (h0 : D ≠ []) (hlow : sysModules < s.heap.objs.size)
    (h : ∀ d h' tk kvs, s.heap.objs.size ≤ d → h'.DictOf (strKind prog w) d kvs → Ints kvs D → (∀ b o, s.heap.get? b = some o → h'.get? b = some o) → Q (.ref d) { s with heap := h', toks := tk }) :
    wpAny (model prog w) A (dictDisplay (ps.map fun p => (some p.1, p.2))) Q E s := by
  unfold dictDisplay
  dsimp only
  have grow : ∀ {h' : Heap} {b : Addr} {o : Obj}, (∀ b o, s.heap.get? b = some o → h'.get? b = some o) → s.heap.objs.size ≤ h'.objs.size → sysModules < h'.objs.size := fun _ hz => Nat.lt_of_lt_of_le hlow hz
  refine wpAny_bind ?_
  refine wpAny_forIn_list _
    (fun rest b s' => ∃ h' tk done pend restP restD, s' = { s with heap := h', toks := tk } ∧ rest = restP.map (fun p => (some p.1, p.2)) ∧ Lits prog w restP restD ∧ Lits prog w b.2 pend ∧ b.2.length < 17 ∧ D = done ++ pend ++ restD ∧
      (∀ b o, s.heap.get? b = some o → h'.get? b = some o) ∧ s.heap.objs.size ≤ h'.objs.size ∧
      ((b.1 = none ∧ done = []) ∨ ∃ d kvs, b.1 = some d ∧ s.heap.objs.size ≤ d ∧ h'.DictOf (strKind prog w) d kvs ∧ Ints kvs done ∧ done ≠ []))
    _ ?_ ?_ _ _ ⟨s.heap, s.toks, [], [], ps, D, rfl, rfl, hl, .nil, by simp, by simp, fun _ _ e => e, Nat.le_refl _, .inl ⟨rfl, rfl⟩⟩
  · rintro x rest ⟨main, run⟩ s' ⟨h', tk, done, pend, restP, restD, rfl, hr, hlr, hlp, hlen, hD, hk, hz, hcase⟩
    cases restP with
    | nil => simp at hr
    | cons p rp =>
      simp only [List.map_cons, List.cons.injEq] at hr
      obtain ⟨rfl, rfl⟩ := hr
      cases hlr with
      | cons hp hlr =>
        rename_i dd rd
        dsimp only at hlp hlen hcase ⊢
        have hlp' : Lits prog w (run ++ [(p.1, p.2)]) (pend ++ [dd]) := hlp.append (.cons hp .nil)
        have hD' : D = done ++ (pend ++ [dd]) ++ rd := by rw [hD]; simp
        by_cases hfull : (run ++ [(p.1, p.2)]).length = 17
        · have hb : ((run ++ [(p.1, p.2)]).length == 17) = true := by simpa using hfull
          rw [hb]
          simp only [↓reduceIte]
          have hemp : (run ++ [(p.1, p.2)]).isEmpty = false := by simp
          rw [hemp]
          simp only [Bool.false_eq_true, ↓reduceIte]
          have hndP : ((pend ++ [dd]).map (·.1)).Nodup := by
            have h1 := hnd
            rw [hD', List.map_append, List.map_append] at h1
            exact (List.nodup_append.mp (List.nodup_append.mp h1).1).2.1
          have hszP : (pend ++ [dd]).length ≤ sizeLine := by
            rw [hD', List.length_append, List.length_append] at hsz; omega
          rcases hcase with ⟨rfl, rfl⟩ | ⟨d, kvs, rfl, hdge, hd, hi, hne⟩
          · dsimp only
            refine wpAny_bind (wpAny_bind (subDict_lits hlp' hndP hszP fun h₁ tk₁ kvs₁ hd₁ hi₁ hk₁ => wpAny_pure (wpAny_pure ?_)))
            refine ⟨h₁, tk₁, pend ++ [dd], [], rp, rd, rfl, rfl, hlr, .nil, by simp, by simpa using hD', fun b o e => hk₁ b o (hk b o e), ?_, .inr ⟨_, kvs₁, rfl, hz, hd₁, hi₁, by simp⟩⟩
            obtain ⟨o₁, _, _, e₁, _⟩ := hd₁
            exact Nat.le_trans hz (Nat.le_of_lt (Heap.lt_size e₁))
          · dsimp only
            refine wpAny_bind (wpAny_bind (wpAny_holding (subDict_lits hlp' hndP hszP fun h₁ tk₁ kvs₁ hd₁ hi₁ hk₁ => wpAny_bind (wpAny_onRaise (wpAny_holding ?_)))))
            have hdlt : d < h'.objs.size := by obtain ⟨o₁, _, _, e₁, _⟩ := hd; exact Heap.lt_size e₁
            have hd' : h₁.DictOf (strKind prog w) d kvs := hd.keep hk₁
            refine merge_dict (Nat.ne_of_lt hdlt) (by simp; exact Nat.ne_of_gt (Nat.lt_of_lt_of_le hlow hz)) hd' hd₁ ?_ ?_ (fun h₂ hd₂ hs₂ => wpAny_pure (wpAny_pure ?_)) ?_
            · intro e; subst e; cases hi; exact hne rfl
            · rw [List.map_append, hi.keys, hi₁.keys, ← List.map_append]
              have h1 := hnd
              rw [hD', List.map_append] at h1
              exact (List.nodup_append.mp h1).1
            · refine ⟨h₂, tk₁, done ++ (pend ++ [dd]), [], rp, rd, rfl, rfl, hlr, .nil, by simp, by simpa using hD', fun b o e => ?_, ?_, .inr ⟨d, _, rfl, hdge, hd₂, hi.append hi₁, by simp⟩⟩
              · exact (hs₂.2 b (Nat.ne_of_lt (Nat.lt_of_lt_of_le (Heap.lt_size e) hdge))).trans (hk₁ b o (hk b o e))
              · rw [hs₂.1]
                obtain ⟨o₁, _, _, e₁, _⟩ := hd₁
                exact Nat.le_trans hz (Nat.le_of_lt (Heap.lt_size e₁))
            · rw [hi.length, hi₁.length]
              rw [hD', List.length_append, List.length_append] at hsz; omega
        · have hb : ((run ++ [(p.1, p.2)]).length == 17) = false := by simpa using hfull
          rw [hb]
          simp only [Bool.false_eq_true, ↓reduceIte]
          refine wpAny_pure ⟨h', tk, done, pend ++ [dd], rp, rd, rfl, rfl, hlr, hlp', ?_, hD', hk, hz, hcase⟩
          simp only [List.length_append, List.length_singleton] at hfull ⊢
          omega
  · rintro ⟨main, run⟩ s' ⟨h', tk, done, pend, restP, restD, rfl, hr, hlr, hlp, hlen, hD, hk, hz, hcase⟩
    have hrp : restP = [] := by simpa using hr.symm
    subst hrp
    cases hlr
    rw [List.append_nil] at hD
    dsimp only at hlp hlen hcase ⊢
    by_cases hrun : run = []
    · subst hrun
      cases hlp
      rw [List.append_nil] at hD
      subst hD
      rcases hcase with ⟨rfl, e⟩ | ⟨d, kvs, rfl, hdge, hd, hi, hne⟩
      · exact absurd e h0
      · simp only [List.isEmpty_nil, ↓reduceIte]
        exact wpAny_bind (wpAny_pure (wpAny_pure (h d h' tk kvs hdge hd hi hk)))
    · have hemp : run.isEmpty = false := by cases run with | nil => exact absurd rfl hrun | cons _ _ => rfl
      rw [hemp]
      simp only [Bool.false_eq_true, ↓reduceIte]
      have hndP : (pend.map (·.1)).Nodup := by
        have h1 := hnd
        rw [hD, List.map_append] at h1
        exact (List.nodup_append.mp h1).2.1
      have hszP : pend.length ≤ sizeLine := by
        rw [hD, List.length_append] at hsz; omega
      rcases hcase with ⟨rfl, rfl⟩ | ⟨d, kvs, rfl, hdge, hd, hi, hne⟩
      · dsimp only
        refine wpAny_bind (wpAny_bind (subDict_lits hlp hndP hszP fun h₁ tk₁ kvs₁ hd₁ hi₁ hk₁ => wpAny_pure (wpAny_pure ?_)))
        exact h _ h₁ tk₁ kvs₁ hz hd₁ (by rw [hD]; exact hi₁) fun b o e => hk₁ b o (hk b o e)
      · dsimp only
        refine wpAny_bind (wpAny_bind (wpAny_holding (subDict_lits hlp hndP hszP fun h₁ tk₁ kvs₁ hd₁ hi₁ hk₁ => wpAny_bind (wpAny_onRaise (wpAny_holding ?_)))))
        have hdlt : d < h'.objs.size := by obtain ⟨o₁, _, _, e₁, _⟩ := hd; exact Heap.lt_size e₁
        have hd' : h₁.DictOf (strKind prog w) d kvs := hd.keep hk₁
        refine merge_dict (Nat.ne_of_lt hdlt) (by simp; exact Nat.ne_of_gt (Nat.lt_of_lt_of_le hlow hz)) hd' hd₁ ?_ ?_ (fun h₂ hd₂ hs₂ => wpAny_pure (wpAny_pure ?_)) ?_
        · intro e; subst e; cases hi; exact hne rfl
        · rw [List.map_append, hi.keys, hi₁.keys, ← List.map_append, ← hD]; exact hnd
        · refine h d h₂ tk₁ _ hdge hd₂ (by rw [hD]; exact hi.append hi₁) fun b o e => ?_
          exact (hs₂.2 b (Nat.ne_of_lt (Nat.lt_of_lt_of_le (Heap.lt_size e) hdge))).trans (hk₁ b o (hk b o e))
        · rw [hi.length, hi₁.length]
          rw [hD, List.length_append] at hsz; omega
end
end Mine
end

section 
open PySem PySem.W PyProof.Rows PySem.Calls PyProof.V
namespace Mine

abbrev P : Program := PySem.Challenge.pw_dm0070_04
def rawTop (i : Nat) : Stmt := P.main.body.getD i (.Pass ⟨0, 0, 0, 0⟩)
@[irreducible] def top (i : Nat) : Stmt := rawTop i

/-- what stands fast while the top runs -/
structure T0 (h₀ : Heap) (mb : Str → Option Value) (c Pl bm : Addr) : Prop where
  lowc : mainGlobals < c
  lowP : mainGlobals < Pl
  c0 : ∃ o, h₀.get? c = some o
  P0 : ∃ o, h₀.get? Pl = some o
  g0 : ∃ o, h₀.get? mainGlobals = some o
  bm1 : bm ≠ builtinsNs
  bm2 : bm ≠ mainGlobals
  bm3 : bm ≠ Pl
  bm4 : ∃ o, h₀.get? bm = some o ∧ o.cls = .type "module" ∧ o.dict = some builtinsNs ∧ o.data = .plain
  b : h₀.Ns builtinsNs mb
  builtins : ∀ x : Str, x ≠ "__name__" → mb x = bootBuiltins x
  bP : builtinsNs ≠ Pl
theorem T0.low {h₀ : Heap} {mb : Str → Option Value} {c Pl bm : Addr} (T : T0 h₀ mb c Pl bm) : mainGlobals < h₀.objs.size := let ⟨_, e⟩ := T.g0; Heap.lt_size e
theorem T0.low' {h₀ : Heap} {mb : Str → Option Value} {c Pl bm : Addr} (T : T0 h₀ mb c Pl bm) : sysModules < h₀.objs.size := Nat.lt_trans (by decide) T.low

/-- the state of the top between two statements -/
structure TI (h₀ : Heap) (c Pl bm : Addr) (h : Heap) (mg : Str → Option Value) (ps : Array Value) : Prop where
  g : h.Ns mainGlobals mg
  code : h.IsCode c Pl ps
  keep : ∀ b o, b ≠ Pl → b ≠ mainGlobals → h₀.get? b = some o → h.get? b = some o
  bi : mg "__builtins__" = some (.ref bm)

variable {h₀ : Heap} {mb : Str → Option Value} {c Pl bm F : Addr} {mg : Str → Option Value} {ps : Array Value} {w : World} {A : Around} {E : Value → Shared → Prop} {s : Shared}

theorem TI.main {h : Heap} (T : T0 h₀ mb c Pl bm) (X : TI h₀ c Pl bm h mg ps) : h.Main mg c Pl ps := by
  obtain ⟨o, e, r⟩ := T.bm4
  exact ⟨X.g, X.code, ⟨T.lowc, T.lowP⟩, ⟨bm, o, X.bi, T.bm1, T.bm2, T.bm3, X.keep _ _ T.bm3 T.bm2 e, r⟩⟩
theorem TI.b {h : Heap} (T : T0 h₀ mb c Pl bm) (X : TI h₀ c Pl bm h mg ps) : h.Ns builtinsNs mb := T.b.at fun o => X.keep _ o T.bP (by decide)
theorem TI.grown {h h' : Heap} (X : TI h₀ c Pl bm h mg ps) (hk : ∀ b o, h.get? b = some o → h'.get? b = some o) : TI h₀ c Pl bm h' mg ps :=
  ⟨X.g.keeps hk, X.code.keeps hk, fun b o h1 h2 e => hk b o (X.keep b o h1 h2 e), X.bi⟩
theorem ne_of_none {h : Heap} {a d : Addr} (h1 : ∃ o, h.get? a = some o) (h2 : h.get? d = none) : a ≠ d := by rintro rfl; obtain ⟨o, e⟩ := h1; rw [h2] at e; cases e
theorem TI.ext {h h' : Heap} {d : Addr} (T : T0 h₀ mb c Pl bm) (X : TI h₀ c Pl bm h mg ps) (hs : Heap.ExtBut d h h') (hd : h₀.get? d = none) : TI h₀ c Pl bm h' mg ps :=
  ⟨X.g.extBut hs (ne_of_none T.g0 hd), X.code.extBut hs (ne_of_none T.c0 hd) (ne_of_none T.P0 hd),
    fun b o h1 h2 e => hs b o (ne_of_none ⟨o, e⟩ hd) (X.keep b o h1 h2 e), X.bi⟩
theorem TI.change {h h' : Heap} {d : Addr} (T : T0 h₀ mb c Pl bm) (X : TI h₀ c Pl bm h mg ps) (hs : Heap.SameBut d h h') (hd : h₀.get? d = none) : TI h₀ c Pl bm h' mg ps :=
  X.ext T hs.extBut hd
theorem TI.fresh {h : Heap} {d : Addr} (X : TI h₀ c Pl bm h mg ps) (hd : h.get? d = none) : h₀.get? d = none := by
  cases e : h₀.get? d with
  | none => rfl
  | some o =>
    by_cases h1 : d = Pl
    · subst h1
      obtain ⟨o, vs, file, tf, flags, tg, inF, text, tt, op, a, r1, r2, r3, r4, r5, r6, b, r⟩ := X.code
      rw [hd] at b; cases b
    · by_cases h2 : d = mainGlobals
      · subst h2; obtain ⟨o, es, ep, e', _⟩ := X.g; rw [hd] at e'; cases e'
      · have := X.keep d o h1 h2 e; rw [hd] at this; cases this

theorem ti_store {x : Str} {v : Value} {Q : Unit → Shared → Prop} (T : T0 h₀ mb c Pl bm) (X : TI h₀ c Pl bm s.heap mg ps) (hloc : P.main.scope.names.lookup x = some .local) (hnb : x ≠ "__builtins__")
    (k : ∀ h' tk, TI h₀ c Pl bm h' (fun y => if y = x then some v else mg y) ps → Heap.SameBut mainGlobals s.heap h' → Q () { s with heap := h', toks := tk }) :
    wpAny (model P w) A (storeName (mainEnv P c F) x v) Q E s := by
  refine wpAny_storeName_local (env := mainEnv P c F) hloc X.g (fun h' hg' hs' => k h' _ ⟨hg', X.code.sameBut hs' (Nat.ne_of_gt T.lowc) (Nat.ne_of_gt T.lowP), fun b o h1 h2 e => (hs'.2 b h2).trans (X.keep b o h1 h2 e), ?_⟩ hs') rfl
  rw [if_neg (Ne.symm hnb)]; exact X.bi

/-! ## displays -/
def strInts : List (Option PySem.Expr) → List PySem.Expr → Option (List (Str × Int))
  | some (.Constant (.str x) _ _) :: ks, .Constant (.int i) _ _ :: vs => (strInts ks vs).map ((x, i) :: ·)
  | [], [] => some []
  | _, _ => none
theorem lits_of {prog : Program} {env : Env} {pos : Pos} : ∀ (ks : List (Option PySem.Expr)) (vs : List PySem.Expr) (D : List (Str × Int)), strInts ks vs = some D →
    Lits prog w (pairTrees ks vs env pos) D ∧ ks.all (·.isSome) = true ∧ ks.length = vs.length := by
  intro ks vs
  fun_induction strInts ks vs with
  | case1 x k1 p1 ks i k2 p2 vs ih =>
    intro D h
    obtain ⟨D', hD', rfl⟩ := Option.map_eq_some_iff.mp h
    obtain ⟨a, b, c⟩ := ih D' hD'
    refine ⟨.cons ⟨fun A E s Q h => ?_, fun A E s Q h => ?_⟩ a, by simpa using b, by simpa using c⟩
    · exact wpAny_Constant_str (env := env) (k := k1) (pos := p1) (h _ _)
    · exact wpAny_bind (wpAny_Constant_int (env := env) (k := k2) (pos := p2) (wpAny_bind (wpAny_standAt (wpAny_pure (h _ _)))))
  | case2 => intro D h; cases h; exact ⟨.nil, rfl, rfl⟩
  | case3 => intro D h; cases h
theorem Dict_long {env : Env} {keys : List (Option PySem.Expr)} {values : List PySem.Expr} {pos : Pos} {D : List (Str × Int)} {Q : Value → Shared → Prop} (hD : strInts keys values = some D) (hnd : (D.map (·.1)).Nodup) (hsz : D.length ≤ 1000) (h0 : D ≠ []) (hlow : sysModules < s.heap.objs.size)
    (h : ∀ d h' tk kvs, s.heap.objs.size ≤ d → h'.DictOf (strKind P w) d kvs → Ints kvs D → (∀ b o, s.heap.get? b = some o → h'.get? b = some o) → Q (.ref d) { s with heap := h', toks := tk }) :
    wpAny (model P w) A (eval (.Dict keys values pos) env) Q E s := by
  obtain ⟨a, b, c⟩ := lits_of (prog := P) (w := w) (env := env) (pos := pos) keys values D hD
  rw [arm_eval_Dict, zip_pairTrees keys values env pos b c]
  refine wpAny_bind (wpAny_standAt (dictDisplay_long a hnd (by rw [sizeLine_eq]; omega) h0 hlow h))

/-- what a display of the top's holds -/
@[irreducible] def dKeys (i : Nat) : List (Option PySem.Expr) := match rawTop i with
  | .Assign _ (.Dict ks _ _) _ => ks
  | _ => []
@[irreducible] def dVals (i : Nat) : List PySem.Expr := match rawTop i with
  | .Assign _ (.Dict _ vs _) _ => vs
  | _ => []
def vPos (i : Nat) : Pos := match rawTop i with
  | .Assign _ (.Dict _ _ p) _ => p
  | .Assign _ (.Constant _ _ p) _ => p
  | _ => default
def nPos (i : Nat) : Pos := match rawTop i with
  | .Assign [.Name _ p] _ _ => p
  | _ => default
def sPos (i : Nat) : Pos := match rawTop i with
  | .Assign _ _ p => p
  | _ => default
def specD : List (Str × Int) := (strInts (dKeys 0) (dVals 0)).getD []
def opD : List (Str × Int) := (strInts (dKeys 1) (dVals 1)).getD []
theorem specD_eq : strInts (dKeys 0) (dVals 0) = some specD := by decide +kernel
theorem opD_eq : strInts (dKeys 1) (dVals 1) = some opD := by decide +kernel
theorem specD_ok : (specD.map (·.1)).Nodup ∧ specD.length ≤ 1000 ∧ specD ≠ [] ∧ ∀ p ∈ specD, 0 ≤ p.2 ∧ p.2 < 268 := by decide +kernel
theorem opD_ok : (opD.map (·.1)).Nodup ∧ opD.length ≤ 1000 ∧ opD ≠ [] ∧ ∀ p ∈ opD, 0 ≤ p.2 ∧ p.2 < 268 := by decide +kernel
theorem top0_eq : top 0 = .Assign [.Name "_specialized_opmap" (nPos 0)] (.Dict (dKeys 0) (dVals 0) (vPos 0)) (sPos 0) := by with_unfolding_all rfl
theorem top1_eq : top 1 = .Assign [.Name "opmap" (nPos 1)] (.Dict (dKeys 1) (dVals 1) (vPos 1)) (sPos 1) := by with_unfolding_all rfl

theorem dict_size {prog : Program} {K : Type} [DecidableEq K] {knd : KeyKind prog w K} {h : Heap} {d : Addr} {kvs : List (K × Value)} (x : h.DictOf knd d kvs) : d < h.objs.size := by obtain ⟨o, _, _, e, _⟩ := x; exact Heap.lt_size e

theorem assign_dict {x : Str} {p1 p2 p3 : Pos} {ks : List (Option PySem.Expr)} {vs : List PySem.Expr} {D : List (Str × Int)} {Q : Flow → Shared → Prop} (T : T0 h₀ mb c Pl bm) (X : TI h₀ c Pl bm s.heap mg ps)
    (hD : strInts ks vs = some D) (hnd : (D.map (·.1)).Nodup) (hsz : D.length ≤ 1000) (h0 : D ≠ []) (hloc : P.main.scope.names.lookup x = some .local) (hnb : x ≠ "__builtins__")
    (k : ∀ h' tk d kvs, TI h₀ c Pl bm h' (fun y => if y = x then some (.ref d) else mg y) ps → s.heap.objs.size ≤ d → h'.DictOf (strKind P w) d kvs → Ints kvs D → (∀ b o, b ≠ mainGlobals → s.heap.get? b = some o → h'.get? b = some o) → Q .next { s with heap := h', toks := tk }) :
    wpAny (model P w) A (exec (.Assign [.Name x p1] (.Dict ks vs p2) p3) (mainEnv P c F)) Q E s := by
  have hlow : sysModules < s.heap.objs.size := Nat.lt_trans (by decide) X.g.lt
  refine wpAny_Assign_Name (Dict_long hD hnd hsz h0 hlow fun d h' tk kvs hd hdo hi hk => ?_) rfl
  refine ti_store (s := { s with heap := h', toks := tk }) T (X.grown hk) hloc hnb fun h'' tk'' X'' hs => ?_
  exact k h'' tk'' d kvs X'' hd (hdo.sameBut hs (Nat.ne_of_gt (Nat.lt_of_lt_of_le X.g.lt hd))) hi fun b o hb e => (hs.2 b hb).trans (hk b o e)
theorem assign_str {x y : Str} {p1 p2 p3 : Pos} {j : Nat} {Q : Flow → Shared → Prop} (T : T0 h₀ mb c Pl bm) (X : TI h₀ c Pl bm s.heap mg ps)
    (hloc : P.main.scope.names.lookup x = some .local) (hnb : x ≠ "__builtins__")
    (k : ∀ h' tk t, TI h₀ c Pl bm h' (fun z => if z = x then some (.str y t) else mg z) ps → (∀ b o, b ≠ mainGlobals → s.heap.get? b = some o → h'.get? b = some o) → Q .next { s with heap := h', toks := tk }) :
    wpAny (model P w) A (exec (.Assign [.Name x p1] (.Constant (.str y) j p2) p3) (mainEnv P c F)) Q E s := by
  refine wpAny_Assign_Name (wpAny_Constant_str ?_) rfl
  refine ti_store (s := { s with toks := s.toks + 1 }) T X hloc hnb fun h'' tk'' X'' hs => ?_
  exact k h'' tk'' _ X'' fun b o hb e => (hs.2 b hb).trans e

theorem top0 {Q : Flow → Shared → Prop} (T : T0 h₀ mb c Pl bm) (X : TI h₀ c Pl bm s.heap mg ps)
    (k : ∀ h' tk d kvs, TI h₀ c Pl bm h' (fun y => if y = "_specialized_opmap" then some (.ref d) else mg y) ps → s.heap.objs.size ≤ d → h'.DictOf (strKind P w) d kvs → Ints kvs specD → (∀ b o, b ≠ mainGlobals → s.heap.get? b = some o → h'.get? b = some o) → Q .next { s with heap := h', toks := tk }) :
    wpAny (model P w) A (exec (top 0) (mainEnv P c F)) Q E s := by
  rw [top0_eq]
  exact assign_dict T X specD_eq specD_ok.1 specD_ok.2.1 specD_ok.2.2.1 (by decide +kernel) (by decide) k
theorem top1 {Q : Flow → Shared → Prop} (T : T0 h₀ mb c Pl bm) (X : TI h₀ c Pl bm s.heap mg ps)
    (k : ∀ h' tk d kvs, TI h₀ c Pl bm h' (fun y => if y = "opmap" then some (.ref d) else mg y) ps → s.heap.objs.size ≤ d → h'.DictOf (strKind P w) d kvs → Ints kvs opD → (∀ b o, b ≠ mainGlobals → s.heap.get? b = some o → h'.get? b = some o) → Q .next { s with heap := h', toks := tk }) :
    wpAny (model P w) A (exec (top 1) (mainEnv P c F)) Q E s := by
  rw [top1_eq]
  exact assign_dict T X opD_eq opD_ok.1 opD_ok.2.1 opD_ok.2.2.1 (by decide +kernel) (by decide) k
theorem top_name {i : Nat} {y : Str} (e : top i = .Assign [.Name "__name__" (nPos i)] (.Constant (.str y) 0 (vPos i)) (sPos i)) {Q : Flow → Shared → Prop} (T : T0 h₀ mb c Pl bm) (X : TI h₀ c Pl bm s.heap mg ps)
    (k : ∀ h' tk t, TI h₀ c Pl bm h' (fun z => if z = "__name__" then some (.str y t) else mg z) ps → (∀ b o, b ≠ mainGlobals → s.heap.get? b = some o → h'.get? b = some o) → Q .next { s with heap := h', toks := tk }) :
    wpAny (model P w) A (exec (top i) (mainEnv P c F)) Q E s := by
  rw [e]
  exact assign_str T X (by decide +kernel) (by decide) k
theorem top2_eq : top 2 = .Assign [.Name "__name__" (nPos 2)] (.Constant (.str "cpy313.opcode") 0 (vPos 2)) (sPos 2) := by with_unfolding_all rfl
theorem top5_eq : top 5 = .Assign [.Name "__name__" (nPos 5)] (.Constant (.str "cpy313.dis") 0 (vPos 5)) (sPos 5) := by with_unfolding_all rfl
theorem top12_eq : top 12 = .Assign [.Name "__name__" (nPos 12)] (.Constant (.str "law_dm0070_04") 0 (vPos 12)) (sPos 12) := by with_unfolding_all rfl
end Mine
end

section 
open PySem PySem.W PyProof.Rows PySem.Calls PyProof.V
namespace Mine
variable {h₀ : Heap} {mb : Str → Option Value} {c Pl bm F : Addr} {mg : Str → Option Value} {ps : Array Value} {w : World} {A : Around} {E : Value → Shared → Prop} {s : Shared}

theorem Ints.get {kvs : List (Str × Value)} {D : List (Str × Int)} (h : Ints kvs D) : ∀ (i : Nat) (k : Str) (v : Value), kvs[i]? = some (k, v) → ∃ t n, v = .int n t ∧ D[i]? = some (k, n) := by
  induction h with
  | nil => intro i k v e; simp at e
  | cons _ ih =>
    intro i k v e
    cases i with
    | zero => simp only [List.getElem?_cons_zero, Option.some.injEq, Prod.mk.injEq] at e; obtain ⟨rfl, rfl⟩ := e; exact ⟨_, _, rfl, rfl⟩
    | succ i => simp only [List.getElem?_cons_succ] at e ⊢; exact ih i k v e

/-- the value of one place of the comprehension -/
theorem elt_op {scope : Scope} {C : Addr} {m : Str → Option Value} {p1 p2 p3 p4 p5 : Pos} {i : Int} {t : Tok} (hk : scope.kind = .function) (hx : scope.names.lookup ("op" : Str) = some .local)
    (hn : s.heap.Ns C m) (hv : m "op" = some (.int i t)) (hi : i.natAbs < 1920) :
    wpAny (model P w) A (eval (.JoinedStr [.Constant (.str "<") 0 p1, .FormattedValue (.Name "op" p2) 114 none p3, .Constant (.str ">") 0 p4] p5) (compEnv scope C (mainEnv P c F))) (fun y s' => (∃ x t, y = .str x t) ∧ Keeps s s') E s := by
  have hlog : i.natAbs.log2 < 1920 := Nat.lt_of_le_of_lt (Nat.log2_le_self _) hi
  have hlen : (Str.ofString (toString i)).length ≤ 5 := by
    rw [PySem.ofString_length]; exact int_text_length_le10 (k := 4) (by decide) (Nat.lt_trans hi (by decide))
  have h1 : (Str.ofString "<").length = 1 := by decide
  have h2 : (Str.ofString ">").length = 1 := by decide
  have h3 : Str.empty.length = 0 := by decide
  have hz : (1000 : Nat) ≤ sizeLine := by rw [sizeLine_eq]; omega
  refine JoinedStr_many (joinParts_cons (wpAny_Constant_str ?_))
  refine ⟨by decide, joinParts_cons (wpAny_FormattedValue_repr ?_)⟩
  refine wpAny_Name (wpAny_loadName_local (env := compEnv scope C (mainEnv P c F)) hk hx hn hv ?_) (by decide)
  refine wpAny_pyReprObj_gives (typeIs_int _ _ _) PySem.F.slot_int_repr PySem.F.entry_int_repr (PySem.F.args_int_repr_1 _) (gives_int_repr i t hlog) ?_ rfl ?_
  · refine formatField_str (fun t' tk => ?_) ?_
    · refine ⟨?_, joinParts_consE (joinParts_cons (wpAny_Constant_str ?_))⟩
      · rw [strLen_append, strLen_append]; omega
      · refine ⟨?_, joinParts_nilE (joinParts_nil ?_ ?_)⟩
        · rw [strLen_append, strLen_append, strLen_append]; omega
        · exact ⟨⟨_, _, rfl⟩, s.heap, _, rfl, fun _ _ e => e⟩
        · rw [strLen_append, strLen_append, strLen_append]; omega
    · show (Str.ofString (toString i)).length ≤ _; omega
  · show (Str.ofString (toString i)).length ≤ _; omega

theorem T0.blt (T : T0 h₀ mb c Pl bm) {x : Str} {v : Value} (h : bootBuiltins x = some v) (hx : x ≠ "__name__") : mb x = some v := (T.builtins x hx).trans h

theorem opD_max : (∃ p ∈ opD, p.2 = 267) := by decide +kernel

/-- opmap.values() -/
theorem call_values {env : Env} {o : PySem.Expr} {apos pos : Pos} {d : Addr} {kvs : List (Str × Value)} {Q : Value → Shared → Prop} (hdS : (d == sysModules) = false) (hm : s.heap.DictOf (strKind P w) d kvs)
    (hbase : attributeBase o "values" env (eval o env) = eval o env) (hline : (apos.endLine == pos.line) = true)
    (ho : ∀ Q', Q' (.ref d) s → wpAny (model P w) A (eval o env) Q' E s)
    (hQ : Q (.ref s.heap.objs.size) { s with heap := s.heap.push { cls := .type "dict_values", data := .fields #[.ref d] } }) :
    wpAny (model P w) A (eval (.Call (.Attribute o "values" apos) [] [] pos) env) Q E s := by
  refine wpAny_Call_method (T := "dict") (id := "dict.values") hbase rfl hline PySem.F.plainAttrs_dict PySem.F.slot_dict_values PySem.F.type_dict_values (ho _ ⟨hm.typeIs, hm.mapOf.noDict, ?_⟩)
  show wpAny _ _ (callWith pos (.builtin "dict.values") [.ref d] [] []) Q E s
  exact method_meetsIn PySem.F.slot_dict_values PySem.F.entry_dict_values rfl (PySem.evalArgs_none ⟨rfl, hm.typeIs, PySem.F.args_dict_values_1 _, _, meets_dict_values (strKind P w) d hdS, ⟨kvs, hm⟩, hQ⟩)

theorem eval_range {p7 p8 p9 p10 p11 p12 p13 p14 p15 : Pos} {d : Addr} {kvs : List (Str × Value)} {Q : Value → Shared → Prop} (T : T0 h₀ mb c Pl bm) (hh : A.handled = none) (X : TI h₀ c Pl bm s.heap mg ps)
    (hline : (p10.endLine == p11.line) = true) (hop : mg "opmap" = some (.ref d)) (hge : sysModules < d) (hd : s.heap.DictOf (strKind P w) d kvs) (hi : Ints kvs opD) (hr : mg "range" = none) (hm : mg "max" = none)
    (k : ∀ r h' tk t u v, s.heap.objs.size ≤ r → IsRange h' r 0 268 1 t u v → (∀ b o, s.heap.get? b = some o → h'.get? b = some o) → Q (.ref r) { s with heap := h', toks := tk }) :
    wpAny (model P w) A (eval (.Call (.Name "range" p7) [.BinOp (.Call (.Name "max" p8) [.Call (.Attribute (.Name "opmap" p9) "values" p10) [] [] p11] [] p12) .Add (.Constant (.int 1) 0 p13) p14] [] p15) (mainEnv P c F)) Q E s := by
  have hdS : (d == sysModules) = false := beq_eq_false_iff_ne.mpr (Nat.ne_of_gt hge)
  refine wpAny_Call_NameR (name_b X.g hr (X.b T) (T.blt boot_range (by decide)) ?_)
  refine PySem.callWith_type rfl (Calls.evalArgs_plain (Calls.spliced_cons ?_))
  refine wpAny_BinOp ?_
  refine wpAny_Call_NameR (name_b X.g hm (X.b T) (T.blt boot_max (by decide)) ?_)
  refine callWith_builtin1 (args_cons (call_values hdS hd rfl hline (fun Q' hq => name_g X.g hop hq) (args_nil ?_)))
  refine call_max_walkS ?_
  obtain ⟨o, es, ep, ho, hc, hdd, hk, hp, hn⟩ := id hd
  have hdlt : d < s.heap.objs.size := Heap.lt_size ho
  have hat : s.heap.DictAt (strKind P w) d kvs ep := ⟨o, es, ho, hc, hdd, hk, hp, hn⟩
  refine wpAny_pyIter_values (knd := strKind P w) (d := d) (kvs := kvs) (ep := ep) ⟨_, Heap.get?_push_size _ rfl, rfl, rfl⟩ (hat.push _) ?_
  have hsz : (s.heap.push { cls := .type "dict_values", data := .fields #[.ref d] }).objs.size = s.heap.objs.size + 1 := Heap.size_push ..
  have hvals : ∀ (i : Nat) (v : Value), (∃ k, kvs[i]? = some (k, v)) → ∃ t, v = .int ((opD.getD i ("", 0)).2) t := by
    rintro i v ⟨k, e⟩
    obtain ⟨t, n, rfl, e'⟩ := hi.get i k v e
    exact ⟨t, by rw [List.getD_eq_getElem?_getD, e']; rfl⟩
  have hne : d ≠ (s.heap.push { cls := .type "dict_values", data := .fields #[.ref d] }).objs.size := by rw [hsz]; exact Nat.ne_of_lt (Nat.lt_succ_of_lt hdlt)
  have W := (Walks.dictValues (prog := P) (w := w) (A := A.in1) (knd := strKind P w) hh _ d hne kvs ep).toS
  refine ⟨_, _, _, _, _, _, _, _, rfl, W, ⟨⟨_, Heap.get?_push_size _ rfl, rfl, rfl⟩, (hat.push _).push _⟩, ?_, ?_, CmpOf.ints_gt _ hvals, fun v s' hv hmv => ?_⟩
  · intro b hb
    rw [Heap.size_push]
    rcases List.mem_cons.mp hb with rfl | hb
    · exact Nat.lt_succ_self _
    · rw [List.mem_singleton.mp hb, hsz]; exact Nat.lt_succ_of_lt (Nat.lt_succ_of_lt hdlt)
  · rw [hi.length]; exact List.length_pos_iff.mpr opD_ok.2.2.1
  · obtain ⟨t, rfl⟩ := hvals _ v hv
    have hbest := argBest_gt (fun i => (opD.getD i ("", 0)).2) (kvs.length - 1)
    have hval : (opD.getD (argBest (fun i j => decide ((opD.getD i ("", 0)).2 > (opD.getD j ("", 0)).2)) (kvs.length - 1)) ("", 0)).2 = 267 := by
      have hlen := hi.length
      have hpos := List.length_pos_iff.mpr opD_ok.2.2.1
      obtain ⟨p, hp, e⟩ := opD_max
      obtain ⟨j, hj, ej⟩ := List.getElem_of_mem hp
      have h1 := hbest.2 j (by omega)
      rw [List.getD_eq_getElem?_getD, List.getElem?_eq_getElem hj, Option.getD_some, ej, e] at h1
      have h2 : argBest (fun i j => decide ((opD.getD i ("", 0)).2 > (opD.getD j ("", 0)).2)) (kvs.length - 1) < opD.length := by have := hbest.1; omega
      have h3 := (opD_ok.2.2.2 _ (List.getElem_mem h2)).2
      rw [List.getD_eq_getElem?_getD, List.getElem?_eq_getElem h2, Option.getD_some] at h1 ⊢
      omega
    rw [hval]
    refine wpAny_Constant_int (PyProof.Rows.add_int (Calls.spliced_nil ?_))
    refine call_range_1 ?_
    have e := hmv.gens
    obtain ⟨hp', g', d', tk', os'⟩ := s'
    have e2 : d' = s.drawn := hmv.drawn
    have e3 : os' = s.os := hmv.os
    have e4 : g' = s.gens := e
    subst e2 e3 e4
    have hk' : ∀ b o, s.heap.get? b = some o → hp'.get? b = some o := fun b o e => by
      refine hmv.heap b o ?_ (Heap.get?_push_of_some _ (Heap.get?_push_of_some _ e))
      intro hm'
      rw [List.mem_singleton.mp hm', hsz] at e
      exact absurd (Heap.lt_size e) (Nat.not_lt.mpr (Nat.le_succ _))
    have hge' : s.heap.objs.size ≤ hp'.objs.size := by
      have hlt := Heap.lt_size (hk' d o ho)
      obtain ⟨ov, hov⟩ : ∃ ov, hp'.get? (s.heap.objs.size) = some ov := ⟨_, hmv.heap s.heap.objs.size _ (by rw [hsz]; simp) (Heap.get?_push_of_some _ (Heap.get?_push_size _ rfl))⟩
      exact Nat.le_of_lt (Heap.lt_size hov)
    exact k _ _ _ _ _ _ hge' (IsRange.new _ _ _ _ _ _ _) fun b o e => Heap.get?_push_of_some _ (hk' b o e)
end Mine
end

section 
open PySem PySem.W PyProof.Rows PySem.Calls PyProof.V
namespace Mine
variable {h₀ : Heap} {mb : Str → Option Value} {c Pl bm F : Addr} {mg : Str → Option Value} {ps : Array Value} {w : World} {A : Around} {E : Value → Shared → Prop} {s : Shared}

theorem top3 {d : Addr} {kvs : List (Str × Value)} {Q : Flow → Shared → Prop} (T : T0 h₀ mb c Pl bm) (hh : A.handled = none) (X : TI h₀ c Pl bm s.heap mg ps)
    (hop : mg "opmap" = some (.ref d)) (hge : sysModules < d) (hd : s.heap.DictOf (strKind P w) d kvs) (hi : Ints kvs opD) (hr : mg "range" = none) (hm : mg "max" = none)
    (k : ∀ h' tk D ys, TI h₀ c Pl bm h' (fun y => if y = "opname" then some (.ref D) else mg y) ps → h₀.get? D = none → h'.PlainList D ys → ys.size = 268 →
      (∀ b o, b ≠ mainGlobals → s.heap.get? b = some o → h'.get? b = some o) → Q .next { s with heap := h', toks := tk }) :
    wpAny (model P w) A (exec (top 3) (mainEnv P c F)) Q E s := by
  unfold top
  refine wpAny_Assign_Name ?_ rfl
  refine wpAny_ListComp_walk (fun _ => true) (fun _ y => ∃ x t, y = .str x t) (by decide) (by decide) rfl (by decide) (by decide) ?_
  refine eval_range T hh X rfl hop hge hd hi hr hm fun r h₁ tk₁ t u v hr₁ hR hk₁ => ?_
  refine wpAny_pyIter_range hR (by decide) ?_
  have hlt : r < h₁.objs.size := Heap.lt_size hR
  refine ⟨h₁.objs.size, _, _, 268, _, _, rfl, (Walks.range hh _ 0 1 268).bound, by rw [sizeLine_eq]; omega, ?_, ?_, ⟨?_, ?_⟩, ?_⟩
  · show IsRangeIter _ _ _ _ _
    have : Builtin.Range.rangeSize 0 268 1 = ((268 : Nat) : Int) := by decide
    rw [this]; simpa using Heap.get?_push_size _ rfl
  · intro b hb
    rw [List.mem_singleton.mp hb]
    show h₁.objs.size < (h₁.push _).objs.size
    rw [Heap.size_push]; exact Nat.lt_succ_self _
  · intro C i v s₃ m₃ E' hv hn hmx hk htk
    exact wpAny_pure ⟨rfl, s₃.heap, s₃.toks, rfl, fun _ _ e => e⟩
  · rintro C i v s₃ m₃ E' ⟨hlt', t, rfl⟩ _ hn hmx hk htk
    exact elt_op rfl (by decide) hn hmx (by omega)
  · intro D h' tk ys vs hD hl hpl hlen hP hF hk
    have hsz : ys.size = 268 := by
      have e := hF.length
      have e2 : vs.filter (fun _ => true) = vs := List.filter_eq_self.mpr (by simp)
      rw [e2, hlen] at e
      simpa using e.symm
    have hkk : ∀ b o, s.heap.get? b = some o → h'.get? b = some o := fun b o e => by
      refine hk b o ?_ (Heap.get?_push_of_some _ (hk₁ b o e))
      intro hm'
      have e' := hk₁ b o e
      rw [List.mem_singleton.mp hm'] at e'
      exact absurd (Heap.lt_size e') (Nat.lt_irrefl _)
    have hD₀ : h₀.get? D = none := X.fresh (by
      cases e : s.heap.get? D with
      | none => rfl
      | some o => have := Heap.get?_push_of_some { cls := .type "range_iterator", data := .fields #[rawInt 0, rawInt (Builtin.Range.rangeSize 0 268 1), rawInt 1] } (hk₁ D o e); rw [hD] at this; cases this)
    obtain ⟨nD, hoD⟩ := id hpl
    have X' : TI h₀ c Pl bm h' mg ps := X.grown hkk
    refine ti_store (s := { s with heap := h', toks := tk }) T X' (by decide +kernel) (by decide) fun h'' tk'' X'' hs => ?_
    refine k h'' tk'' D ys X'' hD₀ ⟨nD, (hs.2 D (Ne.symm (ne_of_none T.g0 hD₀))).trans hoD⟩ hsz fun b o hb e => (hs.2 b hb).trans (hkk b o e)
end Mine
end

section 
open PySem PySem.W PyProof.Rows PySem.Calls PyProof.V
namespace Mine
variable {h₀ : Heap} {mb : Str → Option Value} {c Pl bm F : Addr} {mg : Str → Option Value} {ps : Array Value} {w : World} {A : Around} {E : Value → Shared → Prop} {s : Shared}

/-- a loop of the top's over the items of a dict -/
theorem for_items {R : Result → Shared → Prop} {xk xv : Str} {pk pv pt : Pos} {x1 : Nat} {body : List Stmt} {it d : Addr} {kvs : List (Str × Value)} {ep : Nat}
    (T : T0 h₀ mb c Pl bm) (hh : A.handled = none) (hxk : P.main.scope.names.lookup xk = some .local) (hxv : P.main.scope.names.lookup xv = some .local) (hnk : xk ≠ "__builtins__") (hnv : xv ≠ "__builtins__") (hkv : xk ≠ xv)
    (hit : IsItemIter s.heap it d 0 kvs.length ep .none .none) (hm : s.heap.DictAt (strKind P w) d kvs ep) (X : TI h₀ c Pl bm s.heap mg ps) (hit₀ : h₀.get? it = none) (hd₀ : h₀.get? d = none) (hdi : d ≠ it)
    (J : Nat → Heap → (Str → Option Value) → Prop)
    (hJ : ∀ i h h' m m', J i h m → (∀ b o, b ≠ mainGlobals → b ≠ it → h.get? b = some o → h'.get? b = some o) → (m' = m ∨ ((∀ y, y ≠ xk → y ≠ xv → m' y = m y) ∧ (∃ v, m' xk = some v) ∧ ∃ v, m' xv = some v)) → J i h' m')
    (h0 : J 0 s.heap mg)
    (step : ∀ i k v key m₁ s₁ oi od, (∃ h tk, s₁ = { s with heap := h, toks := tk }) → kvs[i]? = some (k, v) → (strKind P w).is k key = true → J i s₁.heap m₁ → TI h₀ c Pl bm s₁.heap m₁ ps → m₁ xk = some key → m₁ xv = some v →
      s₁.heap.get? it = some oi → s₁.heap.get? d = some od → s₁.heap.DictAt (strKind P w) d kvs ep →
      wpAny (model P w) A (execs body (mainEnv P c F)) (fun f s₂ => f = .next ∧ ∃ h' tk m₂, s₂ = { s₁ with heap := h', toks := tk } ∧ h'.get? it = some oi ∧ h'.get? d = some od ∧ TI h₀ c Pl bm h' m₂ ps ∧ J (i + 1) h' m₂)
        (notedBy (model P w) A (mainEnv P c F) fun e s' => R (.error e) s') s₁)
    (hR : ∀ h' tk m', TI h₀ c Pl bm h' m' ps → J kvs.length h' m' → R (.ok .next) { s with heap := h', toks := tk }) :
    codeAny (model P w) A (.forLoop (.Tuple [.Name xk pk, .Name xv pv] x1 pt) (.ref it) body [] (mainEnv P c F)) R s := by
  have hgi : it ≠ mainGlobals := Ne.symm (ne_of_none T.g0 hit₀)
  have hgd : d ≠ mainGlobals := Ne.symm (ne_of_none T.g0 hd₀)
  refine codeAny_forLoop_any
    (fun n s' => ∃ h' tk m' i ok ov, s' = { s with heap := h', toks := tk } ∧ IsItemIter h' it d i kvs.length ep ok ov ∧ h'.DictAt (strKind P w) d kvs ep ∧ TI h₀ c Pl bm h' m' ps ∧ J i h' m' ∧ i ≤ kvs.length ∧ n = kvs.length + 1 - i) ?_ (kvs.length + 1)
    ⟨s.heap, s.toks, mg, 0, .none, .none, rfl, hit, hm, X, h0, Nat.zero_le _, rfl⟩
  rintro n s' ⟨H, tk, m', i, ok, ov, rfl, hit', hm', X', hJ', hi, rfl⟩
  cases hv : kvs[i]? with
  | none =>
    have hsz : i = kvs.length := Nat.le_antisymm hi (by simpa using hv)
    refine wpAny_pyNext_items_end hh hit' hm' hv fun h₁ he₁ => wpAny_execs_nil ?_
    have X₁ : TI h₀ c Pl bm h₁ m' ps := X'.ext T he₁ hit₀
    exact hR h₁ tk m' X₁ (hsz ▸ hJ i H h₁ m' m' hJ' (fun b o _ hb e => he₁ b o hb e) (.inl rfl))
  | some kv =>
    obtain ⟨k, v⟩ := kv
    have hlt : i < kvs.length := (List.getElem?_eq_some_iff.mp hv).1
    have hiH : it < H.objs.size := Heap.lt_size hit'
    have hdH : d < H.objs.size := hm'.lt_size
    refine wpAny_pyNext_items_item hit' hm' hv fun key h₁ hkey heo ht₁ hz₁ hk₁ => ?_
    refine wpAny_letOwnedTupleGo_items heo fun h₂ he₂ hs₂ => ?_
    replace hs₂ : Heap.SameBut it h₁ h₂ := hs₂
    have ht₂ : h₂.IsTuple H.objs.size #[key, v] := ⟨_, (hs₂.2 _ (Nat.ne_of_gt hiH)).trans ht₁, rfl, _, rfl⟩
    have hz₂ : h₂.objs.size = H.objs.size + 1 := hs₂.1.trans hz₁
    refine wpAny_assign_Tuple hh ht₂ rfl rfl fun h₃ hx₃ => ?_
    replace hx₃ : Heap.ExtBut h₂.objs.size h₂ h₃ := hx₃
    have old₃ : ∀ b o, b < H.objs.size → h₂.get? b = some o → h₃.get? b = some o := fun b o hb x => hx₃ b o (by rw [hz₂]; exact Nat.ne_of_lt (Nat.lt_succ_of_lt hb)) x
    have up : ∀ b o, b ≠ it → H.get? b = some o → h₃.get? b = some o := fun b o hb e => old₃ b o (Heap.lt_size e) ((hs₂.2 b hb).trans (hk₁ b o hb e))
    have X₃ : TI h₀ c Pl bm h₃ m' ps := X'.ext T (d := it) (fun b o hb e => up b o hb e) hit₀
    show wpAny _ _ (do holding [v] (assign (.Name xk pk) (mainEnv P c F) key); do holding [] (assign (.Name xv pv) (mainEnv P c F) v); pure ()) _ _ _
    refine wpAny_bind (wpAny_holding (wpAny_assign_Name (ti_store T X₃ hxk hnk fun h₄ tk₄ X₄ hs₄ => ?_)))
    refine wpAny_bind (wpAny_holding (wpAny_assign_Name (ti_store T X₄ hxv hnv fun h₅ tk₅ X₅ hs₅ => wpAny_pure ?_)))
    replace hs₄ : Heap.SameBut mainGlobals h₃ h₄ := hs₄
    replace hs₅ : Heap.SameBut mainGlobals h₄ h₅ := hs₅
    have up₅ : ∀ b o, b ≠ mainGlobals → h₃.get? b = some o → h₅.get? b = some o := fun b o hb e => (hs₅.2 b hb).trans ((hs₄.2 b hb).trans e)
    have hm₂ : h₂.DictAt (strKind P w) d kvs ep := (hm'.at fun o x => hk₁ d o hdi x).extBut hs₂.extBut hdi
    have hm₅ : h₅.DictAt (strKind P w) d kvs ep := hm₂.at fun o x => up₅ d o hgd (old₃ d o hdH x)
    obtain ⟨od, _, hod, _⟩ := id hm₅
    have hit₅ : h₅.get? it = _ := up₅ it _ hgi (old₃ it _ hiH he₂)
    refine wpAny_mono (step i k v key _ _ _ od ⟨h₅, tk₅, rfl⟩ hv hkey (hJ i H h₅ m' _ hJ' (fun b o hg hb e => up₅ b o hg (up b o hb e)) (.inr ⟨fun y h1 h2 => by rw [if_neg h2, if_neg h1], ⟨key, by rw [if_neg hkv, if_pos rfl]⟩, ⟨v, by rw [if_pos rfl]⟩⟩)) X₅ (by rw [if_neg hkv, if_pos rfl]) (by rw [if_pos rfl]) hit₅ hod hm₅) (fun f s₃ h₆ => ?_) fun _ _ x => x
    obtain ⟨rfl, h₆, tk₆, m₂, rfl, hi₆, hd₆, X₆, hJ₆⟩ := h₆
    refine ⟨kvs.length + 1 - (i + 1), by omega, h₆, tk₆, m₂, i + 1, key, v, rfl, hi₆, hm₅.at fun o x => ?_, X₆, hJ₆, hlt, rfl⟩
    rw [show h₅.get? d = some o from x] at hod; cases hod; exact hd₆
end Mine
end

section 
open PySem PySem.W PyProof.Rows PySem.Calls PyProof.V
namespace Mine
variable {h₀ : Heap} {mb : Str → Option Value} {c Pl bm F : Addr} {mg : Str → Option Value} {ps : Array Value} {w : World} {A : Around} {E : Value → Shared → Prop} {s : Shared}

theorem isList_at {h h' : Heap} {a : Addr} {ys : Array Value} (x : h.IsList a ys) (k : ∀ o, h.get? a = some o → h'.get? a = some o) : h'.IsList a ys := let ⟨o, e, r⟩ := x; ⟨o, k o e, r⟩

theorem top4 {d D : Addr} {kvs : List (Str × Value)} {ys : Array Value} {Q : Flow → Shared → Prop} (T : T0 h₀ mb c Pl bm) (hh : A.handled = none) (X : TI h₀ c Pl bm s.heap mg ps)
    (hop : mg "opmap" = some (.ref d)) (hge : sysModules < d) (hd₀ : h₀.get? d = none) (hd : s.heap.DictOf (strKind P w) d kvs) (hi : Ints kvs opD)
    (hon : mg "opname" = some (.ref D)) (hD₀ : h₀.get? D = none) (hl : s.heap.IsList D ys) (hys : ys.size = 268) (hdD : d ≠ D)
    (k : ∀ h' tk m' ys', TI h₀ c Pl bm h' m' ps → (∀ y : Str, y ≠ "op_opcode" → y ≠ "i" → m' y = mg y) → (∃ v, m' "op_opcode" = some v) → h'.IsList D ys' → ys'.size = 268 → (∀ b o, b ≠ mainGlobals → b ≠ D → s.heap.get? b = some o → h'.get? b = some o) → Q .next { s with heap := h', toks := tk })
    (hE : PassesOwn (model P w) A (mainEnv P c F) E := by passes_own) :
    wpAny (model P w) A (exec (top 4) (mainEnv P c F)) Q E s := by
  have hdS : (d == sysModules) = false := beq_eq_false_iff_ne.mpr (Nat.ne_of_gt hge)
  unfold top
  refine wpAny_For (wpAny_Call_items (knd := strKind P w) hdS hd rfl rfl (fun Q' hq => name_g X.g hop hq) ?_)
  obtain ⟨o, es, ep, ho, hc, hdd, hk, hp, hn⟩ := id hd
  have hat : s.heap.DictAt (strKind P w) d kvs ep := ⟨o, es, ho, hc, hdd, hk, hp, hn⟩
  refine wpAny_pyIter_items (knd := strKind P w) (d := d) (kvs := kvs) (ep := ep) ⟨_, Heap.get?_push_size _ rfl, rfl, rfl⟩ (hat.push _) ?_
  have hsz : (s.heap.push { cls := .type "dict_items", data := .fields #[.ref d] }).objs.size = s.heap.objs.size + 1 := Heap.size_push ..
  have up : ∀ b o', s.heap.get? b = some o' → ((s.heap.push { cls := .type "dict_items", data := .fields #[.ref d] }).push { cls := .type "dict_itemiterator", data := .fields #[.none, .bool false, .ref d, .int 0 0, .int kvs.length 0, .int ep 0, .none, .none] }).get? b = some o' :=
    fun b o' e => Heap.get?_push_of_some _ (Heap.get?_push_of_some _ e)
  have hdlt : d < s.heap.objs.size := Heap.lt_size ho
  have hDlt : D < s.heap.objs.size := by obtain ⟨oD, eD, _⟩ := hl; exact Heap.lt_size eD
  have hit₀ : h₀.get? (s.heap.objs.size + 1) = none := X.fresh (Heap.get?_none_of_le (Nat.le_succ _))
  rw [hsz]
  refine for_items (R := fun r s' => match r with | .ok f => Q f s' | .error e => cameBackBy (model P w) A (mainEnv P c F) E e s') (d := d) (kvs := kvs) (ep := ep) T hh (by decide +kernel) (by decide +kernel) (by decide) (by decide) (by decide) ?_ ((hat.push _).push _) (X.grown up) hit₀ hd₀
    (Nat.ne_of_lt (Nat.lt_succ_of_lt hdlt))
    (fun i h m => (∃ ys', h.IsList D ys' ∧ ys'.size = 268) ∧ (∀ y : Str, y ≠ "op_opcode" → y ≠ "i" → m y = mg y) ∧ (0 < i → ∃ v, m "op_opcode" = some v) ∧ ∀ b o, b ≠ mainGlobals → b ≠ D → s.heap.get? b = some o → h.get? b = some o) ?_ ?_ ?_ ?_
  · rw [← hsz]; exact Heap.get?_push_size _ rfl
  · rintro i h h' m m' ⟨⟨ys', hl', hz'⟩, hm1, hm2, hk'⟩ hh' hm'
    refine ⟨⟨ys', isList_at hl' fun o e => hh' D o (Ne.symm (ne_of_none T.g0 hD₀)) (Nat.ne_of_lt (Nat.lt_succ_of_lt hDlt)) e, hz'⟩, ?_, ?_, fun b o h1 h2 e => hh' b o h1 (Nat.ne_of_lt (Nat.lt_succ_of_lt (Heap.lt_size e))) (hk' b o h1 h2 e)⟩
    · rcases hm' with rfl | ⟨h1, _, _⟩
      · exact hm1
      · exact fun y a b => (h1 y a b).trans (hm1 y a b)
    · rcases hm' with rfl | ⟨_, h2, _⟩
      · exact hm2
      · exact fun _ => h2
  · exact ⟨⟨ys, isList_at hl fun o e => up D o e, hys⟩, fun _ _ _ => rfl, fun h => absurd h (Nat.lt_irrefl _), fun b o _ _ e => up b o e⟩
  · rintro i kk v key m₁ s₁ oi od ⟨h₁, tk₁, rfl⟩ hv hkey ⟨⟨ys', hl', hz'⟩, hm1, hm2, hk'⟩ X₁ hmk hmv hoi hod hat₁
    obtain ⟨t, n, rfl, hn'⟩ := hi.get i kk v hv
    have hb := opD_ok.2.2.2 _ (List.mem_of_getElem? hn')
    have hD1 : m₁ "opname" = some (.ref D) := (hm1 "opname" (by decide) (by decide)).trans hon
    refine wpAny_passesOwn hE (wpAny_execs_cons (wpAny_Assign_Subscript (name_g X₁.g hmk (name_g X₁.g hD1 (name_g X₁.g hmv ?_))) rfl))
    refine wpAny_setItem_list hl' hb.1 (by omega) (by rw [hz']; exact hb.2) fun h₂ hl₂ hs₂ => wpAny_execs_nil ⟨rfl, h₂, tk₁, m₁, rfl, ?_, ?_, X₁.change T hs₂ hD₀, ⟨⟨_, hl₂, by simpa using hz'⟩, hm1, fun _ => ⟨key, hmk⟩, fun b o h1 h2 e => (hs₂.2 b h2).trans (hk' b o h1 h2 e)⟩⟩
    · exact (hs₂.2 _ (Nat.ne_of_gt (Nat.lt_succ_of_lt hDlt))).trans hoi
    · exact (hs₂.2 _ hdD).trans hod
  · rintro h' tk m' X' ⟨⟨ys', hl', hz'⟩, hm1, hm2, hk'⟩
    exact k h' tk m' ys' X' hm1 (hm2 (by rw [hi.length]; exact List.length_pos_iff.mpr opD_ok.2.2.1)) hl' hz' hk'
end Mine
end

section 
open PySem PySem.W PyProof.Rows PySem.Calls PyProof.V
namespace Mine
variable {h₀ : Heap} {mb : Str → Option Value} {c Pl bm F : Addr} {mg : Str → Option Value} {ps : Array Value} {w : World} {A : Around} {E : Value → Shared → Prop} {s : Shared}

theorem top6 {v : Value} {Q : Flow → Shared → Prop} (T : T0 h₀ mb c Pl bm) (X : TI h₀ c Pl bm s.heap mg ps) (hop : mg "op_opcode" = some v)
    (k : ∀ h' tk, TI h₀ c Pl bm h' (fun y => if y = "op_dis" then some v else mg y) ps → (∀ b o, b ≠ mainGlobals → s.heap.get? b = some o → h'.get? b = some o) → Q .next { s with heap := h', toks := tk }) :
    wpAny (model P w) A (exec (top 6) (mainEnv P c F)) Q E s := by
  unfold top
  refine wpAny_Assign_Name (name_g X.g hop ?_) rfl
  exact ti_store T X (by decide +kernel) (by decide) fun h'' tk'' X'' hs => k h'' tk'' X'' fun b o hb e => (hs.2 b hb).trans e

theorem top7 {D : Addr} {ys : Array Value} {Q : Flow → Shared → Prop} (T : T0 h₀ mb c Pl bm) (X : TI h₀ c Pl bm s.heap mg ps) (hon : mg "opname" = some (.ref D)) (hl : s.heap.IsList D ys) (hys : ys.size = 268) (hn : mg "list" = none)
    (k : ∀ h' tk, TI h₀ c Pl bm h' (fun y => if y = "_all_opname" then some (.ref s.heap.objs.size) else mg y) ps → h'.IsList s.heap.objs.size ys → (∀ b o, b ≠ mainGlobals → s.heap.get? b = some o → h'.get? b = some o) → Q .next { s with heap := h', toks := tk }) :
    wpAny (model P w) A (exec (top 7) (mainEnv P c F)) Q E s := by
  unfold top
  refine wpAny_Assign_Name ?_ rfl
  refine wpAny_Call_NameR (name_b X.g hn (X.b T) (T.blt boot_list (by decide)) ?_)
  refine PySem.callWith_type rfl (Calls.evalArgs_plain (Calls.spliced_cons (name_g X.g hon (Calls.spliced_nil ?_))))
  obtain ⟨o, ho, hc, n, hd⟩ := id hl
  refine call_list_seq D (.inl rfl) ho hc hd (fun h' c' hk hD => ?_) (by rw [hys, sizeLine_eq]; omega)
  refine ti_store (s := { s with heap := h' }) T (X.grown hk) (by decide +kernel) (by decide) fun h'' tk'' X'' hs => ?_
  exact k h'' tk'' X'' ⟨_, (hs.2 _ (Nat.ne_of_gt X.g.lt)).trans hD, rfl, c', rfl⟩ fun b o hb e => (hs.2 b hb).trans (hk b o e)

theorem top8 {d : Addr} {kvs : List (Str × Value)} {Q : Flow → Shared → Prop} (T : T0 h₀ mb c Pl bm) (X : TI h₀ c Pl bm s.heap mg ps) (hop : mg "opmap" = some (.ref d)) (hge : sysModules < d) (hd : s.heap.DictOf (strKind P w) d kvs) (hz : kvs.length ≤ 1000) (hn : mg "dict" = none)
    (k : ∀ h' tk, TI h₀ c Pl bm h' (fun y => if y = "_all_opmap" then some (.ref s.heap.objs.size) else mg y) ps → h'.DictOf (strKind P w) s.heap.objs.size kvs → (∀ b o, b ≠ mainGlobals → s.heap.get? b = some o → h'.get? b = some o) → Q .next { s with heap := h', toks := tk }) :
    wpAny (model P w) A (exec (top 8) (mainEnv P c F)) Q E s := by
  have hdS : (d == sysModules) = false := beq_eq_false_iff_ne.mpr (Nat.ne_of_gt hge)
  unfold top
  refine wpAny_Assign_Name ?_ rfl
  refine wpAny_Call_NameR (name_b X.g hn (X.b T) (T.blt boot_dict (by decide)) ?_)
  refine PySem.callWith_type rfl (Calls.evalArgs_plain (Calls.spliced_cons (name_g X.g hop (Calls.spliced_nil ?_))))
  refine kt_call_dict (knd := strKind P w) hdS hd (by rw [sizeLine_eq]; omega) fun h' hd' hs' => ?_
  have hk : ∀ b o, s.heap.get? b = some o → h'.get? b = some o := fun b o e => (hs'.2 b (Nat.ne_of_lt (Heap.lt_size e))).trans (Heap.get?_push_of_some _ e)
  refine ti_store (s := { s with heap := h' }) T (X.grown hk) (by decide +kernel) (by decide) fun h'' tk'' X'' hs => ?_
  exact k h'' tk'' X'' (hd'.sameBut hs (Nat.ne_of_gt X.g.lt)) fun b o hb e => (hs.2 b hb).trans (hk b o e)

theorem top9 {d D dm : Addr} {kvs kvm : List (Str × Value)} {ys : Array Value} {Q : Flow → Shared → Prop} (T : T0 h₀ mb c Pl bm) (hh : A.handled = none) (X : TI h₀ c Pl bm s.heap mg ps)
    (hop : mg "_specialized_opmap" = some (.ref d)) (hge : sysModules < d) (hd₀ : h₀.get? d = none) (hd : s.heap.DictOf (strKind P w) d kvs) (hi : Ints kvs specD)
    (hon : mg "_all_opname" = some (.ref D)) (hD₀ : h₀.get? D = none) (hl : s.heap.IsList D ys) (hys : ys.size = 268) (hdD : d ≠ D)
    (hom : mg "_all_opmap" = some (.ref dm)) (hm₀ : h₀.get? dm = none) (hdm : s.heap.DictOf (strKind P w) dm kvm) (hzm : kvm.length ≤ 1000) (hddm : d ≠ dm) (hDdm : D ≠ dm) (hn : mg "len" = none)
    (k : ∀ h' tk m', TI h₀ c Pl bm h' m' ps → (∀ y : Str, y ≠ "name" → y ≠ "op_dis" → m' y = mg y) → (∀ b o, b ≠ mainGlobals → b ≠ D → b ≠ dm → s.heap.get? b = some o → h'.get? b = some o) → Q .next { s with heap := h', toks := tk })
    (hE : PassesOwn (model P w) A (mainEnv P c F) E := by passes_own) :
    wpAny (model P w) A (exec (top 9) (mainEnv P c F)) Q E s := by
  have hdS : (d == sysModules) = false := beq_eq_false_iff_ne.mpr (Nat.ne_of_gt hge)
  unfold top
  refine wpAny_For (wpAny_Call_items (knd := strKind P w) hdS hd rfl rfl (fun Q' hq => name_g X.g hop hq) ?_)
  obtain ⟨o, es, ep, ho, hc, hdd, hk, hp, hnd⟩ := id hd
  have hat : s.heap.DictAt (strKind P w) d kvs ep := ⟨o, es, ho, hc, hdd, hk, hp, hnd⟩
  refine wpAny_pyIter_items (knd := strKind P w) (d := d) (kvs := kvs) (ep := ep) ⟨_, Heap.get?_push_size _ rfl, rfl, rfl⟩ (hat.push _) ?_
  have hsz : (s.heap.push { cls := .type "dict_items", data := .fields #[.ref d] }).objs.size = s.heap.objs.size + 1 := Heap.size_push ..
  have up : ∀ b o', s.heap.get? b = some o' → ((s.heap.push { cls := .type "dict_items", data := .fields #[.ref d] }).push { cls := .type "dict_itemiterator", data := .fields #[.none, .bool false, .ref d, .int 0 0, .int kvs.length 0, .int ep 0, .none, .none] }).get? b = some o' :=
    fun b o' e => Heap.get?_push_of_some _ (Heap.get?_push_of_some _ e)
  have hdlt : d < s.heap.objs.size := Heap.lt_size ho
  have hDlt : D < s.heap.objs.size := by obtain ⟨oD, eD, _⟩ := hl; exact Heap.lt_size eD
  have hmlt : dm < s.heap.objs.size := dict_size hdm
  have hit₀ : h₀.get? (s.heap.objs.size + 1) = none := X.fresh (Heap.get?_none_of_le (Nat.le_succ _))
  rw [hsz]
  refine for_items (R := fun r s' => match r with | .ok f => Q f s' | .error e => cameBackBy (model P w) A (mainEnv P c F) E e s') (d := d) (kvs := kvs) (ep := ep) T hh (by decide +kernel) (by decide +kernel) (by decide) (by decide) (by decide) ?_ ((hat.push _).push _) (X.grown up) hit₀ hd₀
    (Nat.ne_of_lt (Nat.lt_succ_of_lt hdlt))
    (fun i h m => (∃ ys', h.IsList D ys' ∧ ys'.size = 268) ∧ (∃ kv', h.DictOf (strKind P w) dm kv' ∧ kv'.length ≤ 1000 + i) ∧ (∀ y : Str, y ≠ "name" → y ≠ "op_dis" → m y = mg y) ∧ ∀ b o, b ≠ mainGlobals → b ≠ D → b ≠ dm → s.heap.get? b = some o → h.get? b = some o) ?_ ?_ ?_ ?_
  · rw [← hsz]; exact Heap.get?_push_size _ rfl
  · rintro i h h' m m' ⟨⟨ys', hl', hz'⟩, ⟨kv', hd', hz2⟩, hm1, hk'⟩ hh' hm'
    refine ⟨⟨ys', isList_at hl' fun o e => hh' D o (Ne.symm (ne_of_none T.g0 hD₀)) (Nat.ne_of_lt (Nat.lt_succ_of_lt hDlt)) e, hz'⟩, ⟨kv', ?_, hz2⟩, ?_, fun b o h1 h2 h3 e => hh' b o h1 (Nat.ne_of_lt (Nat.lt_succ_of_lt (Heap.lt_size e))) (hk' b o h1 h2 h3 e)⟩
    · obtain ⟨om, r1, r2, e, r⟩ := hd'
      exact ⟨om, r1, r2, hh' dm om (Ne.symm (ne_of_none T.g0 hm₀)) (Nat.ne_of_lt (Nat.lt_succ_of_lt hmlt)) e, r⟩
    · rcases hm' with rfl | ⟨h1, _, _⟩
      · exact hm1
      · exact fun y a b => (h1 y a b).trans (hm1 y a b)
  · exact ⟨⟨ys, isList_at hl fun o e => up D o e, hys⟩, ⟨kvm, hdm.keep up, hzm⟩, fun _ _ _ => rfl, fun b o _ _ _ e => up b o e⟩
  · rintro i kk v key m₁ s₁ oi od ⟨h₁, tk₁, rfl⟩ hv hkey ⟨⟨ys', hl', hz'⟩, ⟨kv', hd', hz2⟩, hm1, hk'⟩ X₁ hmk hmv hoi hod hat₁
    have hik : i < kvs.length := (List.getElem?_eq_some_iff.mp hv).1
    have hkl : kvs.length ≤ 1000 := by rw [hi.length]; exact specD_ok.2.1
    obtain ⟨t, n, rfl, hn'⟩ := hi.get i kk v hv
    have hb := specD_ok.2.2.2 _ (List.mem_of_getElem? hn')
    have hD1 : m₁ "_all_opname" = some (.ref D) := (hm1 "_all_opname" (by decide) (by decide)).trans hon
    have hM1 : m₁ "_all_opmap" = some (.ref dm) := (hm1 "_all_opmap" (by decide) (by decide)).trans hom
    have hL1 : m₁ "len" = none := (hm1 "len" (by decide) (by decide)).trans hn
    refine wpAny_passesOwn hE (wpAny_execs_cons (wpAny_Assert_holds (wpAny_isTrue_Compare1 (name_g X₁.g hmv ?_))))
    refine wpAny_Call_NameR (name_b X₁.g hL1 (X₁.b T) (T.blt boot_len (by decide)) ?_)
    refine callWith_builtin1 (args_cons (name_g X₁.g hD1 (args_nil ?_)))
    refine call_len_list hl' (by rw [hz']; decide) ?_
    refine PyProof.Rows.lt_int (wpAny_truthy_bool ⟨by rw [hz']; exact decide_eq_true hb.2, ?_⟩)
    refine wpAny_execs_cons (wpAny_Assign_Subscript (name_g X₁.g hmk (name_g X₁.g hD1 (name_g X₁.g hmv ?_))) rfl)
    refine wpAny_setItem_list (s := { s with heap := h₁, toks := _ }) hl' hb.1 (by omega) (by rw [hz']; exact hb.2) fun h₂ hl₂ hs₂ => ?_
    have X₂ := X₁.change T hs₂ hD₀
    refine wpAny_execs_cons (wpAny_Assign_Subscript (name_g X₂.g hmv (name_g X₂.g hM1 (name_g X₂.g hmk ?_))) rfl)
    have hd₂ : h₂.DictOf (strKind P w) dm kv' := hd'.sameBut hs₂ (Ne.symm hDdm)
    refine wpAny_setItem_pairs (s := { s with heap := h₂, toks := _ }) hkey hd₂ (fun h₃ hd₃ hs₃ => wpAny_execs_nil ⟨rfl, h₃, _, m₁, rfl, ?_, ?_, X₂.change T hs₃ hm₀, ⟨⟨_, isList_at hl₂ fun o e => (hs₃.2 D hDdm).trans e, by simpa using hz'⟩, ⟨_, hd₃, ?_⟩, hm1, fun b o h1 h2 h3 e => (hs₃.2 b h3).trans ((hs₂.2 b h2).trans (hk' b o h1 h2 h3 e))⟩⟩) ?_
    · exact (hs₃.2 _ (Nat.ne_of_gt (Nat.lt_succ_of_lt hmlt))).trans ((hs₂.2 _ (Nat.ne_of_gt (Nat.lt_succ_of_lt hDlt))).trans hoi)
    · exact (hs₃.2 _ hddm).trans ((hs₂.2 _ hdD).trans hod)
    · have := stored_length_le kv' kk (.int n t); omega
    · rw [sizeLine_eq]; omega
  · rintro h' tk m' X' ⟨_, _, hm1, hk'⟩
    exact k h' tk m' X' hm1 hk'
end Mine
end

section 
open PySem PySem.W PyProof.Rows PySem.Calls PyProof.V
namespace Mine
variable {h₀ : Heap} {mb : Str → Option Value} {c Pl bm F : Addr} {mg : Str → Option Value} {ps : Array Value} {w : World} {A : Around} {E : Value → Shared → Prop} {s : Shared}

/-! ## the last display and the defs -/
def flagD : List (PyData × PyData) := (litPairs (dKeys 10) (dVals 10)).getD []
theorem flagD_eq : litPairs (dKeys 10) (dVals 10) = some flagD := by with_unfolding_all rfl
theorem flagD_is : flagD = [(.int 1, .str "OPTIMIZED"), (.int 2, .str "NEWLOCALS"), (.int 4, .str "VARARGS"), (.int 8, .str "VARKEYWORDS"), (.int 16, .str "NESTED"), (.int 32, .str "GENERATOR"), (.int 64, .str "NOFREE"), (.int 128, .str "COROUTINE"), (.int 256, .str "ITERABLE_COROUTINE"), (.int 512, .str "ASYNC_GENERATOR")] := by with_unfolding_all rfl
theorem flagD_ok : intKeyed flagD = true ∧ (intKeysOf flagD).Nodup ∧ (dKeys 10).all (·.isSome) = true ∧ (dKeys 10).length = (dVals 10).length ∧ (dKeys 10).length ≤ 15 := by decide +kernel
theorem dKeys10_ne : dKeys 10 ≠ [] := by
  intro e
  have := flagD_eq
  have h2 := flagD_ok.2.2.2.1
  rw [e] at this h2
  have h3 : dVals 10 = [] := List.length_eq_zero_iff.mp h2.symm
  rw [h3] at this
  rw [flagD_is] at this
  cases this
theorem top10_eq : top 10 = .Assign [.Name "COMPILER_FLAG_NAMES" (nPos 10)] (.Dict (dKeys 10) (dVals 10) (vPos 10)) (sPos 10) := by with_unfolding_all rfl

theorem assign_tab {x : Str} {p1 p2 p3 : Pos} {ks : List (Option PySem.Expr)} {vs : List PySem.Expr} {D : List (PyData × PyData)} {Q : Flow → Shared → Prop} (T : T0 h₀ mb c Pl bm) (X : TI h₀ c Pl bm s.heap mg ps)
    (hD : litPairs ks vs = some D) (h1 : intKeyed D = true) (h2 : (intKeysOf D).Nodup) (h3 : ks.all (·.isSome) = true) (h4 : ks.length = vs.length) (h5 : ks ≠ []) (h6 : ks.length ≤ 15) (hloc : P.main.scope.names.lookup x = some .local) (hnb : x ≠ "__builtins__")
    (k : ∀ h' tk d, TI h₀ c Pl bm h' (fun y => if y = x then some (.ref d) else mg y) ps → s.heap.objs.size ≤ d → IntTab P w h' d D → (∀ b o, b ≠ mainGlobals → s.heap.get? b = some o → h'.get? b = some o) → Q .next { s with heap := h', toks := tk }) :
    wpAny (model P w) A (exec (.Assign [.Name x p1] (.Dict ks vs p2) p3) (mainEnv P c F)) Q E s := by
  refine wpAny_Assign_Name (Dict_lits_int hD h1 h2 h3 h4 h5 h6 fun d o h' tk hd ho hto hk => ?_) rfl
  refine ti_store (s := { s with heap := h', toks := tk }) T (X.grown hk) hloc hnb fun h'' tk'' X'' hs => ?_
  obtain ⟨kvs, hdo, hf⟩ := hto
  have hdg : d ≠ mainGlobals := Nat.ne_of_gt (Nat.lt_of_lt_of_le X.g.lt hd)
  exact k h'' tk'' d X'' hd (TabAt.ofObj (beq_eq_false_iff_ne.mpr (Nat.ne_of_gt (Nat.lt_of_lt_of_le (Nat.lt_trans (by decide) X.g.lt) hd))) ((hs.2 d hdg).trans ho) hdo hf) fun b o hb e => (hs.2 b hb).trans (hk b o e)
theorem top10 {Q : Flow → Shared → Prop} (T : T0 h₀ mb c Pl bm) (X : TI h₀ c Pl bm s.heap mg ps)
    (k : ∀ h' tk d, TI h₀ c Pl bm h' (fun y => if y = "COMPILER_FLAG_NAMES" then some (.ref d) else mg y) ps → s.heap.objs.size ≤ d → IntTab P w h' d flagD → (∀ b o, b ≠ mainGlobals → s.heap.get? b = some o → h'.get? b = some o) → Q .next { s with heap := h', toks := tk }) :
    wpAny (model P w) A (exec (top 10) (mainEnv P c F)) Q E s := by
  rw [top10_eq]
  exact assign_tab T X flagD_eq flagD_ok.1 flagD_ok.2.1 flagD_ok.2.2.1 flagD_ok.2.2.2.1 dKeys10_ne flagD_ok.2.2.2.2 (by decide +kernel) (by decide) k

def fParams (i : Nat) : Arguments := match rawTop i with | .FunctionDef _ a _ _ _ _ _ _ _ _ => a | _ => default
@[irreducible] def fBody (i : Nat) : List Stmt := match rawTop i with | .FunctionDef _ _ b _ _ _ _ _ _ _ => b | _ => []
def fScope (i : Nat) : Scope := match rawTop i with | .FunctionDef _ _ _ _ _ _ s _ _ _ => s | _ => default
def fPos (i : Nat) : Pos := match rawTop i with | .FunctionDef _ _ _ _ _ _ _ _ _ p => p | _ => default

/-- a def of the text's, as it stands in the heap -/
def FnAt (mg : Str → Option Value) (h : Heap) (name : Str) (i : Nat) : Prop :=
  ∃ a o pm cd doc, mg name = some (.ref a) ∧ h.get? a = some o ∧ o.data = .func (docDef name (fParams i) (fBody i) (fScope i) pm cd doc) ∧ h.CodeRec cd name
theorem FnAt.keeps {mg : Str → Option Value} {h h' : Heap} {name : Str} {i : Nat} (x : FnAt mg h name i) (hk : ∀ b o, h.get? b = some o → h'.get? b = some o) : FnAt mg h' name i :=
  let ⟨a, o, pm, cd, doc, h1, h2, h3, h4⟩ := x; ⟨a, o, pm, cd, doc, h1, hk _ _ h2, h3, h4.keeps hk⟩

theorem assign_def {name : Str} {i : Nat} {Q : Flow → Shared → Prop} (T : T0 h₀ mb c Pl bm) (X : TI h₀ c Pl bm s.heap mg ps) (e : top i = .FunctionDef name (fParams i) (fBody i) [] none [] (fScope i) none name (fPos i))
    (hexec : PlainDefTree name (fParams i) (fBody i) (fScope i) (fPos i)) (hfree : ∀ x ∈ (fScope i).names, x.2 ≠ .free) (hdoc : docOf (fBody i) = none) (hloc : P.main.scope.names.lookup name = some .local)
    (hq : qualnameIn { scope := P.main.scope, locals := mainGlobals, globals := mainGlobals, cells := [] } name name = name) (hnb : name ≠ "__builtins__") (hnf : codeAmong (fPos i) ps.toList = none)
    (k : ∀ h' tk a c', TI h₀ c Pl bm h' (fun x => if x = name then some (.ref a) else mg x) (ps ++ #[rawInt (fPos i).line, rawInt (fPos i).col, .ref c']) → s.heap.objs.size ≤ a → s.heap.objs.size ≤ c' →
      (∃ o pm cd doc, h'.get? a = some o ∧ o.data = .func (docDef name (fParams i) (fBody i) (fScope i) pm cd doc) ∧ cd = .ref c' ∧ h'.CodeRec cd name) →
      (∀ b o, b ≠ Pl → b ≠ mainGlobals → s.heap.get? b = some o → h'.get? b = some o) → Q .next { s with heap := h', toks := tk }) :
    wpAny (model P w) A (exec (top i) (mainEnv P c F)) Q E s := by
  rw [e]
  refine wpAny_plainDefN hexec hfree hdoc hloc hq (X.main T) (fun a c' h' tk ha hm hf hcd htb keep => ?_) hnb rfl hnf
  refine k h' tk a c' ⟨hm.g, hm.code, fun b o h1 h2 e => keep b o h1 h2 (X.keep b o h1 h2 e), ?_⟩ ha hcd.1 ⟨_, _, _, _, hf, rfl, rfl, hcd.2⟩ keep
  rw [if_neg (Ne.symm hnb)]; exact X.bi
theorem top11_eq : top 11 = .FunctionDef "pretty_flags" (fParams 11) (fBody 11) [] none [] (fScope 11) none "pretty_flags" (fPos 11) := by with_unfolding_all rfl
theorem top13_eq : top 13 = .FunctionDef "_law_words" (fParams 13) (fBody 13) [] none [] (fScope 13) none "_law_words" (fPos 13) := by with_unfolding_all rfl
theorem top14_eq : top 14 = .FunctionDef "_law_sets" (fParams 14) (fBody 14) [] none [] (fScope 14) none "_law_sets" (fPos 14) := by with_unfolding_all rfl
theorem top15_eq : top 15 = .FunctionDef "_law_text" (fParams 15) (fBody 15) [] none [] (fScope 15) none "_law_text" (fPos 15) := by with_unfolding_all rfl
theorem top16_eq : top 16 = .FunctionDef "_law_join" (fParams 16) (fBody 16) [] none [] (fScope 16) none "_law_join" (fPos 16) := by with_unfolding_all rfl
theorem top17_eq : top 17 = .FunctionDef "law" (fParams 17) (fBody 17) [] none [] (fScope 17) none "law" (fPos 17) := by with_unfolding_all rfl
@[irreducible] def topBody : List Stmt := behindTheImports P
theorem topBody_def : behindTheImports P = topBody := by unfold topBody; rfl
theorem body_eq : topBody = [top 0, top 1, top 2, top 3, top 4, top 5, top 6, top 7, top 8, top 9, top 10, top 11, top 12, top 13, top 14, top 15, top 16, top 17] := by with_unfolding_all rfl
theorem st11 : PlainDefTree "pretty_flags" (fParams 11) (fBody 11) (fScope 11) (fPos 11) ∧ (∀ x ∈ (fScope 11).names, x.2 ≠ .free) ∧ docOf (fBody 11) = none ∧ P.main.scope.names.lookup ("pretty_flags" : Str) = some .local ∧
    qualnameIn { scope := P.main.scope, locals := mainGlobals, globals := mainGlobals, cells := [] } "pretty_flags" "pretty_flags" = "pretty_flags" ∧ ("pretty_flags" : Str) ≠ "__builtins__" := ⟨fun _ => rfl, by decide +kernel, by with_unfolding_all rfl, by decide +kernel, by decide +kernel, by decide⟩
theorem st13 : PlainDefTree "_law_words" (fParams 13) (fBody 13) (fScope 13) (fPos 13) ∧ (∀ x ∈ (fScope 13).names, x.2 ≠ .free) ∧ docOf (fBody 13) = none ∧ P.main.scope.names.lookup ("_law_words" : Str) = some .local ∧
    qualnameIn { scope := P.main.scope, locals := mainGlobals, globals := mainGlobals, cells := [] } "_law_words" "_law_words" = "_law_words" ∧ ("_law_words" : Str) ≠ "__builtins__" := ⟨fun _ => rfl, by decide +kernel, by with_unfolding_all rfl, by decide +kernel, by decide +kernel, by decide⟩
theorem st14 : PlainDefTree "_law_sets" (fParams 14) (fBody 14) (fScope 14) (fPos 14) ∧ (∀ x ∈ (fScope 14).names, x.2 ≠ .free) ∧ docOf (fBody 14) = none ∧ P.main.scope.names.lookup ("_law_sets" : Str) = some .local ∧
    qualnameIn { scope := P.main.scope, locals := mainGlobals, globals := mainGlobals, cells := [] } "_law_sets" "_law_sets" = "_law_sets" ∧ ("_law_sets" : Str) ≠ "__builtins__" := ⟨fun _ => rfl, by decide +kernel, by with_unfolding_all rfl, by decide +kernel, by decide +kernel, by decide⟩
theorem st15 : PlainDefTree "_law_text" (fParams 15) (fBody 15) (fScope 15) (fPos 15) ∧ (∀ x ∈ (fScope 15).names, x.2 ≠ .free) ∧ docOf (fBody 15) = none ∧ P.main.scope.names.lookup ("_law_text" : Str) = some .local ∧
    qualnameIn { scope := P.main.scope, locals := mainGlobals, globals := mainGlobals, cells := [] } "_law_text" "_law_text" = "_law_text" ∧ ("_law_text" : Str) ≠ "__builtins__" := ⟨fun _ => rfl, by decide +kernel, by with_unfolding_all rfl, by decide +kernel, by decide +kernel, by decide⟩
theorem st16 : PlainDefTree "_law_join" (fParams 16) (fBody 16) (fScope 16) (fPos 16) ∧ (∀ x ∈ (fScope 16).names, x.2 ≠ .free) ∧ docOf (fBody 16) = none ∧ P.main.scope.names.lookup ("_law_join" : Str) = some .local ∧
    qualnameIn { scope := P.main.scope, locals := mainGlobals, globals := mainGlobals, cells := [] } "_law_join" "_law_join" = "_law_join" ∧ ("_law_join" : Str) ≠ "__builtins__" := ⟨fun _ => rfl, by decide +kernel, by with_unfolding_all rfl, by decide +kernel, by decide +kernel, by decide⟩
theorem st17 : PlainDefTree "law" (fParams 17) (fBody 17) (fScope 17) (fPos 17) ∧ (∀ x ∈ (fScope 17).names, x.2 ≠ .free) ∧ docOf (fBody 17) = none ∧ P.main.scope.names.lookup ("law" : Str) = some .local ∧
    qualnameIn { scope := P.main.scope, locals := mainGlobals, globals := mainGlobals, cells := [] } "law" "law" = "law" ∧ ("law" : Str) ≠ "__builtins__" := ⟨fun _ => rfl, by decide +kernel, by with_unfolding_all rfl, by decide +kernel, by decide +kernel, by decide⟩
end Mine
end

section 
open PySem PySem.W PyProof.Rows PySem.Calls PyProof.V
namespace Mine
variable {h₀ : Heap} {mb : Str → Option Value} {c Pl bm F : Addr} {mg : Str → Option Value} {ps : Array Value} {w : World} {A : Around} {E : Value → Shared → Prop} {s : Shared}

theorem dictOf_at {prog : Program} {K : Type} [DecidableEq K] {knd : KeyKind prog w K} {h h' : Heap} {d : Addr} {kvs : List (K × Value)} (x : h.DictOf knd d kvs) (k : ∀ o, h.get? d = some o → h'.get? d = some o) : h'.DictOf knd d kvs :=
  let ⟨o, es, ep, e, r⟩ := x; ⟨o, es, ep, k o e, r⟩
theorem dict_ne_list {prog : Program} {K : Type} [DecidableEq K] {knd : KeyKind prog w K} {h : Heap} {d D : Addr} {kvs : List (K × Value)} {ys : Array Value} (x : h.DictOf knd d kvs) (y : h.IsList D ys) : d ≠ D := by
  rintro rfl
  obtain ⟨o, es, ep, e, hc, hd, _⟩ := x
  obtain ⟨o', e', _, n, hd'⟩ := y
  rw [e] at e'; cases e'; rw [hd] at hd'; cases hd'
theorem tab_at {K : Type} [DecidableEq K] {knd : KeyKind P w K} {enc : K → PyData} {h h' : Heap} {d : Addr} {D : List (PyData × PyData)} (x : TabAt knd enc h d D) (k : ∀ o, h.get? d = some o → h'.get? d = some o) : TabAt knd enc h' d D :=
  let ⟨a, kvs, b, e⟩ := x; ⟨a, kvs, dictOf_at b k, e⟩

def FO (h : Heap) (a c' : Addr) (name : Str) (i : Nat) : Prop :=
  ∃ o pm cd doc, h.get? a = some o ∧ o.data = .func (docDef name (fParams i) (fBody i) (fScope i) pm cd doc) ∧ cd = .ref c' ∧ h.CodeRec cd name
theorem FO.at {h h' : Heap} {a c' : Addr} {name : Str} {i : Nat} (x : FO h a c' name i) (ka : ∀ o, h.get? a = some o → h'.get? a = some o) (kc : ∀ o, h.get? c' = some o → h'.get? c' = some o) : FO h' a c' name i := by
  obtain ⟨o, pm, cd, doc, h1, h2, rfl, h4⟩ := x
  exact ⟨o, pm, _, doc, ka o h1, h2, rfl, h4.at kc⟩
theorem FO.fn {h : Heap} {a c' : Addr} {name : Str} {i : Nat} (x : FO h a c' name i) {mg : Str → Option Value} (e : mg name = some (.ref a)) : FnAt mg h name i := by
  obtain ⟨o, pm, cd, doc, h1, h2, _, h4⟩ := x
  exact ⟨a, o, pm, cd, doc, e, h1, h2, h4⟩

/-- what the law's call finds -/
structure Tp (w : World) (mg mb : Str → Option Value) (h : Heap) : Prop where
  g : h.Ns mainGlobals mg
  b : h.Ns builtinsNs mb
  builtins : ∀ x : Str, x ≠ "__name__" → mb x = bootBuiltins x
  nolimit : h.NoLimit
  range : mg "range" = none
  hex : mg "hex" = none
  set : mg "set" = none
  abs : mg "abs" = none
  len : mg "len" = none
  cf : ∃ a, mg "COMPILER_FLAG_NAMES" = some (.ref a) ∧ IntTab P w h a flagD
  pf : FnAt mg h "pretty_flags" 11
  lw : FnAt mg h "_law_words" 13
  ls : FnAt mg h "_law_sets" 14
  lt : FnAt mg h "_law_text" 15
  lj : FnAt mg h "_law_join" 16
  law : FnAt mg h "law" 17
theorem Tp.keeps {mg mb : Str → Option Value} {h h' : Heap} (T : Tp w mg mb h) (hk : ∀ b o, h.get? b = some o → h'.get? b = some o) : Tp w mg mb h' :=
  ⟨T.g.keeps hk, T.b.keeps hk, T.builtins, T.nolimit.keeps hk, T.range, T.hex, T.set, T.abs, T.len, (let ⟨a, e, t⟩ := T.cf; ⟨a, e, t.keep hk⟩), T.pf.keeps hk, T.lw.keeps hk, T.ls.keeps hk, T.lt.keeps hk, T.lj.keeps hk, T.law.keeps hk⟩

def topNames : List Str := ["_specialized_opmap", "opmap", "__name__", "opname", "op_opcode", "i", "op_dis", "_all_opname", "_all_opmap", "name", "COMPILER_FLAG_NAMES", "pretty_flags", "_law_words", "_law_sets", "_law_text", "_law_join", "law"]

set_option maxHeartbeats 4000000 in
theorem top_walk {Q : Flow → Shared → Prop} (T : T0 h₀ mb c Pl bm) (hh : A.handled = none) (X : TI h₀ c Pl bm s.heap mg #[]) (hlim : h₀.Ns cStatics (fun _ => none)) (hcP : cStatics ≠ Pl)
    (hn : ∀ x ∈ (["range", "max", "list", "dict", "len", "hex", "set", "abs"] : List Str), mg x = none)
    (k : ∀ h' tk m' ps', TI h₀ c Pl bm h' m' ps' → Tp w m' mb h' → (∀ x : Str, x ∉ topNames → m' x = mg x) → Q .next { s with heap := h', toks := tk })
    (hE : PassesOwn (model P w) A (mainEnv P c F) E := by passes_own) :
    wpAny (model P w) A (execs topBody (mainEnv P c F)) Q E s := by
  rw [body_eq]
  have fresh : ∀ {h : Heap} {m : Str → Option Value} {q : Array Value} {d : Addr}, TI h₀ c Pl bm h m q → h.objs.size ≤ d → h₀.get? d = none ∧ sysModules < d ∧ d ≠ mainGlobals ∧ d ≠ Pl :=
    fun Y hd => ⟨Y.fresh (Heap.get?_none_of_le hd), Nat.lt_of_lt_of_le (Nat.lt_trans (by decide) Y.g.lt) hd, Nat.ne_of_gt (Nat.lt_of_lt_of_le Y.g.lt hd), Nat.ne_of_gt (Nat.lt_of_lt_of_le Y.code.lt.2 hd)⟩
  refine wpAny_execs_cons (top0 T X fun h1 tk1 dS kS X1 hS hdS hiS hk1 => ?_)
  obtain ⟨fS, lS, gS, _⟩ := fresh X hS
  refine wpAny_execs_cons (top1 (s := { s with heap := h1, toks := tk1 }) T X1 fun h2 tk2 dO kO X2 hO hdO hiO hk2 => ?_)
  obtain ⟨fO, lO, gO, _⟩ := fresh X1 hO
  have hdS2 := dictOf_at hdS fun o e => hk2 dS o gS e
  refine wpAny_execs_cons (top_name (s := { s with heap := h2, toks := tk2 }) top2_eq T X2 fun h3 tk3 t3 X3 hk3 => ?_)
  have hdS3 := dictOf_at hdS2 fun o e => hk3 dS o gS e
  have hdO3 := dictOf_at hdO fun o e => hk3 dO o gO e
  have n3 : ∀ x : Str, x ≠ "__name__" → x ≠ "opmap" → x ≠ "_specialized_opmap" → (if x = "__name__" then some (.str "cpy313.opcode" t3) else if x = "opmap" then some (.ref dO) else if x = "_specialized_opmap" then some (.ref dS) else mg x) = mg x := fun x a b c => by rw [if_neg a, if_neg b, if_neg c]
  refine wpAny_execs_cons (top3 (s := { s with heap := h3, toks := tk3 }) T hh X3 rfl lO hdO3 hiO ((n3 _ (by decide) (by decide) (by decide)).trans (hn _ (by decide))) ((n3 _ (by decide) (by decide) (by decide)).trans (hn _ (by decide))) fun h4 tk4 D ys X4 fD hl4 hz4 hk4 => ?_)
  have hdS4 := dictOf_at hdS3 fun o e => hk4 dS o gS e
  have hdO4 := dictOf_at hdO3 fun o e => hk4 dO o gO e
  have hDg : D ≠ mainGlobals := Ne.symm (ne_of_none T.g0 fD)
  refine wpAny_execs_cons (top4 (s := { s with heap := h4, toks := tk4 }) T hh X4 rfl lO fO hdO4 hiO rfl fD hl4.isList hz4 (dict_ne_list hdO4 hl4.isList) (fun h5 tk5 m5 ys5 X5 e5 v5 hl5 hz5 hk5 => ?_) hE)
  have hdS5 := dictOf_at hdS4 fun o e => hk5 dS o gS (dict_ne_list hdS4 hl4.isList) e
  have hdO5 := dictOf_at hdO4 fun o e => hk5 dO o gO (dict_ne_list hdO4 hl4.isList) e
  have n5 : ∀ x : Str, x ∉ (["__name__", "opmap", "_specialized_opmap", "opname", "op_opcode", "i"] : List Str) → m5 x = mg x := fun x hx => by
    simp only [List.mem_cons, List.not_mem_nil, or_false, not_or] at hx
    obtain ⟨a1, a2, a3, a4, a5, a6⟩ := hx
    rw [e5 x a5 a6, if_neg a4, if_neg a1, if_neg a2, if_neg a3]
  have s5 : m5 "_specialized_opmap" = some (.ref dS) := e5 _ (by decide) (by decide)
  have o5 : m5 "opmap" = some (.ref dO) := e5 _ (by decide) (by decide)
  have l5 : m5 "opname" = some (.ref D) := e5 _ (by decide) (by decide)
  obtain ⟨v5, hv5⟩ := v5
  refine wpAny_execs_cons (top_name (s := { s with heap := h5, toks := tk5 }) top5_eq T X5 fun h6 tk6 t6 X6 hk6 => ?_)
  refine wpAny_execs_cons (top6 (s := { s with heap := h6, toks := tk6 }) T X6 (v := v5) (by rw [if_neg (by decide)]; exact hv5) fun h7 tk7 X7 hk7 => ?_)
  have k57 : ∀ b o, b ≠ mainGlobals → h5.get? b = some o → h7.get? b = some o := fun b o hb e => hk7 b o hb (hk6 b o hb e)
  refine wpAny_execs_cons (top7 (s := { s with heap := h7, toks := tk7 }) T X7 (D := D) (ys := ys5) (by rw [if_neg (by decide), if_neg (by decide)]; exact l5) (isList_at hl5 fun o e => k57 D o hDg e) hz5 (by rw [if_neg (by decide), if_neg (by decide), n5 _ (by decide)]; exact hn _ (by decide)) fun h8 tk8 X8 hl8 hk8 => ?_)
  obtain ⟨fL, _, gL, _⟩ := fresh X7 (Nat.le_refl _)
  refine wpAny_execs_cons (top8 (s := { s with heap := h8, toks := tk8 }) T X8 (d := dO) (kvs := kO) (by rw [if_neg (by decide), if_neg (by decide), if_neg (by decide)]; exact o5) lO (dictOf_at hdO5 fun o e => hk8 dO o gO (k57 dO o gO e)) (by rw [hiO.length]; exact opD_ok.2.1)
    (by rw [if_neg (by decide), if_neg (by decide), if_neg (by decide), n5 _ (by decide)]; exact hn _ (by decide)) fun h9 tk9 X9 hd9 hk9 => ?_)
  obtain ⟨fM, _, gM, _⟩ := fresh X8 (Nat.le_refl _)
  have hdS8 : h8.DictOf (strKind P w) dS kS := dictOf_at hdS5 fun o e => hk8 dS o gS (k57 dS o gS e)
  have hdS9 : h9.DictOf (strKind P w) dS kS := dictOf_at hdS8 fun o e => hk9 dS o gS e
  have hl9 := isList_at hl8 fun o e => hk9 _ o gL e
  refine wpAny_execs_cons (top9 (s := { s with heap := h9, toks := tk9 }) T hh X9 (d := dS) (kvs := kS) (by rw [if_neg (by decide), if_neg (by decide), if_neg (by decide), if_neg (by decide)]; exact s5) lS fS hdS9 hiS
    (D := h7.objs.size) (ys := ys5) (by rw [if_neg (by decide), if_pos rfl]) fL hl9 hz5 (dict_ne_list hdS9 hl9) (dm := h8.objs.size) (kvm := kO) (by rw [if_pos rfl]) fM hd9 (by rw [hiO.length]; exact opD_ok.2.1)
    (Nat.ne_of_lt (dict_size hdS8)) (Ne.symm (dict_ne_list hd9 hl9)) (by rw [if_neg (by decide), if_neg (by decide), if_neg (by decide), if_neg (by decide), n5 _ (by decide)]; exact hn _ (by decide)) (fun h10 tk10 m10 X10 e10 hk10 => ?_) hE)
  have n10 : ∀ x : Str, x ∉ (["_specialized_opmap", "opmap", "__name__", "opname", "op_opcode", "i", "op_dis", "_all_opname", "_all_opmap", "name"] : List Str) → m10 x = mg x := fun x hx => by
    simp only [List.mem_cons, List.not_mem_nil, or_false, not_or] at hx
    obtain ⟨a1, a2, a3, a4, a5, a6, a7, a8, a9, a10⟩ := hx
    rw [e10 x a10 a7, if_neg a9, if_neg a8, if_neg a7, if_neg a3]
    exact n5 x (by simp only [List.mem_cons, List.not_mem_nil, or_false, not_or]; exact ⟨a3, a2, a1, a4, a5, a6⟩)
  refine wpAny_execs_cons (top10 (s := { s with heap := h10, toks := tk10 }) T X10 fun h11 tk11 dF X11 hF hT11 hk11 => ?_)
  obtain ⟨fF, lF, gF, pF⟩ := fresh X10 hF
  refine wpAny_execs_cons (assign_def (s := { s with heap := h11, toks := tk11 }) T X11 top11_eq st11.1 st11.2.1 st11.2.2.1 st11.2.2.2.1 st11.2.2.2.2.1 st11.2.2.2.2.2 (by with_unfolding_all rfl) fun h12 tk12 ap cp X12 hap hcp fp12 hk12 => ?_)
  have gp : ap ≠ mainGlobals ∧ cp ≠ mainGlobals ∧ ap ≠ Pl ∧ cp ≠ Pl := ⟨(fresh X11 hap).2.2.1, (fresh X11 hcp).2.2.1, (fresh X11 hap).2.2.2, (fresh X11 hcp).2.2.2⟩
  have ht12 := tab_at hT11 fun o e => hk12 dF o pF gF e
  refine wpAny_execs_cons (top_name (s := { s with heap := h12, toks := tk12 }) top12_eq T X12 fun h13 tk13 tN X13 hk13 => ?_)
  have fp13 := FO.at fp12 (fun o e => hk13 _ o gp.1 e) (fun o e => hk13 _ o gp.2.1 e)
  have ht13 := tab_at ht12 fun o e => hk13 dF o gF e
  refine wpAny_execs_cons (assign_def (s := { s with heap := h13, toks := tk13 }) T X13 top13_eq st13.1 st13.2.1 st13.2.2.1 st13.2.2.2.1 st13.2.2.2.2.1 st13.2.2.2.2.2 (by with_unfolding_all rfl) fun h14 tk14 aw cw X14 haw hcw fw14 hk14 => ?_)
  have gw : aw ≠ mainGlobals ∧ cw ≠ mainGlobals ∧ aw ≠ Pl ∧ cw ≠ Pl := ⟨(fresh X13 haw).2.2.1, (fresh X13 hcw).2.2.1, (fresh X13 haw).2.2.2, (fresh X13 hcw).2.2.2⟩
  have fp14 := FO.at fp13 (fun o e => hk14 _ o gp.2.2.1 gp.1 e) (fun o e => hk14 _ o gp.2.2.2 gp.2.1 e)
  have ht14 := tab_at ht13 fun o e => hk14 dF o pF gF e
  refine wpAny_execs_cons (assign_def (s := { s with heap := h14, toks := tk14 }) T X14 top14_eq st14.1 st14.2.1 st14.2.2.1 st14.2.2.2.1 st14.2.2.2.2.1 st14.2.2.2.2.2 (by with_unfolding_all rfl) fun h15 tk15 as cs X15 has hcs fs15 hk15 => ?_)
  have gs : as ≠ mainGlobals ∧ cs ≠ mainGlobals ∧ as ≠ Pl ∧ cs ≠ Pl := ⟨(fresh X14 has).2.2.1, (fresh X14 hcs).2.2.1, (fresh X14 has).2.2.2, (fresh X14 hcs).2.2.2⟩
  have fp15 := FO.at fp14 (fun o e => hk15 _ o gp.2.2.1 gp.1 e) (fun o e => hk15 _ o gp.2.2.2 gp.2.1 e)
  have fw15 := FO.at fw14 (fun o e => hk15 _ o gw.2.2.1 gw.1 e) (fun o e => hk15 _ o gw.2.2.2 gw.2.1 e)
  have ht15 := tab_at ht14 fun o e => hk15 dF o pF gF e
  refine wpAny_execs_cons (assign_def (s := { s with heap := h15, toks := tk15 }) T X15 top15_eq st15.1 st15.2.1 st15.2.2.1 st15.2.2.2.1 st15.2.2.2.2.1 st15.2.2.2.2.2 (by with_unfolding_all rfl) fun h16 tk16 axx cxx X16 haxx hcxx fxx16 hk16 => ?_)
  have gxx : axx ≠ mainGlobals ∧ cxx ≠ mainGlobals ∧ axx ≠ Pl ∧ cxx ≠ Pl := ⟨(fresh X15 haxx).2.2.1, (fresh X15 hcxx).2.2.1, (fresh X15 haxx).2.2.2, (fresh X15 hcxx).2.2.2⟩
  have fp16 := FO.at fp15 (fun o e => hk16 _ o gp.2.2.1 gp.1 e) (fun o e => hk16 _ o gp.2.2.2 gp.2.1 e)
  have fw16 := FO.at fw15 (fun o e => hk16 _ o gw.2.2.1 gw.1 e) (fun o e => hk16 _ o gw.2.2.2 gw.2.1 e)
  have fs16 := FO.at fs15 (fun o e => hk16 _ o gs.2.2.1 gs.1 e) (fun o e => hk16 _ o gs.2.2.2 gs.2.1 e)
  have ht16 := tab_at ht15 fun o e => hk16 dF o pF gF e
  refine wpAny_execs_cons (assign_def (s := { s with heap := h16, toks := tk16 }) T X16 top16_eq st16.1 st16.2.1 st16.2.2.1 st16.2.2.2.1 st16.2.2.2.2.1 st16.2.2.2.2.2 (by with_unfolding_all rfl) fun h17 tk17 aj cj X17 haj hcj fj17 hk17 => ?_)
  have gj : aj ≠ mainGlobals ∧ cj ≠ mainGlobals ∧ aj ≠ Pl ∧ cj ≠ Pl := ⟨(fresh X16 haj).2.2.1, (fresh X16 hcj).2.2.1, (fresh X16 haj).2.2.2, (fresh X16 hcj).2.2.2⟩
  have fp17 := FO.at fp16 (fun o e => hk17 _ o gp.2.2.1 gp.1 e) (fun o e => hk17 _ o gp.2.2.2 gp.2.1 e)
  have fw17 := FO.at fw16 (fun o e => hk17 _ o gw.2.2.1 gw.1 e) (fun o e => hk17 _ o gw.2.2.2 gw.2.1 e)
  have fs17 := FO.at fs16 (fun o e => hk17 _ o gs.2.2.1 gs.1 e) (fun o e => hk17 _ o gs.2.2.2 gs.2.1 e)
  have fxx17 := FO.at fxx16 (fun o e => hk17 _ o gxx.2.2.1 gxx.1 e) (fun o e => hk17 _ o gxx.2.2.2 gxx.2.1 e)
  have ht17 := tab_at ht16 fun o e => hk17 dF o pF gF e
  refine wpAny_execs_cons (assign_def (s := { s with heap := h17, toks := tk17 }) T X17 top17_eq st17.1 st17.2.1 st17.2.2.1 st17.2.2.2.1 st17.2.2.2.2.1 st17.2.2.2.2.2 (by with_unfolding_all rfl) fun h18 tk18 al cl X18 hal hcl fl18 hk18 => ?_)
  have gl : al ≠ mainGlobals ∧ cl ≠ mainGlobals ∧ al ≠ Pl ∧ cl ≠ Pl := ⟨(fresh X17 hal).2.2.1, (fresh X17 hcl).2.2.1, (fresh X17 hal).2.2.2, (fresh X17 hcl).2.2.2⟩
  have fp18 := FO.at fp17 (fun o e => hk18 _ o gp.2.2.1 gp.1 e) (fun o e => hk18 _ o gp.2.2.2 gp.2.1 e)
  have fw18 := FO.at fw17 (fun o e => hk18 _ o gw.2.2.1 gw.1 e) (fun o e => hk18 _ o gw.2.2.2 gw.2.1 e)
  have fs18 := FO.at fs17 (fun o e => hk18 _ o gs.2.2.1 gs.1 e) (fun o e => hk18 _ o gs.2.2.2 gs.2.1 e)
  have fxx18 := FO.at fxx17 (fun o e => hk18 _ o gxx.2.2.1 gxx.1 e) (fun o e => hk18 _ o gxx.2.2.2 gxx.2.1 e)
  have fj18 := FO.at fj17 (fun o e => hk18 _ o gj.2.2.1 gj.1 e) (fun o e => hk18 _ o gj.2.2.2 gj.2.1 e)
  have ht18 := tab_at ht17 fun o e => hk18 dF o pF gF e
  refine wpAny_execs_nil (k h18 tk18 _ _ X18 ⟨X18.g, X18.b T, T.builtins, Heap.NoLimit.at ⟨_, hlim, rfl⟩ fun o => X18.keep _ o hcP (by decide), ?_, ?_, ?_, ?_, ?_, ⟨dF, ?_, ht18⟩, FO.fn fp18 ?_, FO.fn fw18 ?_, FO.fn fs18 ?_, FO.fn fxx18 ?_, FO.fn fj18 ?_, FO.fn fl18 ?_⟩ ?_)
  · rw [if_neg (by decide), if_neg (by decide), if_neg (by decide), if_neg (by decide), if_neg (by decide), if_neg (by decide), if_neg (by decide), if_neg (by decide), n10 _ (by decide)]; exact hn _ (by decide)
  · rw [if_neg (by decide), if_neg (by decide), if_neg (by decide), if_neg (by decide), if_neg (by decide), if_neg (by decide), if_neg (by decide), if_neg (by decide), n10 _ (by decide)]; exact hn _ (by decide)
  · rw [if_neg (by decide), if_neg (by decide), if_neg (by decide), if_neg (by decide), if_neg (by decide), if_neg (by decide), if_neg (by decide), if_neg (by decide), n10 _ (by decide)]; exact hn _ (by decide)
  · rw [if_neg (by decide), if_neg (by decide), if_neg (by decide), if_neg (by decide), if_neg (by decide), if_neg (by decide), if_neg (by decide), if_neg (by decide), n10 _ (by decide)]; exact hn _ (by decide)
  · rw [if_neg (by decide), if_neg (by decide), if_neg (by decide), if_neg (by decide), if_neg (by decide), if_neg (by decide), if_neg (by decide), if_neg (by decide), n10 _ (by decide)]; exact hn _ (by decide)
  · rw [if_neg (by decide), if_neg (by decide), if_neg (by decide), if_neg (by decide), if_neg (by decide), if_neg (by decide), if_neg (by decide), if_pos rfl]
  · rw [if_neg (by decide), if_neg (by decide), if_neg (by decide), if_neg (by decide), if_neg (by decide), if_neg (by decide), if_pos rfl]
  · rw [if_neg (by decide), if_neg (by decide), if_neg (by decide), if_neg (by decide), if_pos rfl]
  · rw [if_neg (by decide), if_neg (by decide), if_neg (by decide), if_pos rfl]
  · rw [if_neg (by decide), if_neg (by decide), if_pos rfl]
  · rw [if_neg (by decide), if_pos rfl]
  · rw [if_pos rfl]
  · intro x hx
    unfold topNames at hx
    simp only [List.mem_cons, List.not_mem_nil, or_false, not_or] at hx
    obtain ⟨a1, a2, a3, a4, a5, a6, a7, a8, a9, a10, a11, a12, a13, a14, a15, a16, a17⟩ := hx
    rw [if_neg a17, if_neg a16, if_neg a15, if_neg a14, if_neg a13, if_neg a3, if_neg a12, if_neg a11]
    exact n10 x (by simp only [List.mem_cons, List.not_mem_nil, or_false, not_or]; exact ⟨a1, a2, a3, a4, a5, a6, a7, a8, a9, a10⟩)
end Mine
end

section 
open PySem PySem.W PyProof.Rows PySem.Calls PyProof.V
namespace Mine
variable {w : World}

theorem staticOf_ns {h : Heap} {m : Str → Option Value} (x : h.Ns cStatics m) (key : Str) : staticOf h key = m key := by
  obtain ⟨o, es, ep, e, hd, _, hf⟩ := x
  unfold staticOf; rw [e]; dsimp only; rw [hd]; dsimp only; exact hf key
theorem builtinOf_ns {h : Heap} {m : Str → Option Value} (x : h.Ns builtinsNs m) (key : Str) : builtinOf h key = m key := by
  obtain ⟨o, es, ep, e, hd, _, hf⟩ := x
  unfold builtinOf; rw [e]; dsimp only; rw [hd]; dsimp only; exact hf key
theorem globalOf_ns {h : Heap} {m : Str → Option Value} (x : h.Ns mainGlobals m) (key : Str) : globalOf h key = m key := by
  obtain ⟨o, es, ep, e, hd, _, hf⟩ := x
  unfold globalOf; rw [show h.get? mainNs = some o from e]; dsimp only; rw [hd]; dsimp only; exact hf key

theorem opening_body : (opening P).main.body = [] := by with_unfolding_all rfl

/-- what the boot leaves -/
theorem booted (w : World) : (∃ s, AfterRun (opening P) w s) ∧ ∀ s, AfterRun (opening P) w s → s.gens = #[] ∧ ∃ mb mg c Pl, BootLeft9 (opening P) s.heap mb mg c Pl := by
  refine AfterImport.of_wp (prog := opening P) (w := w) (P := fun s => s.gens = #[] ∧ ∃ mb mg c Pl, BootLeft9 (opening P) s.heap mb mg c Pl)
    (wpAny_boot9 (M := model (opening P) w) (A := {}) (E := fun _ _ => False) (opening P) (fun s' => (s'.gens = #[] ∧ ∃ mb mg c Pl, BootLeft9 (opening P) s'.heap mb mg c Pl) ∧ s'.gens = #[]) (fun h tk mb mg c Pl F hB => ?_) rfl _ default boot_in)
  rw [opening_body]
  exact codeAny_body rfl rfl (wpAny_execs_nil ⟨⟨_, rfl⟩, ⟨rfl, mb, mg, c, Pl, hB⟩, rfl⟩)

theorem fenced (s : Shared) : fenceModules? P s = some s := fenceModules_id P (by decide +kernel) s

theorem topNames_bound : ∀ x ∈ topNames, x ∈ P.boundNames := by decide +kernel
theorem names_off : ∀ x ∈ (["range", "max", "list", "dict", "len", "hex", "set", "abs"] : List Str), x ∉ bootMainNames := by decide +kernel
theorem topBody_ok : hasAnns topBody = false ∧ docOf topBody = none := by decide +kernel
theorem laid_off : ∀ x ∈ laidNames, x ∉ topNames := by decide +kernel

/-- the top runs through, and the law's call finds what it needs -/
theorem top_ran {s : Shared} (hs : AfterRun (opening P) w s) : ∃ s₁ mg mb, TopRan P w s s₁ ∧ s₁.asleep ∧ s₁.gens = #[] ∧ Tp w mg mb s₁.heap := by
  obtain ⟨hg, mb, mg, c0, Pl0, B⟩ := (booted w).2 s hs
  have hz : s.asleep := AfterImport.life hs
  have H := thread_through (prog := P) (w := w) (s := s) (t := (topStub P).cur)
    (R := fun s' => s'.os = s.os ∧ ∃ h₀ c Pl bm m' ps', (∀ b o, s.heap.get? b = some o → h₀.get? b = some o) ∧ (∀ b o, s.heap.get? b = some o → b ≠ Pl) ∧ T0 h₀ mb c Pl bm ∧ TI h₀ c Pl bm s'.heap m' ps' ∧ Tp w m' mb s'.heap ∧ (∀ x : Str, x ∉ topNames → m' x = mg x)) hz ?_
  · obtain ⟨s₁, hrun, hlife, ⟨hos, h₀, c, Pl, bm, m', ps', hk0, hnP, T, X, Y, hnames⟩, hg1⟩ := H
    obtain ⟨oan, _, _, _, hoa⟩ := B.anns
    have keep : ∀ b o, s.heap.get? b = some o → b ≠ mainGlobals → s₁.heap.get? b = some o := fun b o e hb => X.keep b o (hnP b o e) hb (hk0 b o e)
    have gl : ∀ x, globalOf s₁.heap x = m' x := globalOf_ns X.g
    have gl0 : ∀ x, globalOf s.heap x = mg x := globalOf_ns B.g
    have st1 : ∀ x, staticOf s₁.heap x = none := fun x => staticOf_ns (m := fun _ => none) (B.statics.at fun o e => keep _ o e (by decide)) x
    have st0 : ∀ x, staticOf s.heap x = none := fun x => staticOf_ns (m := fun _ => none) B.statics x
    have acc : staticsAccountedI s₁.heap (importedModules P.main.body) := fun key v e => by rw [st1] at e; cases e
    refine ⟨s₁, m', mb, ⟨hrun, hlife, Shared.rest_eq hos, fun b o e hn => keep b o e fun q => hn (.inl q), acc, fun key => .inl ((st1 key).trans (st0 key).symm), ?_, ?_, ?_, ?_, ?_, ?_⟩, Shared.asleep_of_life hlife hz, hg1, Y⟩
    · obtain ⟨o, es, ep, e, hd, hk, _⟩ := X.g
      exact ⟨o, es, ep, e, hd, hk⟩
    · intro x hx
      exact (builtinOf_ns Y.b x).trans (Y.builtins x hx)
    · obtain ⟨o, e, h1, h2, h3⟩ := T.bm4
      exact ⟨bm, o, (gl _).trans X.bi, X.keep _ _ T.bm3 T.bm2 e, h1, h2⟩
    · intro g hg'; rw [hg1] at hg'; simp at hg'
    · intro x v e
      rw [gl] at e
      by_cases h1 : x ∈ topNames
      · exact .inr (topNames_bound x h1)
      · rw [hnames x h1] at e
        by_cases h2 : x ∈ bootMainNames
        · exact .inl h2
        · rw [B.others x h2] at e; cases e
    · intro x hx
      rw [gl, gl0]
      exact hnames x (laid_off x hx)
  · show wpAny (model P w) callerA (do
      let code ← moduleCode P.main
      let frame ← newBodyFrame code mainNs mainNs
      let _ ← run (.body (behindTheImports P) { scope := P.main.scope, locals := mainNs, globals := mainNs, cells := [], code, frame := some frame })
      ret .none) _ _ s
    rw [topBody_def]
    refine wpAny_bind (wpAny_moduleCode fun c Pl h₁ tk₁ hk₁ hc hPl hcode => ?_)
    have hg₁ : h₁.Ns mainGlobals mg := B.g.keeps hk₁
    unfold newBodyFrame
    refine wpAny_bind (wpAny_bind (wpAny_nsGet hg₁ (wpAny_alloc ?_)))
    refine wpAny_bind (wpAny_run ?_)
    obtain ⟨bm, o, hbm, ne0, neG, _, hbo, hrest⟩ := B.bmod
    have hbmlt := Heap.lt_size hbo
    have hmod : ∀ (h : Heap), (∀ b o, h₁.get? b = some o → h.get? b = some o) → T0 h mb c Pl bm := fun h hk => by
      obtain ⟨oc, vs, file, tf, flags, tg, inF, text, tt, op, ec, r1, r2, r3, r4, r5, r6, eP, r⟩ := hcode
      obtain ⟨og, es, ep, eg, rg⟩ := id hg₁
      exact ⟨Nat.lt_of_lt_of_le B.g.lt hc, Nat.lt_of_lt_of_le B.g.lt hPl, ⟨oc, hk _ _ ec⟩, ⟨op, hk _ _ eP⟩, ⟨og, hk _ _ eg⟩, ne0, neG, Nat.ne_of_lt (Nat.lt_of_lt_of_le hbmlt hPl), ⟨o, hk _ _ (hk₁ _ _ hbo), hrest⟩,
        (B.b.keeps hk₁).keeps hk, B.builtins, Nat.ne_of_lt (Nat.lt_of_lt_of_le B.b.lt hPl)⟩
    have hT := hmod (h₁.push { cls := .type "frame", slots := #[some (.ref c), some (.ref mainNs), some (.ref mainNs), none, some ((mg "__name__").getD .none), none, some (.ref builtinsNs)] }) fun _ _ e => Heap.get?_push_of_some _ e
    have hX : TI (h₁.push { cls := .type "frame", slots := #[some (.ref c), some (.ref mainNs), some (.ref mainNs), none, some ((mg "__name__").getD .none), none, some (.ref builtinsNs)] }) c Pl bm
        (h₁.push { cls := .type "frame", slots := #[some (.ref c), some (.ref mainNs), some (.ref mainNs), none, some ((mg "__name__").getD .none), none, some (.ref builtinsNs)] }) mg #[] :=
      ⟨hg₁.push _, hcode.push _, fun _ _ _ _ e => e, hbm⟩
    refine codeAny_body topBody_ok.1 topBody_ok.2 (wpAny_mono (E := fun _ _ => False) (top_walk (F := h₁.objs.size) (s := { s with heap := h₁.push { cls := .type "frame", slots := #[some (.ref c), some (.ref mainNs), some (.ref mainNs), none, some ((mg "__name__").getD .none), none, some (.ref builtinsNs)] }, toks := tk₁ }) hT rfl hX
      ((B.statics.keeps hk₁).push _) (Nat.ne_of_lt (Nat.lt_of_lt_of_le B.statics.lt hPl)) (fun x hx => B.others x (names_off x hx)) (fun h' tk m' ps' X' Y' hn' => ?_)) (fun _ _ x => x) fun _ _ x => x.elim)
    exact wpAny_pure ⟨_, rfl, ⟨rfl, _, c, Pl, bm, m', ps', fun b o e => Heap.get?_push_of_some _ (hk₁ b o e), fun b o e => Nat.ne_of_lt (Nat.lt_of_lt_of_le (Heap.lt_size e) hPl), hT, X', Y', hn'⟩, hg⟩
end Mine
end

section 
open PySem PySem.W PyProof.Rows PySem.Calls PyProof.V
namespace Mine
variable {w : World}
abbrev L0 : OpenLaw := PySem.Challenge.rw_dm0070_04
set_option maxRecDepth 100000 in
set_option maxHeartbeats 8000000 in
theorem said1 : L0.wellSaid = true := by decide +kernel
end Mine
end

section 
open PySem PySem.W PyProof.Rows PySem.Calls PyProof.V
namespace Mine
variable {w : World}

/-- what is asked of the law's call -/
def LawOk : Prop := ∀ (w : World) (s : Shared) (mg mb : Str → Option Value), Tp w mg mb s.heap → s.gens = #[] → ∀ (f : Value), mg "law" = some f → ∀ (l : Addr) (vs : List Value) (ns : List Int), s.heap.IsList l vs.toArray → IntsAre vs ns → ns.length ≤ 63 →
  wpAny (model P w) callerA (call f [.ref l]) (fun v s' => v = .bool true ∧ s'.os = s.os ∧ s'.gens = #[] ∧ ∀ b o, s.heap.get? b = some o → s'.heap.get? b = some o) (fun _ _ => False) s

theorem post1 (R : WRecords) (as : List WData) (r : RowW) (hR : r.records = []) (hr : r.returns = .bool) (hp : r.post = .eq .res (.lit (.bool true))) : r.claim.post as (.bool true) as = true := by
  refine postW_of (X := true) (by rw [hR, hr]; decide +kernel) ?_ rfl
  rw [hp]; exact w_eq_bool (k := true) (l := true) (w_res rfl) w_lit

set_option maxRecDepth 100000
set_option maxHeartbeats 4000000
theorem assemble (hl : LawOk) : L0.Holds := by
  refine holds_law said1 fun said => ⟨said, ⟨[.list []], by decide +kernel, by decide +kernel⟩, ?_⟩
  refine ⟨⟨⟨rfl, rfl, rfl, rfl, rfl, by decide +kernel⟩, by decide +kernel, rfl⟩, ⟨[.list []], by decide +kernel, by decide +kernel⟩, fun w => ⟨(booted w).1, fun s' hs' => ?_⟩⟩
  obtain ⟨s, mg, mb, hT, hz, hg, Y⟩ := top_ran hs'
  refine ⟨s', fenced s', ((booted w).2 s' hs').1, s, hT, ?_, (fun x hx => nomatch hx), (fun x hx => nomatch hx), ?_⟩
  · intro n hn
    obtain rfl : n = "law" := List.mem_singleton.mp hn
    obtain ⟨a, o, pm, cd, doc, e1, e2, e3, e4⟩ := Y.law
    exact ⟨a, o, _, fParams 17, fBody 17, fScope 17, (globalOf_ns Y.g _).trans e1, e2, e3, by with_unfolding_all rfl, rfl, rfl, rfl, rfl, rfl, rfl, rfl, rfl, .inl ⟨by with_unfolding_all rfl, rfl⟩, [], by with_unfolding_all rfl, .inl ⟨rfl, rfl⟩⟩
  · refine ClaimW.callFrom_of_specG (c := L0.row.toRowW.claim) hz hg fun args hpre hlay ord hord => ?_
    have hcl : ∀ c, (WRecords.fields? ([] : WRecords) c).isSome = true → (classAt s.heap c).isSome = true := fun c hc => nomatch hc
    obtain ⟨⟨vs, s₁⟩, hlaid⟩ := Option.isSome_iff_exists.mp (layAllW_isSome (P := w.params) (ord := ord) hcl args L0.row.args s (pre_splitW hpre).1)
    have keeps := layAllW_keeps _ _ _ hlaid
    have hal := layAllW_rest _ _ _ hlaid
    obtain ⟨as, hrd, hin, hold⟩ := reads_layAllW hord _ _ _ hlaid hlay s₁.heap (fun _ _ e => e)
    have L : Laid L0.row.records w s s₁ args vs as := ⟨⟨ord, hord, hlaid⟩, hrd, hin, hold, keeps, hal.1.trans hg, hal.2.2.1⟩
    have Y₁ := Y.keeps keeps
    refine ⟨vs, s₁, hlaid, ?_⟩
    have hwl := L.well
    have hlo := L.low (Nat.lt_trans (by decide) Y.g.lt)
    have hrd := L.reads
    have hgs : s₁.gens = #[] := hal.1.trans hg
    clear hin hold hal keeps
    wrow_args hpre hlay hrd hwl hlo
    rename_i ns _ _ _ _ _ _ _ l vs _ hL _ _ _ hI _ hc _
    obtain ⟨a, o, pm, cd, doc, e1, e2, e3, e4⟩ := Y₁.law
    refine wpAny_bind (wpAny_nsGet Y₁.g ?_)
    rw [show mg L0.row.name = some (.ref a) from e1]
    refine wpAny_bind (wpAny_mono (hl w s₁ mg mb Y₁ hgs (.ref a) e1 l vs ns hL hI (by omega)) (fun v s₂ h₂ => ?_) fun _ _ x => x.elim)
    obtain ⟨rfl, hos, hg2, hk2⟩ := h₂
    have g : GoodWG L0.row.toRowW.claim (classAt s.heap) (ExcName.means s.heap) [ofPy (PyData.list (List.map PyData.int ns))] s₁ (.ok (.ret (.bool true))) s₂ :=
      ⟨.inl ⟨.bool true, .bool true, [], rfl, fun _ => rfl, .bool _, post1 [] _ L0.row.toRowW rfl rfl rfl, fun _ => ⟨.nil, fun a ha => nomatch ha⟩⟩, .of_keep hk2, hos, .of_eq hg2⟩
    have z := g.laid (c := L0.row.toRowW.claim) rfl rfl (ident_freeW rfl rfl rfl) L
    exact wpAny_pure ⟨_, rfl, z.1, z.2.1, z.2.2, fun q => nomatch q⟩
end Mine
end

section 
open PySem PySem.W PyProof.Rows PySem.Calls PyProof.V
namespace Mine

/-! ## plain laws of the flags -/
theorem pw_pos (i : Nat) : (0 : Int) < 2 ^ i := kbt_pos i
theorem flag_step0 {n : Int} {i : Nat} (h : bit n i = false) : n / 2 ^ (i + 1) * 2 ^ (i + 1) = n / 2 ^ i * 2 ^ i := by
  rw [ediv_step, Int.pow_succ, Int.mul_comm (2 ^ i) 2, ← Int.mul_assoc]
  congr 1
  have : ¬ (n / 2 ^ i % 2 = 1) := of_decide_eq_false h
  omega
theorem flag_step1 {n : Int} {i : Nat} (h : bit n i = true) : n / 2 ^ (i + 1) * 2 ^ (i + 1) = n / 2 ^ i * 2 ^ i - 2 ^ i := by
  rw [ediv_step, Int.pow_succ, Int.mul_comm (2 ^ i) 2, ← Int.mul_assoc]
  have : n / 2 ^ i % 2 = 1 := of_decide_eq_true h
  rw [show n / 2 ^ i / 2 * 2 = n / 2 ^ i - 1 by omega, Int.sub_mul, Int.one_mul]
theorem flag_and (n : Int) (i : Nat) : Builtin.bitAnd (n / 2 ^ i * 2 ^ i) (2 ^ i) = if bit n i then 2 ^ i else 0 := by
  rw [kbt_bit, Int.mul_ediv_cancel _ (Int.ne_of_gt (pw_pos i))]
  by_cases h : n / 2 ^ i % 2 = 1
  · rw [if_pos (show bit n i = true from decide_eq_true h), h, Int.one_mul]
  · rw [if_neg (show ¬ bit n i = true from fun e => h (of_decide_eq_true e)), show n / 2 ^ i % 2 = 0 by omega, Int.zero_mul]
theorem flag_xor {n : Int} {i : Nat} (h : bit n i = true) : Builtin.bitXor (n / 2 ^ i * 2 ^ i) (2 ^ i) = n / 2 ^ (i + 1) * 2 ^ (i + 1) := by
  rw [bitXor_and, flag_and, if_pos h, flag_step1 h]; omega
theorem ediv_zero_up {n : Int} {k : Nat} (h : n / 2 ^ k = 0) : ∀ j, n / 2 ^ (k + j) = 0
  | 0 => h
  | j + 1 => by rw [← Nat.add_assoc, ediv_step, ediv_zero_up h j]; rfl
theorem rowOf_up {n : Int} {k : Nat} (h : n / 2 ^ k = 0) : ∀ j, rowOf n (k + j) = rowOf n k
  | 0 => rfl
  | j + 1 => by
    rw [← Nat.add_assoc, rowOf_succ, rowOf_up h j]
    have : bit n (k + j) = false := by unfold bit; rw [ediv_zero_up h j]; rfl
    simp [this]
theorem pf_break {n : Int} {i : Nat} (hi : i < 32) (hb : bit n i = true) (h : n / 2 ^ (i + 1) = 0) : pf n = Txt.join comma (rowOf n (i + 1)) := by
  have e1 := rowOf_up h (32 - (i + 1))
  have e2 := ediv_zero_up h (32 - (i + 1))
  rw [show i + 1 + (32 - (i + 1)) = 32 by omega] at e1 e2
  unfold pf txt
  rw [e1, e2, if_pos ⟨rfl, by rw [rowOf_succ, if_pos hb]; simp⟩]
theorem pf_end {n : Int} (h : rowOf n 32 ≠ [] → n / 2 ^ 32 ≠ 0) : pf n = Txt.join comma (rowOf n 32 ++ [baseText "0x" 16 (n / 2 ^ 32 * 2 ^ 32)]) := by
  unfold pf txt
  rw [if_neg fun x => h x.2 x.1]
theorem rowOf_len (n : Int) (k : Nat) : (rowOf n k).length ≤ k := by
  unfold rowOf; rw [List.length_map]
  exact Nat.le_trans (List.length_filter_le _ _) (by rw [List.length_range]; exact Nat.le_refl _)
theorem rowOf_sub {n : Int} {k : Nat} (hk : k ≤ 32) : ∀ x ∈ rowOf n k, x ∈ wordsL := by
  intro x hx
  unfold rowOf at hx
  obtain ⟨j, hj, rfl⟩ := List.mem_map.mp hx
  have := List.mem_range.mp (List.mem_filter.mp hj).1
  exact List.mem_of_getElem? (wordsL_get (show j < 32 by omega))
theorem sum_le {c : Nat} : ∀ {l : List Str}, (∀ x ∈ l, x.length ≤ c) → (l.map (fun x => x.length)).sum ≤ l.length * c
  | [], _ => by simp
  | a :: l, h => by
    have h1 := h a List.mem_cons_self
    have h2 := sum_le (l := l) fun x hx => h x (List.mem_cons_of_mem _ hx)
    rw [List.map_cons, List.sum_cons, List.length_cons, Nat.succ_mul]; omega
def isStr (d : PyData) (x : Str) : Bool := match d with | .str y => decide (y = x) | _ => false
theorem isStr_eq {d : PyData} {x : Str} (h : isStr d x = true) : d = .str x := by
  cases d <;> simp [isStr] at h
  rw [h]
theorem get_flag0 : ∀ i : Nat, i < 32 → isStr ((Spec.lookup (.int (2 ^ i)) flagD).getD (.str (baseText "0x" 16 (2 ^ i)))) (wd i) = true := by
  rw [flagD_is]; decide +kernel
theorem get_flag {i : Nat} (hi : i < 32) : (Spec.lookup (.int (2 ^ i)) flagD).getD (.str (baseText "0x" 16 (2 ^ i))) = .str (wd i) := isStr_eq (get_flag0 i hi)
theorem strs_snoc {vs : List Value} {ys : List Str} (h : StrsAre vs ys) (y : Str) (t : Tok) : StrsAre (vs ++ [.str y t]) (ys ++ [y]) := by
  induction h with
  | nil => exact .cons y t .nil
  | cons y' t' _ ih => exact .cons y' t' ih
theorem strs_len {vs : List Value} {ys : List Str} (h : StrsAre vs ys) : vs.length = ys.length := by
  induction h with
  | nil => rfl
  | cons _ _ _ ih => simp [ih]
theorem strs_get {vs : List Value} {ys : List Str} (h : StrsAre vs ys) : ∀ {i : Nat} {v : Value}, vs[i]? = some v → ∃ y t, ys[i]? = some y ∧ v = .str y t := by
  induction h with
  | nil => intro i v e; simp at e
  | cons y t _ ih =>
    intro i v e
    cases i with
    | zero => simp only [List.getElem?_cons_zero, Option.some.injEq] at e; exact ⟨y, t, rfl, e.symm⟩
    | succ i => simp only [List.getElem?_cons_succ] at e ⊢; exact ih e
end Mine
end

section 
open PySem PySem.W PyProof.Rows PySem.Calls PyProof.V
namespace Mine
variable {w : World} {A : Around} {E : Value → Shared → Prop} {s : Shared} {mg mb : Str → Option Value} {env : Env} {h₀ : Heap} {m : Str → Option Value}

/-! ## names within a def -/
theorem nm_l {L : Addr} {x : Str} {pos : Pos} {v : Value} {Q : Value → Shared → Prop} (F : Fr h₀ L s.heap m) (hv : m x = some v) (h : Q v s)
    (hL : env.locals = L := by rfl) (hk : env.scope.kind = .function := by rfl) (hl : env.kindOf x = some .local := by rfl) (hd : (x == ("__debug__" : Str)) = false := by decide) :
    wpAny (model P w) A (eval (.Name x pos) env) Q E s := wpAny_Name (wpAny_loadName_local hk hl (hL.symm ▸ F.ns) hv h) hd
theorem nm_g {x : Str} {pos : Pos} {v : Value} {Q : Value → Shared → Prop} (T : Tp w mg mb s.heap) (hv : mg x = some v) (h : Q v s)
    (hg : env.globals = mainGlobals := by rfl) (hk : env.scope.kind = .function := by rfl) (hx : env.kindOf x = some .globalImplicit := by rfl) (hd : (x == ("__debug__" : Str)) = false := by decide) :
    wpAny (model P w) A (eval (.Name x pos) env) Q E s :=
  Calls.Name_function_global hk hx (Calls.loadGlobal_global (hg.symm ▸ T.g) hv h) hd
theorem nm_b {x : Str} {pos : Pos} {v : Value} {Q : Value → Shared → Prop} (T : Tp w mg mb s.heap) (hn : mg x = none) (hv : bootBuiltins x = some v) (h : Q v s)
    (hx1 : x ≠ "__name__" := by decide) (hg : env.globals = mainGlobals := by rfl) (hb : env.builtins = builtinsNs := by rfl) (hk : env.scope.kind = .function := by rfl) (hx : env.kindOf x = some .globalImplicit := by rfl) (hd : (x == ("__debug__" : Str)) = false := by decide) :
    wpAny (model P w) A (eval (.Name x pos) env) Q E s :=
  Calls.Name_function_global hk hx (Calls.loadGlobal_builtin (hg.symm ▸ T.g) hn (hb.symm ▸ T.b) ((T.builtins x hx1).trans hv) h) hd
theorem st_l {L : Addr} {x : Str} {v : Value} {Q : Unit → Shared → Prop} (F : Fr h₀ L s.heap m)
    (h : ∀ h', Fr h₀ L h' (fun y => if y = x then some v else m y) → Heap.SameBut L s.heap h' → Q () { s with heap := h', toks := s.toks + 1 })
    (hL : env.locals = L := by rfl) (hk : env.scope.kind = .function := by rfl) (hl : env.kindOf x = some .local := by rfl) : wpAny (model P w) A (storeName env x v) Q E s :=
by
  subst hL
  exact wpAny_storeName_local hl F.ns (fun h' hn hs => h h' (F.set hn hs) hs) (by rw [hk]; rfl)

theorem fr_upd {h h' : Heap} {L I : Addr} {m m' : Str → Option Value} (F : Fr h₀ L h m) (hI : h₀.get? I = none) (hn : h'.Ns L m') (hk : ∀ b o, b ≠ I → b ≠ L → h.get? b = some o → h'.get? b = some o) : Fr h₀ L h' m' := by
  refine ⟨hn, fun b o e => hk b o ?_ (Nat.ne_of_lt (Nat.lt_of_lt_of_le (Heap.lt_size e) F.above)) (F.keep b o e), F.above⟩
  rintro rfl; rw [hI] at e; cases e
theorem fr_grow {h h' : Heap} {L : Addr} (F : Fr h₀ L h m) (hk : ∀ b o, h.get? b = some o → h'.get? b = some o) : Fr h₀ L h' m :=
  ⟨F.ns.keeps hk, fun b o e => hk b o (F.keep b o e), F.above⟩
theorem fr_same {h h' : Heap} {L D : Addr} (F : Fr h₀ L h m) (hD : h₀.get? D = none) (hL : D ≠ L) (hs : Heap.SameBut D h h') : Fr h₀ L h' m := by
  refine ⟨F.ns.sameBut hs (Ne.symm hL), fun b o e => (hs.2 b ?_).trans (F.keep b o e), F.above⟩
  rintro rfl; rw [hD] at e; cases e
theorem fr_new {h : Heap} {L : Addr} (F : Fr h₀ L h m) : h₀.get? h.objs.size = none ∧ h.objs.size ≠ L := by
  obtain ⟨oL, _, _, hL, _⟩ := F.ns
  refine ⟨?_, Nat.ne_of_gt (Heap.lt_size hL)⟩
  cases hq : h₀.get? h.objs.size with
  | none => rfl
  | some o' => exact absurd (Heap.lt_size (F.keep _ _ hq)) (Nat.lt_irrefl _)

/-! ## a loop -/
theorem loop_for {R : Result → Shared → Prop} {x : Str} {px : Pos} {body orelse : List Stmt} {I L : Addr} {fp : List Addr} {n : Nat} {Pv : Nat → Value → Prop} {St : Nat → Heap → Prop}
    (W : Walks P w A I fp [I] n Pv St) (hLf : L ∉ fp)
    (J : Nat → Heap → (Str → Option Value) → Prop) (hn : s.heap.Ns L m) (hst : St 0 s.heap) (h0 : J 0 s.heap m)
    (step : ∀ i v H m h tk, i < n → Pv i v → J i H m → H.Ns L m → St i H → (∀ b o, b ≠ I → b ≠ L → H.get? b = some o → h.get? b = some o) → h.Ns L (fun y => if y = x then some v else m y) → St (i + 1) h →
      wpAny (model P w) A (execs body env) (fun f s₂ => match f with
        | .next | .cont => ∃ h' tk' m₂, s₂ = { s with heap := h', toks := tk' } ∧ (∀ b ∈ fp, ∀ o, h.get? b = some o → h'.get? b = some o) ∧ h'.Ns L m₂ ∧ J (i + 1) h' m₂
        | .brk => R (.ok .next) s₂
        | .ret v => R (.ok (.ret v)) s₂) (notedBy (model P w) A env fun e s' => R (.error e) s') { s with heap := h, toks := tk })
    (done : ∀ H m h tk, J n H m → St n H → (∀ b o, b ≠ I → H.get? b = some o → h.get? b = some o) → h.Ns L m →
      wpAny (model P w) A (execs orelse env) (fun f s₃ => R (.ok f) s₃) (notedBy (model P w) A env fun e s' => R (.error e) s') { s with heap := h, toks := tk })
    (hL : env.locals = L := by rfl) (hk : env.scope.kind = .function := by rfl) (hloc : env.kindOf x = some .local := by rfl) :
    codeAny (model P w) A (.forLoop (.Name x px) (.ref I) body orelse env) R s := by
  subst hL
  have hLI : env.locals ≠ I := fun e => hLf (e ▸ W.sub I (by simp))
  refine codeAny_forLoop (fun k s' => ∃ h' tk m' i, s' = { s with heap := h', toks := tk } ∧ St i h' ∧ h'.Ns env.locals m' ∧ J i h' m' ∧ i ≤ n ∧ k = n + 1 - i) ?_ (n + 1)
    ⟨s.heap, s.toks, m, 0, rfl, hst, hn, h0, Nat.zero_le _, rfl⟩
  rintro k s' ⟨H, tk, m', i, rfl, hst', hn', hJ', hi, rfl⟩
  by_cases hlt : i < n
  · refine W.item i _ _ _ hlt hst' fun v h₁ tk₁ hv hst₁ hk₁ => ?_
    have hn₁ : h₁.Ns env.locals m' := hn'.at' fun o e => hk₁ _ o (by simpa using hLI) e
    refine wpAny_assign_Name (wpAny_storeName_local (m := m') hloc hn₁ (fun h₂ hn₂ hs₂ => ?_) (by rw [hk]; rfl))
    replace hs₂ : Heap.SameBut env.locals h₁ h₂ := hs₂
    refine wpAny_mono (step i v H m' h₂ _ hlt hv hJ' hn' hst' (fun b o h1 h2 e => (hs₂.2 b h2).trans (hk₁ b o (by simpa using h1) e)) hn₂ (W.frame _ _ _ hst₁ fun b hb o e => (hs₂.2 b (fun q => hLf (q ▸ hb))).trans e)) (fun f s₂ h => ?_) fun _ _ x => x
    have hst₂ := W.frame _ _ h₂ hst₁ fun b hb o e => (hs₂.2 b (fun q => hLf (q ▸ hb))).trans e
    cases f with
    | next => obtain ⟨h', tk', m₂, rfl, hf, hn₃, hJ₃⟩ := h; exact ⟨n + 1 - (i + 1), by omega, h', tk', m₂, i + 1, rfl, W.frame _ _ _ hst₂ hf, hn₃, hJ₃, hlt, rfl⟩
    | cont => obtain ⟨h', tk', m₂, rfl, hf, hn₃, hJ₃⟩ := h; exact ⟨n + 1 - (i + 1), by omega, h', tk', m₂, i + 1, rfl, W.frame _ _ _ hst₂ hf, hn₃, hJ₃, hlt, rfl⟩
    | brk => exact h
    | ret v => exact h
  · obtain rfl : i = n := by omega
    refine W.done _ _ _ hst' fun h₁ tk₁ hk₁ => ?_
    exact done H m' h₁ tk₁ hJ' hst' (fun b o hb e => hk₁ b o (by simpa using hb) e) (hn'.at' fun o e => hk₁ _ o (by simpa using hLI) e)
end Mine
end

section 
open PySem PySem.W PyProof.Rows PySem.Calls PyProof.V
set_option maxRecDepth 100000
set_option maxHeartbeats 4000000
set_option linter.unusedVariables false
namespace Mine
variable {w : World} {A : Around} {E : Value → Shared → Prop} {s : Shared} {mg mb : Str → Option Value} {env : Env} {h₀ : Heap} {m : Str → Option Value}


theorem baseText_small {i : Int} (h : i.natAbs < 16 ^ 20) : (baseText "0x" 16 i).length ≤ 23 := by
  unfold baseText
  rw [Str.length_append, Str.length_append, ofString_ofList_length (Nat.toDigits 16 i.natAbs)]
  have h1 := toDigits_len_pow (b := 16) (k := 20) (by decide) (by decide) h
  have h3 : (Str.ofString (if i < 0 then "-" else "")).length ≤ 1 := by
    split <;> (rw [PyProof.Rows.ofString_len]; decide)
  have h4 : (Str.ofString "0x").length = 2 := by decide
  omega
theorem small_natAbs {n : Int} (h : Small n) {k : Nat} (hk : k ≤ 50) : (n / 2 ^ k * 2 ^ k).natAbs < 16 ^ 20 := by
  have h1 : n / 2 ^ k * 2 ^ k ≤ n := Int.ediv_mul_le n (Int.ne_of_gt (pw_pos k))
  have h2 : n < n / 2 ^ k * 2 ^ k + 2 ^ k := Int.lt_ediv_add_one_mul_self n (pw_pos k) |> fun x => by rw [Int.add_mul, Int.one_mul] at x; exact x
  have h3 : (2 : Int) ^ k ≤ 2 ^ 50 := by
    have := Nat.pow_le_pow_right (n := 2) (by decide) hk
    exact_mod_cast this
  unfold Small at h
  omega
theorem ite_t {c p q : Prop} [Decidable c] (hc : c) (h : p) : if c then p else q := by rw [if_pos hc]; exact h
theorem ite_f {c p q : Prop} [Decidable c] (hc : ¬ c) (h : q) : if c then p else q := by rw [if_neg hc]; exact h
theorem call_flag {i : Nat} {t u : Tok} {d : Addr} {Q : Value → Shared → Prop} (htab : IntTab P w s.heap d flagD) (hi : i < 32) (h : ∀ tv, Q (.str (wd i) tv) { s with toks := s.toks + 1 }) :
    wpAny (model P w) A (call (.builtin "dict.get") [.ref d, .int (2 ^ i) t, .str (baseText "0x" 16 (2 ^ i)) u]) Q E s :=
  call_get2_intTab htab (Flat.str _ _) fun v hv => by rw [get_flag hi] at hv; obtain ⟨tv, rfl⟩ := hv.str_inv; exact h tv
theorem eval_join {L D : Addr} {x : Str} {kk : Nat} {p1 p2 p3 p4 : Pos} {row : List Str} {vs : Array Value} {Q : Value → Shared → Prop} (F : Fr h₀ L s.heap m) (hx : m x = some (.ref D)) (hl : s.heap.IsList D vs) (hS : StrsAre vs.toList row) (hr : ∀ y ∈ row, y.length ≤ 23) (hz : row.length ≤ 40)
    (h : ∀ t' tk, Q (.str (Txt.join comma row) t') { s with toks := tk })
    (hline : (p2.endLine == p4.line) = true := by rfl) (hL : env.locals = L := by rfl) (hk : env.scope.kind = .function := by rfl) (hl' : env.kindOf x = some .local := by rfl) (hd : (x == ("__debug__" : Str)) = false := by decide) :
    wpAny (model P w) A (eval (.Call (.Attribute (.Constant (.str ", ") kk p1) "join" p2) [.Name x p3] [] p4) env) Q E s := by
  refine wpAny_Call_method (T := "str") (id := "str.join") rfl rfl hline PySem.F.plainAttrs_str PySem.F.slot_str_join PySem.F.type_str_join (wpAny_Constant_str ⟨typeIs_str _ _ _, (fun a e => nomatch e), ?_⟩)
  refine callWith_method1 (args_cons (nm_l F hx (args_nil (join_list hl hS ?_ fun t' k => h t' k)) hL hk hl' hd))
  have := sum_le hr
  have e : (Str.ofString ", ").length = 2 := by decide
  rw [e]
  have : row.length * 23 ≤ 40 * 23 := Nat.mul_le_mul_right _ hz
  omega
theorem pow_text : ∀ {i : Nat}, i < 32 → (baseText "0x" 16 (2 ^ i)).length ≤ 23 := by
  have : ∀ i : Nat, i < 32 → (baseText "0x" 16 (2 ^ i)).length ≤ 23 := by decide +kernel
  exact fun {i} h => this i h
theorem row_ok {n : Int} {k : Nat} (hk : k ≤ 32) : ∀ x ∈ rowOf n k, x.length ≤ 23 := fun x hx => Nat.le_trans (wd_len x (rowOf_sub hk x hx)) (by decide)

theorem pf_body {L a : Addr} {cd : Value} {n : Int} {t : Tok} {Q : Flow → Shared → Prop} (T : Tp w mg mb h₀) (hh : A.handled = none) (hn : Small n) (F : Fr h₀ L s.heap m) (hm : m "flags" = some (.int n t))
    (k : ∀ h' tk t' m', Fr h₀ L h' m' → Q (.ret (.str (pf n) t')) { s with heap := h', toks := tk }) :
    wpAny (model P w) A (execs (fBody 11) (envOf "pretty_flags" (fScope 11) L a cd)) Q E s := by
  (generalize hb9 : fBody _ = b9; simp only [fBody, rawTop, P, PySem.Challenge.pw_dm0070_04, List.getD, List.getElem?_cons_succ, List.getElem?_cons_zero, Option.getD_some] at hb9; subst hb9)
  obtain ⟨hD₀, hDL⟩ := fr_new F
  refine wpAny_execs_cons (wpAny_Assign_Name (List_ (spliced_nil (wpAny_newObj_type ?_))))
  have F1 : Fr h₀ L (s.heap.push { cls := .type "list", data := .seq #[] }) m := F.push _
  refine st_l F1 fun h₁ F₁ hs₁ => ?_
  replace hs₁ : Heap.SameBut L (s.heap.push { cls := .type "list", data := .seq #[] }) h₁ := hs₁
  have hP₁ : h₁.PlainList s.heap.objs.size #[] := ⟨_, (hs₁.2 _ hDL).trans (Heap.get?_push_size _ rfl)⟩
  clear hs₁ F1
  generalize s.heap.objs.size = D at *
  dsimp only
  refine wpAny_execs_cons (wpAny_For (wpAny_Call_NameR (nm_b (T.keeps F₁.keep) T.range boot_range ?_)))
  refine PyProof.Rows.callWith_type1 (args_cons (wpAny_Constant_int (args_nil (call_range_1 ?_))))
  dsimp only
  refine wpAny_pyIter_range (IsRange.new _ _ _ _ _ _ _) rfl ?_
  dsimp only
  generalize hR : Heap.push h₁ _ = hr
  have FR : Fr h₀ L hr _ := hR ▸ F₁.push _
  have hPR : hr.PlainList D #[] := hR ▸ hP₁.at fun o e => Heap.get?_push_of_some _ e
  clear hR
  obtain ⟨hI₀, hIL⟩ := fr_new FR
  have hst0 : IsRangeIter (hr.push { cls := .type "range_iterator", data := .fields #[rawInt 0, rawInt (Builtin.Range.rangeSize 0 32 1), rawInt 1] }) hr.objs.size (0 + ((0 : Nat) : Int) * 1) (((32 : Nat) : Int) - ((0 : Nat) : Int)) 1 := Heap.get?_push_size _ rfl
  have FI := FR.push { cls := .type "range_iterator", data := .fields #[rawInt 0, rawInt (Builtin.Range.rangeSize 0 32 1), rawInt 1] }
  have hPI : (hr.push { cls := .type "range_iterator", data := .fields #[rawInt 0, rawInt (Builtin.Range.rangeSize 0 32 1), rawInt 1] }).PlainList D #[] := hPR.at fun o e => Heap.get?_push_of_some _ e
  generalize hr.push { cls := .type "range_iterator", data := .fields #[rawInt 0, rawInt (Builtin.Range.rangeSize 0 32 1), rawInt 1] } = hi at *
  generalize hr.objs.size = I at *
  refine loop_for (L := L) (Walks.range hh _ 0 1 32) (by simpa using Ne.symm hIL)
    (fun i H m' => Fr h₀ L H m' ∧ (∃ t', m' "flags" = some (.int (n / 2 ^ i * 2 ^ i) t')) ∧ m' "names" = some (.ref D) ∧ (∃ vs, H.PlainList D vs ∧ StrsAre vs.toList (rowOf n i)) ∧ (rowOf n i ≠ [] → n / 2 ^ i ≠ 0)) FI.ns hst0 ?_ ?_ ?_
  · refine ⟨FI, ⟨t, ?_⟩, ?_, ⟨#[], hPI, .nil⟩, fun x => absurd rfl x⟩
    · rw [if_neg (by decide), hm]; simp
    · rw [if_pos rfl]
  · rintro i v H m' h tk hi ⟨t', rfl⟩ ⟨F', ⟨tf, hf⟩, hN, ⟨vs, hP, hS⟩, hrow⟩ hn' hst hk' hn2 hst2
    have hDI : D ≠ I := fun e => by obtain ⟨_, q⟩ := hP; rw [e, hst] at q; simp at q
    have F₂ := fr_upd F' hI₀ hn2 hk'
    have hP₂ : h.PlainList D vs := hP.at fun o e => hk' D o hDI hDL e
    have hlen : vs.size ≤ 32 := by
      have e1 := strs_len hS
      have e2 := rowOf_len n i
      simp only [Array.length_toList] at e1; omega
    dsimp only
    refine wpAny_execs_cons (wpAny_Assign_Name (wpAny_BinOp (wpAny_Constant_int (nm_l F₂ (by rw [if_pos rfl]) (lshift_int_small (by omega) (by omega) (by decide) ?_)))))
    rw [show (1 : Int) * 2 ^ (0 + (i : Int) * 1).toNat = 2 ^ i by rw [Int.one_mul]; congr 1; omega]
    dsimp only
    refine st_l F₂ fun h₃ F₃ hs₃ => ?_
    replace hs₃ : Heap.SameBut L h h₃ := hs₃
    dsimp only
    have hP₃ : h₃.PlainList D vs := hP₂.at fun o e => (hs₃.2 D hDL).trans e
    have T₃ := T.keeps F₃.keep
    refine wpAny_execs_cons (wpAny_If ?_)
    refine isTrue_plain ?_
    refine (wpAny_BinOp (nm_l F₃ (by rw [if_neg (by decide), if_neg (by decide)]; exact hf) (nm_l F₃ (by rw [if_pos rfl]) (and_int (PyProof.Rows.truthy_int ?_)))))
    dsimp only
    by_cases hb : bit n i = true
    · refine ite_t (by rw [flag_and, if_pos hb]; simpa using Int.ne_of_gt (pw_pos i)) ?_
      obtain ⟨dF, hcf, htab⟩ := T₃.cf
      have hsz : (baseText "0x" 16 (2 ^ i)).length ≤ sizeLine := Nat.le_trans (pow_text hi) (by rw [sizeLine_eq]; decide)
      obtain ⟨cD, eD⟩ := id hP₃
      refine wpAny_execs_cons (wpAny_Expr (MethodCall_ (nm_l F₃ (by rw [if_neg (by decide), if_neg (by decide)]; exact hN) (getMethod_list_append eD rfl rfl (callWith_method1 (args_cons ?_))))))
      refine MethodCall_ (nm_g T₃ hcf (getMethod_intTab_get htab (callWith_method1 (args_cons (nm_l F₃ (by rw [if_pos rfl]) (args_cons ?_))))))
      refine wpAny_Call_NameR (nm_b T₃ T.hex boot_hex (PyProof.Rows.callWith_builtin1 (args_cons (nm_l F₃ (by rw [if_pos rfl]) (args_nil (PySem.P.hex_of_int ?_ hsz))))))
      refine args_nil (call_flag htab hi fun tv => ?_)
      refine args_nil (wpAny_list_append_plain hP₃ (fun h₄ hP₄ hs₄ => ?_) (by rw [sizeLine_eq]; omega))
      replace hs₄ : Heap.SameBut D h₃ h₄ := hs₄
      dsimp only
      have F₄ := fr_same F₃ hD₀ hDL hs₄
      refine wpAny_execs_cons (wpAny_AugAssign_Name (wpAny_loadName_local rfl rfl F₄.ns (by rw [if_neg (by decide), if_neg (by decide)]; exact hf) (nm_l F₄ (by rw [if_pos rfl]) (ixor_int ?_))))
      dsimp only
      refine st_l F₄ fun h₅ F₅ hs₅ => ?_
      replace hs₅ : Heap.SameBut L h₄ h₅ := hs₅
      dsimp only
      have hP₅ := hP₄.at (h' := h₅) fun o e => (hs₅.2 D hDL).trans e
      have hrow1 : rowOf n (i + 1) = rowOf n i ++ [wd i] := by rw [rowOf_succ, if_pos hb]
      have hS₅ : StrsAre (vs.push (.str (wd i) tv)).toList (rowOf n (i + 1)) := by rw [hrow1, Array.toList_push]; exact strs_snoc hS _ _
      refine wpAny_execs_cons (wpAny_If ?_)
      refine isTrue_not ?_
      refine isTrue_plain ?_
      refine nm_l F₅ (by rw [if_pos rfl]) (PyProof.Rows.truthy_int ?_)
      by_cases hz : n / 2 ^ (i + 1) = 0
      · refine ite_t (by rw [flag_xor hb, hz, Int.zero_mul]; rfl) ?_
        refine wpAny_execs_cons (wpAny_Break ?_)
        dsimp only
        refine wpAny_execs_cons (wpAny_Return_some (eval_join F₅ (by rw [if_neg (by decide), if_neg (by decide), if_neg (by decide)]; exact hN) hP₅.isList hS₅ (row_ok (by omega)) (Nat.le_trans (rowOf_len _ _) (by omega)) fun t' tk' => ?_))
        rw [← pf_break hi hb hz]
        exact k _ _ _ _ F₅
      · have hne : n / 2 ^ (i + 1) * 2 ^ (i + 1) ≠ 0 := Int.mul_ne_zero hz (Int.ne_of_gt (pw_pos _))
        refine ite_f (by rw [flag_xor hb]; simp [hne]) ?_
        refine wpAny_execs_nil (wpAny_execs_nil (wpAny_execs_nil ⟨h₅, _, _, rfl, ?_, F₅.ns, F₅, ⟨_, by rw [if_pos rfl, flag_xor hb]⟩, ?_, ⟨_, hP₅, hS₅⟩, fun _ => hz⟩))
        · intro b hb' o e
          obtain rfl := List.mem_singleton.mp hb'
          exact (hs₅.2 _ hIL).trans ((hs₄.2 _ (Ne.symm hDI)).trans ((hs₃.2 _ hIL).trans e))
        · rw [if_neg (by decide), if_neg (by decide), if_neg (by decide)]; exact hN
    · refine ite_f (by rw [flag_and, if_neg hb]; decide) ?_
      have hb' : bit n i = false := by simpa using hb
      have hrow1 : rowOf n (i + 1) = rowOf n i := by rw [rowOf_succ, if_neg hb, List.append_nil]
      refine wpAny_execs_nil (wpAny_execs_nil ⟨h₃, _, _, rfl, ?_, F₃.ns, F₃, ⟨tf, ?_⟩, ?_, ⟨_, hP₃, hrow1 ▸ hS⟩, ?_⟩)
      · intro b hb' o e
        obtain rfl := List.mem_singleton.mp hb'
        exact (hs₃.2 _ hIL).trans e
      · rw [if_neg (by decide), if_neg (by decide), flag_step0 hb']; exact hf
      · rw [if_neg (by decide), if_neg (by decide)]; exact hN
      · rw [hrow1]
        intro x e
        have h1 := flag_step0 hb'
        rw [e, Int.zero_mul] at h1
        exact Int.mul_ne_zero (hrow x) (Int.ne_of_gt (pw_pos i)) h1.symm
  · rintro H m' h tk ⟨F', ⟨tf, hf⟩, hN, ⟨vs, hP, hS⟩, hrow⟩ hst hk' hn2
    have hDI : D ≠ I := fun e => by obtain ⟨_, q⟩ := hP; rw [e, hst] at q; simp at q
    have F₂ := fr_upd F' hI₀ hn2 fun b o h1 _ e => hk' b o h1 e
    have hP₂ : h.PlainList D vs := hP.at fun o e => hk' D o hDI e
    have hlen : vs.size ≤ 32 := by
      have e1 := strs_len hS
      have e2 := rowOf_len n 32
      simp only [Array.length_toList] at e1; omega
    have hsz : (baseText "0x" 16 (n / 2 ^ 32 * 2 ^ 32)).length ≤ sizeLine := Nat.le_trans (baseText_small (small_natAbs hn (by decide))) (by rw [sizeLine_eq]; decide)
    obtain ⟨cD, eD⟩ := id hP₂
    dsimp only
    refine wpAny_execs_cons (wpAny_Expr (MethodCall_ (nm_l F₂ hN (getMethod_list_append eD rfl rfl (callWith_method1 (args_cons ?_))))))
    refine wpAny_Call_NameR (nm_b (T.keeps F₂.keep) T.hex boot_hex (PyProof.Rows.callWith_builtin1 (args_cons (nm_l F₂ hf (args_nil (PySem.P.hex_of_int ?_ hsz))))))
    refine args_nil (wpAny_list_append_plain hP₂ (fun h₄ hP₄ hs₄ => ?_) (by rw [sizeLine_eq]; omega))
    replace hs₄ : Heap.SameBut D h h₄ := hs₄
    dsimp only
    have F₄ := fr_same F₂ hD₀ hDL hs₄
    refine wpAny_execs_nil ?_
    dsimp only
    refine wpAny_execs_cons (wpAny_Return_some (eval_join F₄ hN hP₄.isList (row := rowOf n 32 ++ [baseText "0x" 16 (n / 2 ^ 32 * 2 ^ 32)]) (by rw [Array.toList_push]; exact strs_snoc hS _ _) ?_ ?_ fun t' tk' => ?_))
    · intro y hy
      rcases List.mem_append.mp hy with hy | hy
      · exact row_ok (by decide) y hy
      · rw [List.mem_singleton.mp hy]; exact baseText_small (small_natAbs hn (by decide))
    · have := rowOf_len n 32
      rw [List.length_append, List.length_singleton]; omega
    · rw [← pf_end hrow]
      exact k _ _ _ _ F₄
end Mine
end

section 
open PySem PySem.W PyProof.Rows PySem.Calls PyProof.V
set_option maxRecDepth 100000
set_option maxHeartbeats 4000000
set_option linter.unusedVariables false
namespace Mine
variable {w : World} {A : Around} {E : Value → Shared → Prop} {s : Shared} {mg mb : Str → Option Value} {env : Env} {h₀ : Heap} {m : Str → Option Value}

theorem pf_ok {f : Value} {n : Int} {t : Tok} {Q : Value → Shared → Prop} (T : Tp w mg mb s.heap) (hroom : A.depth < recursionLimit) (hh : A.handled = none) (hf : mg "pretty_flags" = some f) (hn : Small n)
    (k : ∀ h' tk t', (∀ b o, s.heap.get? b = some o → h'.get? b = some o) → Q (.str (pf n) t') { s with heap := h', toks := tk }) :
    wpAny (model P w) A (call f [.int n t]) Q E s := by
  obtain ⟨a, o, pm, cd, doc, e1, e2, e3, e4⟩ := T.pf
  rw [hf] at e1; cases e1
  refine wpAny_call (call_plain_ret (binds := [("flags", .int n t)]) hroom e2 e3 T.nolimit e4 (by with_unfolding_all rfl) (locs (by with_unfolding_all rfl)) (fun h₁ F => ?_) rfl rfl rfl (by decide +kernel))
  refine pf_body (t := t) T hh hn F rfl fun h' tk t' m' F' => ?_
  exact k h' tk t' F'.keep
end Mine
end

section 
open PySem PySem.W PyProof.Rows PySem.Calls PyProof.V
set_option maxRecDepth 100000
set_option maxHeartbeats 4000000
set_option linter.unusedVariables false
namespace Mine
variable {w : World} {A : Around} {E : Value → Shared → Prop} {s : Shared} {mg mb : Str → Option Value} {env : Env} {h₀ : Heap} {m : Str → Option Value}

def cc (j : Nat) : Nat := ((Str.ofString "1248").cps[(10 + j) % 4]?).getD 0
theorem cc_is : ∀ j : Nat, j < 22 → (seqIndex? ((10 + (j : Int) * 1).fmod 4) (Str.ofString "1248").length).bind ((Str.ofString "1248").cps[·]?) = some (cc j) := by decide +kernel
theorem cc_lo : ∀ j : Nat, j < 22 → (decide ((10 + (j : Int) * 1).fmod 4 < -(2 ^ 63 : Int)) || decide ((10 + (j : Int) * 1).fmod 4 ≥ 2 ^ 63)) = false := by decide +kernel
theorem word_is : ∀ j : Nat, j < 22 → Str.ofString "0x" ++ ⟨#[cc j]⟩ ++ Txt.mul (Str.ofString "0") ((10 + (j : Int) * 1).fdiv 4) = wd (10 + j) := by decide +kernel
theorem mul_ok : ∀ j : Nat, j < 22 → MulOk (Str.ofString "0") ((10 + (j : Int) * 1).fdiv 4) := by unfold MulOk; decide +kernel
theorem mul_len : ∀ j : Nat, j < 22 → (Str.ofString "0x" ++ ⟨#[cc j]⟩).length + (Txt.mul (Str.ofString "0") ((10 + (j : Int) * 1).fdiv 4)).length ≤ 100 := by decide +kernel
theorem add_len : ∀ j : Nat, j < 22 → (Str.ofString "0x").length + (⟨#[cc j]⟩ : Str).length ≤ 100 := by decide +kernel
theorem take_succ {j : Nat} (h : j < 22) : wordsL.take (10 + j) ++ [wd (10 + j)] = wordsL.take (10 + (j + 1)) := by
  rw [← Nat.add_assoc, List.take_add_one, wordsL_get (by omega)]; rfl
theorem small_line : (100 : Nat) ≤ sizeLine := by rw [sizeLine_eq]; decide

theorem item_chr {value slice : PySem.Expr} {x : Str} {t u : Tok} {i : Int} {c : Nat} {Q : Value → Shared → Prop} (hr : (decide (i < -(2 ^ 63 : Int)) || decide (i ≥ 2 ^ 63)) = false) (hc : (seqIndex? i x.length).bind (x.cps[·]?) = some c)
    (h : Q (.str ⟨#[c]⟩ s.toks) { s with toks := s.toks + 1 })
    (hs : subscripted slice false (.str x t) (.int i u) = operate [.str x t, .int i u] (getItem (.str x t) (.int i u)) := by with_unfolding_all rfl) (hg : ∀ r, letTemporaryGo value (.str x t) r = pure () := by intro _; with_unfolding_all rfl) :
    wpAny (model P w) A (subscriptTail value slice (.str x t) (.int i u)) Q E s :=
  subscriptTail_builtin (typeIs_str s x t) PySem.F.slot_str_getitem.lookup (PyProof.Rows.getItem_str hr hc h) hs hg

inductive LitStrs : List PySem.Expr → List Str → Prop
  | nil : LitStrs [] []
  | cons {x : Str} {k : Nat} {p : Pos} {es : List PySem.Expr} {xs : List Str} : LitStrs es xs → LitStrs (.Constant (.str x) k p :: es) (x :: xs)
theorem lits_list {es : List PySem.Expr} {xs : List Str} {pos : Pos} (h : LitStrs es xs) : ∀ {s : Shared} {Q : List Value → Shared → Prop}, (∀ vs tk, StrsAre vs xs → Q vs { s with toks := tk }) → wpAny (model P w) A (spliced (backTo pos (starEach es env))) Q E s := by
  induction h with
  | nil => intro s Q hQ; exact args_nil (hQ [] s.toks .nil)
  | cons _ ih =>
    intro s Q hQ
    refine args_cons (wpAny_Constant_str ?_)
    exact ih fun vs tk hS => hQ _ tk (.cons _ _ hS)

theorem assign_lits {x : Str} {L : Addr} {px p1 p2 : Pos} {es : List PySem.Expr} {xs : List Str} {Q : Flow → Shared → Prop} (F : Fr h₀ L s.heap m) (hE : LitStrs es xs) (hz : xs.length ≤ 100)
    (h : ∀ h' tk vs, Fr h₀ L h' (fun y => if y = x then some (.ref s.heap.objs.size) else m y) → h'.PlainList s.heap.objs.size vs → StrsAre vs.toList xs → (∀ b o, b ≠ L → s.heap.get? b = some o → h'.get? b = some o) → Q .next { s with heap := h', toks := tk })
    (hL : env.locals = L := by rfl) (hk : env.scope.kind = .function := by rfl) (hl : env.kindOf x = some .local := by rfl) :
    wpAny (model P w) A (exec (.Assign [.Name x px] (.List es p1) p2) env) Q E s := by
  refine wpAny_Assign_Name (List_ (lits_list hE fun vs tk hS => ?_)) rfl
  have hlen := strs_len hS
  refine wpAny_newObj_type ?_ (by show vs.toArray.size ≤ sizeLine; rw [List.size_toArray]; have := small_line; omega)
  have F1 := F.push { cls := .type "list", data := .seq vs.toArray }
  refine st_l F1 (fun h₁ F₁ hs₁ => ?_) hL hk hl
  replace hs₁ : Heap.SameBut L (s.heap.push { cls := .type "list", data := .seq vs.toArray }) h₁ := hs₁
  exact h h₁ _ vs.toArray F₁ ⟨_, (hs₁.2 _ (fr_new F).2).trans (Heap.get?_push_size _ rfl)⟩ (by simpa using hS) fun b o hb e => (hs₁.2 b hb).trans (Heap.get?_push_of_some _ e)

@[irreducible] def lwEs : List PySem.Expr := match fBody 13 with | .Assign _ (.List es _) _ :: _ => es | _ => []
theorem lw_eq : ∃ p1 p2 p3, fBody 13 = .Assign [.Name "words" p1] (.List lwEs p2) p3 :: (fBody 13).tail := ⟨_, _, _, by with_unfolding_all rfl⟩
def litStrs : List PySem.Expr → Option (List Str)
  | [] => some []
  | .Constant (.str x) _ _ :: es => (litStrs es).map (x :: ·)
  | _ => none
theorem litStrs_is : ∀ {es : List PySem.Expr} {xs : List Str}, litStrs es = some xs → LitStrs es xs := by
  intro es
  induction es with
  | nil => intro xs h; cases h; exact .nil
  | cons e es ih =>
    intro xs h
    unfold litStrs at h
    split at h
    · rename_i h1; cases h1
    · rename_i h1; cases h1
      obtain ⟨ys, h2, rfl⟩ := Option.map_eq_some_iff.mp h
      exact .cons (ih h2)
    · cases h
theorem lwEs_is : LitStrs lwEs (wordsL.take (10 + 0)) := litStrs_is (by with_unfolding_all rfl)


theorem lw_body {L a : Addr} {cd : Value} {Q : Flow → Shared → Prop} (T : Tp w mg mb h₀) (hh : A.handled = none) (F : Fr h₀ L s.heap m)
    (k : ∀ h' tk m' D vs, Fr h₀ L h' m' → h₀.get? D = none → h'.PlainList D vs → StrsAre vs.toList wordsL → Q (.ret (.ref D)) { s with heap := h', toks := tk }) :
    wpAny (model P w) A (execs (fBody 13) (envOf "_law_words" (fScope 13) L a cd)) Q E s := by
  obtain ⟨p1, p2, p3, e⟩ := lw_eq
  rw [e]
  obtain ⟨hD₀, hDL⟩ := fr_new F
  refine wpAny_execs_cons (assign_lits F lwEs_is (by decide) fun h₁ tk vs F₁ hP₁ hS _ => ?_)
  generalize s.heap.objs.size = D at *
  dsimp only
  clear e
  (generalize hb9 : (fBody _).tail = b9; simp only [fBody, rawTop, P, PySem.Challenge.pw_dm0070_04, List.getD, List.getElem?_cons_succ, List.getElem?_cons_zero, Option.getD_some, List.tail_cons] at hb9; subst hb9)
  refine wpAny_execs_cons (wpAny_For (wpAny_Call_NameR (nm_b (T.keeps F₁.keep) T.range boot_range ?_)))
  refine PyProof.Rows.callWith_type1 (args_cons (wpAny_Constant_int (args_cons (wpAny_Constant_int (args_nil (call_range_2 ?_))))))
  dsimp only
  refine wpAny_pyIter_range (IsRange.new _ _ _ _ _ _ _) rfl ?_
  dsimp only
  generalize hR : Heap.push h₁ _ = hr
  have FR : Fr h₀ L hr _ := hR ▸ F₁.push _
  have hPR : hr.PlainList D vs := hR ▸ hP₁.at fun o e => Heap.get?_push_of_some _ e
  clear hR
  obtain ⟨hI₀, hIL⟩ := fr_new FR
  have hst0 : IsRangeIter (hr.push { cls := .type "range_iterator", data := .fields #[rawInt 10, rawInt (Builtin.Range.rangeSize 10 32 1), rawInt 1] }) hr.objs.size (10 + ((0 : Nat) : Int) * 1) (((22 : Nat) : Int) - ((0 : Nat) : Int)) 1 := Heap.get?_push_size _ rfl
  have FI := FR.push { cls := .type "range_iterator", data := .fields #[rawInt 10, rawInt (Builtin.Range.rangeSize 10 32 1), rawInt 1] }
  have hPI : (hr.push { cls := .type "range_iterator", data := .fields #[rawInt 10, rawInt (Builtin.Range.rangeSize 10 32 1), rawInt 1] }).PlainList D vs := hPR.at fun o e => Heap.get?_push_of_some _ e
  generalize hr.push { cls := .type "range_iterator", data := .fields #[rawInt 10, rawInt (Builtin.Range.rangeSize 10 32 1), rawInt 1] } = hi at *
  generalize hr.objs.size = I at *
  refine loop_for (L := L) (Walks.range hh _ 10 1 22) (by simpa using Ne.symm hIL)
    (fun i H m' => Fr h₀ L H m' ∧ m' "words" = some (.ref D) ∧ ∃ vs, H.PlainList D vs ∧ StrsAre vs.toList (wordsL.take (10 + i))) FI.ns hst0 ?_ ?_ ?_
  · exact ⟨FI, by rw [if_pos rfl], vs, hPI, hS⟩
  · rintro i v H m' h tk' hi' ⟨t', rfl⟩ ⟨F', hN, vs', hP, hS'⟩ hn' hst hk' hn2 hst2
    have hDI : D ≠ I := fun e => by obtain ⟨_, q⟩ := hP; rw [e, hst] at q; simp at q
    have F₂ := fr_upd F' hI₀ hn2 hk'
    have hP₂ : h.PlainList D vs' := hP.at fun o e => hk' D o hDI hDL e
    have hlen : vs'.size ≤ 32 := by
      have e1 := strs_len hS'
      have e2 := List.length_take_le' (10 + i) wordsL
      rw [wordsL_len] at e2
      simp only [Array.length_toList] at e1; omega
    dsimp only
    obtain ⟨cD, eD⟩ := id hP₂
    refine wpAny_execs_cons (wpAny_Expr (MethodCall_ (nm_l F₂ (by rw [if_neg (by decide)]; exact hN) (getMethod_list_append eD rfl rfl (callWith_method1 (args_cons ?_))))))
    refine wpAny_BinOp ?_
    refine wpAny_BinOp (wpAny_Constant_str ?_)
    dsimp only
    refine Subscript_ (wpAny_Constant_str (wpAny_BinOp (nm_l F₂ (by rw [if_pos rfl]) (wpAny_Constant_int (mod_int' (by decide) ?_)))))
    dsimp only
    refine item_chr (cc_lo i hi') (cc_is i hi') ?_
    dsimp only
    refine add_str (fun t1 tk1 => ?_) (Nat.le_trans (add_len i hi') small_line)
    dsimp only
    refine wpAny_BinOp (wpAny_Constant_str (wpAny_BinOp (nm_l F₂ (by rw [if_pos rfl]) (wpAny_Constant_int (floordiv_int (by decide) ?_ (.inl ?_))))))
    · dsimp only
      refine SB.mul (mul_ok i hi') fun t2 tk2 => ?_
      refine add_str (fun t3 tk3 => ?_) (Nat.le_trans (mul_len i hi') small_line)
      refine args_nil (wpAny_list_append_plain hP₂ (fun h₄ hP₄ hs₄ => ?_) (by rw [sizeLine_eq]; omega))
      replace hs₄ : Heap.SameBut D h h₄ := hs₄
      dsimp only
      have F₄ := fr_same F₂ hD₀ hDL hs₄
      refine wpAny_execs_nil ⟨h₄, _, _, rfl, ?_, F₄.ns, F₄, ?_, _, hP₄, ?_⟩
      · intro b hb' o e
        obtain rfl := List.mem_singleton.mp hb'
        exact (hs₄.2 _ (Ne.symm hDI)).trans e
      · rw [if_neg (by decide)]; exact hN
      · rw [Array.toList_push, ← take_succ hi', word_is i hi']
        exact strs_snoc hS' _ _
    · exact PyProof.noPylong_small (by decide)
  · rintro H m' h tk' ⟨F', hN, vs', hP, hS'⟩ hst hk' hn2
    have hDI : D ≠ I := fun e => by obtain ⟨_, q⟩ := hP; rw [e, hst] at q; simp at q
    have F₂ := fr_upd F' hI₀ hn2 fun b o h1 _ e => hk' b o h1 e
    have hP₂ : h.PlainList D vs' := hP.at fun o e => hk' D o hDI e
    dsimp only
    refine wpAny_execs_nil ?_
    dsimp only
    refine wpAny_execs_cons (wpAny_Return_some (nm_l F₂ hN ?_))
    exact k _ _ _ _ _ F₂ hD₀ hP₂ hS'

end Mine
end

section 
open PySem PySem.W PyProof.Rows PySem.Calls PyProof.V
set_option maxRecDepth 100000
set_option maxHeartbeats 4000000
set_option linter.unusedVariables false
namespace Mine
variable {w : World} {A : Around} {E : Value → Shared → Prop} {s : Shared} {mg mb : Str → Option Value} {env : Env} {h₀ : Heap} {m : Str → Option Value}

theorem lw_ok {f : Value} {Q : Value → Shared → Prop} (T : Tp w mg mb s.heap) (hroom : A.depth < recursionLimit) (hh : A.handled = none) (hf : mg "_law_words" = some f)
    (k : ∀ h' tk D vs, (∀ b o, s.heap.get? b = some o → h'.get? b = some o) → s.heap.get? D = none → h'.PlainList D vs → StrsAre vs.toList wordsL → Q (.ref D) { s with heap := h', toks := tk }) :
    wpAny (model P w) A (call f []) Q E s := by
  obtain ⟨a, o, pm, cd, doc, e1, e2, e3, e4⟩ := T.lw
  rw [hf] at e1; cases e1
  refine wpAny_call (call_plain_ret (binds := []) hroom e2 e3 T.nolimit e4 (by with_unfolding_all rfl) (fun x hx => nomatch hx) (fun h₁ F => ?_) rfl rfl rfl (by decide +kernel))
  refine lw_body T hh F fun h' tk m' D vs F' hD hP hS => ?_
  exact k h' tk D vs F'.keep hD hP hS
end Mine
end

section 
open PySem PySem.W PyProof.Rows PySem.Calls PyProof.V
set_option maxRecDepth 100000
set_option maxHeartbeats 4000000
set_option linter.unusedVariables false
namespace Mine
variable {w : World} {A : Around} {E : Value → Shared → Prop} {s : Shared} {mg mb : Str → Option Value} {env : Env} {h₀ : Heap} {m : Str → Option Value}

abbrev SO (w : World) (h : Heap) (a : Addr) (S : Str → Bool) (k : Nat) : Prop := h.SetOf (strKind P w) a S k
theorem so_at {h h' : Heap} {a : Addr} {S : Str → Bool} {k : Nat} (x : SO w h a S k) (hk : ∀ o, h.get? a = some o → h'.get? a = some o) : SO w h' a S k :=
  let ⟨o, es, ep, t, e, r⟩ := x; ⟨o, es, ep, t, hk o e, r⟩
theorem so_congr {h : Heap} {a : Addr} {S S' : Str → Bool} {k : Nat} (x : SO w h a S k) (e : ∀ y, S y = S' y) : SO w h a S' k := (funext e : S = S') ▸ x
theorem so_ne_iter {h : Heap} {a I l : Addr} {i : Nat} {S : Str → Bool} {k : Nat} (x : SO w h a S k) (y : h.IsListIter I l i) : a ≠ I := by
  rintro rfl
  obtain ⟨o, es, ep, t, e, hc, _⟩ := x
  obtain ⟨o', e', hc', _⟩ := y
  rw [e] at e'; cases e'
  have := hc.1.symm.trans hc'
  simp at this
theorem so_new (led : Bool) (h : Heap) : SO w (h.push { cls := .type "set", data := .set #[] 0 (.fresh 0 0 led) }) h.objs.size (fun _ => false) 0 :=
  ⟨_, #[], 0, _, Heap.get?_push_size _ rfl, ⟨rfl, rfl, rfl⟩, rfl, fun e he => by simp at he, fun k => by simp, by decide, by rfl, rfl⟩

theorem fmod2_bit (n : Int) (i : Nat) : ((n / 2 ^ i).fmod 2 != 0) = bit n i := by
  rw [Int.fmod_eq_emod_of_nonneg _ (by decide)]
  unfold bit
  rw [Bool.eq_iff_iff, bne_iff_ne, decide_eq_true_eq]; omega
theorem fdiv2_step (n : Int) (i : Nat) : (n / 2 ^ i).fdiv 2 = n / 2 ^ (i + 1) := by
  rw [Int.fdiv_eq_ediv_of_nonneg _ (by decide), ediv_step]
theorem row_grow {n : Int} {i : Nat} (hb : bit n i = true) (y : Str) : (decide (y ∈ rowOf n i) || decide (y = wd i)) = decide (y ∈ rowOf n (i + 1)) := by
  rw [rowOf_succ, if_pos hb, Bool.eq_iff_iff]; simp
theorem row_same {n : Int} {i : Nat} (hb : bit n i = false) (y : Str) : decide (y ∈ rowOf n i) = decide (y ∈ rowOf n (i + 1)) := by
  rw [rowOf_succ, hb]; simp
theorem word_at {vs : Array Value} {i : Nat} {v : Value} (hS : StrsAre vs.toList wordsL) (hv : vs[i]? = some v) : i < 32 ∧ ∃ t, v = .str (wd i) t := by
  obtain ⟨y, t, hy, rfl⟩ := strs_get hS (i := i) (v := v) (by simpa using hv)
  have hi : i < 32 := (List.getElem?_eq_some_iff.mp hy).1
  rw [wordsL_get hi] at hy
  cases hy
  exact ⟨hi, t, rfl⟩

theorem ls_body {L a W : Addr} {cd : Value} {n : Int} {t : Tok} {vs : Array Value} {Q : Flow → Shared → Prop} (T : Tp w mg mb h₀) (hh : A.handled = none) (F : Fr h₀ L s.heap m)
    (hm1 : m "number" = some (.int n t)) (hm2 : m "words" = some (.ref W)) (hW : h₀.PlainList W vs) (hS : StrsAre vs.toList wordsL)
    (k : ∀ h' tk m' Tu Sa t' kk, Fr h₀ L h' m' → h₀.get? Tu = none → h₀.get? Sa = none → h'.IsTuple Tu #[.ref Sa, .int (n / 2 ^ 32) t'] → SO w h' Sa (fun x => decide (x ∈ rowOf n 32)) kk → kk ≤ 32 → Q (.ret (.ref Tu)) { s with heap := h', toks := tk }) :
    wpAny (model P w) A (execs (fBody 14) (envOf "_law_sets" (fScope 14) L a cd)) Q E s := by
  (generalize hb9 : fBody _ = b9; simp only [fBody, rawTop, P, PySem.Challenge.pw_dm0070_04, List.getD, List.getElem?_cons_succ, List.getElem?_cons_zero, Option.getD_some] at hb9; subst hb9)
  obtain ⟨hD₀, hDL⟩ := fr_new F
  refine wpAny_execs_cons (wpAny_Assign_Name ?_)
  refine wpAny_Call_NameR (nm_b (T.keeps F.keep) T.set boot_set (callWith_type0 (call_set_0 fun led => ?_)))
  have F1 := F.push { cls := .type "set", data := .set #[] 0 (.fresh 0 0 led) }
  have hN1 := so_new (w := w) led s.heap
  dsimp only
  refine st_l F1 fun h₁ F₁ hs₁ => ?_
  replace hs₁ : Heap.SameBut L (s.heap.push { cls := .type "set", data := .set #[] 0 (.fresh 0 0 led) }) h₁ := hs₁
  have hN₁ := so_at hN1 (h' := h₁) fun o e => (hs₁.2 _ hDL).trans e
  clear hs₁ F1 hN1
  generalize s.heap.objs.size = D at *
  dsimp only
  refine wpAny_execs_cons (wpAny_Assign_Name (nm_l F₁ (by rw [if_neg (by decide)]; exact hm1) ?_))
  refine st_l F₁ fun h₂ F₂ hs₂ => ?_
  replace hs₂ : Heap.SameBut L h₁ h₂ := hs₂
  have hN₂ := so_at hN₁ (h' := h₂) fun o e => (hs₂.2 _ hDL).trans e
  have hW₂ : h₂.PlainList W vs := hW.at fun o e => F₂.keep _ o e
  dsimp only
  refine wpAny_execs_cons (wpAny_For (nm_l F₂ (by rw [if_neg (by decide), if_neg (by decide)]; exact hm2) (wpAny_pyIter_list hW₂.isList ?_)))
  obtain ⟨hI₀, hIL⟩ := fr_new F₂
  have FI := F₂.push { cls := .type "list_iterator", data := .fields #[.ref W, .int 0 0] }
  have hNI := so_at hN₂ (h' := h₂.push { cls := .type "list_iterator", data := .fields #[.ref W, .int 0 0] }) fun o e => Heap.get?_push_of_some _ e
  have hWI : (h₂.push { cls := .type "list_iterator", data := .fields #[.ref W, .int 0 0] }).PlainList W vs := hW₂.at fun o e => Heap.get?_push_of_some _ e
  have hst0 : (h₂.push { cls := .type "list_iterator", data := .fields #[.ref W, .int 0 0] }).IsListIter h₂.objs.size W 0 := ⟨_, Heap.get?_push_size _ rfl, rfl, rfl⟩
  have hWI' : W ≠ h₂.objs.size := by obtain ⟨_, e⟩ := hW₂; exact Nat.ne_of_lt (Heap.lt_size e)
  dsimp only
  generalize h₂.push { cls := .type "list_iterator", data := .fields #[.ref W, .int 0 0] } = hi at *
  generalize h₂.objs.size = I at *
  have hWL : W ≠ L := by obtain ⟨_, e⟩ := hW; exact Nat.ne_of_lt (Nat.lt_of_lt_of_le (Heap.lt_size e) F.above)
  have hvz : vs.size = 32 := by have := strs_len hS; simpa [wordsL_len] using this
  have hDW : D ≠ W := fun e => by obtain ⟨_, q⟩ := hW; rw [← e, hD₀] at q; cases q
  refine loop_for (L := L) (Walks.list hh I W hWI' vs) (by simpa using ⟨Ne.symm hIL, Ne.symm hWL⟩)
    (fun i H m' => Fr h₀ L H m' ∧ (∃ t', m' "left" = some (.int (n / 2 ^ i) t')) ∧ m' "held" = some (.ref D) ∧ ∃ kk, SO w H D (fun x => decide (x ∈ rowOf n i)) kk ∧ kk ≤ i) FI.ns ⟨hst0, hWI.isList⟩ ?_ ?_ ?_
  · refine ⟨FI, ⟨t, ?_⟩, ?_, 0, so_congr hNI fun y => ?_, Nat.le_refl _⟩
    · rw [if_pos rfl]; simp
    · rw [if_neg (by decide), if_pos rfl]
    · simp [rowOf]
  · rintro i v H m' h tk' hi' hv ⟨F', ⟨tl, hl⟩, hN, kk, hO, hkk⟩ hn' hst hk' hn2 hst2
    obtain ⟨hi32, tv, rfl⟩ := word_at hS hv
    have hDI : D ≠ I := so_ne_iter hO hst.1
    have F₃ := fr_upd F' hI₀ hn2 hk'
    have hO₃ := so_at hO (h' := h) fun o e => hk' D o hDI hDL e
    dsimp only
    refine wpAny_execs_cons (wpAny_If ?_)
    refine isTrue_plain ?_
    refine wpAny_BinOp (nm_l F₃ (by rw [if_neg (by decide)]; exact hl) (wpAny_Constant_int (mod_int' (by decide) (PyProof.Rows.truthy_int ?_))))
    dsimp only
    by_cases hb : bit n i = true
    · refine ite_t (by rw [fmod2_bit]; exact hb) ?_
      refine wpAny_execs_cons (wpAny_Expr (MethodCall_ (nm_l F₃ (by rw [if_neg (by decide)]; exact hN) (getMethod_set_add hO₃ (callWith_method1 (args_cons (nm_l F₃ (by rw [if_pos rfl]) (args_nil ?_))))))))
      refine call_set_add (knd := strKind P w) (strKind_is P w (wd i) tv) rfl hO₃ (by have : scanBound = 4096 := rfl; omega) fun h₄ hs₄ hO₄ => ?_
      replace hs₄ : Heap.SameBut D h h₄ := hs₄
      have F₄ := fr_same F₃ hD₀ hDL hs₄
      have hO₄' := so_congr hO₄ (row_grow hb)
      dsimp only
      refine wpAny_execs_nil ?_
      dsimp only
      refine wpAny_execs_cons (wpAny_Assign_Name (wpAny_BinOp (nm_l F₄ (by rw [if_neg (by decide)]; exact hl) (wpAny_Constant_int (floordiv_int (by decide) ?_ (.inl (PyProof.noPylong_small (by decide))))))))
      dsimp only
      refine st_l F₄ fun h₅ F₅ hs₅ => ?_
      replace hs₅ : Heap.SameBut L h₄ h₅ := hs₅
      dsimp only
      refine wpAny_execs_nil ⟨h₅, _, _, rfl, ?_, F₅.ns, F₅, ⟨_, by rw [if_pos rfl, fdiv2_step]⟩, ?_, _, so_at hO₄' fun o e => (hs₅.2 _ hDL).trans e, ?_⟩
      · intro b hb' o e
        have : b = I ∨ b = W := by simpa using hb'
        rcases this with rfl | rfl
        · exact (hs₅.2 _ hIL).trans ((hs₄.2 _ (Ne.symm hDI)).trans e)
        · exact (hs₅.2 _ hWL).trans ((hs₄.2 _ (Ne.symm hDW)).trans e)
      · rw [if_neg (by decide), if_neg (by decide)]; exact hN
      · split <;> omega
    · refine ite_f (by rw [fmod2_bit]; exact hb) ?_
      refine wpAny_execs_nil ?_
      dsimp only
      refine wpAny_execs_cons (wpAny_Assign_Name (wpAny_BinOp (nm_l F₃ (by rw [if_neg (by decide)]; exact hl) (wpAny_Constant_int (floordiv_int (by decide) ?_ (.inl (PyProof.noPylong_small (by decide))))))))
      dsimp only
      refine st_l F₃ fun h₅ F₅ hs₅ => ?_
      replace hs₅ : Heap.SameBut L h h₅ := hs₅
      dsimp only
      refine wpAny_execs_nil ⟨h₅, _, _, rfl, ?_, F₅.ns, F₅, ⟨_, by rw [if_pos rfl, fdiv2_step]⟩, ?_, _, so_congr (so_at hO₃ fun o e => (hs₅.2 _ hDL).trans e) (row_same (by simpa using hb)), by omega⟩
      · intro b hb' o e
        have : b = I ∨ b = W := by simpa using hb'
        rcases this with rfl | rfl
        · exact (hs₅.2 _ hIL).trans e
        · exact (hs₅.2 _ hWL).trans e
      · rw [if_neg (by decide), if_neg (by decide)]; exact hN
  · rintro H m' h tk' ⟨F', ⟨tl, hl⟩, hN, kk, hO, hkk⟩ hst hk' hn2
    rw [hvz] at hl hO hkk
    have hDI : D ≠ I := so_ne_iter hO hst.1
    have F₂ := fr_upd F' hI₀ hn2 fun b o h1 _ e => hk' b o h1 e
    have hO₂ := so_at hO (h' := h) fun o e => hk' D o hDI e
    dsimp only
    refine wpAny_execs_nil ?_
    dsimp only
    refine wpAny_execs_cons (wpAny_Return_some (Tuple_ (args_cons (nm_l F₂ hN (args_cons (nm_l F₂ hl (args_nil (wpAny_newObj_type ?_))))))))
    dsimp only
    exact k _ _ _ _ _ _ _ (F₂.push _) (fr_new F₂).1 hD₀ ⟨_, Heap.get?_push_size _ rfl, rfl, _, rfl⟩ (so_at hO₂ fun o e => Heap.get?_push_of_some _ e) hkk
end Mine
end

section 
open PySem PySem.W PyProof.Rows PySem.Calls PyProof.V
set_option maxRecDepth 100000
set_option maxHeartbeats 4000000
set_option linter.unusedVariables false
namespace Mine
variable {w : World} {A : Around} {E : Value → Shared → Prop} {s : Shared} {mg mb : Str → Option Value} {env : Env} {h₀ : Heap} {m : Str → Option Value}

theorem ls_ok {f : Value} {n : Int} {t : Tok} {W : Addr} {vs : Array Value} {Q : Value → Shared → Prop} (T : Tp w mg mb s.heap) (hroom : A.depth < recursionLimit) (hh : A.handled = none) (hf : mg "_law_sets" = some f)
    (hW : s.heap.PlainList W vs) (hS : StrsAre vs.toList wordsL)
    (k : ∀ h' tk Tu Sa t' kk, (∀ b o, s.heap.get? b = some o → h'.get? b = some o) → s.heap.get? Tu = none → s.heap.get? Sa = none → h'.IsTuple Tu #[.ref Sa, .int (n / 2 ^ 32) t'] → SO w h' Sa (fun x => decide (x ∈ rowOf n 32)) kk → kk ≤ 32 → Q (.ref Tu) { s with heap := h', toks := tk }) :
    wpAny (model P w) A (call f [.int n t, .ref W]) Q E s := by
  obtain ⟨a, o, pm, cd, doc, e1, e2, e3, e4⟩ := T.ls
  rw [hf] at e1; cases e1
  refine wpAny_call (call_plain_ret (binds := [("number", .int n t), ("words", .ref W)]) hroom e2 e3 T.nolimit e4 (by with_unfolding_all rfl) (locs (by with_unfolding_all rfl)) (fun h₁ F => ?_) rfl rfl rfl (by decide +kernel))
  refine ls_body (t := t) T hh F rfl rfl hW hS fun h' tk m' Tu Sa t' kk F' h1 h2 h3 h4 h5 => ?_
  exact k h' tk Tu Sa t' kk F'.keep h1 h2 h3 h4 h5
end Mine
end

section 
open PySem PySem.W PyProof.Rows PySem.Calls PyProof.V
set_option maxRecDepth 100000
set_option maxHeartbeats 4000000
set_option linter.unusedVariables false
namespace Mine
variable {w : World} {A : Around} {E : Value → Shared → Prop} {s : Shared} {mg mb : Str → Option Value} {env : Env} {h₀ : Heap} {m : Str → Option Value}

/-- the list of the words that pass a test -/
theorem comp_rest {ct elt : PySem.Expr} {x : Str} {scope : Scope} {cl : List (Str × Addr)} {ax L : Addr} {its : Array Value} {news : List (Addr × Obj)} {S : Str → Bool} {Fin : List Value → List (Addr × Obj) → Prop}
    (hW : h₀.IsList ax its) (hSt : StrsAre its.toList wordsL)
    (helt : ∀ C oC m₂ h tk v (E' : Value → Shared → Prop) (Q : Value → Shared → Prop), LCg.NsObj oC m₂ → m₂ x = some v → h.get? C = some oC → Q v { s with heap := h, toks := tk } → wpAny (model P w) A (eval elt (compEnvC scope cl C env)) Q E' { s with heap := h, toks := tk })
    (htest : ∀ i t C oC m₂ h tk (E' : Value → Shared → Prop) (Q : Bool → Shared → Prop) nw, i < 32 → LCg.NsObj oC m₂ → m₂ x = some (.str (wd i) t) → h.get? C = some oC → News h₀ L h nw → (∀ p ∈ news, p ∈ nw) → Fr h₀ L h m → (∀ tk', Q (S (wd i)) { s with heap := h, toks := tk' }) →
      wpAny (model P w) A (PySem.isTrue ct (compEnvC scope cl C env) (eval ct (compEnvC scope cl C env))) Q E' { s with heap := h, toks := tk })
    (hfin : ∀ ys, StrsAre ys (wordsL.filter S) → Fin ys news) :
    LCt.CompRestT P w A h₀ L m env ct elt x scope cl s (LCg.SrcAt h₀ ax its) (fun i v => its[i]? = some v) Fin its.size 0 [] news := by
  have hz : its.size = 32 := by have := strs_len hSt; simpa [wordsL_len] using this
  have gen : ∀ k i ys, i + k = 32 → StrsAre ys ((wordsL.take i).filter S) → LCt.CompRestT P w A h₀ L m env ct elt x scope cl s (LCg.SrcAt h₀ ax its) (fun i v => its[i]? = some v) Fin k i ys news := by
    intro k
    induction k with
    | zero =>
      intro i ys hi hy
      obtain rfl : i = 32 := by omega
      exact LCt.CompRestT.zero (hfin ys (by rwa [List.take_of_length_le (by rw [wordsL_len]; exact Nat.le_refl _)] at hy))
    | succ k ih =>
      intro i ys hi hy
      refine LCt.CompRestT.succ fun v I oI C oC D m₂ h tk E' hv hC hx F N off ne => ?_
      obtain ⟨hi32, t, rfl⟩ := word_at hSt hv
      have eC := N.get (a := C) (o := oC) (by simp)
      have tk1 : wordsL.take (i + 1) = wordsL.take i ++ [wd i] := by rw [List.take_add_one, wordsL_get hi32]; rfl
      refine htest i t C oC m₂ h tk E' _ _ hi32 hC hx eC N (fun p hp => List.mem_cons_of_mem _ (List.mem_cons_of_mem _ (List.mem_cons_of_mem _ hp))) F fun tk' => ?_
      by_cases hb : S (wd i) = true
      · refine ite_t hb ?_
        refine helt C oC m₂ h tk' _ E' _ hC hx eC ⟨h, tk', news, rfl, F, N, off, .inl hW, ih (i + 1) _ (by omega) ?_⟩
        rw [tk1, List.filter_append, List.filter_cons_of_pos hb]
        exact strs_snoc hy _ _
      · refine ite_f hb ⟨h, tk', news, rfl, F, N, off, .inl hW, ih (i + 1) _ (by omega) ?_⟩
        rw [tk1, List.filter_append, List.filter_cons_of_neg hb, List.filter_nil, List.append_nil]; exact hy
  rw [hz]
  exact gen 32 0 [] rfl .nil
end Mine
end

section 
open PySem PySem.W PyProof.Rows PySem.Calls PyProof.V
set_option maxRecDepth 100000
set_option maxHeartbeats 4000000
set_option linter.unusedVariables false
namespace Mine
variable {w : World} {A : Around} {E : Value → Shared → Prop} {s : Shared} {mg mb : Str → Option Value} {env : Env} {h₀ : Heap} {m : Str → Option Value}

def fg (ds : List Char) : Str := Str.ofString (String.ofList ds)
theorem fg_is (ds : List Char) : fg ds = ⟨(ds.map Char.toNat).toArray⟩ := by unfold fg; rw [Str.ofString_eq_toList]; simp
theorem fg_cons (c : Char) (ds : List Char) : (⟨#[c.toNat]⟩ : Str) ++ fg ds = fg (c :: ds) := by
  rw [fg_is, fg_is]
  show Str.mk (#[c.toNat] ++ (ds.map Char.toNat).toArray) = _
  simp
theorem fg_len (ds : List Char) : (fg ds).length = ds.length := ofString_ofList_length ds
theorem fg_empty (ds : List Char) : (fg ds == Str.ofString "") = decide (ds = []) := by
  rw [Bool.eq_iff_iff, decide_eq_true_eq, beq_iff_eq]
  constructor
  · intro e
    have := congrArg Str.length e
    rw [fg_len] at this
    exact List.length_eq_zero_iff.mp (this.trans (by decide))
  · rintro rfl; rfl
theorem hexch : ∀ d : Nat, d < 16 → (seqIndex? (d : Int) (Str.ofString "0123456789abcdef").length).bind ((Str.ofString "0123456789abcdef").cps[·]?) = some (Nat.digitChar d).toNat := by decide +kernel
theorem hexch_lo : ∀ d : Nat, d < 16 → (decide ((d : Int) < -(2 ^ 63 : Int)) || decide ((d : Int) ≥ 2 ^ 63)) = false := by decide +kernel

def FigI (N l : Nat) (ds : List Char) : Prop := (ds = [] ∧ l = N) ∨ (ds ≠ [] ∧ Nat.toDigits 16 N = (if l = 0 then [] else Nat.toDigits 16 l) ++ ds)
theorem digits_step (l : Nat) : Nat.toDigits 16 l = (if l / 16 = 0 then [] else Nat.toDigits 16 (l / 16)) ++ [Nat.digitChar (l % 16)] := by
  by_cases h : l < 16
  · rw [if_pos (Nat.div_eq_of_lt h), Nat.toDigits_of_lt_base h, Nat.mod_eq_of_lt h]; rfl
  · rw [if_neg (by omega), ← Nat.toDigits_of_base_le (by decide) (by omega)]
theorem FigI.step {N l : Nat} {ds : List Char} (h : FigI N l ds) (hc : l ≠ 0 ∨ ds = []) : FigI N (l / 16) (Nat.digitChar (l % 16) :: ds) := by
  refine .inr ⟨by simp, ?_⟩
  rcases h with ⟨rfl, rfl⟩ | ⟨h1, h2⟩
  · exact digits_step _
  · rcases hc with hc | hc
    · rw [h2, if_neg hc, digits_step l, List.append_assoc]; rfl
    · exact absurd hc h1
theorem FigI.fin {N : Nat} {ds : List Char} (h : FigI N 0 ds) (hd : ds ≠ []) : ds = Nat.toDigits 16 N := by
  rcases h with ⟨h1, _⟩ | ⟨_, h2⟩
  · exact absurd h1 hd
  · rw [h2, if_pos rfl]; rfl
theorem FigI.len {N l : Nat} {ds : List Char} (h : FigI N l ds) : ds.length ≤ (Nat.toDigits 16 N).length := by
  rcases h with ⟨rfl, _⟩ | ⟨_, h2⟩
  · simp
  · rw [h2, List.length_append]; omega
theorem FigI.start (N : Nat) : FigI N N [] := .inl ⟨rfl, rfl⟩

/-- the two ends' last texts -/
theorem text_neg {ab : Int} (h : ab < 0) : Str.ofString "-0x" ++ fg (Nat.toDigits 16 (ab * 2 ^ 32).natAbs) = baseText "0x" 16 (ab * 2 ^ 32) := by
  rw [baseText_neg (by omega)]; unfold fg
  rw [show Str.ofString "-0x" = Str.ofString "-" ++ Str.ofString "0x" by decide +kernel]
theorem text_nonneg {ab : Int} (h : ¬ ab < 0) : Str.ofString "0x" ++ fg (Nat.toDigits 16 (ab * 2 ^ 32).natAbs) = baseText "0x" 16 (ab * 2 ^ 32) := by
  rw [baseText_nonneg (by omega)]; unfold fg
  rw [show Str.ofString "" ++ Str.ofString "0x" = Str.ofString "0x" by decide +kernel]
theorem abs_mul {ab : Int} : ((if ab < 0 then -ab else ab) * 2 ^ 32) = (((ab * 2 ^ 32).natAbs : Nat) : Int) := by
  split <;> omega

/-- ', '.join(e) -/
theorem eval_joinE {kk : Nat} {p1 p2 p4 : Pos} {e : PySem.Expr} {Q : Value → Shared → Prop}
    (h : wpAny (model P w) A (eval e env) (fun v s₁ => ∃ D vs row, v = .ref D ∧ s₁.heap.IsList D vs ∧ StrsAre vs.toList row ∧ (∀ y ∈ row, y.length ≤ 24) ∧ row.length ≤ 40 ∧ ∀ t' tk, Q (.str (Txt.join comma row) t') { s₁ with toks := tk }) E { s with toks := s.toks + 1 })
    (he : starEach [e] env = (false, eval e env) :: starEach [] env := by rfl) (hline : (p2.endLine == p4.line) = true := by rfl) :
    wpAny (model P w) A (eval (.Call (.Attribute (.Constant (.str ", ") kk p1) "join" p2) [e] [] p4) env) Q E s := by
  refine wpAny_Call_method (T := "str") (id := "str.join") rfl (by rw [he]; rfl) hline PySem.F.plainAttrs_str PySem.F.slot_str_join PySem.F.type_str_join (wpAny_Constant_str ⟨typeIs_str _ _ _, (fun a e => nomatch e), ?_⟩)
  refine callWith_method1 (args_cons (wpAny_mono h (fun v s₁ x => ?_) fun _ _ x => x) he) he
  obtain ⟨D, vs, row, rfl, hl, hS, hr, hz, hq⟩ := x
  refine args_nil (join_list hl hS ?_ fun t' k => hq t' k)
  have := sum_le hr
  have e : (Str.ofString ", ").length = 2 := by decide
  rw [e]
  have : row.length * 24 ≤ 40 * 24 := Nat.mul_le_mul_right _ hz
  omega
end Mine
end

section 
open PySem PySem.W PyProof.Rows PySem.Calls PyProof.V
set_option maxRecDepth 100000
set_option maxHeartbeats 4000000
set_option linter.unusedVariables false
namespace Mine
variable {w : World} {A : Around} {E : Value → Shared → Prop} {s : Shared} {mg mb : Str → Option Value} {env : Env} {h₀ : Heap} {m : Str → Option Value}

theorem strs_empty {ys : List Value} {row : List Str} (h : StrsAre ys row) : (!ys.toArray.isEmpty) = decide (row ≠ []) := by
  rw [Bool.eq_iff_iff, decide_eq_true_eq]
  cases h with
  | nil => simp
  | cons => simp
theorem nat_fmod (l : Nat) : ((l : Int)).fmod 16 = ((l % 16 : Nat) : Int) := by rw [Int.fmod_eq_emod_of_nonneg _ (by decide)]; omega
theorem nat_fdiv (l : Nat) : ((l : Int)).fdiv 16 = ((l / 16 : Nat) : Int) := by rw [Int.fdiv_eq_ediv_of_nonneg _ (by decide)]; omega
theorem natAbs_mul_lt {ab : Int} (h : ab.natAbs < 2 ^ 40) : (ab * 2 ^ 32).natAbs < 16 ^ 20 := by omega

theorem join_last {L D : Addr} {pre : Str} {ds : List Char} {t : Tok} {ys : List Value} {row : List Str} {k1 k2 : Nat} {p1 p2 p3 p4 p5 p6 p7 p8 p9 : Pos} {Q : Value → Shared → Prop} (F : Fr h₀ L s.heap m) (hr : m "row" = some (.ref D)) (hf : m "figures" = some (.str (fg ds) t))
    (hl : s.heap.IsList D ys.toArray) (hys : StrsAre ys row) (hb : ∀ y ∈ row, y.length ≤ 18) (hz : row.length ≤ 32) (hp : pre.length ≤ 3) (hd : ds.length ≤ 20)
    (h : ∀ h' t' tk, Fr h₀ L h' m → Q (.str (Txt.join comma (row ++ [pre ++ fg ds])) t') { s with heap := h', toks := tk })
    (hL : env.locals = L := by rfl) (hk : env.scope.kind = .function := by rfl) (hl1 : env.kindOf "row" = some .local := by rfl) (hl2 : env.kindOf "figures" = some .local := by rfl) (hline : (p2.endLine == p4.line) = true := by rfl) :
    wpAny (model P w) A (eval (.Call (.Attribute (.Constant (.str ", ") k1 p1) "join" p2) [.BinOp (.Name "row" p3) .Add (.List [.BinOp (.Constant (.str pre) k2 p5) .Add (.Name "figures" p6) p7] p8) p9] [] p4) env) Q E s := by
  have hsl := small_line
  have e1 := strs_len hys
  refine eval_joinE (wpAny_BinOp (nm_l (s := { s with toks := s.toks + 1 }) F hr (List_ (args_cons (wpAny_BinOp (wpAny_Constant_str (nm_l F hf (add_str (fun t' tk' => ?_) ?_) hL hk hl2)))) ) hL hk hl1)) rfl hline
  · refine args_nil (wpAny_newObj_type ?_)
    refine add_arrays (F.push _) News.nil (hl.push _) (b := s.heap.objs.size) (its2 := #[.str (pre ++ fg ds) t']) ⟨_, Heap.get?_push_size _ rfl, rfl, _, rfl⟩ (fun h' F' N' => ?_) ?_
    · refine ⟨_, _, row ++ [pre ++ fg ds], rfl, ⟨_, N'.get (List.mem_cons_self ..), rfl, _, rfl⟩, ?_, ?_, ?_, fun t' tk => h h' t' tk F'⟩
      · simpa using strs_snoc hys (pre ++ fg ds) t'
      · intro y hy
        rcases List.mem_append.mp hy with hy | hy
        · exact Nat.le_trans (hb y hy) (by decide)
        · rw [List.mem_singleton.mp hy, Str.length_append, fg_len]; omega
      · rw [List.length_append, List.length_singleton]; omega
    · simp only [List.size_toArray]; show ys.length + 1 ≤ _; omega
  · rw [fg_len]; omega

theorem lt_body {L a W Sa c : Addr} {oc : Obj} {cd : Value} {ab : Int} {t : Tok} {vs : Array Value} {S : Str → Bool} {kk : Nat} {Q : Flow → Shared → Prop} (T : Tp w mg mb h₀) (hh : A.handled = none) (F : Fr h₀ L s.heap m)
    (hc : c = L + 1) (N : News h₀ L s.heap [(c, oc)]) (hoc : oc.data = .cell (some (.ref Sa))) (hab : ab.natAbs < 2 ^ 40)
    (hm1 : m "above" = some (.int ab t)) (hm2 : m "words" = some (.ref W)) (hW : h₀.PlainList W vs) (hS : StrsAre vs.toList wordsL) (hO : SO w h₀ Sa S kk)
    (k : ∀ h' tk m' t', Fr h₀ L h' m' → Q (.ret (.str (txt (wordsL.filter S) ab) t')) { s with heap := h', toks := tk }) :
    wpAny (model P w) A (execs (fBody 15) (envOfC "_law_text" (fScope 15) L a cd)) Q E s := by
  (generalize hb9 : fBody _ = b9; simp only [fBody, rawTop, P, PySem.Challenge.pw_dm0070_04, List.getD, List.getElem?_cons_succ, List.getElem?_cons_zero, Option.getD_some] at hb9; subst hb9)
  have hvz : vs.size = 32 := by have := strs_len hS; simpa [wordsL_len] using this
  have hscan : ∀ x t, (Value.str x t).scannable = true := fun _ _ => rfl
  refine wpAny_execs_cons (LCt.Assign_ListComp_T (cl := [("held", c)]) F rfl rfl (by rw [hc]; rfl) (by decide) rfl (by decide) rfl rfl rfl ?_)
  refine nm_l F hm2 (LCt.CompSrcT.base hh F N hW.isList (by rw [hvz, sizeLine_eq]; decide) fun g => ?_)
  refine comp_rest (S := S) hW.isList hS ?_ ?_ ?_
  · intro C oC m₂ h tk v E' Q' hC hx eC hq
    exact wpAny_Name (wpAny_loadName_local rfl rfl (hC.ns eC) hx hq) (by decide)
  · intro i t' C oC m₂ h tk E' Q' nw hi hC hx eC N' sub F' hq
    refine wpAny_isTrue_Compare1 ?_
    refine wpAny_Name (wpAny_loadName_local rfl rfl (hC.ns eC) hx ?_) (by decide)
    refine lcf_cell N' rfl (sub _ (by simp)) hoc ?_ rfl rfl
    refine wpAny_inSet_of (knd := strKind P w) (strKind_is P w (wd i) t') (hscan _ _) (so_at hO (F'.keep _)) ?_
    exact wpAny_truthy_bool (hq _)
  · intro ys hys D h tk F₁ N₁ off
    dsimp only
    have hL₁ : h.IsList D ys.toArray := ⟨_, N₁.get (List.mem_cons_self ..), rfl, _, rfl⟩
    have hDL : D ≠ L := (N₁ _ (List.mem_cons_self ..)).2.1
    have hD₀ : h₀.get? D = none := (N₁ _ (List.mem_cons_self ..)).2.2
    have hrow23 : ∀ y ∈ wordsL.filter S, y.length ≤ 18 := fun y hy => wd_len y (List.mem_filter.mp hy).1
    have hrowl : (wordsL.filter S).length ≤ 32 := Nat.le_trans (List.length_filter_le ..) (by rw [wordsL_len]; exact Nat.le_refl _)
    have hyl : ys.length = (wordsL.filter S).length := strs_len hys
    have hemp := strs_empty hys
    refine wpAny_execs_cons (wpAny_If (wpAny_mono (Q := fun b s' => b = decide (ab = 0 ∧ wordsL.filter S ≠ []) ∧ ∃ tk', s' = { s with heap := h, toks := tk' }) ?_ (fun b s' hb => ?_) fun _ _ x => x))
    · refine isTrue_and ?_
      refine wpAny_isTrue_Compare1 (nm_l F₁ (by rw [if_neg (by decide)]; exact hm1) (wpAny_Constant_int (PyProof.Rows.eq_int (wpAny_truthy_bool ?_))))
      dsimp only
      by_cases h0 : ab = 0
      · refine ite_t (by simpa using h0) ?_
        refine isTrue_and ?_
        refine isTrue_plain ?_
        refine nm_l F₁ (by rw [if_pos rfl]) (wpAny_truthy_list hL₁ (by rw [List.size_toArray]; omega) ?_)
        dsimp only
        by_cases hr : wordsL.filter S ≠ []
        · refine ite_t (by rw [hemp]; exact decide_eq_true hr) (isTrue_and_nil ⟨(decide_eq_true ⟨h0, hr⟩).symm, _, rfl⟩)
        · refine ite_f (by rw [hemp]; simpa using hr) ⟨(decide_eq_false fun x => hr x.2).symm, _, rfl⟩
      · refine ite_f (by simpa using h0) ⟨(decide_eq_false fun x => h0 x.1).symm, _, rfl⟩
    obtain ⟨rfl, tk', rfl⟩ := hb
    by_cases hcond : ab = 0 ∧ wordsL.filter S ≠ []
    · refine ite_t (decide_eq_true hcond) ?_
      refine wpAny_execs_cons (wpAny_Return_some (eval_join F₁ (by rw [if_pos rfl]) hL₁ hys (fun y hy => Nat.le_trans (hrow23 y hy) (by decide)) (by omega) fun t' tk2 => ?_))
      dsimp only
      have e : txt (wordsL.filter S) ab = Txt.join comma (wordsL.filter S) := by unfold txt; rw [if_pos hcond]
      exact e ▸ k h tk2 _ t' F₁
    refine ite_f (by simpa using hcond) (wpAny_execs_nil ?_)
    have etxt : txt (wordsL.filter S) ab = Txt.join comma (wordsL.filter S ++ [baseText "0x" 16 (ab * 2 ^ 32)]) := by unfold txt; rw [if_neg hcond]
    dsimp only
    refine wpAny_execs_cons (wpAny_Assign_Name (wpAny_Constant_str ?_))
    dsimp only
    refine st_l F₁ fun h₂ F₂ hs₂ => ?_
    replace hs₂ : Heap.SameBut L h h₂ := hs₂
    dsimp only
    refine wpAny_execs_cons (wpAny_Assign_Name (wpAny_BinOp (wpAny_Call_NameR (nm_b (T.keeps F₂.keep) T.abs boot_abs (PyProof.Rows.callWith_builtin1 (args_cons (nm_l F₂ (by rw [if_neg (by decide), if_neg (by decide)]; exact hm1) (args_nil (call_abs_int fun u tk3 => ?_)))))))))
    dsimp only
    refine wpAny_BinOp (wpAny_Constant_int (wpAny_Constant_int (pow_int (by decide) (by decide +kernel) (mul_int ?_ (.of_right (by decide +kernel))))))
    dsimp only
    refine st_l F₂ fun h₃ F₃ hs₃ => ?_
    replace hs₃ : Heap.SameBut L h₂ h₃ := hs₃
    dsimp only
    have hL₃ : h₃.IsList D ys.toArray := isList_at hL₁ fun o e => (hs₃.2 _ hDL).trans ((hs₂.2 _ hDL).trans e)
    clear hs₃ hs₂ F₂
    have hdl : (Nat.toDigits 16 (ab * 2 ^ 32).natAbs).length ≤ 20 := toDigits_len_pow (by decide) (by decide) (natAbs_mul_lt hab)
    have hline := small_line
    refine wpAny_execs_cons (wpAny_While (codeAny_whileLoop (fun k s' => ∃ h' tk m' l ds, s' = { s with heap := h', toks := tk } ∧ Fr h₀ L h' m' ∧ m' "above" = some (.int ab t) ∧ m' "row" = some (.ref D) ∧ (∃ t, m' "left" = some (.int ((l : Nat) : Int) t)) ∧ (∃ t, m' "figures" = some (.str (fg ds) t)) ∧ h'.IsList D ys.toArray ∧ FigI (ab * 2 ^ 32).natAbs l ds ∧ k = l + (if ds = [] then 1 else 0)) ?_ _ ⟨h₃, _, _, (ab * 2 ^ 32).natAbs, [], rfl, F₃, ?_, ?_, ⟨_, (if_pos rfl).trans (congrArg (fun z => some (Value.int z _)) abs_mul)⟩, ⟨_, (if_neg (by decide)).trans (if_pos rfl)⟩, hL₃, FigI.start _, rfl⟩))
    rotate_left
    · rw [if_neg (by decide), if_neg (by decide), if_neg (by decide)]; exact hm1
    · rw [if_neg (by decide), if_neg (by decide), if_pos rfl]
    rintro kk' s' ⟨h₄, tk₄, m₄, l, ds, rfl, F₄, ha₄, hr₄, ⟨tl, hl₄⟩, ⟨tf, hf₄⟩, hL₄, hI, rfl⟩
    clear F₃ hL₃
    refine wpAny_mono (Q := fun b s' => b = decide (l ≠ 0 ∨ ds = []) ∧ ∃ tk', s' = { s with heap := h₄, toks := tk' }) ?_ (fun b s' hb => ?_) fun _ _ x => x
    · refine isTrue_or ?_
      refine isTrue_plain ?_
      refine nm_l F₄ hl₄ (PyProof.Rows.truthy_int ?_)
      by_cases h0 : l = 0
      · refine ite_f (by simp [h0]) ?_
        refine isTrue_or ?_
        refine wpAny_isTrue_Compare1 (nm_l F₄ hf₄ (wpAny_Constant_str (PyProof.Rows.eq_str (wpAny_truthy_bool ?_))))
        dsimp only
        by_cases hd : ds = []
        · refine ite_t (by rw [fg_empty]; exact decide_eq_true hd) ⟨(decide_eq_true (.inr hd)).symm, _, rfl⟩
        · refine ite_f (by rw [fg_empty]; simpa using hd) (isTrue_or_nil ⟨(decide_eq_false fun x => x.elim (fun y => y h0) hd).symm, _, rfl⟩)
      · refine ite_t (by simpa using h0) ⟨(decide_eq_true (.inl h0)).symm, _, rfl⟩
    obtain ⟨rfl, tk5, rfl⟩ := hb
    by_cases hgo : l ≠ 0 ∨ ds = []
    · refine ite_t (decide_eq_true hgo) ?_
      have hlt : l % 16 < 16 := Nat.mod_lt _ (by decide)
      refine wpAny_execs_cons (wpAny_Assign_Name (wpAny_BinOp (Subscript_ (wpAny_Constant_str (wpAny_BinOp (nm_l F₄ hl₄ (wpAny_Constant_int (mod_int' (by decide) ?_))))))))
      dsimp only
      rw [nat_fmod]
      refine item_chr (hexch_lo _ hlt) (hexch _ hlt) ?_
      dsimp only
      refine nm_l F₄ hf₄ (add_str (fun t6 tk6 => ?_) ?_)
      · dsimp only
        rw [fg_cons]
        refine st_l F₄ fun h₅ F₅ hs₅ => ?_
        replace hs₅ : Heap.SameBut L h₄ h₅ := hs₅
        dsimp only
        refine wpAny_execs_cons (wpAny_Assign_Name (wpAny_BinOp (nm_l F₅ (by rw [if_neg (by decide)]; exact hl₄) (wpAny_Constant_int (floordiv_int (by decide) ?_ (.inl (PyProof.noPylong_small (by decide))))))))
        dsimp only
        rw [nat_fdiv]
        refine st_l F₅ fun h₆ F₆ hs₆ => ?_
        replace hs₆ : Heap.SameBut L h₅ h₆ := hs₆
        dsimp only
        refine wpAny_execs_nil ⟨l / 16 + 0, ?_, h₆, _, _, l / 16, Nat.digitChar (l % 16) :: ds, rfl, F₆, ?_, ?_, ⟨_, by rw [if_pos rfl]⟩, ⟨_, by rw [if_neg (by decide), if_pos rfl]⟩, isList_at hL₄ fun o e => (hs₆.2 _ hDL).trans ((hs₅.2 _ hDL).trans e), hI.step hgo, by rw [if_neg (by simp)]⟩
        · rcases hgo with hgo | hgo
          · split <;> omega
          · rw [if_pos hgo]; omega
        · rw [if_neg (by decide), if_neg (by decide)]; exact ha₄
        · rw [if_neg (by decide), if_neg (by decide)]; exact hr₄
      · have := hI.len
        rw [fg_len]
        show 1 + ds.length ≤ sizeLine
        omega
    · refine ite_f (by simpa using hgo) ?_
      have h0 : l = 0 := Classical.byContradiction fun x => hgo (.inl x)
      subst h0
      have hds := hI.fin (fun x => hgo (.inr x))
      subst hds
      refine wpAny_execs_nil ?_
      dsimp only
      refine wpAny_execs_cons (wpAny_If (wpAny_isTrue_Compare1 (nm_l F₄ ha₄ (wpAny_Constant_int (PyProof.Rows.lt_int (wpAny_truthy_bool ?_))))))
      dsimp only
      by_cases hneg : ab < 0
      · refine ite_t (decide_eq_true hneg) ?_
        refine wpAny_execs_cons (wpAny_Return_some (join_last F₄ hr₄ hf₄ hL₄ hys hrow23 hrowl (by decide) hdl fun h₇ t₇ tk₇ F₇ => ?_))
        dsimp only
        rw [text_neg hneg, ← etxt]
        exact k h₇ tk₇ _ t₇ F₇
      · refine ite_f (by simpa using hneg) (wpAny_execs_nil ?_)
        dsimp only
        refine wpAny_execs_cons (wpAny_Return_some (join_last F₄ hr₄ hf₄ hL₄ hys hrow23 hrowl (by decide) hdl fun h₇ t₇ tk₇ F₇ => ?_))
        dsimp only
        rw [text_nonneg hneg, ← etxt]
        exact k h₇ tk₇ _ t₇ F₇
end Mine
end

section 
open PySem PySem.W PyProof.Rows PySem.Calls PyProof.V
set_option maxRecDepth 100000
set_option maxHeartbeats 4000000
set_option linter.unusedVariables false
namespace Mine
variable {w : World} {A : Around} {E : Value → Shared → Prop} {s : Shared} {mg mb : Str → Option Value} {env : Env} {h₀ : Heap} {m : Str → Option Value}

theorem lt_ok {f : Value} {ab : Int} {t : Tok} {W Sa : Addr} {vs : Array Value} {S : Str → Bool} {kk : Nat} {Q : Value → Shared → Prop} (T : Tp w mg mb s.heap) (hroom : A.depth < recursionLimit) (hh : A.handled = none) (hf : mg "_law_text" = some f)
    (hW : s.heap.PlainList W vs) (hS : StrsAre vs.toList wordsL) (hO : SO w s.heap Sa S kk) (hab : ab.natAbs < 2 ^ 40)
    (k : ∀ h' tk t', (∀ b o, s.heap.get? b = some o → h'.get? b = some o) → Q (.str (txt (wordsL.filter S) ab) t') { s with heap := h', toks := tk }) :
    wpAny (model P w) A (call f [.ref Sa, .int ab t, .ref W]) Q E s := by
  obtain ⟨a, o, pm, cd, doc, e1, e2, e3, e4⟩ := T.lt
  rw [hf] at e1; cases e1
  refine wpAny_call (call_cellsN_ret (binds := [("held", .ref Sa), ("above", .int ab t), ("words", .ref W)]) hroom e2 e3 T.nolimit e4 (by with_unfolding_all rfl) ?_ (by decide +kernel) (fun h₁ tk cells F N X => ?_) rfl rfl rfl)
  · intro x hx
    simp only [List.mem_cons, List.not_mem_nil, or_false] at hx
    rcases hx with rfl | rfl | rfl
    · exact .inr ⟨by with_unfolding_all rfl, by with_unfolding_all rfl⟩
    · exact .inl (by with_unfolding_all rfl)
    · exact .inl (by with_unfolding_all rfl)
  · have ec : cellsFrom (s.heap.objs.size + 1) (fScope 15).names [] = [(("held" : Str), (s.heap.objs.size + 1 : Addr))] := by with_unfolding_all rfl
    rw [ec] at X
    obtain ⟨oc, rfl, hoc⟩ := X.one
    refine lt_body (t := t) (s := { s with heap := h₁, toks := tk }) T hh F rfl N (hoc.trans (by with_unfolding_all rfl)) hab (by with_unfolding_all rfl) (by with_unfolding_all rfl) hW hS hO fun h' tk m' t' F' => ?_
    exact k h' tk t' F'.keep
end Mine
end

section 
open PySem PySem.W PyProof.Rows PySem.Calls PyProof.V
set_option maxRecDepth 100000
set_option maxHeartbeats 4000000
set_option linter.unusedVariables false
namespace Mine
variable {w : World} {A : Around} {E : Value → Shared → Prop} {s : Shared} {mg mb : Str → Option Value} {env : Env} {h₀ : Heap} {m : Str → Option Value}

/-- a set fed from a list of strs, turn by turn -/
theorem set_loop {R : Result → Shared → Prop} {I l S : Addr} {items : Array Value} {ys : List Str} (hh : A.in1.handled = none) (hy : StrsAre items.toList ys) (hlI : l ≠ I) (hSI : S ≠ I) (hSl : S ≠ l) (hb : items.size + 1 < scanBound) :
    ∀ (k i : Nat) (s : Shared), items.size - i = k → i ≤ items.size → s.heap.IsListIter I l i → s.heap.IsList l items → (∃ kk, SO w s.heap S (fun x => decide (x ∈ ys.take i)) kk ∧ kk ≤ i) →
      (∀ h' tk kk, SO w h' S (fun x => decide (x ∈ ys)) kk → kk ≤ items.size → (∀ b o, b ≠ S → b ≠ I → s.heap.get? b = some o → h'.get? b = some o) → R (.ok (.ret .none)) { s with heap := h', toks := tk }) →
      codeAny (model P w) A (.builtin "set.update.loop" ⟨[.ref S, .ref I], []⟩) R s := by
  have hyl : ys.length = items.size := by have := strs_len hy; simpa using this.symm
  intro k
  induction k with
  | zero =>
    intro i s hk hi hit hl ⟨kk, hO, hkk⟩ hR
    obtain rfl : i = items.size := by omega
    refine codeAny_builtin PyProof.Rows.F.entry_set_update_loop ?_
    rw [Around.under_plainId PyProof.Rows.F.plain_set_update_loop _]
    show wpAny _ A.in1 (pyNext (.ref I) >>= _) _ _ s
    refine wpAny_bind (wpAny_pyNext_list_end hh hit hl (by simp) fun h' he => ?_)
    show wpAny _ A.in1 (ret Value.none) _ _ _
    refine wpAny_pure (hR h' s.toks kk ?_ hkk fun b o _ hb e => he b o hb e)
    rw [List.take_of_length_le (by omega)] at hO
    exact so_at hO fun o e => he S o hSI e
  | succ k ih =>
    intro i s hk hi hit hl ⟨kk, hO, hkk⟩ hR
    have hlt : i < items.size := by omega
    refine codeAny_builtin PyProof.Rows.F.entry_set_update_loop ?_
    rw [Around.under_plainId PyProof.Rows.F.plain_set_update_loop _]
    show wpAny _ A.in1 (pyNext (.ref I) >>= _) _ _ s
    obtain ⟨v, hv⟩ : ∃ v, items[i]? = some v := ⟨_, Array.getElem?_eq_getElem hlt⟩
    obtain ⟨y, t, hyi, rfl⟩ := strs_get hy (i := i) (v := v) (by simpa using hv)
    refine wpAny_bind (wpAny_pyNext_list_item hit hl hv fun h₁ hit₁ hs₁ => ?_)
    have hO₁ := so_at hO (h' := h₁) fun o e => (hs₁.2 S hSI).trans e
    have hl₁ : h₁.IsList l items := isList_at hl fun o e => (hs₁.2 l hlI).trans e
    show wpAny _ A.in1 (holding [Value.str y t] (setAdd S (.str y t)) >>= _) _ _ _
    refine wpAny_bind (wpAny_holding ?_)
    unfold setAdd
    refine wpAny_holding ?_
    refine wpAny_bind ((strKind P w).pyHash (k := y) (strKind_is _ _ _ _) ?_)
    refine wpAny_setAddHashed_of (knd := strKind P w) (s := { s with heap := h₁, toks := s.toks + 1 }) (strKind_is _ _ _ _) rfl hO₁ (by omega) fun h₂ hs₂ hO₂ => ?_
    replace hs₂ : Heap.SameBut S h₁ h₂ := hs₂
    have hit₂ : h₂.IsListIter I l (i + 1) := hit₁.extBut hs₂.extBut (Ne.symm hSI)
    have hl₂ : h₂.IsList l items := isList_at hl₁ fun o e => (hs₂.2 l (Ne.symm hSl)).trans e
    refine wpAny_pure ⟨plainId_quiet PyProof.Rows.F.plain_set_update_loop _, ih (i + 1) _ (by omega) hlt hit₂ hl₂ ⟨_, so_congr hO₂ fun x => ?_, ?_⟩ fun h' tk kk' h1 h2 h3 => ?_⟩
    · rw [List.take_add_one, hyi, Bool.eq_iff_iff]; simp
    · split <;> omega
    · exact hR h' tk kk' h1 h2 fun b o b1 b2 e => h3 b o b1 b2 ((hs₂.2 b b1).trans ((hs₁.2 b b2).trans e))
end Mine
end

section 
open PySem PySem.W PyProof.Rows PySem.Calls PyProof.V
set_option maxRecDepth 100000
set_option maxHeartbeats 4000000
set_option linter.unusedVariables false
namespace Mine
variable {w : World} {A : Around} {E : Value → Shared → Prop} {s : Shared}

abbrev newSetObj (led : Bool) : Obj := { cls := .type "set", dict := none, data := .set #[] 0 (.fresh 0 0 led) }

/-- the call's second half: the new set takes what the list holds -/
theorem set_init_strs {l : Addr} {items : Array Value} {ys : List Str} {led : Bool} (hh : A.handled = none) (hl : s.heap.IsList l items) (hy : StrsAre items.toList ys) (hb : items.size + 1 < scanBound) :
    codeAny (model P w) A (.call (.builtin "set.__init__") ⟨[.ref s.heap.objs.size, .ref l], []⟩) (wants (fun r s₂ => r = .none ∧ ∃ h' tk kk, s₂ = { s with heap := h', toks := tk } ∧ SO w h' s.heap.objs.size (fun x => decide (x ∈ ys)) kk ∧ kk ≤ items.size ∧
      (∀ b o, s.heap.get? b = some o → h'.get? b = some o)) E) { s with heap := s.heap.push (newSetObj led) } := by
  have hS : (s.heap.push (newSetObj led)).get? s.heap.objs.size = some (newSetObj led) := Heap.get?_push_size _ rfl
  have hT : Shared.TypeIs { s with heap := s.heap.push (newSetObj led) } (.ref s.heap.objs.size) "set" := ⟨_, hS, rfl⟩
  refine codeAny_call_builtin PySem.F.called_set.init.plain PySem.F.entry_set_init (check_set_init_1 hT ?_)
  obtain ⟨ol, hol, hcl, nl, hdl⟩ := hl
  obtain ⟨ocls, odict, odata, oslots⟩ := ol
  simp only at hcl hdl
  subst hcl; subst hdl
  have hol' : (s.heap.push (newSetObj led)).get? l = some { cls := .type "list", dict := odict, data := .seq items nl, slots := oslots } := Heap.get?_push_of_some _ hol
  have hsls := PySem.F.sub_list_set
  have hslf := PySem.F.sub_list_frozenset
  have hne : (Value.type "list" == Value.type "dict") = false := by decide
  have hl1 : (s.heap.push (newSetObj led)).IsList l items := ⟨_, hol', rfl, nl, rfl⟩
  unfold Builtin.«set.__init__» noKeywords Builtin.Frozenset.updateFrom
  generalize hPI : pyIter = PI
  wp_walk
  subst hPI
  refine wpAny_pyIter_list hl1 ?_
  refine wpAny_bind (wpAny_runValue ?_)
  have hlS : l < s.heap.objs.size := Heap.lt_size hol
  have hsz : (s.heap.push (newSetObj led)).objs.size = s.heap.objs.size + 1 := Heap.size_push ..
  refine set_loop (I := (s.heap.push (newSetObj led)).objs.size) (S := s.heap.objs.size) (by simp [hh]) hy (by rw [hsz]; exact Nat.ne_of_lt (Nat.lt_succ_of_lt hlS)) (by rw [hsz]; exact Nat.ne_of_lt (Nat.lt_succ_self _)) (Nat.ne_of_gt hlS) hb (items.size - 0) 0 _ rfl (Nat.zero_le _)
    ⟨_, Heap.get?_push_size _ rfl, rfl, rfl⟩ (hl1.push _) ⟨0, so_congr (so_at (so_new (w := w) led s.heap) fun o e => Heap.get?_push_of_some _ e) (fun x => by simp), Nat.le_refl _⟩ fun h' tk kk h1 h2 h3 => ?_
  show wpAny _ _ _ _ _ _
  refine wpAny_pure ?_
  show wpAny _ _ (ret Value.none) _ _ _
  refine wpAny_pure ⟨rfl, h', tk, kk, rfl, h1, h2, fun b o e => ?_⟩
  have hlt := Heap.lt_size e
  exact h3 b o (Nat.ne_of_lt hlt) (by rw [hsz]; exact Nat.ne_of_lt (Nat.lt_succ_of_lt hlt)) (Heap.get?_push_of_some _ (Heap.get?_push_of_some _ e))

theorem call_set_strs {l : Addr} {items : Array Value} {ys : List Str} {Q : Value → Shared → Prop} (hh : A.handled = none) (hl : s.heap.IsList l items) (hy : StrsAre items.toList ys) (hb : items.size + 1 < scanBound)
    (h : ∀ h' tk kk, SO w h' s.heap.objs.size (fun x => decide (x ∈ ys)) kk → kk ≤ items.size → (∀ b o, s.heap.get? b = some o → h'.get? b = some o) → Q (.ref s.heap.objs.size) { s with heap := h', toks := tk }) :
    wpAny (model P w) A (call (.type "set") [.ref l]) Q E s := by
  obtain ⟨c, tl, hmro⟩ := PySem.F.called_set.mro
  have hmade := PySem.F.called_set.made
  have hsub := PySem.F.called_set.sub
  refine wpAny_call (codeAny_of_tree ?_)
  show wpAny _ _ (callAny (.type "set") _) _ _ _
  refine wpAny_pure ⟨Code.quiet_builtin _ (by decide +kernel), codeAny_builtin PySem.F.entry_type_call ?_⟩
  rw [Around.under_plain (weight_type_call_type "set" [.ref l] []) rfl]
  have h1 := PySem.F.called_set.notType
  have h2 := PySem.F.called_set.canCreate
  have hct := PySem.F.typeCall_set_1 (.ref l)
  repeat (any_goals (first | assumption | wp_step))
  refine codeAny_mono (code_set_new_1 (.ref l) (E := E) (Q₁ := fun obj s₁ => ∃ led : Bool, obj = .ref s.heap.objs.size ∧ s₁ = { s with heap := s.heap.push (newSetObj led) }) fun led => ⟨led, rfl, rfl⟩) fun r s₁ hr => ?_
  cases r with
  | error e => exact hr
  | ok fl =>
    cases fl with
    | ret obj =>
      obtain ⟨led, rfl, rfl⟩ := hr
      have hS : (s.heap.push (newSetObj led)).get? s.heap.objs.size = some (newSetObj led) := Heap.get?_push_size _ rfl
      have hT : Shared.TypeIs { s with heap := s.heap.push (newSetObj led) } (.ref s.heap.objs.size) "set" := ⟨_, hS, rfl⟩
      have hli := PySem.F.called_set.init.lookup
      have hbi := PySem.F.called_set.init.bind (.ref s.heap.objs.size)
      repeat (any_goals (first | assumption | wp_step))
      refine codeAny_mono (set_init_strs (E := E) (led := led) (A := _) (by simp [hh]) hl hy hb) fun r₂ s₂ hr₂ => ?_
      cases r₂ with
      | error e => exact hr₂
      | ok fl₂ =>
        cases fl₂ with
        | ret r =>
          obtain ⟨rfl, h', tk, kk, rfl, h3, h4, h5⟩ := hr₂
          repeat (any_goals (first | assumption | wp_step))
          exact h _ _ _ h3 h4 h5
        | _ => exact hr₂.elim
    | _ => exact hr.elim
end Mine
end

section 
open PySem PySem.W PyProof.Rows PySem.Calls PyProof.V
set_option maxRecDepth 100000
set_option maxHeartbeats 4000000
set_option linter.unusedVariables false
namespace Mine
variable {w : World} {A : Around} {E : Value → Shared → Prop} {s : Shared} {mg mb : Str → Option Value} {env : Env} {h₀ : Heap} {m : Str → Option Value}

def jn (d x y : Int) : Int := if d = 2 then Builtin.bitOr x y else if d = 3 then Builtin.bitAnd x y else if d = 4 then Builtin.bitXor x y else Builtin.bitAnd x (-1 - y)
def jS (d : Int) (p q : Bool) : Bool := if d = 2 then p || q else if d = 3 then p && q else if d = 4 then p != q else p && !q
theorem and_compl (x y : Int) : Builtin.bitAnd x (-1 - y) = x - Builtin.bitAnd x y := by
  rw [← bitAnd_not, kbt_not]; congr 1; omega
theorem jx2 {d : Int} (h : d = 2) (x y : Int) : x + y - Builtin.bitAnd x y = jn d x y := by unfold jn; rw [if_pos h, bitOr_and]
theorem jx3 {d : Int} (h2 : d ≠ 2) (h : d = 3) (x y : Int) : Builtin.bitAnd x y = jn d x y := by unfold jn; rw [if_neg h2, if_pos h]
theorem jx4 {d : Int} (h2 : d ≠ 2) (h3 : d ≠ 3) (h : d = 4) (x y : Int) : x + y - 2 * Builtin.bitAnd x y = jn d x y := by unfold jn; rw [if_neg h2, if_neg h3, if_pos h, bitXor_and]
theorem jx5 {d : Int} (h2 : d ≠ 2) (h3 : d ≠ 3) (h4 : d ≠ 4) (x y : Int) : x - Builtin.bitAnd x y = jn d x y := by unfold jn; rw [if_neg h2, if_neg h3, if_neg h4, and_compl]

theorem news_ext {h h' : Heap} {L : Addr} {news : List (Addr × Obj)} (N : News h₀ L h news) (he : Heap.ExtBut h.objs.size h h') : News h₀ L h' news :=
  fun p hp => ⟨he p.1 _ (Nat.ne_of_lt (Heap.lt_size (N p hp).1)) (N p hp).1, (N p hp).2⟩
theorem news_grow {h h' : Heap} {L : Addr} {news : List (Addr × Obj)} (N : News h₀ L h news) (hk : ∀ b o, h.get? b = some o → h'.get? b = some o) : News h₀ L h' news :=
  fun p hp => ⟨hk _ _ (N p hp).1, (N p hp).2⟩
theorem news_same {h h' : Heap} {L : Addr} {news : List (Addr × Obj)} (N : News h₀ L h news) (hs : Heap.SameBut L h h') : News h₀ L h' news := N.set hs

/-- set([word for word in words if ..]) -/
theorem set_comp {ct elt iter : PySem.Expr} {x : Str} {px p1 p2 pos : Pos} {scope : Scope} {cl : List (Str × Addr)} {W L : Addr} {its : Array Value} {news : List (Addr × Obj)} {S : Str → Bool} {Q : Value → Shared → Prop}
    (T : Tp w mg mb h₀) (hh : A.handled = none) (F : Fr h₀ L s.heap m) (N : News h₀ L s.heap news)
    (hclos : closureFor scope env = pure cl) (hcell : ∀ y ∈ scope.names, y.2 ≠ .cell) (hkind : scope.kind = .function)
    (hnames : ∀ y ∈ scope.names, y.2 = .local → scope.names.lookup y.1 = some .local) (hx : scope.names.lookup x = some .local)
    (hiter : ∀ Q' : Value → Shared → Prop, Q' (.ref W) s → wpAny (model P w) A (eval iter env) Q' E s)
    (hW : h₀.IsList W its) (hSt : StrsAre its.toList wordsL)
    (helt : ∀ (s : Shared) C oC m₂ (h : Heap) tk v (E' : Value → Shared → Prop) (Q : Value → Shared → Prop), LCg.NsObj oC m₂ → m₂ x = some v → h.get? C = some oC → Q v { s with heap := h, toks := tk } → wpAny (model P w) A (eval elt (compEnvC scope cl C env)) Q E' { s with heap := h, toks := tk })
    (htest : ∀ (s : Shared) i t C oC m₂ (h : Heap) tk (E' : Value → Shared → Prop) (Q : Bool → Shared → Prop) nw, i < 32 → LCg.NsObj oC m₂ → m₂ x = some (.str (wd i) t) → h.get? C = some oC → News h₀ L h nw → (∀ p ∈ news, p ∈ nw) → Fr h₀ L h m → (∀ tk', Q (S (wd i)) { s with heap := h, toks := tk' }) →
      wpAny (model P w) A (PySem.isTrue ct (compEnvC scope cl C env) (eval ct (compEnvC scope cl C env))) Q E' { s with heap := h, toks := tk })
    (hQ : ∀ h' tk Sa kk, Fr h₀ L h' m → News h₀ L h' news → h₀.get? Sa = none → SO w h' Sa (fun y => decide (y ∈ wordsL.filter S)) kk → kk ≤ 32 → Q (.ref Sa) { s with heap := h', toks := tk })
    (hg : env.globals = mainGlobals := by rfl) (hb : env.builtins = builtinsNs := by rfl) (hk : env.scope.kind = .function := by rfl) (hx' : env.kindOf "set" = some .globalImplicit := by rfl) (hs : ∀ x, foldedSetIterable iter env x = pure x := by intro _; rfl) :
    wpAny (model P w) A (eval (.Call (.Name "set" p1) [.ListComp elt [⟨.Name x px, iter, [ct], 0⟩] scope pos] [] p2) env) Q E s := by
  have hz : its.size = 32 := by have := strs_len hSt; simpa [wordsL_len] using this
  refine wpAny_Call_NameR (nm_b (T.keeps F.keep) T.set boot_set ?_ (by decide) hg hb hk hx')
  refine PyProof.Rows.callWith_type1 (args_cons (LCt.ListComp_T F hclos hcell hkind hnames hx ?_ hs))
  refine hiter _ (LCt.CompSrcT.base hh F N hW (by rw [hz, sizeLine_eq]; decide) fun g => ?_)
  refine comp_rest (S := S) hW hSt (fun C oC m₂ h tk v E' Q' => helt _ C oC m₂ h tk v E' Q') (fun i t C oC m₂ h tk E' Q' nw => htest _ i t C oC m₂ h tk E' Q' nw) ?_
  intro ys hys D h tk F₁ N₁ off
  have hl : h.IsList D ys.toArray := ⟨_, N₁.get (List.mem_cons_self ..), rfl, _, rfl⟩
  have hyl : ys.length ≤ 32 := by
    rw [strs_len hys]; exact Nat.le_trans (List.length_filter_le ..) (by rw [wordsL_len]; exact Nat.le_refl _)
  refine args_nil (call_set_strs (ys := wordsL.filter S) hh hl (by simpa using hys) (by rw [List.size_toArray]; have : scanBound = 4096 := rfl; omega) fun h' tk' kk h1 h2 h3 => ?_)
  exact hQ h' tk' _ kk (fr_grow F₁ h3) (fun p hp => ⟨h3 _ _ (N₁ p (List.mem_cons_of_mem _ hp)).1, (N₁ p (List.mem_cons_of_mem _ hp)).2⟩) (fr_new F₁).1 h1 (by rw [List.size_toArray] at h2; omega)
end Mine
end

section 
open PySem PySem.W PyProof.Rows PySem.Calls PyProof.V
set_option maxRecDepth 100000
set_option maxHeartbeats 4000000
set_option linter.unusedVariables false
namespace Mine
variable {w : World} {A : Around} {E : Value → Shared → Prop} {s : Shared} {mg mb : Str → Option Value} {env : Env} {h₀ : Heap} {m : Str → Option Value}

/-- a tuple's place -/
theorem tup_at {L Tu : Addr} {x : Str} {p1 p2 p3 : Pos} {k : Nat} {i : Int} {items : Array Value} {j : Nat} {v : Value} {Q : Value → Shared → Prop} (F : Fr h₀ L s.heap m) (hx : m x = some (.ref Tu)) (ht : h₀.IsTuple Tu items)
    (hlo : -(2 ^ 63) ≤ i) (hhi : i < 2 ^ 63) (hj : seqIndex? i items.size = some j) (hv : items[j]? = some v) (h : Q v { s with toks := s.toks + 1 })
    (hL : env.locals = L := by rfl) (hk : env.scope.kind = .function := by rfl) (hl : env.kindOf x = some .local := by rfl) (hd : (x == ("__debug__" : Str)) = false := by decide) :
    wpAny (model P w) A (eval (.Subscript (.Name x p1) (.Constant (.int i) k p2) p3) env) Q E s := by
  refine Subscript_ (nm_l F hx (wpAny_Constant_int ?_) hL hk hl hd)
  exact item_tuple (s := { s with toks := s.toks + 1 }) (IsTup.keeps ht F.keep) hlo hhi hj hv h

theorem in_order2 {M : Model} {f g : Value → Sem Unit} {v1 v2 : Value} {Q : Unit → Shared → Prop} (h : wpAny M A (f v1) (fun _ s₁ => wpAny M A (g v2) Q E s₁) E s) : wpAny M A (assignInOrder [f, g] [v1, v2]) Q E s := by
  show wpAny M A (do holding [v2] (f v1); do holding [] (g v2); pure ()) Q E s
  exact wpAny_bind (wpAny_holding (wpAny_mono h (fun _ s₁ h₁ => wpAny_bind (wpAny_holding (wpAny_mono h₁ (fun _ _ x => wpAny_pure x) fun _ _ x => x))) fun _ _ x => x))
theorem unpack_n {t : Addr} {items : Array Value} {n : Nat} {Q : List Value → Shared → Prop} (hh : A.handled = none) (ht : s.heap.IsTuple t items) (hn : n = items.size)
    (hQ : ∀ h', Heap.ExtBut s.heap.objs.size s.heap h' → Q items.toList { s with heap := h' }) : wpAny (model P w) A (unpackItems (.ref t) n none) Q E s := by
  subst hn; exact wpAny_unpackItems_tuple hh ht hQ
theorem val_in {x y : Str} {p1 p2 : Pos} {scope : Scope} {cl : List (Str × Addr)} {C c L Sa : Addr} {oC o : Obj} {m₂ : Str → Option Value} {h : Heap} {tk : Nat} {v : Str} {t : Tok} {nw : List (Addr × Obj)} {Pp : Str → Bool} {kk : Nat} {Q : Value → Shared → Prop}
    (hC : LCg.NsObj oC m₂) (hx : m₂ x = some (.str v t)) (eC : h.get? C = some oC) (N : News h₀ L h nw) (hc : cl.lookup y = some c) (hm : (c, o) ∈ nw) (hd : o.data = .cell (some (.ref Sa))) (hO : SO w h Sa Pp kk)
    (hq : ∀ tk', Q (.bool (Pp v)) { s with heap := h, toks := tk' })
    (hk : (compEnvC scope cl C env).scope.kind = .function) (hkx : (compEnvC scope cl C env).kindOf x = some .local) (hky : (compEnvC scope cl C env).kindOf y = some .cell) (hdx : (x == ("__debug__" : Str)) = false) (hdy : (y == ("__debug__" : Str)) = false) :
    wpAny (model P w) A (eval (.Name x p1) (compEnvC scope cl C env)) (fun a s₁ => wpAny (model P w) A (eval (.Name y p2) (compEnvC scope cl C env)) (fun b s₂ => wpAny (model P w) A (compareOp .In a b) Q E s₂) E s₁) E { s with heap := h, toks := tk } := by
  refine wpAny_Name (wpAny_loadName_local hk hkx (hC.ns eC) hx ?_) hdx
  refine lcf_cell N hc hm hd ?_ hk hky hdy
  exact wpAny_inSet_of (knd := strKind P w) (strKind_is P w v t) rfl hO (hq _)
theorem val_notin {x y : Str} {p1 p2 : Pos} {scope : Scope} {cl : List (Str × Addr)} {C c L Sa : Addr} {oC o : Obj} {m₂ : Str → Option Value} {h : Heap} {tk : Nat} {v : Str} {t : Tok} {nw : List (Addr × Obj)} {Pp : Str → Bool} {kk : Nat} {Q : Value → Shared → Prop}
    (hC : LCg.NsObj oC m₂) (hx : m₂ x = some (.str v t)) (eC : h.get? C = some oC) (N : News h₀ L h nw) (hc : cl.lookup y = some c) (hm : (c, o) ∈ nw) (hd : o.data = .cell (some (.ref Sa))) (hO : SO w h Sa Pp kk)
    (hq : ∀ tk', Q (.bool (!Pp v)) { s with heap := h, toks := tk' })
    (hk : (compEnvC scope cl C env).scope.kind = .function) (hkx : (compEnvC scope cl C env).kindOf x = some .local) (hky : (compEnvC scope cl C env).kindOf y = some .cell) (hdx : (x == ("__debug__" : Str)) = false) (hdy : (y == ("__debug__" : Str)) = false) :
    wpAny (model P w) A (eval (.Name x p1) (compEnvC scope cl C env)) (fun a s₁ => wpAny (model P w) A (eval (.Name y p2) (compEnvC scope cl C env)) (fun b s₂ => wpAny (model P w) A (compareOp .NotIn a b) Q E s₂) E s₁) E { s with heap := h, toks := tk } := by
  refine wpAny_Name (wpAny_loadName_local hk hkx (hC.ns eC) hx ?_) hdx
  refine lcf_cell N hc hm hd ?_ hk hky hdy
  exact wpAny_notInSet_of (knd := strKind P w) (strKind_is P w v t) rfl hO (hq _)

theorem lj_body {L a W T1 T2 S1 S2 : Addr} {ca cb : Obj} {cd : Value} {d n1 n2 x1 x2 : Int} {td t1 t2 u1 u2 : Tok} {vs : Array Value} {P1 P2 : Str → Bool} {k1 k2 : Nat} {Q : Flow → Shared → Prop} (T : Tp w mg mb h₀) (hh : A.handled = none) (F : Fr h₀ L s.heap m)
    (N : News h₀ L s.heap [(L + 2, cb), (L + 1, ca)]) (hca : ca.data = .cell none) (hcb : cb.data = .cell none)
    (hm1 : m "deed" = some (.int d td)) (hm2 : m "one" = some (.ref T1)) (hm3 : m "two" = some (.ref T2)) (hm4 : m "words" = some (.ref W))
    (hT1 : h₀.IsTuple T1 #[.int n1 t1, .ref S1, .int x1 u1]) (hT2 : h₀.IsTuple T2 #[.int n2 t2, .ref S2, .int x2 u2])
    (hW : h₀.PlainList W vs) (hS : StrsAre vs.toList wordsL) (hO1 : SO w h₀ S1 P1 k1) (hO2 : SO w h₀ S2 P2 k2)
    (k : ∀ h' tk m' Tu Sa t1 t2 kk, Fr h₀ L h' m' → h₀.get? Tu = none → h₀.get? Sa = none → h'.IsTuple Tu #[.int (jn d n1 n2) t1, .ref Sa, .int (jn d x1 x2) t2] → SO w h' Sa (fun y => decide (y ∈ wordsL.filter fun z => jS d (P1 z) (P2 z))) kk → kk ≤ 32 → Q (.ret (.ref Tu)) { s with heap := h', toks := tk }) :
    wpAny (model P w) A (execs (fBody 16) (envOfC "_law_join" (fScope 16) L a cd)) Q E s := by
  (generalize hb9 : fBody _ = b9; simp only [fBody, rawTop, P, PySem.Challenge.pw_dm0070_04, List.getD, List.getElem?_cons_succ, List.getElem?_cons_zero, Option.getD_some] at hb9; subst hb9)
  have hll : ∀ x t, (Value.str x t).scannable = true := fun _ _ => rfl
  refine wpAny_execs_cons (PyProof.Rows.Assign_Tuple (Tuple_ (args_cons (tup_at F hm2 hT1 (by decide) (by decide) rfl rfl (args_cons (tup_at F hm3 hT2 (by decide) (by decide) rfl rfl (args_nil (wpAny_newObj_type ?_))))))))
  dsimp only
  have F1 := F.push { cls := .type "tuple", data := .seq #[.ref S1, .ref S2] }
  have N1 : News h₀ L (s.heap.push { cls := .type "tuple", data := .seq #[.ref S1, .ref S2] }) [(L + 2, cb), (L + 1, ca)] := news_grow N fun b o e => Heap.get?_push_of_some _ e
  have hTu : (s.heap.push { cls := .type "tuple", data := .seq #[.ref S1, .ref S2] }).IsTuple s.heap.objs.size #[.ref S1, .ref S2] := ⟨_, Heap.get?_push_size _ rfl, rfl, _, rfl⟩
  refine wpAny_assign_Tuple hh hTu rfl rfl fun h₁ he₁ => ?_
  dsimp only at he₁ ⊢
  have F₁ := F1.extBut he₁ (Nat.le_refl _)
  have N₁ := news_ext N1 he₁
  clear hTu he₁ F1 N1
  have e1 : (cellsFrom (L + 1) (fScope 16).names []).lookup ("a" : Str) = some (L + 1) := by with_unfolding_all rfl
  have e2 : (cellsFrom (L + 1) (fScope 16).names []).lookup ("b" : Str) = some (L + 2) := by with_unfolding_all rfl
  have hne : L + 2 ≠ L + 1 := fun e => absurd (Nat.add_left_cancel e) (by decide)
  refine in_order2 (wpAny_assign_Name (stCN (x := "a") (own := [(L + 2, cb)]) (rest := []) F₁ N₁ e1 hca (fun p hp => by rw [List.mem_singleton.mp hp]; exact hne) (fun p hp => nomatch hp) fun h₂ oa F₂ N₂ hoa => ?_))
  dsimp only
  refine wpAny_assign_Name (stCN (x := "b") (own := []) (rest := [(L + 1, oa)]) F₂ N₂ e2 hcb (fun p hp => nomatch hp) (fun p hp => by rw [List.mem_singleton.mp hp]; exact Ne.symm hne) fun h₃ ob F₃ N₃ hob => ?_)
  dsimp only
  clear F₁ N₁ F₂ N₂ hca hcb e1 e2
  refine wpAny_execs_cons (Assign_Tuple_swapped (names := ["x", "y"]) (Tuple_ (args_cons (tup_at F₃ hm2 hT1 (by decide) (by decide) rfl rfl (args_cons (tup_at F₃ hm3 hT2 (by decide) (by decide) rfl rfl (args_nil (wpAny_newObj_type ?_))))))))
  dsimp only
  have F4 := F₃.push { cls := .type "tuple", data := .seq #[.int x1 u1, .int x2 u2] }
  have N4 : News h₀ L (h₃.push { cls := .type "tuple", data := .seq #[.int x1 u1, .int x2 u2] }) [(L + 2, ob), (L + 1, oa)] := news_grow N₃ fun b o e => Heap.get?_push_of_some _ e
  have hTu : (h₃.push { cls := .type "tuple", data := .seq #[.int x1 u1, .int x2 u2] }).IsTuple h₃.objs.size #[.int x1 u1, .int x2 u2] := ⟨_, Heap.get?_push_size _ rfl, rfl, _, rfl⟩
  refine unpack_n hh hTu rfl fun h₄ he₄ => ?_
  dsimp only at he₄ ⊢
  have F₄ := F4.extBut he₄ (Nat.le_refl _)
  have N₄ := news_ext N4 he₄
  clear hTu he₄ F4 N4 F₃ N₃
  refine in_order2 (bindName_ (st_l F₄ fun h₅ F₅ hs₅ => ?_))
  have N₅ := news_same N₄ (h' := h₅) hs₅
  dsimp only
  refine bindName_ (st_l F₅ fun h₆ F₆ hs₆ => ?_)
  have N₆ := news_same N₅ (h' := h₆) hs₆
  dsimp only
  clear hs₅ hs₆ F₄ F₅ N₄ N₅
  generalize hM : (fun y => if y = Str.ofString "x" then some (Value.int x1 u1) else if y = Str.ofString "y" then some (Value.int x2 u2) else m y) = M at *
  have g1 : M "deed" = some (.int d td) := by rw [← hM]; exact hm1
  have g2 : M "one" = some (.ref T1) := by rw [← hM]; exact hm2
  have g3 : M "two" = some (.ref T2) := by rw [← hM]; exact hm3
  have g4 : M "words" = some (.ref W) := by rw [← hM]; exact hm4
  have g5 : M "x" = some (.int x1 u1) := by rw [← hM]; rfl
  have g6 : M "y" = some (.int x2 u2) := by rw [← hM]; rfl
  clear hM
  have ma : ∀ {nw : List (Addr × Obj)}, (∀ p ∈ [((L + 2 : Addr), ob), (L + 1, oa)], p ∈ nw) → ((L + 1 : Addr), oa) ∈ nw := fun h => h _ (by simp)
  have mb' : ∀ {nw : List (Addr × Obj)}, (∀ p ∈ [((L + 2 : Addr), ob), (L + 1, oa)], p ∈ nw) → ((L + 2 : Addr), ob) ∈ nw := fun h => h _ (by simp)
  have fin : ∀ (h₇ : Heap) (tk₇ : Nat) (Sa : Addr) (kk : Nat) (tN tX : Tok) (NN XX : Int), NN = jn d n1 n2 → XX = jn d x1 x2 → Fr h₀ L h₇ M → h₀.get? Sa = none → SO w h₇ Sa (fun y => decide (y ∈ wordsL.filter fun z => jS d (P1 z) (P2 z))) kk → kk ≤ 32 →
      wpAny (model P w) A (newTuple [.int NN tN, .ref Sa, .int XX tX]) (fun v s' => Q (.ret v) s') E { s with heap := h₇, toks := tk₇ } := by
    rintro h₇ tk₇ Sa kk tN tX _ _ rfl rfl F₇ hSa hO hkk
    refine wpAny_newObj_type ?_
    exact k _ _ _ _ _ _ _ _ (F₇.push _) (fr_new F₇).1 hSa ⟨_, Heap.get?_push_size _ rfl, rfl, _, rfl⟩ (so_at hO fun o e => Heap.get?_push_of_some _ e) hkk
  refine wpAny_execs_cons (wpAny_If (wpAny_isTrue_Compare1 (nm_l F₆ g1 (wpAny_Constant_int (PyProof.Rows.eq_int (wpAny_truthy_bool ?_))))))
  dsimp only
  by_cases h2 : d = 2
  · refine ite_t (by simpa using h2) ?_
    refine wpAny_execs_cons (wpAny_Return_some (Tuple_ (args_cons (wpAny_BinOp (tup_at F₆ g2 hT1 (by decide) (by decide) rfl rfl (tup_at F₆ g3 hT2 (by decide) (by decide) rfl rfl (PyProof.Rows.or_int (args_cons ?_))))))))
    dsimp only
    refine set_comp (S := fun z => jS d (P1 z) (P2 z)) (cl := [("b", L + 2), ("a", L + 1)]) (x := "word") T hh F₆ N₆ rfl (by decide) rfl (by decide) rfl (fun Q' hq => nm_l F₆ g4 hq) hW.isList hS ?_ ?_ ?_
    · intro s C oC m₂ h tk v E' Q' hC hx eC hq
      exact wpAny_Name (wpAny_loadName_local rfl rfl (hC.ns eC) hx hq) (by decide)
    · intro s i t' C oC m₂ h tk E' Q' nw hi hC hx eC N' sub F' hq
      refine isTrue_or ?_
      refine wpAny_isTrue_Compare1 (val_in hC hx eC N' rfl (ma sub) hoa (so_at hO1 (F'.keep _)) (fun tk1 => wpAny_truthy_bool ?_) rfl rfl rfl rfl rfl)
      have e0 : jS d (P1 (wd i)) (P2 (wd i)) = (P1 (wd i) || P2 (wd i)) := by unfold jS; rw [if_pos h2]
      rw [e0] at hq
      by_cases q1 : P1 (wd i) = true
      · rw [q1, Bool.true_or] at hq
        exact ite_t q1 (hq tk1)
      · have q1' : P1 (wd i) = false := by simpa using q1
        rw [q1', Bool.false_or] at hq
        refine ite_f q1 (isTrue_or ?_)
        refine wpAny_isTrue_Compare1 (val_in hC hx eC N' rfl (mb' sub) hob (so_at hO2 (F'.keep _)) (fun tk2 => wpAny_truthy_bool ?_) rfl rfl rfl rfl rfl)
        by_cases q2 : P2 (wd i) = true
        · rw [q2] at hq
          exact ite_t q2 (hq tk2)
        · have q2' : P2 (wd i) = false := by simpa using q2
          rw [q2'] at hq
          exact ite_f q2 (isTrue_or_nil (hq tk2))
    · intro h₇ tk₇ Sa kk F₇ N₇ hSa hO hkk
      refine args_cons (wpAny_BinOp (wpAny_BinOp (nm_l F₇ g5 (nm_l F₇ g6 (PyProof.Rows.add_int (wpAny_BinOp (nm_l F₇ g5 (nm_l F₇ g6 (and_int (PyProof.Rows.sub_int (args_nil ?_)))))))))))
      dsimp only
      exact fin h₇ _ Sa kk _ _ _ _ (by unfold jn; rw [if_pos h2]) (jx2 h2 _ _) F₇ hSa hO hkk
  refine ite_f (by simpa using h2) (wpAny_execs_nil ?_)
  dsimp only
  refine wpAny_execs_cons (wpAny_If (wpAny_isTrue_Compare1 (nm_l F₆ g1 (wpAny_Constant_int (PyProof.Rows.eq_int (wpAny_truthy_bool ?_))))))
  dsimp only
  by_cases h3 : d = 3
  · refine ite_t (by simpa using h3) ?_
    refine wpAny_execs_cons (wpAny_Return_some (Tuple_ (args_cons (wpAny_BinOp (tup_at F₆ g2 hT1 (by decide) (by decide) rfl rfl (tup_at F₆ g3 hT2 (by decide) (by decide) rfl rfl (and_int (args_cons ?_))))))))
    dsimp only
    refine set_comp (S := fun z => jS d (P1 z) (P2 z)) (cl := [("b", L + 2), ("a", L + 1)]) (x := "word") T hh F₆ N₆ rfl (by decide) rfl (by decide) rfl (fun Q' hq => nm_l F₆ g4 hq) hW.isList hS ?_ ?_ ?_
    · intro s C oC m₂ h tk v E' Q' hC hx eC hq
      exact wpAny_Name (wpAny_loadName_local rfl rfl (hC.ns eC) hx hq) (by decide)
    · intro s i t' C oC m₂ h tk E' Q' nw hi hC hx eC N' sub F' hq
      refine isTrue_and ?_
      refine wpAny_isTrue_Compare1 (val_in hC hx eC N' rfl (ma sub) hoa (so_at hO1 (F'.keep _)) (fun tk1 => wpAny_truthy_bool ?_) rfl rfl rfl rfl rfl)
      have e0 : jS d (P1 (wd i)) (P2 (wd i)) = (P1 (wd i) && P2 (wd i)) := by unfold jS; rw [if_neg h2, if_pos h3]
      rw [e0] at hq
      by_cases q1 : P1 (wd i) = true
      · rw [q1, Bool.true_and] at hq
        refine ite_t q1 (isTrue_and ?_)
        refine wpAny_isTrue_Compare1 (val_in hC hx eC N' rfl (mb' sub) hob (so_at hO2 (F'.keep _)) (fun tk2 => wpAny_truthy_bool ?_) rfl rfl rfl rfl rfl)
        by_cases q2 : P2 (wd i) = true
        · rw [q2] at hq
          exact ite_t q2 (isTrue_and_nil (hq tk2))
        · have q2' : P2 (wd i) = false := by simpa using q2
          rw [q2'] at hq
          exact ite_f q2 (hq tk2)
      · have q1' : P1 (wd i) = false := by simpa using q1
        rw [q1', Bool.false_and] at hq
        exact ite_f q1 (hq tk1)
    · intro h₇ tk₇ Sa kk F₇ N₇ hSa hO hkk
      refine args_cons (wpAny_BinOp (nm_l F₇ g5 (nm_l F₇ g6 (and_int (args_nil ?_)))))
      dsimp only
      exact fin h₇ _ Sa kk _ _ _ _ (by unfold jn; rw [if_neg h2, if_pos h3]) (jx3 h2 h3 _ _) F₇ hSa hO hkk
  refine ite_f (by simpa using h3) (wpAny_execs_nil ?_)
  dsimp only
  refine wpAny_execs_cons (wpAny_If (wpAny_isTrue_Compare1 (nm_l F₆ g1 (wpAny_Constant_int (PyProof.Rows.eq_int (wpAny_truthy_bool ?_))))))
  dsimp only
  by_cases h4 : d = 4
  · refine ite_t (by simpa using h4) ?_
    refine wpAny_execs_cons (wpAny_Return_some (Tuple_ (args_cons (wpAny_BinOp (tup_at F₆ g2 hT1 (by decide) (by decide) rfl rfl (tup_at F₆ g3 hT2 (by decide) (by decide) rfl rfl (xor_int (args_cons ?_))))))))
    dsimp only
    refine set_comp (S := fun z => jS d (P1 z) (P2 z)) (cl := [("b", L + 2), ("a", L + 1)]) (x := "word") T hh F₆ N₆ rfl (by decide) rfl (by decide) rfl (fun Q' hq => nm_l F₆ g4 hq) hW.isList hS ?_ ?_ ?_
    · intro s C oC m₂ h tk v E' Q' hC hx eC hq
      exact wpAny_Name (wpAny_loadName_local rfl rfl (hC.ns eC) hx hq) (by decide)
    · intro s i t' C oC m₂ h tk E' Q' nw hi hC hx eC N' sub F' hq
      have e0 : jS d (P1 (wd i)) (P2 (wd i)) = (P1 (wd i) != P2 (wd i)) := by unfold jS; rw [if_neg h2, if_neg h3, if_pos h4]
      rw [e0] at hq
      refine wpAny_isTrue_Compare1 (wpAny_Compare1 (val_in hC hx eC N' rfl (ma sub) hoa (so_at hO1 (F'.keep _)) (fun tk1 => ?_) rfl rfl rfl rfl rfl))
      refine wpAny_Compare1 (val_in hC hx eC N' rfl (mb' sub) hob (so_at hO2 (F'.keep _)) (fun tk2 => ?_) rfl rfl rfl rfl rfl)
      exact ne_bool (wpAny_truthy_bool (hq tk2))
    · intro h₇ tk₇ Sa kk F₇ N₇ hSa hO hkk
      refine args_cons (wpAny_BinOp (wpAny_BinOp (nm_l F₇ g5 (nm_l F₇ g6 (PyProof.Rows.add_int (wpAny_BinOp (wpAny_Constant_int (wpAny_BinOp (nm_l F₇ g5 (nm_l F₇ g6 (and_int (mul_int (PyProof.Rows.sub_int (args_nil ?_)) (.of_left (by decide +kernel))))))))))))))
      dsimp only
      exact fin h₇ _ Sa kk _ _ _ _ (by unfold jn; rw [if_neg h2, if_neg h3, if_pos h4]) (jx4 h2 h3 h4 _ _) F₇ hSa hO hkk
  refine ite_f (by simpa using h4) (wpAny_execs_nil ?_)
  dsimp only
  refine wpAny_execs_cons (wpAny_Return_some (Tuple_ (args_cons (wpAny_BinOp (tup_at F₆ g2 hT1 (by decide) (by decide) rfl rfl (wpAny_BinOp (wpAny_UnaryOp (wpAny_Constant_int (neg_int (tup_at F₆ g3 hT2 (by decide) (by decide) rfl rfl (PyProof.Rows.sub_int (and_int (args_cons ?_))))))))))))) 
  dsimp only
  refine set_comp (S := fun z => jS d (P1 z) (P2 z)) (cl := [("b", L + 2), ("a", L + 1)]) (x := "word") T hh F₆ N₆ rfl (by decide) rfl (by decide) rfl (fun Q' hq => nm_l F₆ g4 hq) hW.isList hS ?_ ?_ ?_
  · intro s C oC m₂ h tk v E' Q' hC hx eC hq
    exact wpAny_Name (wpAny_loadName_local rfl rfl (hC.ns eC) hx hq) (by decide)
  · intro s i t' C oC m₂ h tk E' Q' nw hi hC hx eC N' sub F' hq
    refine isTrue_and ?_
    refine wpAny_isTrue_Compare1 (val_in hC hx eC N' rfl (ma sub) hoa (so_at hO1 (F'.keep _)) (fun tk1 => wpAny_truthy_bool ?_) rfl rfl rfl rfl rfl)
    have e0 : jS d (P1 (wd i)) (P2 (wd i)) = (P1 (wd i) && !P2 (wd i)) := by unfold jS; rw [if_neg h2, if_neg h3, if_neg h4]
    rw [e0] at hq
    by_cases q1 : P1 (wd i) = true
    · rw [q1, Bool.true_and] at hq
      refine ite_t q1 (isTrue_and ?_)
      refine wpAny_isTrue_Compare1 (val_notin hC hx eC N' rfl (mb' sub) hob (so_at hO2 (F'.keep _)) (fun tk2 => wpAny_truthy_bool ?_) rfl rfl rfl rfl rfl)
      by_cases q2 : (!P2 (wd i)) = true
      · rw [q2] at hq
        exact ite_t q2 (isTrue_and_nil (hq tk2))
      · have q2' : (!P2 (wd i)) = false := by simpa using q2
        rw [q2'] at hq
        exact ite_f q2 (hq tk2)
    · have q1' : P1 (wd i) = false := by simpa using q1
      rw [q1', Bool.false_and] at hq
      exact ite_f q1 (hq tk1)
  · intro h₇ tk₇ Sa kk F₇ N₇ hSa hO hkk
    refine args_cons (wpAny_BinOp (nm_l F₇ g5 (wpAny_BinOp (nm_l F₇ g5 (nm_l F₇ g6 (and_int (PyProof.Rows.sub_int (args_nil ?_))))))))
    dsimp only
    exact fin h₇ _ Sa kk _ _ _ _ (by unfold jn; rw [if_neg h2, if_neg h3, if_neg h4]) (jx5 h2 h3 h4 _ _) F₇ hSa hO hkk
end Mine
end

section 
open PySem PySem.W PyProof.Rows PySem.Calls PyProof.V
set_option maxRecDepth 100000
set_option maxHeartbeats 4000000
set_option linter.unusedVariables false
namespace Mine
variable {w : World} {A : Around} {E : Value → Shared → Prop} {s : Shared} {mg mb : Str → Option Value} {env : Env} {h₀ : Heap} {m : Str → Option Value}

theorem lj_ok {f : Value} {W T1 T2 S1 S2 : Addr} {d n1 n2 x1 x2 : Int} {td t1 t2 u1 u2 : Tok} {vs : Array Value} {P1 P2 : Str → Bool} {k1 k2 : Nat} {Q : Value → Shared → Prop} (T : Tp w mg mb s.heap) (hroom : A.depth < recursionLimit) (hh : A.handled = none) (hf : mg "_law_join" = some f)
    (hT1 : s.heap.IsTuple T1 #[.int n1 t1, .ref S1, .int x1 u1]) (hT2 : s.heap.IsTuple T2 #[.int n2 t2, .ref S2, .int x2 u2])
    (hW : s.heap.PlainList W vs) (hS : StrsAre vs.toList wordsL) (hO1 : SO w s.heap S1 P1 k1) (hO2 : SO w s.heap S2 P2 k2)
    (k : ∀ h' tk Tu Sa t1 t2 kk, (∀ b o, s.heap.get? b = some o → h'.get? b = some o) → s.heap.get? Tu = none → s.heap.get? Sa = none → h'.IsTuple Tu #[.int (jn d n1 n2) t1, .ref Sa, .int (jn d x1 x2) t2] → SO w h' Sa (fun y => decide (y ∈ wordsL.filter fun z => jS d (P1 z) (P2 z))) kk → kk ≤ 32 → Q (.ref Tu) { s with heap := h', toks := tk }) :
    wpAny (model P w) A (call f [.int d td, .ref T1, .ref T2, .ref W]) Q E s := by
  obtain ⟨a, o, pm, cd, doc, e1, e2, e3, e4⟩ := T.lj
  rw [hf] at e1; cases e1
  refine wpAny_call (call_cellsN_ret (binds := [("deed", .int d td), ("one", .ref T1), ("two", .ref T2), ("words", .ref W)]) hroom e2 e3 T.nolimit e4 (by with_unfolding_all rfl) ?_ (by decide +kernel) (fun h₁ tk cells F N X => ?_) rfl rfl rfl)
  · intro x hx
    simp only [List.mem_cons, List.not_mem_nil, or_false] at hx
    rcases hx with rfl | rfl | rfl | rfl
    · exact .inl (by with_unfolding_all rfl)
    · exact .inl (by with_unfolding_all rfl)
    · exact .inl (by with_unfolding_all rfl)
    · exact .inl (by with_unfolding_all rfl)
  · have ec : cellsFrom (s.heap.objs.size + 1) (fScope 16).names [] = [(("b" : Str), (s.heap.objs.size + 2 : Addr)), (("a" : Str), (s.heap.objs.size + 1 : Addr))] := by with_unfolding_all rfl
    rw [ec] at X
    obtain ⟨cb, ca, rfl, hcb, hca⟩ := X.two
    refine lj_body (td := td) (s := { s with heap := h₁, toks := tk }) T hh F N (hca.trans (by with_unfolding_all rfl)) (hcb.trans (by with_unfolding_all rfl)) (by with_unfolding_all rfl) (by with_unfolding_all rfl) (by with_unfolding_all rfl) (by with_unfolding_all rfl) hT1 hT2 hW hS hO1 hO2 fun h' tk m' Tu Sa t1 t2 kk F' g1 g2 g3 g4 g5 => ?_
    exact k h' tk Tu Sa t1 t2 kk F'.keep g1 g2 g3 g4 g5
end Mine
end

section 
open PySem PySem.W PyProof.Rows PySem.Calls PyProof.V
set_option maxRecDepth 100000
set_option maxHeartbeats 4000000
set_option linter.unusedVariables false
namespace Mine
variable {w : World} {A : Around} {E : Value → Shared → Prop} {s : Shared} {mg mb : Str → Option Value} {env : Env} {h₀ : Heap} {m : Str → Option Value}

def isTS (o : Obj) : Prop := (o.cls = .type "tuple" ∧ ∃ i n, o.data = .seq i n) ∨ ∃ es ep t, o.data = .set es ep t
/-- tuples and sets stay -/
def KT (h h' : Heap) : Prop := ∀ b o, isTS o → h.get? b = some o → h'.get? b = some o
theorem KT.trans {h h' h'' : Heap} (a : KT h h') (b : KT h' h'') : KT h h'' := fun x o t e => b x o t (a x o t e)
theorem KT.grow {h h' : Heap} (hk : ∀ b o, h.get? b = some o → h'.get? b = some o) : KT h h' := fun b o _ e => hk b o e
theorem nts_ns {h : Heap} {L : Addr} (x : h.Ns L m) : ∀ o, h.get? L = some o → ¬ isTS o := by
  intro o e t
  obtain ⟨o', es, ep, e', hd, _⟩ := x
  rw [e] at e'; cases e'
  rcases t with ⟨_, i, n, h2⟩ | ⟨_, _, _, h2⟩ <;> rw [hd] at h2 <;> cases h2
theorem nts_list {h : Heap} {L : Addr} {vs : Array Value} (x : h.PlainList L vs) : ∀ o, h.get? L = some o → ¬ isTS o := by
  intro o e t
  obtain ⟨n, e'⟩ := x
  rw [e] at e'; cases e'
  rcases t with ⟨h1, _⟩ | ⟨_, _, _, h2⟩
  · simp at h1
  · cases h2
theorem nts_iter {h : Heap} {I l : Addr} {i : Nat} (x : h.IsListIter I l i) : ∀ o, h.get? I = some o → ¬ isTS o := by
  intro o e t
  obtain ⟨o', e', _, hd⟩ := x
  rw [e] at e'; cases e'
  rcases t with ⟨_, i, n, h2⟩ | ⟨_, _, _, h2⟩ <;> rw [hd] at h2 <;> cases h2
theorem KT.same {h h' : Heap} {a : Addr} (hs : Heap.SameBut a h h') (hn : ∀ o, h.get? a = some o → ¬ isTS o) : KT h h' := fun b o t e => by
  by_cases q : b = a
  · subst q; exact absurd t (hn o e)
  · exact (hs.2 b q).trans e
theorem KT.but2 {h h' : Heap} {a b : Addr} (hk : ∀ x o, x ≠ a → x ≠ b → h.get? x = some o → h'.get? x = some o) (hna : ∀ o, h.get? a = some o → ¬ isTS o) (hnb : ∀ o, h.get? b = some o → ¬ isTS o) : KT h h' := fun x o t e => by
  by_cases q : x = a
  · subst q; exact absurd t (hna o e)
  by_cases q2 : x = b
  · subst q2; exact absurd t (hnb o e)
  exact hk x o q q2 e

/-- what waits: a number beside its set and what stands above -/
def Item (w : World) (h : Heap) (v : Value) : Prop := ∃ Tu Sa n t t' S kk, v = .ref Tu ∧ h.IsTuple Tu #[.int n t, .ref Sa, .int (n / 2 ^ 32) t'] ∧ SO w h Sa S kk ∧ (∀ j, j < 32 → S (wd j) = bit n j) ∧ Small n
theorem isTuple_kt {h h' : Heap} {Tu : Addr} {vs : Array Value} (x : h.IsTuple Tu vs) (k : KT h h') : h'.IsTuple Tu vs := by
  obtain ⟨o, e, hc, n, hd⟩ := x
  exact ⟨o, k _ o (.inl ⟨hc, vs, n, hd⟩) e, hc, n, hd⟩
theorem so_kt {h h' : Heap} {Sa : Addr} {S : Str → Bool} {kk : Nat} (x : SO w h Sa S kk) (k : KT h h') : SO w h' Sa S kk := by
  obtain ⟨o, es, ep, t, e, hc, hd, r⟩ := x
  exact ⟨o, es, ep, t, k _ o (.inr ⟨es, ep, t, hd⟩) e, hc, hd, r⟩
theorem Item.kt {h h' : Heap} {v : Value} (x : Item w h v) (k : KT h h') : Item w h' v := by
  obtain ⟨Tu, Sa, n, t, t', S, kk, rfl, h1, h2, h3, h4⟩ := x
  exact ⟨Tu, Sa, n, t, t', S, kk, rfl, isTuple_kt h1 k, so_kt h2 k, h3, h4⟩
def Items (w : World) (h : Heap) (vs : Array Value) : Prop := ∀ v ∈ vs, Item w h v
theorem Items.kt {h h' : Heap} {vs : Array Value} (x : Items w h vs) (k : KT h h') : Items w h' vs := fun v hv => (x v hv).kt k
theorem Items.push {h : Heap} {vs : Array Value} {v : Value} (x : Items w h vs) (y : Item w h v) : Items w h (vs.push v) := by
  intro u hu
  rcases Array.mem_push.mp hu with hu | rfl
  · exact x u hu
  · exact y
theorem Items.pop {h : Heap} {vs : Array Value} (x : Items w h vs) : Items w h vs.pop := fun v hv => x v (Array.mem_def.mpr (List.dropLast_subset _ (by rw [← Array.toList_pop]; exact Array.mem_def.mp hv)))
theorem Items.last {h : Heap} {vs : Array Value} (x : Items w h vs) (hz : vs.size ≠ 0) : ∃ v, vs[vs.size - 1]? = some v ∧ Item w h v := by
  have hlt : vs.size - 1 < vs.size := by omega
  exact ⟨vs[vs.size - 1], Array.getElem?_eq_getElem hlt, x _ (Array.getElem_mem hlt)⟩

/-! ## plain laws -/
theorem small_above {n : Int} (h : Small n) : (n / 2 ^ 32).natAbs < 2 ^ 40 := by unfold Small at h; omega
theorem text_is {S : Str → Bool} {n : Int} (h : ∀ j, j < 32 → S (wd j) = bit n j) : txt (wordsL.filter S) (n / 2 ^ 32) = pf n := by
  rw [filter_row h]; rfl
theorem row_bit {n : Int} {j : Nat} (hj : j < 32) : decide (wd j ∈ rowOf n 32) = bit n j := by
  rw [Bool.eq_iff_iff, decide_eq_true_eq, mem_rowOf (Nat.le_refl _) hj]
  exact ⟨fun x => x.2, fun x => ⟨hj, x⟩⟩
theorem jn_sh (d x y : Int) : jn d x y / 2 ^ 32 = jn d (x / 2 ^ 32) (y / 2 ^ 32) := by
  unfold jn
  split
  · exact sh_or _ _ _
  split
  · exact sh_and _ _ _
  split
  · exact sh_xor _ _ _
  rw [sh_and, sh_not]
theorem jn_bit (d x y : Int) (j : Nat) : bit (jn d x y) j = jS d (bit x j) (bit y j) := by
  unfold jn jS
  split
  · exact bit_or _ _ _
  split
  · exact bit_and _ _ _
  split
  · exact bit_xor _ _ _
  rw [bit_and, bit_not]
theorem jn_small {d x y : Int} (hx : Small x) (hy : Small y) : Small (jn d x y) := by
  unfold jn
  split
  · exact small_or hx hy
  split
  · exact small_and hx hy
  split
  · exact small_xor hx hy
  exact small_and hx (small_not hy)
theorem join_bit {d n1 n2 : Int} {P1 P2 : Str → Bool} (h1 : ∀ j, j < 32 → P1 (wd j) = bit n1 j) (h2 : ∀ j, j < 32 → P2 (wd j) = bit n2 j) {j : Nat} (hj : j < 32) :
    decide (wd j ∈ wordsL.filter fun z => jS d (P1 z) (P2 z)) = bit (jn d n1 n2) j := by
  have hm : wd j ∈ wordsL := List.mem_of_getElem? (wordsL_get hj)
  rw [jn_bit, ← h1 j hj, ← h2 j hj, Bool.eq_iff_iff, decide_eq_true_eq, List.mem_filter]
  exact ⟨fun x => x.2, fun x => ⟨hm, x⟩⟩
end Mine
end

section 
open PySem PySem.W PyProof.Rows PySem.Calls PyProof.V
set_option maxRecDepth 100000
set_option maxHeartbeats 4000000
set_option linter.unusedVariables false
namespace Mine
variable {w : World} {A : Around} {E : Value → Shared → Prop} {s : Shared} {mg mb : Str → Option Value} {env : Env} {h₀ : Heap} {m : Str → Option Value}

/-- the law's own state -/
structure LJ (w : World) (h₀ : Heap) (L W D l : Addr) (vs : Array Value) (H : Heap) (m : Str → Option Value) (items : Array Value) : Prop where
  F : Fr h₀ L H m
  words : m "words" = some (.ref W)
  waiting : m "waiting" = some (.ref D)
  script : m "script" = some (.ref l)
  W : H.PlainList W vs
  D : H.PlainList D items
  I : Items w H items
/-- what does not change -/
structure LC (h₀ : Heap) (L W D : Addr) (vs : Array Value) : Prop where
  S : StrsAre vs.toList wordsL
  WL : W ≠ L
  DL : D ≠ L
  W0 : h₀.get? W = none
  D0 : h₀.get? D = none
  WD : W ≠ D
variable {L W D l : Addr} {vs items : Array Value}

theorem LJ.grow {H h : Heap} (X : LJ w h₀ L W D l vs H m items) (hk : ∀ b o, H.get? b = some o → h.get? b = some o) : LJ w h₀ L W D l vs h m items :=
  ⟨fr_grow X.F hk, X.words, X.waiting, X.script, X.W.at fun o e => hk _ o e, X.D.at fun o e => hk _ o e, X.I.kt (.grow hk)⟩
theorem LJ.st {H h : Heap} {m' : Str → Option Value} (X : LJ w h₀ L W D l vs H m items) (C : LC h₀ L W D vs) (F : Fr h₀ L h m') (hs : Heap.SameBut L H h) (e1 : m' "words" = m "words") (e2 : m' "waiting" = m "waiting") (e3 : m' "script" = m "script") : LJ w h₀ L W D l vs h m' items :=
  ⟨F, e1.trans X.words, e2.trans X.waiting, e3.trans X.script, X.W.at fun o e => (hs.2 _ C.WL).trans e, X.D.at fun o e => (hs.2 _ C.DL).trans e, X.I.kt (.same hs (nts_ns X.F.ns))⟩
theorem LJ.mv {H h : Heap} {I ln : Addr} {i : Nat} {m' : Str → Option Value} (X : LJ w h₀ L W D l vs H m items) (C : LC h₀ L W D vs) (hI₀ : h₀.get? I = none) (hit : H.IsListIter I ln i) (hn : h.Ns L m') (hk : ∀ b o, b ≠ I → b ≠ L → H.get? b = some o → h.get? b = some o)
    (e1 : m' "words" = m "words") (e2 : m' "waiting" = m "waiting") (e3 : m' "script" = m "script") : LJ w h₀ L W D l vs h m' items := by
  have ne : ∀ {a : Addr} {ys : Array Value}, H.PlainList a ys → a ≠ I := by
    rintro a ys ⟨n, e⟩ rfl
    obtain ⟨o, e', hc, _⟩ := hit
    rw [e] at e'; cases e'; simp at hc
  exact ⟨fr_upd X.F hI₀ hn hk, e1.trans X.words, e2.trans X.waiting, e3.trans X.script, X.W.at fun o e => hk _ o (ne X.W) C.WL e, X.D.at fun o e => hk _ o (ne X.D) C.DL e, X.I.kt (.but2 hk (nts_iter hit) (nts_ns X.F.ns))⟩

/-- held, above = _law_sets(number, words) -/
theorem st_sets {n : Int} {t : Tok} {k1 : Nat} {p1 p2 p3 p4 p5 p6 p7 p8 : Pos} {Q : Flow → Shared → Prop} (T : Tp w mg mb h₀) (hroom : A.depth < recursionLimit) (hh : A.handled = none) (C : LC h₀ L W D vs) (X : LJ w h₀ L W D l vs s.heap m items)
    (hn : m "number" = some (.int n t))
    (k : ∀ h' tk Sa t' kk, LJ w h₀ L W D l vs h' (fun y => if y = "above" then some (.int (n / 2 ^ 32) t') else if y = "held" then some (.ref Sa) else m y) items → SO w h' Sa (fun x => decide (x ∈ rowOf n 32)) kk → (∀ b o, b ≠ L → s.heap.get? b = some o → h'.get? b = some o) → Q .next { s with heap := h', toks := tk })
    (hL : env.locals = L := by rfl) (hg : env.globals = mainGlobals := by rfl) (hk : env.scope.kind = .function := by rfl) (i1 : env.kindOf "held" = some .local := by rfl) (i2 : env.kindOf "above" = some .local := by rfl) (i3 : env.kindOf "number" = some .local := by rfl) (i4 : env.kindOf "words" = some .local := by rfl) (i5 : env.kindOf "_law_sets" = some .globalImplicit := by rfl) :
    wpAny (model P w) A (exec (.Assign [.Tuple [.Name "held" p1, .Name "above" p2] k1 p3] (.Call (.Name "_law_sets" p4) [.Name "number" p5, .Name "words" p6] [] p7) p8) env) Q E s := by
  obtain ⟨a, o, pm, cd, doc, e1, e2, e3, e4⟩ := T.ls
  have hbase : swapsWithSole [.Tuple [.Name "held" p1, .Name "above" p2] k1 p3] (.Call (.Name "_law_sets" p4) [.Name "number" p5, .Name "words" p6] [] p7) p8.line env = pure false := rfl
  refine PyProof.Rows.Assign_Tuple ?_ rfl rfl
  refine wpAny_Call_NameR (nm_g (T.keeps X.F.keep) e1 ?_ hg hk i5)
  refine callWith_def e3 (args_cons (nm_l X.F hn (args_cons (nm_l X.F X.words (args_nil ⟨X.F.keep _ _ e2, ?_⟩) hL hk i4)) hL hk i3))
  refine ls_ok (T.keeps X.F.keep) hroom hh e1 X.W C.S fun h₁ tk₁ Tu Sa t' kk hk₁ hTu hSa h3 h4 h5 => ?_
  have X₁ := X.grow hk₁
  refine wpAny_assign_Tuple hh h3 rfl rfl fun h₂ he₂ => ?_
  dsimp only at he₂ ⊢
  have hk₂ : ∀ b o, h₁.get? b = some o → h₂.get? b = some o := fun b o e => he₂ b o (Nat.ne_of_lt (Heap.lt_size e)) e
  have X₂ := X₁.grow hk₂
  have hO₂ := so_at h4 (h' := h₂) fun o e => hk₂ _ o e
  refine in_order2 (wpAny_assign_Name (st_l X₂.F (fun h₃ F₃ hs₃ => ?_) hL hk i1))
  dsimp only at hs₃ ⊢
  have X₃ := X₂.st C F₃ hs₃ rfl rfl rfl
  have hO₃ := so_kt hO₂ (.same hs₃ (nts_ns X₂.F.ns))
  refine wpAny_assign_Name (st_l X₃.F (fun h₄ F₄ hs₄ => ?_) hL hk i2)
  dsimp only at hs₄ ⊢
  have X₄ := X₃.st C F₄ hs₄ rfl rfl rfl
  have hO₄ := so_kt hO₃ (.same hs₄ (nts_ns X₃.F.ns))
  exact k h₄ _ Sa t' kk X₄ hO₄ fun b o hb e => (hs₄.2 b hb).trans ((hs₃.2 b hb).trans (hk₂ b o (hk₁ b o e)))

/-- waiting.append((number, held, above)) -/
theorem st_push {n : Int} {t t' : Tok} {Sa : Addr} {S : Str → Bool} {kk k1 : Nat} {p1 p2 p3 p4 p5 p6 p7 p8 : Pos} {Q : Flow → Shared → Prop} (C : LC h₀ L W D vs) (X : LJ w h₀ L W D l vs s.heap m items)
    (hn : m "number" = some (.int n t)) (hh : m "held" = some (.ref Sa)) (ha : m "above" = some (.int (n / 2 ^ 32) t')) (hO : SO w s.heap Sa S kk) (hb : ∀ j, j < 32 → S (wd j) = bit n j) (hsm : Small n) (hz : items.size ≤ 100)
    (k : ∀ h' v, LJ w h₀ L W D l vs h' m (items.push v) → SO w h' Sa S kk → (∀ b o, b ≠ D → s.heap.get? b = some o → h'.get? b = some o) → Q .next { s with heap := h' })
    (hL : env.locals = L := by rfl) (hk : env.scope.kind = .function := by rfl) (i1 : env.kindOf "held" = some .local := by rfl) (i2 : env.kindOf "above" = some .local := by rfl) (i3 : env.kindOf "number" = some .local := by rfl) (i4 : env.kindOf "waiting" = some .local := by rfl)
    (hline : (p2.endLine == p7.line) = true := by rfl) (hint : interactive env = false := by rfl) :
    wpAny (model P w) A (exec (.Expr (.Call (.Attribute (.Name "waiting" p1) "append" p2) [.Tuple [.Name "number" p3, .Name "held" p4, .Name "above" p5] k1 p6] [] p7) p8) env) Q E s := by
  refine wpAny_Expr ?_ hint rfl
  refine wpAny_Call_method (T := "list") (id := "list.append") rfl rfl hline PySem.F.plainAttrs_list PySem.F.slot_list_append PySem.F.type_list_append (nm_l X.F X.waiting ⟨X.D.isList.typeIs, ?_, ?_⟩ hL hk i4)
  · intro b e
    cases e
    obtain ⟨c, e⟩ := X.D
    exact ⟨_, e, rfl⟩
  refine callWith_method1 (args_cons (Tuple_ (args_cons (nm_l X.F hn (args_cons (nm_l X.F hh (args_cons (nm_l X.F ha (args_nil (wpAny_newObj_type ?_)) hL hk i2)) hL hk i1)) hL hk i3))))
  have up : ∀ b o, s.heap.get? b = some o → (s.heap.push { cls := .type "tuple", data := .seq #[.int n t, .ref Sa, .int (n / 2 ^ 32) t'] }).get? b = some o := fun b o e => Heap.get?_push_of_some _ e
  have X₁ := X.grow up
  have hT : (s.heap.push { cls := .type "tuple", data := .seq #[.int n t, .ref Sa, .int (n / 2 ^ 32) t'] }).IsTuple s.heap.objs.size #[.int n t, .ref Sa, .int (n / 2 ^ 32) t'] := ⟨_, Heap.get?_push_size _ rfl, rfl, _, rfl⟩
  have hO₁ := so_at hO (h' := s.heap.push { cls := .type "tuple", data := .seq #[.int n t, .ref Sa, .int (n / 2 ^ 32) t'] }) fun o e => up _ o e
  have it : Item w (s.heap.push { cls := .type "tuple", data := .seq #[.int n t, .ref Sa, .int (n / 2 ^ 32) t'] }) (.ref s.heap.objs.size) := ⟨_, Sa, n, t, t', S, kk, rfl, hT, hO₁, hb, hsm⟩
  have hsl := small_line
  refine args_nil (wpAny_list_append_plain X₁.D (fun h₂ hD₂ hs₂ => ?_) (by omega))
  have kt : KT _ h₂ := .same hs₂ (nts_list X₁.D)
  refine k h₂ _ ⟨fr_same X₁.F C.D0 C.DL hs₂, X.words, X.waiting, X.script, X₁.W.at fun o e => (hs₂.2 _ C.WD).trans e, hD₂, (X₁.I.kt kt).push (it.kt kt)⟩ (so_kt hO₁ kt) fun b o hb e => (hs₂.2 b hb).trans (up b o e)

/-- pretty_flags(e0) != _law_text(e1, e2, words) -/
theorem check {n : Int} {Sa : Addr} {S : Str → Bool} {kk : Nat} {e0 e1 e2 : PySem.Expr} {p1 p2 p3 p4 p5 p6 : Pos} {whole : Sem Value} {Q : Bool → Shared → Prop} (T : Tp w mg mb h₀) (hroom : A.depth < recursionLimit) (hh : A.handled = none) (C : LC h₀ L W D vs) (X : LJ w h₀ L W D l vs s.heap m items)
    (hO : SO w s.heap Sa S kk) (hb : ∀ j, j < 32 → S (wd j) = bit n j) (hsm : Small n)
    (g0 : ∀ (s' : Shared) (Q' : Value → Shared → Prop), (∀ b o, s.heap.get? b = some o → s'.heap.get? b = some o) → (∀ tk t, Q' (.int n t) { s' with toks := tk }) → wpAny (model P w) A (eval e0 env) Q' E s')
    (g1 : ∀ (s' : Shared) (Q' : Value → Shared → Prop), (∀ b o, s.heap.get? b = some o → s'.heap.get? b = some o) → (∀ tk, Q' (.ref Sa) { s' with toks := tk }) → wpAny (model P w) A (eval e1 env) Q' E s')
    (g2 : ∀ (s' : Shared) (Q' : Value → Shared → Prop), (∀ b o, s.heap.get? b = some o → s'.heap.get? b = some o) → (∀ tk t, Q' (.int (n / 2 ^ 32) t) { s' with toks := tk }) → wpAny (model P w) A (eval e2 env) Q' E s')
    (k : ∀ h' tk, (∀ b o, s.heap.get? b = some o → h'.get? b = some o) → Q false { s with heap := h', toks := tk })
    (s0 : starEach [e0] env = (false, eval e0 env) :: starEach [] env := by rfl) (s1 : starEach [e1, e2, .Name "words" p5] env = (false, eval e1 env) :: starEach [e2, .Name "words" p5] env := by rfl) (s2 : starEach [e2, .Name "words" p5] env = (false, eval e2 env) :: starEach [.Name "words" p5] env := by rfl)
    (hL : env.locals = L := by rfl) (hg : env.globals = mainGlobals := by rfl) (hk : env.scope.kind = .function := by rfl) (i1 : env.kindOf "words" = some .local := by rfl) (i2 : env.kindOf "pretty_flags" = some .globalImplicit := by rfl) (i3 : env.kindOf "_law_text" = some .globalImplicit := by rfl) :
    wpAny (model P w) A (PySem.isTrue (.Compare (.Call (.Name "pretty_flags" p1) [e0] [] p2) [.NotEq] [.Call (.Name "_law_text" p3) [e1, e2, .Name "words" p5] [] p4] p6) env whole) Q E s := by
  obtain ⟨a, o, pm, cd, doc, e1', e2', e3', e4'⟩ := T.pf
  obtain ⟨b, ob, pmb, cdb, docb, f1, f2, f3, f4⟩ := T.lt
  refine wpAny_isTrue_Compare1 ?_
  refine wpAny_Call_NameR (nm_g (T.keeps X.F.keep) e1' ?_ hg hk i2)
  refine callWith_def e3' (args_cons (g0 s _ (fun _ _ e => e) fun tk t => args_nil ⟨X.F.keep _ _ e2', ?_⟩) s0) s0
  refine pf_ok (T.keeps X.F.keep) hroom hh e1' hsm fun h₁ tk₁ t₁ hk₁ => ?_
  have X₁ := X.grow hk₁
  refine wpAny_Call_NameR (nm_g (T.keeps X₁.F.keep) f1 ?_ hg hk i3)
  refine callWith_def f3 (args_cons (g1 _ _ hk₁ fun tk₂ => args_cons (g2 _ _ hk₁ fun tk₃ t₃ => args_cons (nm_l X₁.F X₁.words (args_nil ⟨X₁.F.keep _ _ f2, ?_⟩) hL hk i1)) s2) s1) s1
  refine lt_ok (T.keeps X₁.F.keep) hroom hh f1 X₁.W C.S (so_at hO fun o e => hk₁ _ o e) (small_above hsm) fun h₂ tk₄ t₄ hk₂ => ?_
  refine PyProof.Rows.ne_str (wpAny_truthy_bool ?_)
  rw [text_is hb, show (pf n != pf n) = false by simp]
  exact k h₂ tk₄ fun b o e => hk₂ b o (hk₁ b o e)
end Mine
end

section 
open PySem PySem.W PyProof.Rows PySem.Calls PyProof.V
set_option maxRecDepth 100000
set_option maxHeartbeats 4000000
set_option linter.unusedVariables false
namespace Mine
variable {w : World} {A : Around} {E : Value → Shared → Prop} {s : Shared} {mg mb : Str → Option Value} {env : Env} {h₀ : Heap} {m : Str → Option Value}

variable {L W D l : Addr} {vs items : Array Value}

theorem LJ.setD {H h : Heap} {items' : Array Value} (X : LJ w h₀ L W D l vs H m items) (C : LC h₀ L W D vs) (hs : Heap.SameBut D H h) (hD : h.PlainList D items') (hI : Items w H items') : LJ w h₀ L W D l vs h m items' :=
  ⟨fr_same X.F C.D0 C.DL hs, X.words, X.waiting, X.script, X.W.at fun o e => (hs.2 _ C.WD).trans e, hD, hI.kt (.same hs (nts_list X.D))⟩

/-- script[:20] -/
theorem slice_up {x : Str} {p1 p2 p3 p4 : Pos} {kk : Nat} {l : Addr} {i : Int} {its : Array Value} {Q : Value → Shared → Prop} (F : Fr h₀ L s.heap m) (hx : m x = some (.ref l)) (hl : s.heap.IsList l its) (hz : its.size ≤ 100)
    (h : ∀ h' tk ls, s.heap.objs.size ≤ ls → (∀ b o, s.heap.get? b = some o → h'.get? b = some o) → h'.PlainList ls (slicePick its none (some i) none) → Q (.ref ls) { s with heap := h', toks := tk })
    (hL : env.locals = L := by rfl) (hk : env.scope.kind = .function := by rfl) (hl' : env.kindOf x = some .local := by rfl) (hd : (x == ("__debug__" : Str)) = false := by decide) :
    wpAny (model P w) A (eval (.Subscript (.Name x p1) (.Slice none (some (.Constant (.int i) kk p2)) none p3) p4) env) Q E s := by
  have hsl := small_line
  refine Subscript_ (nm_l F hx (wpAny_Slice (evalPart_none_step (evalPart_some_step (wpAny_Constant_int (evalPart_none_step ?_))))) hL hk hl' hd)
  refine subscriptTail_ops (T := "list") (ops := [.ref s.heap.objs.size, .ref l]) (hl.push _).typeIs list_getitem_lookup (wpAny_getItem_list_slice (s := { s with heap := s.heap.push { cls := .type "slice", data := .fields #[.none, .int i s.toks, .none] }, toks := s.toks + 1 }) (hl.push _) (Heap.IsSliceOf.new ..) .none (.int i _) .none (by simp) ?_ (by omega)) (by with_unfolding_all rfl) (by intro _; with_unfolding_all rfl)
  refine h _ _ _ ?_ (fun b o e => Heap.get?_push_of_some _ (Heap.get?_push_of_some _ e)) ⟨_, Heap.get?_push_size _ rfl⟩
  rw [Heap.size_push]; exact Nat.le_succ _

/-- waiting[-1][i] -/
theorem last_at {Tu : Addr} {p1 p2 p3 p4 p5 p6 : Pos} {k1 k2 : Nat} {i : Int} {itl : List Value} {j : Nat} {v : Value} {Q : Value → Shared → Prop} (F : Fr h₀ L s.heap m) (hx : m "waiting" = some (.ref D)) (hD : s.heap.PlainList D items) (hz : items.size ≠ 0) (hz2 : items.size ≤ 100)
    (hv : items[items.size - 1]? = some (.ref Tu)) (ht : s.heap.IsTuple Tu itl.toArray) (hlo : -(2 ^ 63) ≤ i) (hhi : i < 2 ^ 63) (hj : seqIndex? i itl.length = some j) (hvj : itl[j]? = some v) (h : ∀ tk, Q v { s with toks := tk })
    (hL : env.locals = L := by rfl) (hk : env.scope.kind = .function := by rfl) (hl : env.kindOf "waiting" = some .local := by rfl) :
    wpAny (model P w) A (eval (.Subscript (.Subscript (.Name "waiting" p1) (.UnaryOp .USub (.Constant (.int 1) k1 p2) p3) p4) (.Constant (.int i) k2 p5) p6) env) Q E s := by
  refine Subscript_ (Subscript_ (nm_l F hx (wpAny_UnaryOp (wpAny_Constant_int (neg_int ?_))) hL hk hl))
  refine subscriptTail_builtin (T := "list") (Heap.IsList.typeIs (items := items) hD.isList) slot_list_getitem.lookup (wpAny_getItem_list_neg hD.isList (by decide) (by omega) (by decide) (by rw [show (-1 + (items.size : Int)).toNat = items.size - 1 by omega]; exact hv) ?_)
  refine wpAny_Constant_int ?_
  exact item_tupleT ht hlo hhi hj hvj (h _)
end Mine
end

section 
open PySem PySem.W PyProof.Rows PySem.Calls PyProof.V
set_option maxRecDepth 100000
set_option maxHeartbeats 4000000
set_option linter.unusedVariables false
namespace Mine
variable {w : World} {A : Around} {E : Value → Shared → Prop} {s : Shared} {mg mb : Str → Option Value} {env : Env} {h₀ : Heap} {m : Str → Option Value}

theorem number_small (n : Int) : Small ((if n < 0 then -n else n).fmod (2 ^ 50)) ∧ Small (-((if n < 0 then -n else n).fmod (2 ^ 50))) := by
  rw [Int.fmod_eq_emod_of_nonneg _ (by decide)]
  unfold Small; omega

theorem law_body {L a l : Addr} {cd : Value} {vsS : List Value} {ns : List Int} {Q : Flow → Shared → Prop} (T : Tp w mg mb h₀) (hroom : A.depth < recursionLimit) (hh : A.handled = none) (F : Fr h₀ L s.heap m) (hm : m "script" = some (.ref l))
    (hl : h₀.IsList l vsS.toArray) (hI : IntsAre vsS ns) (hz : ns.length ≤ 63)
    (k : ∀ h' tk m', Fr h₀ L h' m' → Q (.ret (.bool true)) { s with heap := h', toks := tk }) :
    wpAny (model P w) A (execs (fBody 17) (envOf "law" (fScope 17) L a cd)) Q E s := by
  (generalize hb9 : fBody _ = b9; simp only [fBody, rawTop, P, PySem.Challenge.pw_dm0070_04, List.getD, List.getElem?_cons_succ, List.getElem?_cons_zero, Option.getD_some] at hb9; subst hb9)
  obtain ⟨aw, ow, pmw, cdw, docw, w1, w2, w3, w4⟩ := T.lw
  refine wpAny_execs_cons (wpAny_Assign_Name (wpAny_Call_NameR (nm_g (T.keeps F.keep) w1 ?_)))
  refine callWith_function (o := ow) (PyProof.Rows.evalArgs_none ⟨⟨F.keep _ _ w2, w3⟩, ?_⟩)
  refine lw_ok (T.keeps F.keep) hroom hh w1 fun h₁ tk₁ W vs hk₁ hW₀ hW hS => ?_
  have hWL : W ≠ L := by
    rintro rfl
    obtain ⟨o, _, _, e, _⟩ := F.ns
    rw [hW₀] at e; cases e
  have hW0 : h₀.get? W = none := by
    cases e : h₀.get? W with
    | none => rfl
    | some o => rw [F.keep _ _ e] at hW₀; cases hW₀
  refine st_l (fr_grow F hk₁) fun h₂ F₂ hs₂ => ?_
  dsimp only at hs₂ ⊢
  have hW₂ : h₂.PlainList W vs := hW.at fun o e => (hs₂.2 _ hWL).trans e
  clear hs₂ hW
  refine wpAny_execs_cons (wpAny_Assign_Name (List_ (spliced_nil (wpAny_newObj_type ?_))))
  obtain ⟨hD0, hDL⟩ := fr_new F₂
  have F3 := F₂.push { cls := .type "list", data := .seq #[] }
  dsimp only
  refine st_l F3 fun h₃ F₃ hs₃ => ?_
  dsimp only at hs₃ ⊢
  have hWD : W ≠ h₂.objs.size := by obtain ⟨_, e⟩ := hW₂; exact Nat.ne_of_lt (Heap.lt_size e)
  have hD₃ : h₃.PlainList h₂.objs.size #[] := ⟨_, (hs₃.2 _ hDL).trans (Heap.get?_push_size _ rfl)⟩
  have hW₃ : h₃.PlainList W vs := hW₂.at fun o e => (hs₃.2 _ hWL).trans (Heap.get?_push_of_some _ e)
  have C : LC h₀ L W h₂.objs.size vs := ⟨hS, hWL, hDL, hW0, hD0, hWD⟩
  have X₃ : LJ w h₀ L W h₂.objs.size l vs h₃ _ #[] := ⟨F₃, rfl, rfl, hm, hW₃, hD₃, fun v hv => absurd hv (by simp)⟩
  clear hs₃ F3 hW₃ hD₃ hWD hW₂ F₂ hk₁ hW₀ F₃ hD0 hDL
  generalize h₂.objs.size = D at *
  refine wpAny_execs_cons (wpAny_For (List_ (args_cons (wpAny_UnaryOp (wpAny_Constant_int (neg_int (args_cons (wpAny_Constant_int (args_nil (wpAny_newObj_type ?_)))))))))) 
  dsimp only
  generalize hv1 : Value.int (-7) _ = v1
  generalize hv2 : Value.int 1029 _ = v2
  refine wpAny_pyIter_list (items := #[v1, v2]) ⟨_, Heap.get?_push_size _ rfl, rfl, _, rfl⟩ ?_
  dsimp only
  have X₄ := X₃.grow (h := (h₃.push { cls := .type "list", data := .seq #[v1, v2] })) fun b o e => Heap.get?_push_of_some _ e
  have hln : (h₃.push { cls := .type "list", data := .seq #[v1, v2] }).IsList h₃.objs.size #[v1, v2] := ⟨_, Heap.get?_push_size _ rfl, rfl, _, rfl⟩
  have hl0 := (fr_new X₃.F)
  have hlD : h₃.objs.size ≠ D := by obtain ⟨_, e⟩ := X₃.D; exact Nat.ne_of_gt (Heap.lt_size e)
  clear X₃
  generalize h₃.push { cls := .type "list", data := .seq #[v1, v2] } = h₄ at *
  generalize h₃.objs.size = ln at *
  obtain ⟨hI₀, hIL⟩ := fr_new X₄.F
  have X₅ := X₄.grow (h := h₄.push { cls := .type "list_iterator", data := .fields #[.ref ln, .int 0 0] }) fun b o e => Heap.get?_push_of_some _ e
  have hst0 : (h₄.push { cls := .type "list_iterator", data := .fields #[.ref ln, .int 0 0] }).IsListIter h₄.objs.size ln 0 := ⟨_, Heap.get?_push_size _ rfl, rfl, rfl⟩
  have hlnI : ln ≠ h₄.objs.size := by obtain ⟨_, e, _⟩ := hln; exact Nat.ne_of_lt (Heap.lt_size e)
  have hDI : D ≠ h₄.objs.size := by obtain ⟨_, e⟩ := X₄.D; exact Nat.ne_of_lt (Heap.lt_size e)
  have hln' := hln.push { cls := .type "list_iterator", data := .fields #[.ref ln, .int 0 0] }
  clear X₄ hln
  generalize h₄.push { cls := .type "list_iterator", data := .fields #[.ref ln, .int 0 0] } = h₅ at *
  generalize h₄.objs.size = I at *
  refine loop_for (L := L) (Walks.list hh I ln hlnI #[v1, v2]) (by simpa using ⟨Ne.symm hIL, Ne.symm hl0.2⟩)
    (fun i H m' => ∃ items, LJ w h₀ L W D l vs H m' items ∧ items.size = i) X₅.F.ns ⟨hst0, hln'⟩ ⟨_, X₅, rfl⟩ ?_ ?_
  · rintro i v H m' h tk' hi' hv ⟨items, X, hsz⟩ hn' hst hk' hn2 hst2
    have hnum : ∃ n t, v = .int n t ∧ Small n := by
      have hi2 : i = 0 ∨ i = 1 := by simp at hi'; omega
      rcases hi2 with rfl | rfl
      · simp at hv; exact ⟨-7, _, hv.symm.trans hv1.symm, by unfold Small; decide⟩
      · simp at hv; exact ⟨1029, _, hv.symm.trans hv2.symm, by unfold Small; decide⟩
    obtain ⟨n, t, rfl, hsm⟩ := hnum
    have Y := X.mv C hI₀ hst.1 hn2 hk' rfl rfl rfl
    dsimp only
    have hi2 : i ≤ 1 := by simp at hi'; omega
    refine wpAny_execs_cons (st_sets T hroom hh C Y rfl fun h₆ tk₆ Sa t₆ kk X₆ hO₆ kp₆ => ?_)
    dsimp only
    refine wpAny_execs_cons (st_push C X₆ rfl rfl rfl hO₆ (fun j hj => row_bit hj) hsm (by omega) fun h₇ v₇ X₇ hO₇ kp₇ => ?_)
    dsimp only
    refine wpAny_execs_cons (wpAny_If (check T hroom hh C X₇ hO₇ (fun j hj => row_bit hj) hsm (fun s' Q' up hq => nm_l (fr_grow X₇.F up) rfl (hq _ _)) (fun s' Q' up hq => nm_l (fr_grow X₇.F up) rfl (hq _)) (fun s' Q' up hq => nm_l (fr_grow X₇.F up) rfl (hq _ _)) fun h₈ tk₈ hk₈ => ?_))
    dsimp only
    refine ite_f (by decide) (wpAny_execs_nil (wpAny_execs_nil ⟨h₈, _, _, rfl, ?_, (X₇.grow hk₈).F.ns, _, X₇.grow hk₈, by rw [Array.size_push, hsz]⟩))
    intro b hb o e
    have : b = I ∨ b = ln := by simpa using hb
    rcases this with rfl | rfl
    · exact hk₈ _ _ (kp₇ _ _ (Ne.symm hDI) (kp₆ _ _ hIL e))
    · exact hk₈ _ _ (kp₇ _ _ hlD (kp₆ _ _ hl0.2 e))
  · rintro H m' h tk' ⟨items, X, hsz⟩ hst hk' hn2
    have Y := X.mv C hI₀ hst.1 hn2 (fun b o h1 _ e => hk' b o h1 e) rfl rfl rfl
    refine wpAny_execs_nil ?_
    dsimp only
    have hsz2 : items.size = 2 := hsz
    clear hst hk' hn2 X hst0 hln' X₅ hIL hI₀ hlnI hDI hl0 hlD hsz
    clear H hv1 hv2 v1 v2 h₅ h₄ h₃ ln I
    have hvl : vsS.length = ns.length := hI.length
    refine wpAny_execs_cons (wpAny_For (slice_up Y.F Y.script (isList_at hl fun o e => Y.F.keep _ o e) (by rw [List.size_toArray]; omega) fun h₁ tk₁ ls hls hk₁ hp₁ => ?_))
    have X₁ := Y.grow hk₁
    rw [show (some (20 : Int)) = some ((20 : Nat) : Int) from rfl, slicePick_upto' vsS.toArray 20] at hp₁
    have hps : IntsAre (vsS.take 20) (ns.take 20) := hI.take 20
    replace hp₁ : h₁.PlainList ls (vsS.take 20).toArray := hp₁
    have hpl : (vsS.take 20).length ≤ 20 := List.length_take_le ..
    generalize vsS.take 20 = us at *
    have hls0 : h₀.get? ls = none ∧ ls ≠ L := by
      obtain ⟨oL, _, _, hL', _⟩ := Y.F.ns
      refine ⟨?_, Nat.ne_of_gt (Nat.lt_of_lt_of_le (Heap.lt_size hL') hls)⟩
      cases hq : h₀.get? ls with
      | none => rfl
      | some o' => exact absurd (Nat.lt_of_lt_of_le (Heap.lt_size (Y.F.keep _ _ hq)) hls) (Nat.lt_irrefl _)
    have hlsD : ls ≠ D := by obtain ⟨_, e⟩ := Y.D; exact Nat.ne_of_gt (Nat.lt_of_lt_of_le (Heap.lt_size e) hls)
    refine wpAny_pyIter_list hp₁.isList ?_
    dsimp only
    obtain ⟨hI₀, hIL⟩ := fr_new X₁.F
    have X₂ := X₁.grow (h := h₁.push { cls := .type "list_iterator", data := .fields #[.ref ls, .int 0 0] }) fun b o e => Heap.get?_push_of_some _ e
    have hst0 : (h₁.push { cls := .type "list_iterator", data := .fields #[.ref ls, .int 0 0] }).IsListIter h₁.objs.size ls 0 := ⟨_, Heap.get?_push_size _ rfl, rfl, rfl⟩
    have hlsI : ls ≠ h₁.objs.size := by obtain ⟨_, e⟩ := hp₁; exact Nat.ne_of_lt (Heap.lt_size e)
    have hDI : D ≠ h₁.objs.size := by obtain ⟨_, e⟩ := X₁.D; exact Nat.ne_of_lt (Heap.lt_size e)
    have hp₂ := hp₁.isList.push { cls := .type "list_iterator", data := .fields #[.ref ls, .int 0 0] }
    clear X₁ hp₁ Y hk₁ hls
    generalize h₁.push { cls := .type "list_iterator", data := .fields #[.ref ls, .int 0 0] } = h₂ at *
    generalize h₁.objs.size = I at *
    clear h h₁
    refine loop_for (L := L) (Walks.list hh I ls hlsI us.toArray) (by simpa using ⟨Ne.symm hIL, Ne.symm hls0.2⟩)
      (fun i H m' => ∃ items, LJ w h₀ L W D l vs H m' items ∧ 1 ≤ items.size ∧ items.size ≤ 2 + i) X₂.F.ns ⟨hst0, hp₂⟩ ⟨_, X₂, by omega, by omega⟩ ?_ ?_
    · clear X₂ hst0 hp₂ hsz2
      rintro i v H m' h tk' hi' hv ⟨items, X, hs1, hs2⟩ hn' hst hk' hn2 hst2
      rw [List.size_toArray] at hi'
      obtain ⟨n, t, rfl, _⟩ := hps.at i v (by simpa using hv)
      have Y := X.mv C hI₀ hst.1 hn2 hk' rfl rfl rfl
      clear X hn' hst hk' hst2 hv
      dsimp only
      refine wpAny_execs_cons (wpAny_Assign_Name (wpAny_BinOp (nm_l Y.F rfl (wpAny_Constant_int (mod_int' (by decide) ?_)))))
      dsimp only
      refine st_l Y.F fun h₃ F₃ hs₃ => ?_
      dsimp only at hs₃ ⊢
      have X₃ := Y.st C F₃ hs₃ rfl rfl rfl
      have kp₃ : ∀ b o, b ≠ L → h.get? b = some o → h₃.get? b = some o := fun b o hb e => (hs₃.2 b hb).trans e
      clear Y F₃ hs₃
      refine wpAny_execs_cons (wpAny_mono (Q := fun f s' => f = .next ∧ ∃ h' tk'' m'' items', s' = { s with heap := h', toks := tk'' } ∧ LJ w h₀ L W D l vs h' m'' items' ∧ 1 ≤ items'.size ∧ items'.size ≤ 2 + (i + 1) ∧ ∀ b o, b ≠ L → b ≠ D → h₃.get? b = some o → h'.get? b = some o) ?_ (fun f s' hf => ?_) fun _ _ x => x)
      · refine wpAny_If (wpAny_mono (Q := fun b s' => b = decide (n.fmod 6 < 2 ∨ items.size < 2) ∧ ∃ tk', s' = { s with heap := h₃, toks := tk' }) ?_ (fun b s' hb => ?_) fun _ _ x => x)
        · refine isTrue_or ?_
          refine wpAny_isTrue_Compare1 (nm_l X₃.F rfl (wpAny_Constant_int (PyProof.Rows.lt_int (wpAny_truthy_bool ?_))))
          dsimp only
          by_cases q1 : n.fmod 6 < 2
          · exact ite_t (decide_eq_true q1) ⟨(decide_eq_true (.inl q1)).symm, _, rfl⟩
          · refine ite_f (by simpa using q1) (isTrue_or ?_)
            refine wpAny_isTrue_Compare1 (wpAny_Call_NameR (nm_b (T.keeps X₃.F.keep) T.len boot_len (PyProof.Rows.callWith_builtin1 (args_cons (nm_l X₃.F X₃.waiting (args_nil (call_len_list X₃.D.isList (by omega) ?_)))))))
            dsimp only
            refine wpAny_Constant_int (PyProof.Rows.lt_int (wpAny_truthy_bool ?_))
            dsimp only
            by_cases q2 : items.size < 2
            · exact ite_t (decide_eq_true (by omega)) ⟨(decide_eq_true (.inr q2)).symm, _, rfl⟩
            · exact ite_f (by simp; omega) (isTrue_or_nil ⟨(decide_eq_false fun x => x.elim q1 q2).symm, _, rfl⟩)
        obtain ⟨rfl, tk₄, rfl⟩ := hb
        by_cases hc : n.fmod 6 < 2 ∨ items.size < 2
        · refine ite_t (decide_eq_true hc) ?_
          refine wpAny_execs_cons (wpAny_Assign_Name (wpAny_BinOp (nm_l X₃.F rfl (wpAny_Constant_int (floordiv_int (by decide) ?_ (.inl (PyProof.noPylong_small (by decide))))))))
          dsimp only
          refine st_l X₃.F fun h₅ F₅ hs₅ => ?_
          dsimp only at hs₅ ⊢
          have X₅ := X₃.st C F₅ hs₅ rfl rfl rfl
          refine wpAny_execs_cons (wpAny_Assign_Name (wpAny_BinOp (wpAny_Call_NameR (nm_b (T.keeps X₅.F.keep) T.abs boot_abs (PyProof.Rows.callWith_builtin1 (args_cons (nm_l X₅.F rfl (args_nil (call_abs_int fun u tk₆ => ?_)))))))))
          dsimp only
          refine wpAny_BinOp (wpAny_Constant_int (wpAny_Constant_int (pow_int (by decide) (by decide +kernel) (mod_int' (by decide) ?_))))
          dsimp only
          refine st_l X₅.F fun h₆ F₆ hs₆ => ?_
          dsimp only at hs₆ ⊢
          have X₆ := X₅.st C F₆ hs₆ rfl rfl rfl
          have kp₆ : ∀ b o, b ≠ L → h₃.get? b = some o → h₆.get? b = some o := fun b o hb e => (hs₆.2 b hb).trans ((hs₅.2 b hb).trans e)
          have hnsm := number_small (n.fdiv 6)
          clear X₅ hs₅ hs₆ F₅ F₆
          refine wpAny_execs_cons (wpAny_mono (Q := fun f s' => f = .next ∧ ∃ h' tk'' m'' nn t', s' = { s with heap := h', toks := tk'' } ∧ LJ w h₀ L W D l vs h' m'' items ∧ m'' "number" = some (.int nn t') ∧ Small nn ∧ ∀ b o, b ≠ L → h₆.get? b = some o → h'.get? b = some o) ?_ (fun f s' hf => ?_) fun _ _ x => x)
          · refine wpAny_If (wpAny_isTrue_Compare1 (nm_l X₆.F rfl (wpAny_Constant_int (PyProof.Rows.lt_int (wpAny_truthy_bool ?_)))))
            dsimp only
            by_cases hneg : n.fdiv 6 < 0
            · refine ite_t (decide_eq_true hneg) ?_
              refine wpAny_execs_cons (wpAny_Assign_Name (wpAny_UnaryOp (nm_l X₆.F rfl (neg_int ?_))))
              dsimp only
              refine st_l X₆.F fun h₇ F₇ hs₇ => ?_
              dsimp only at hs₇ ⊢
              exact wpAny_execs_nil ⟨rfl, h₇, _, _, _, _, rfl, X₆.st C F₇ hs₇ rfl rfl rfl, rfl, hnsm.2, fun b o hb e => (hs₇.2 b hb).trans e⟩
            · exact ite_f (by simpa using hneg) (wpAny_execs_nil ⟨rfl, h₆, _, _, _, _, rfl, X₆, rfl, hnsm.1, fun b o hb e => e⟩)
          obtain ⟨rfl, h₇, tk₇, m₇, nn, t₇, rfl, X₇, hnum, hsm, kp₇⟩ := hf
          dsimp only
          refine wpAny_execs_cons (st_sets T hroom hh C X₇ hnum fun h₈ tk₈ Sa t₈ kk X₈ hO₈ kp₈ => ?_)
          dsimp only
          refine wpAny_execs_cons (st_push C X₈ ((if_neg (by decide)).trans ((if_neg (by decide)).trans hnum)) rfl rfl hO₈ (fun j hj => row_bit hj) hsm (by omega) fun h₉ v₉ X₉ hO₉ kp₉ => ?_)
          dsimp only
          exact wpAny_execs_nil ⟨rfl, h₉, _, _, _, rfl, X₉, by rw [Array.size_push]; omega, by rw [Array.size_push]; omega, fun b o hb hd e => kp₉ b o hd (kp₈ b o hb (kp₇ b o hb (kp₆ b o hb e)))⟩
        · refine ite_f (by simpa using hc) ?_
          have hs3 : 2 ≤ items.size := by omega
          have hsl := small_line
          obtain ⟨v2, hv2, it2⟩ := X₃.I.last (by omega)
          obtain ⟨c₃, e₃⟩ := id X₃.D
          refine wpAny_execs_cons (wpAny_Assign_Name (MethodCall_ (nm_l X₃.F X₃.waiting (Copied.getMethod_pop_at e₃ rfl rfl (callWith_method0 (Copied.pop_at e₃ hv2 (fun h₅ hs₅ e₅ => ?_) (by omega)))))))
          dsimp only at hs₅ ⊢
          have X₅ := X₃.setD C hs₅ ⟨_, e₅⟩ X₃.I.pop
          have it2₅ := it2.kt (.same hs₅ (nts_list X₃.D))
          refine st_l X₅.F fun h₆ F₆ hs₆ => ?_
          dsimp only at hs₆ ⊢
          have X₆ := X₅.st C F₆ hs₆ rfl rfl rfl
          have it2₆ := it2₅.kt (.same hs₆ (nts_ns X₅.F.ns))
          obtain ⟨v1, hv1, it1⟩ := X₆.I.last (by rw [Array.size_pop]; omega)
          obtain ⟨c₆, e₆⟩ := id X₆.D
          refine wpAny_execs_cons (wpAny_Assign_Name (MethodCall_ (nm_l X₆.F X₆.waiting (Copied.getMethod_pop_at e₆ rfl rfl (callWith_method0 (Copied.pop_at e₆ hv1 (fun h₇ hs₇ e₇ => ?_) (by rw [Array.size_pop]; omega)))))))
          dsimp only at hs₇ ⊢
          have X₇ := X₆.setD C hs₇ ⟨_, e₇⟩ X₆.I.pop
          have kt₇ : KT h₆ h₇ := .same hs₇ (nts_list X₆.D)
          refine st_l X₇.F fun h₈ F₈ hs₈ => ?_
          dsimp only at hs₈ ⊢
          have X₈ := X₇.st C F₈ hs₈ rfl rfl rfl
          have kt₈ : KT h₇ h₈ := .same hs₈ (nts_ns X₇.F.ns)
          have it2₈ := (it2₆.kt kt₇).kt kt₈
          have it1₈ := (it1.kt kt₇).kt kt₈
          have kp₈ : ∀ b o, b ≠ L → b ≠ D → h₃.get? b = some o → h₈.get? b = some o := fun b o hb hd e => (hs₈.2 b hb).trans ((hs₇.2 b hd).trans ((hs₆.2 b hb).trans ((hs₅.2 b hd).trans e)))
          clear hs₅ hs₆ hs₇ hs₈ X₅ X₆ X₇ it2 it2₅ it2₆ it1 kt₇ kt₈ F₆ F₈ e₃ e₅ e₆ e₇ hv2 hv1
          obtain ⟨T2, S2, n2, t2, u2, P2, k2, rfl, b1, b2, b3, b4⟩ := it2₈
          obtain ⟨T1, S1, n1, t1, u1, P1, k1, rfl, a1, a2, a3, a4⟩ := it1₈
          obtain ⟨c₈, e₈⟩ := id X₈.D
          obtain ⟨aj, oj, pmj, cdj, docj, j1, j2, j3, j4⟩ := T.lj
          refine wpAny_execs_cons (wpAny_Expr (MethodCall_ (nm_l X₈.F X₈.waiting (getMethod_list_append e₈ rfl rfl (callWith_method1 (args_cons ?_))))))
          refine wpAny_Call_NameR (nm_g (T.keeps X₈.F.keep) j1 ?_)
          refine callWith_def j3 (args_cons (nm_l X₈.F rfl (args_cons (nm_l X₈.F rfl (args_cons (nm_l X₈.F rfl (args_cons (nm_l X₈.F X₈.words (args_nil ⟨X₈.F.keep _ _ j2, ?_⟩)))))))))
          refine lj_ok (T.keeps X₈.F.keep) hroom hh j1 a1 b1 X₈.W C.S a2 b2 fun h₉ tk₉ Tu Sa t₉ u₉ kk hk₉ _ _ g3 g4 g5 => ?_
          have X₉ := X₈.grow hk₉
          have it₉ : Item w h₉ (.ref Tu) := ⟨Tu, Sa, jn (n.fmod 6) n1 n2, t₉, u₉, _, kk, rfl, by rw [jn_sh]; exact g3, g4, fun j hj => join_bit a3 b3 hj, jn_small a4 b4⟩
          have hsz9 : items.pop.pop.size ≤ 100 := by rw [Array.size_pop, Array.size_pop]; omega
          refine args_nil (wpAny_list_append_plain X₉.D (fun h₁₀ hD₁₀ hs₁₀ => ?_) (by omega))
          dsimp only at hs₁₀ ⊢
          have X₁₀ := X₉.setD C hs₁₀ hD₁₀ (X₉.I.push it₉)
          refine wpAny_execs_nil ⟨rfl, h₁₀, _, _, _, rfl, X₁₀, by rw [Array.size_push]; omega, by rw [Array.size_push, Array.size_pop, Array.size_pop]; omega, fun b o hb hd e => (hs₁₀.2 b hd).trans (hk₉ b o (kp₈ b o hb hd e))⟩
      · obtain ⟨rfl, h₄, tk₄, m₄, items', rfl, X₄, z1, z2, kp₄⟩ := hf
        dsimp only
        obtain ⟨v, hv, it⟩ := X₄.I.last (by omega)
        obtain ⟨Tu, Sa, nn, t₄, u₄, S, kk, rfl, g1, g2, g3, g4⟩ := it
        refine wpAny_execs_cons (wpAny_If (check T hroom hh C X₄ g2 g3 g4
          (fun s' Q' up hq => last_at (fr_grow X₄.F up) X₄.waiting (X₄.D.at fun o e => up _ o e) (by omega) (by omega) hv (itl := [.int nn t₄, .ref Sa, .int (nn / 2 ^ 32) u₄]) (isTuple_kt g1 (.grow up)) (by decide) (by decide) rfl rfl (fun tk => hq tk _))
          (fun s' Q' up hq => last_at (fr_grow X₄.F up) X₄.waiting (X₄.D.at fun o e => up _ o e) (by omega) (by omega) hv (itl := [.int nn t₄, .ref Sa, .int (nn / 2 ^ 32) u₄]) (isTuple_kt g1 (.grow up)) (by decide) (by decide) rfl rfl hq)
          (fun s' Q' up hq => last_at (fr_grow X₄.F up) X₄.waiting (X₄.D.at fun o e => up _ o e) (by omega) (by omega) hv (itl := [.int nn t₄, .ref Sa, .int (nn / 2 ^ 32) u₄]) (isTuple_kt g1 (.grow up)) (by decide) (by decide) rfl rfl (fun tk => hq tk _))
          fun h₅ tk₅ hk₅ => ?_))
        dsimp only
        have X₅ := X₄.grow hk₅
        refine ite_f (by decide) (wpAny_execs_nil (wpAny_execs_nil ⟨h₅, _, _, rfl, ?_, X₅.F.ns, _, X₅, z1, z2⟩))
        intro b hb o e
        have : b = I ∨ b = ls := by simpa using hb
        rcases this with rfl | rfl
        · exact hk₅ _ _ (kp₄ _ _ hIL (Ne.symm hDI) (kp₃ _ _ hIL e))
        · exact hk₅ _ _ (kp₄ _ _ hls0.2 hlsD (kp₃ _ _ hls0.2 e))
    · rintro H m' h tk' ⟨items, X, hs1, hs2⟩ hst hk' hn2
      have Y := X.mv C hI₀ hst.1 hn2 (fun b o h1 _ e => hk' b o h1 e) rfl rfl rfl
      refine wpAny_execs_nil ?_
      dsimp only
      refine wpAny_execs_cons (wpAny_Return_some ?_)
      exact wpAny_Constant_bool (k _ _ _ Y.F)
end Mine
end

section 
open PySem PySem.W PyProof.Rows PySem.Calls PyProof.V
set_option maxRecDepth 100000
set_option maxHeartbeats 4000000
set_option linter.unusedVariables false
namespace Mine

theorem law_ok : LawOk := by
  intro w s mg mb T hgs f hf l vs ns hl hI hz
  obtain ⟨a, o, pm, cd, doc, e1, e2, e3, e4⟩ := T.law
  rw [hf] at e1; cases e1
  refine wpAny_call (call_plain_ret (binds := [("script", .ref l)]) (by decide) e2 e3 T.nolimit e4 (by with_unfolding_all rfl) (locs (by with_unfolding_all rfl)) (fun h₁ F => ?_) rfl rfl rfl (by decide +kernel))
  refine law_body T ?_ rfl F rfl hl hI hz fun h' tk m' F' => ?_
  · show callerA.depth + 1 < recursionLimit; decide
  · exact ⟨rfl, rfl, hgs, F'.keep⟩
end Mine
end

theorem PySem.Challenge.cw_dm0070_04_holds : PySem.Challenge.rw_dm0070_04.Holds :=
  Mine.assemble Mine.law_ok
