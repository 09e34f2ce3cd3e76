import PyProof.Rows.All
import Wide.All
import OpenK.AllK
import Wide.FinOn
import PySem.Challenge.RW_eg5001_01
open PySem PySem.W PyProof.Rows
set_option Elab.async false
section
open PySem PySem.W PyProof.Rows
set_option Elab.async false
set_option maxRecDepth 100000
set_option maxHeartbeats 8000000
namespace B58
open_top hd for PySem.Challenge.rw_eg5001_01
end B58
end
section
open PySem PySem.W PyProof.Rows PySem.Spec PySem.Calls
set_option Elab.async false
namespace B58
/-- the table by last places, read from behind -/
def lastAt : Int → List Int → List (Int × Int)
  | _, [] => []
  | off, x :: r => if kdfHas (lastAt (off + 1) r) x then lastAt (off + 1) r else kdfPut (lastAt (off + 1) r) x off
theorem kdfPut_length_le (c : List (Int × Int)) (k v : Int) : (kdfPut c k v).length ≤ c.length + 1 := kdfPut_len c k v
theorem lastAt_len : ∀ (l : List Int) (off : Int), (lastAt off l).length ≤ l.length
  | [], _ => Nat.le_refl _
  | x :: r, off => by
    have h := lastAt_len r (off + 1)
    unfold lastAt
    split
    · simp only [List.length_cons]; omega
    · have := kdfPut_length_le (lastAt (off + 1) r) x off
      simp only [List.length_cons]; omega
theorem lastAt_step_has {ks : List Int} {k : Int} {c : List (Int × Int)} (h0 : 0 ≤ k) (h1 : k < ks.length) (e : c = lastAt (k + 1) (ks.drop (k + 1).toNat)) (h : kdfHas c (ks.getD k.toNat 0) = true) :
    c = lastAt k (ks.drop k.toNat) := by
  have hk : k.toNat < ks.length := by omega
  have e1 : (k + 1).toNat = k.toNat + 1 := by omega
  rw [List.drop_eq_getElem_cons hk, lastAt, ← e1, ← e]
  have : ks[k.toNat] = ks.getD k.toNat 0 := by simp [List.getD_eq_getElem?_getD, hk]
  rw [this, h]; simp
theorem lastAt_step_put {ks : List Int} {k : Int} {c : List (Int × Int)} (h0 : 0 ≤ k) (h1 : k < ks.length) (e : c = lastAt (k + 1) (ks.drop (k + 1).toNat)) (h : kdfHas c (ks.getD k.toNat 0) = false) :
    kdfPut c (ks.getD k.toNat 0) k = lastAt k (ks.drop k.toNat) := by
  have hk : k.toNat < ks.length := by omega
  have e1 : (k + 1).toNat = k.toNat + 1 := by omega
  rw [List.drop_eq_getElem_cons hk, lastAt, ← e1, ← e]
  have : ks[k.toNat] = ks.getD k.toNat 0 := by simp [List.getD_eq_getElem?_getD, hk]
  rw [this, h]; simp
theorem lastAt_start (ks : List Int) : ([] : List (Int × Int)) = lastAt ((ks.length : Int) - 1 + 1) (ks.drop ((ks.length : Int) - 1 + 1).toNat) := by
  have e : ((ks.length : Int) - 1 + 1).toNat = ks.length := by omega
  rw [e, List.drop_length]; rfl
end B58
namespace B58
def Mark (P : Prop) : Prop := P
theorem Mark.intro {P : Prop} (h : Mark P) : P := h
theorem Mark.out {P : Prop} (h : P) : Mark P := h
end B58
end
section
open PySem PySem.W PyProof.Rows PySem.Spec PySem.Calls PyProof.V
set_option Elab.async false
set_option maxRecDepth 100000
set_option maxHeartbeats 8000000
namespace B58
section
variable {prog : Program} {w : World} {A : Around} {E : Value → Shared → Prop} {Q : Flow → Shared → Prop} {s : Shared} {env : Env} {h₀ : Heap} {L : Addr} {x : Str} {body : List Stmt}

theorem my_while {σ : Type} {test : Expr} {body : List Stmt} {pos : Pos} {m₀ : Str → Option Value} (Led : σ → List (Addr × Obj)) (ps : σ → List (Str × Value)) (Facts : σ → Prop) (stored : List Str) (P : σ → Prop) (μ : σ → Nat) (c₀ : σ)
    (F : Fr h₀ L s.heap m₀) (N : News h₀ L s.heap (Led c₀)) (hf : Facts c₀) (hk : ∀ p ∈ ps c₀, m₀ p.1 = some p.2) (hp : P c₀)
    (turn : ∀ (c : σ) (u : Str → Option Value) h tk, Facts c → P c → Fr h₀ L h (kstB (fun z => if stored.contains z then u z else m₀ z) (ps c)) → News h₀ L h (Led c) →
      wpAny (model prog w) A (isTrue test env (eval test env)) (fun b s₂ =>
        if b = true then wpAny (model prog w) A (execs body env) (fun f s₃ => Mark (KswPost h₀ L s Led ps Facts stored m₀ P μ Q c f s₃)) E s₂ else Mark (Q .next s₂)) E { s with heap := h, toks := tk })
    (hE : PassesOwn (model prog w) A env E := by passes_own) :
    wpAny (model prog w) A (exec (.While test body [] pos) env) Q E s :=
  ksw_while Led ps Facts stored P μ c₀ F N hf hk hp turn hE

theorem my_bytes {σ : Type} {b : Array UInt8} {ks : List Int} {tb : Tok} {m₀ : Str → Option Value} (Led : σ → List (Addr × Obj)) (ps : σ → List (Str × Value)) (Facts : σ → Prop) (stored : List Str) (P : List Int → σ → Prop) (c₀ : σ)
    (hb : KBw.bInts b = ks) (hh : A.handled = none) (F : Fr h₀ env.locals s.heap m₀) (N : News h₀ env.locals s.heap (Led c₀)) (hf : Facts c₀) (hk : ∀ p ∈ ps c₀, m₀ p.1 = some p.2) (hp : P [] c₀)
    (turn : ∀ (c : σ) (pre post : List Int) (n : Int) t (u : Str → Option Value) h tk own, ks = pre ++ n :: post → 0 ≤ n → n < 256 → OwnOff own ((Led c₀).map (·.1)) → Facts c → P pre c →
      Fr h₀ env.locals h (fun y => if y = x then some (.int n t) else kstB (fun z => if stored.contains z then u z else m₀ z) (ps c) y) → News h₀ env.locals h (Led c ++ own) →
      wpAny (model prog w) A (execs body env) (fun f s₂ => Mark (InvPostN h₀ env.locals (KstS Led ps Facts x stored m₀ P (pre ++ [n])) own ((Led c₀).map (·.1)) { s with heap := h, toks := tk } Q f s₂)) E { s with heap := h, toks := tk })
    (done : ∀ (c : σ) (u : Str → Option Value) h tk, Facts c → P ks c → Fr h₀ env.locals h (fun y => if y = x then u y else kstB (fun z => if stored.contains z then u z else m₀ z) (ps c) y) → News h₀ env.locals h (Led c) → Q .next { s with heap := h, toks := tk }) :
    wpAny (model prog w) A (pyIter (.bytes b tb)) (fun it s₂ => LoopAtV prog w A h₀ env x body Q E it s₂) E s :=
  KStb.kst_bytes Led ps Facts stored P c₀ hb rfl hh F N hf hk hp (fun c pre post n t u h tk own e _ => turn c pre post n t u h tk own e) (fun c u h tk _ => done c u h tk)

theorem my_range {σ : Type} {r : Addr} {a₀ b₀ : Int} {t₀ u₀ v₀ : Tok} {n : Nat} {m₀ : Str → Option Value} (Led : σ → List (Addr × Obj)) (ps : σ → List (Str × Value)) (Facts : σ → Prop) (stored : List Str) (P : List Int → σ → Prop) (c₀ : σ)
    (hh : A.handled = none) (hr : IsRange s.heap r a₀ b₀ 1 t₀ u₀ v₀) (hsmall : Builtin.Range.small a₀ b₀ 1 = true) (hn : Builtin.Range.rangeSize a₀ b₀ 1 = (n : Int)) (F : Fr h₀ env.locals s.heap m₀) (N : News h₀ env.locals s.heap (Led c₀)) (hf : Facts c₀) (hk : ∀ p ∈ ps c₀, m₀ p.1 = some p.2) (hp : P [] c₀)
    (turn : ∀ (c : σ) (pre : List Int) (k : Int) t (u : Str → Option Value) h tk own, k = a₀ + (pre.length : Int) → pre.length < n → OwnOff own ((Led c₀).map (·.1)) → Facts c → P pre c →
      Fr h₀ env.locals h (fun y => if y = x then some (.int k t) else kstB (fun z => if stored.contains z then u z else m₀ z) (ps c) y) → News h₀ env.locals h (Led c ++ own) →
      wpAny (model prog w) A (execs body env) (fun f s₂ => Mark (InvPostN h₀ env.locals (KstS Led ps Facts x stored m₀ P (pre ++ [k])) own ((Led c₀).map (·.1)) { s with heap := h, toks := tk } Q f s₂)) E { s with heap := h, toks := tk })
    (done : ∀ (c : σ) (u : Str → Option Value) h tk, Facts c → P (rangeKs a₀ n) c → Fr h₀ env.locals h (fun y => if y = x then u y else kstB (fun z => if stored.contains z then u z else m₀ z) (ps c) y) → News h₀ env.locals h (Led c) → Q .next { s with heap := h, toks := tk }) :
    wpAny (model prog w) A (pyIter (.ref r)) (fun it s₂ => LoopAtV prog w A h₀ env x body Q E it s₂) E s :=
  kst_range Led ps Facts stored P c₀ hh hr hsmall hn F N hf hk hp turn done

theorem flat_key {kvs : List (Int × Value)} {c : List (Int × Int)} (p : FlatPairs PyData.int kvs (kdfD c)) : kvs.map (·.1) = c.map (·.1) := by
  refine List.ext_getElem? fun i => ?_
  have hl : kvs.length = c.length := by have h9 := p.length; rw [kdfD_length] at h9; omega
  by_cases hi : i < kvs.length
  · have hi' : i < c.length := hl ▸ hi
    obtain ⟨⟨k, v⟩, hx⟩ : ∃ q, kvs[i]? = some q := ⟨kvs[i], by simp [hi]⟩
    obtain ⟨dv, hD, _⟩ := p.at hx
    simp only [kdfD, List.getElem?_map, hx, Option.map_some] at hD ⊢
    rw [List.getElem?_eq_getElem hi'] at hD ⊢
    simp only [Option.map_some, Option.some.injEq, Prod.mk.injEq, PyData.int.injEq] at hD ⊢
    exact hD.1.symm
  · have h1 : kvs[i]? = none := List.getElem?_eq_none (by omega)
    have h2 : c[i]? = none := List.getElem?_eq_none (by omega)
    simp [List.getElem?_map, h1, h2]

/-- a loop over the keys of a dict of ints that stands in the ledger and stays -/
theorem my_dict {σ : Type} {d : Addr} {o : Obj} {kvs : List (Int × Value)} {c : List (Int × Int)} {m₀ : Str → Option Value} (Led : σ → List (Addr × Obj)) (ps : σ → List (Str × Value)) (Facts : σ → Prop) (stored : List Str) (P : List Int → σ → Prop) (c₀ : σ)
    (lo : (d == sysModules) = false) (hd : o.IsDictOf (PySem.intKind prog w) kvs) (hfl : FlatPairs PyData.int kvs (kdfD c)) (hm : ∀ st, (d, o) ∈ Led st)
    (hh : A.handled = none) (F : Fr h₀ env.locals s.heap m₀) (N : News h₀ env.locals s.heap (Led c₀)) (hf : Facts c₀) (hk : ∀ p ∈ ps c₀, m₀ p.1 = some p.2) (hp : P [] c₀)
    (turn : ∀ (st : σ) (pre post : List Int) (n : Int) t (u : Str → Option Value) h tk own, c.map (·.1) = pre ++ n :: post → OwnOff own ((Led c₀).map (·.1)) → Facts st → P pre st →
      Fr h₀ env.locals h (fun y => if y = x then some (.int n t) else kstB (fun z => if stored.contains z then u z else m₀ z) (ps st) y) → News h₀ env.locals h (Led st ++ own) →
      wpAny (model prog w) A (execs body env) (fun f s₂ => Mark (InvPostN h₀ env.locals (KstS Led ps Facts x stored m₀ P (pre ++ [n])) own ((Led c₀).map (·.1)) { s with heap := h, toks := tk } Q f s₂)) E { s with heap := h, toks := tk })
    (done : ∀ (st : σ) (u : Str → Option Value) h tk, Facts st → P (c.map (·.1)) st → Fr h₀ env.locals h (fun y => if y = x then u y else kstB (fun z => if stored.contains z then u z else m₀ z) (ps st) y) → News h₀ env.locals h (Led st) → Q .next { s with heap := h, toks := tk }) :
    wpAny (model prog w) A (pyIter (.ref d)) (fun it s₂ => LoopAtV prog w A h₀ env x body Q E it s₂) E s := by
  have hdo : s.heap.get? d = some o := (N _ (hm c₀)).1
  have hD : s.heap.DictOf (PySem.intKind prog w) d kvs := Heap.dictOf_iff.mpr ⟨o, hdo, hd⟩
  obtain ⟨ep, hat⟩ := hD.dictAt
  refine wpAny_pyIter_dict lo hat ?_
  have hne : d ≠ s.heap.objs.size := Nat.ne_of_lt (Heap.lt_size hdo)
  have W := Walks.dictKeys (prog := prog) (w := w) (A := A) (knd := PySem.intKind prog w) hh s.heap.objs.size d hne kvs ep
  have hkeys := flat_key hfl
  have hlen : kvs.length = (c.map (·.1)).length := by rw [← hkeys, List.length_map]
  refine ⟨_, _, _, kvs.length, _, _, m₀, Led c₀, (fun i m nx => nx.map (·.1) = (Led c₀).map (·.1) ∧ KstS Led ps Facts x stored m₀ P ((c.map (·.1)).take i) m nx), rfl, W, ?_, ?_, ?_,
    ⟨⟨_, Heap.get?_push_size _ rfl, rfl, rfl⟩, hat.push _⟩, F.push _, (fun p hp => ⟨Heap.get?_push_of_some _ (N p hp).1, (N p hp).2⟩), ⟨rfl, c₀, rfl, hf, hk, fun _ _ _ _ => rfl, by simpa using hp⟩, ?_, ?_⟩
  · intro hm'
    rcases List.mem_cons.mp hm' with e | hm'
    · exact absurd F.ns.lt (e ▸ Nat.lt_irrefl _)
    · exact (N _ (hm c₀)).2.1 ((List.mem_singleton.mp hm').symm)
  · intro b hb
    rw [List.mem_singleton.mp hb]
    exact next_is_new F
  · intro p hp hI
    exact absurd (Heap.lt_size (N p hp).1) ((List.mem_singleton.mp hI) ▸ Nat.lt_irrefl _)
  · rintro i v m₁ news₁ s₁ own ⟨hh', tk', rfl⟩ hin ⟨k, xv, hx, hkey⟩ ⟨hadr, st, rfl, hf', h1, h2, hp'⟩ hoff hown hget hall _ F₁ N₁
    have hsep : OwnOff (own.filter fun p => decide (p.1 = s.heap.objs.size)) ((Led c₀).map (·.1)) := by
      intro p hp b hb e
      obtain ⟨q, hq, rfl⟩ := List.mem_map.mp hb
      have h1 : p.1 = s.heap.objs.size := by simpa using (List.mem_filter.mp hp).2
      exact absurd (Heap.lt_size (N q hq).1) (by rw [← e, h1]; exact Nat.lt_irrefl _)
    have hv : ∃ t, v = .int k t := by
      cases v with
      | int j t =>
        refine ⟨t, ?_⟩
        have : j = k := by simpa [PySem.intKind, Value.isInt] using hkey
        rw [this]
      | _ => simp [PySem.intKind, Value.isInt] at hkey
    obtain ⟨t, rfl⟩ := hv
    have hck : (c.map (·.1))[i]? = some k := by rw [← hkeys, List.getElem?_map, hx]; rfl
    have hs : (c.map (·.1)).take (i + 1) = (c.map (·.1)).take i ++ [k] := by simp [List.take_add_one, hck]
    have e : c.map (·.1) = (c.map (·.1)).take i ++ k :: (c.map (·.1)).drop (i + 1) := by
      have ht := List.take_append_drop (i + 1) (c.map (·.1))
      rw [hs, List.append_assoc] at ht
      exact ht.symm
    have N₂ : News h₀ env.locals hh' (Led st ++ own.filter fun p => decide (p.1 = s.heap.objs.size)) := fun p hp => N₁ p ((List.mem_append.mp hp).elim (fun h => List.mem_append.mpr (.inr h)) fun h => List.mem_append.mpr (.inl ((List.mem_filter.mp h).1)))
    have hlo : hh'.get? d = some o := (N₁ _ (List.mem_append.mpr (.inr (hm st)))).1
    refine wpAny_mono (turn st _ _ k t m₁ hh' tk' _ e hsep hf' hp' (kst_fr h1 h2 F₁) N₂) (fun f s₂ p => ?_) fun _ _ e => e
    have fin : InvEndN h₀ env.locals (KstS Led ps Facts x stored m₀ P ((c.map (·.1)).take i ++ [k])) (own.filter fun p => decide (p.1 = s.heap.objs.size)) ((Led c₀).map (·.1)) { s with heap := hh', toks := tk' } s₂ →
        LoopStepU h₀ env.locals [s.heap.objs.size] own (fun m nx => nx.map (·.1) = (Led c₀).map (·.1) ∧ KstS Led ps Facts x stored m₀ P ((c.map (·.1)).take (i + 1)) m nx) { s with heap := hh', toks := tk' } .next s₂ := by
      rintro ⟨h', tk, m', news', nx, e', F', N', hn, ho, ha, hS⟩
      refine ⟨rfl, h', tk, m', nx, e', F', fun p hp => ?_, fun p hp => ?_, ha, by rw [hs]; exact hS⟩
      · rcases List.mem_append.mp hp with h | h
        · by_cases hI : p.1 = s.heap.objs.size
          · exact N' p (ho p (List.mem_filter.mpr ⟨h, by simpa using hI⟩))
          · have h1 : p.1 = d := by
              rcases List.mem_cons.mp (hown p h) with h2 | h2
              · exact absurd h2 hI
              · exact List.mem_singleton.mp h2
            have h2 : hh'.get? p.1 = some p.2 := hget p h
            rw [h1, hlo] at h2
            have h3 : p = (d, o) := Prod.ext h1 (Option.some.inj h2).symm
            rw [h3]
            obtain ⟨c', rfl, _⟩ := hS
            exact N' _ (hn _ (hm c'))
        · exact N' p (hn p h)
      · have h1 : p.1 ∈ nx.map (·.1) := List.mem_map.mpr ⟨p, hp, rfl⟩
        rw [ha] at h1
        obtain ⟨q, hq, e⟩ := List.mem_map.mp h1
        intro hI
        exact absurd (Heap.lt_size (N q hq).1) (by rw [e, List.mem_singleton.mp hI]; exact Nat.lt_irrefl _)
    cases f with
    | ret v => exact p
    | brk => exact p
    | next => exact fin p
    | cont => exact fin p
  · rintro h' tk m' news' F' N' _ ⟨_, st, rfl, hf', h1, h2, hp'⟩
    have hl : (c.map (·.1)).take kvs.length = c.map (·.1) := by rw [hlen, List.take_length]
    rw [hl] at hp'
    exact done st m' h' tk hf' hp' (kst_frOut h1 h2 F') N'
end
end B58
end
section
open PySem PySem.W PyProof.Rows PySem.Spec PySem.Calls
set_option Elab.async false
set_option maxRecDepth 100000
set_option maxHeartbeats 8000000
set_option pp.deepTerms false
set_option pp.maxSteps 3000
namespace B58
local macro_rules | `(tactic| ksw_same) => `(tactic| (intro z h2 h3; (simp only [List.forall_mem_cons, List.not_mem_nil, false_implies, implies_true, and_true, ne_eq] at h2); (simp [kstB, h2]; done)))

theorem last_ok {w : World} {mean : ExcName → Option Value} {mg mb : Str → Option Value}
    {dp un : Nat} {gd : Option (List Code)} {cn : Str} {cs : Scope} {a : Addr} {ccd : Value} {cl : List (Str × Addr)} {outer : List Env} {A₀ : Around} {base h₀ : Heap} {L : Addr} {m : Str → Option Value} {news : List (Addr × Obj)} {s : Shared}
    {Q E : Value → Shared → Prop} {b : Array UInt8} {t : Tok} {ks : List Int}
    (B : Below A₀ base outer h₀) (F : Fr h₀ L s.heap m) (X : (hd.heap_39 w.params).In h₀) (N : News h₀ L s.heap news) (T : Top hd.view_39 (looseW hd.view_39 [Str.ofString "b58decode_int"]) mean mg mb h₀)
    (hk : cs.kind = .function) (hdp : dp + 3 < recursionLimit) (hun : un + 40 < cLine) (hks : KBw.bInts b = ks) (hlen : ks.length ≤ 100)
    (hret : ∀ d o kvs h' tk', Fr h₀ L h' m → News h₀ L h' ((d, o) :: news) → (∀ p ∈ news, p.1 < d) → (d == sysModules) = false → o.IsDictOf (PySem.intKind PySem.Challenge.rw_eg5001_01.row.prog w) kvs → PyProof.V.FlatPairs PyData.int kvs (kdfD (lastAt 0 ks)) → Q (.ref d) { s with heap := h', toks := tk' }) :
    wpAny (model PySem.Challenge.rw_eg5001_01.row.prog w) (ktrTop dp un gd cn cs L a ccd cl outer) (call (.ref 51) [.bytes b t]) Q E s := by
  revert X; k_fill; intro X
  k_with_none
  have hMk := kstMark
  k_with "exec While Compare cons nil" => refine Mark.intro ?_
  refine wpAny_call ?_
  k_dflt ktr_enter
  k_steps
  refine Mark.out ?_
  rename Fr _ _ _ _ => F1
  rename News _ _ _ _ => N1
  rename Obj.IsDictOf (PySem.intKind PySem.Challenge.rw_eg5001_01.row.prog w) _ _ => hD1
  rename PyProof.V.FlatPairs PyData.int _ _ => hF1
  rename (∀ p ∈ news, p.1 < _) => hl1
  rename (_ == sysModules) = false => hS1
  rename_i d1 h2 o1 hs fs h1 h0
  refine my_while (σ := Obj × List (Int × Value) × List (Int × Int) × Int × Tok)
    (fun c => (d1, c.1) :: news) (fun c => [(Str.ofString "k", Value.int c.2.2.2.1 c.2.2.2.2)])
    (fun c => c.1.IsDictOf (PySem.intKind PySem.Challenge.rw_eg5001_01.row.prog w) c.2.1 ∧ PyProof.V.FlatPairs PyData.int c.2.1 (kdfD c.2.2.1)) []
    (fun c => -1 ≤ c.2.2.2.1 ∧ c.2.2.2.1 < ks.length ∧ c.2.2.1 = lastAt (c.2.2.2.1 + 1) (ks.drop (c.2.2.2.1 + 1).toNat) ∧ c.2.2.1.length ≤ 100)
    (fun c => (c.2.2.2.1 + 1).toNat) (o1, [], [], _, _) F1 N1 ⟨hD1, hF1⟩ (by intro p hp; rw [List.mem_singleton.mp hp]; rfl) ⟨by dsimp only; omega, by dsimp only; omega, lastAt_start ks, by simp⟩ ?_ ?_
  · intro c u h tk hf hp F2 N2 
    obtain ⟨o2, kvs2, c2, k2, t2⟩ := c
    obtain ⟨hD2, hF2⟩ := hf
    obtain ⟨hp1, hp2, hp3, hp4⟩ := hp
    dsimp only at hp1 hp2 hp3 hp4 hD2 hF2 N2 F2
    clear F1 N1 hD1 hF1 hs fs
    k_fold
    k_steps
    · rename (kdfHas c2 _ = true) => hh
      refine Mark.out (ksw_end (o2, kvs2, c2, k2 - 1, _) (by assumption) (by assumption) (fun p hp => hp) ⟨hD2, hF2⟩ (by intro p hp; rw [List.mem_singleton.mp hp]; rfl) (by ksw_same) ⟨by dsimp only; omega, by dsimp only; omega, ?_, hp4⟩ (by dsimp only; omega))
      dsimp only
      rw [Int.sub_add_cancel]
      exact lastAt_step_has (by assumption) hp2 hp3 hh
    · rename (kdfHas c2 _ = false) => hh
      have hnew : kdfPut c2 (ks.getD k2.toNat 0) k2 = lastAt (k2 - 1 + 1) (ks.drop (k2 - 1 + 1).toNat) := by
        rw [Int.sub_add_cancel]
        exact lastAt_step_put (by assumption) hp2 hp3 hh
      refine Mark.out (ksw_end (_, _, kdfPut c2 (ks.getD k2.toNat 0) k2, k2 - 1, _) (by assumption) (by assumption) (fun p hp => hp) ⟨by assumption, by assumption⟩ (by intro p hp; rw [List.mem_singleton.mp hp]; rfl) (by ksw_same) ⟨by dsimp only; omega, by dsimp only; omega, hnew, ?_⟩ (by dsimp only; omega))
      dsimp only
      rw [hnew]
      refine Nat.le_trans (lastAt_len _ _) ?_
      rw [List.length_drop]; omega
    · refine Mark.out ?_
      have hk2 : k2 = -1 := by omega
      subst hk2
      have e0 : c2 = lastAt 0 ks := by simpa using hp3
      subst e0
      k_steps
      exact hret _ _ _ _ _ (by assumption) (by assumption) hl1 hS1 hD2 hF2
  · passes_own
end B58
end
section
open PySem PySem.W PyProof.Rows PySem.Spec PySem.Calls
set_option Elab.async false
set_option maxRecDepth 100000
set_option maxHeartbeats 8000000
set_option pp.deepTerms false
set_option pp.maxSteps 3000
namespace B58

def SameD (c1 c2 : List (Int × Int)) : Prop := c1.length = c2.length ∧ c1.length ≤ 200 ∧ ∀ x ∈ c2.map (·.1), kdfHas c1 x = true ∧ kdfHas c2 x = true ∧ kdfLook c1 x 0 = kdfLook c2 x 0
theorem same_ok {w : World} {mean : ExcName → Option Value} {mg mb : Str → Option Value}
    {dp un : Nat} {gd : Option (List Code)} {cn : Str} {cs : Scope} {a : Addr} {ccd : Value} {cl : List (Str × Addr)} {outer : List Env} {A₀ : Around} {base h₀ : Heap} {L : Addr} {m : Str → Option Value} {news : List (Addr × Obj)} {s : Shared}
    {Q E : Value → Shared → Prop} {d1 : Addr} {o1 : Obj} {kvs1 : List (Int × Value)} {c1 : List (Int × Int)} {d2 : Addr} {o2 : Obj} {kvs2 : List (Int × Value)} {c2 : List (Int × Int)}
    (B : Below A₀ base outer h₀) (F : Fr h₀ L s.heap m) (X : (hd.heap_39 w.params).In h₀) (N : News h₀ L s.heap news) (T : Top hd.view_39 (looseW hd.view_39 [Str.ofString "b58decode_int"]) mean mg mb h₀)
    (hk : cs.kind = .function) (hdp : dp + 3 < recursionLimit) (hun : un + 40 < cLine)
    (hSd1 : (d1 == sysModules) = false) (hmd1 : (d1, o1) ∈ news) (hDd1 : o1.IsDictOf (PySem.intKind PySem.Challenge.rw_eg5001_01.row.prog w) kvs1) (hFd1 : PyProof.V.FlatPairs PyData.int kvs1 (kdfD c1))
    (hSd2 : (d2 == sysModules) = false) (hmd2 : (d2, o2) ∈ news) (hDd2 : o2.IsDictOf (PySem.intKind PySem.Challenge.rw_eg5001_01.row.prog w) kvs2) (hFd2 : PyProof.V.FlatPairs PyData.int kvs2 (kdfD c2)) (hsame : SameD c1 c2)
    (hret : ∀ h' tk', Fr h₀ L h' m → News h₀ L h' news → Q (.bool true) { s with heap := h', toks := tk' }) :
    wpAny (model PySem.Challenge.rw_eg5001_01.row.prog w) (ktrTop dp un gd cn cs L a ccd cl outer) (call (.ref 68) [.ref d1, .ref d2]) Q E s := by
  revert X; k_fill; intro X
  k_with_none
  have hMk := kstMark

  k_with "exec For Name Name cons nil" => refine Mark.intro ?_
  obtain ⟨hs1, hs2, hs3⟩ := hsame
  have hs4 : c2.length ≤ 200 := hs1 ▸ hs2
  refine wpAny_call ?_
  k_dflt ktr_enter
  k_steps
  · omega
  · refine Mark.out ?_
    rename Fr _ _ _ _ => F1
    rename News _ _ _ _ => N1
    with_unfolding_all refine' For_invVF F1 ?k1 ?k2 ?_
    case k1 => exact rfl
    case k2 => exact rfl
    k_dflt (refine ld F1 (by rfl) ?_)
    refine my_dict (σ := Unit) (fun _ => news) (fun _ => []) (fun _ => True) [] (fun _ _ => True) () hSd2 hDd2 hFd2 (fun _ => hmd2) (by rfl) F1 N1 trivial (fun _ h => nomatch h) trivial ?_ ?_
    · intro _ pre post n t u h tk own e hoff _ _ F2 N2
      have hx := hs3 n (by rw [e]; simp)
      obtain ⟨hx1, hx2, hx3⟩ := hx
      have hm1 : (d1, o1) ∈ news ++ own := List.mem_append_left _ hmd1
      have hm2 : (d2, o2) ∈ news ++ own := List.mem_append_left _ hmd2
      clear F1 N1
      dsimp only at F2 N2 ⊢
      change wpAny _ _ _ _ _ _
      k_fold
      k_steps
      · exact absurd hx3 (by assumption)
      · refine Mark.out (kst_end (x := Str.ofString "x") () (by assumption) (by assumption) (fun p hp => List.mem_append_left _ hp) (fun p hp => List.mem_append_right _ hp) rfl trivial (fun _ h => nomatch h) ?_ trivial)
        intro z h1 h2 h3
        simp [kstB, h1]
    · intro _ u h tk _ _ F2 N2
      clear F1 N1
      k_steps
      exact hret _ _ (by assumption) (by assumption)
end B58
end
section
open PySem PySem.W PyProof.Rows PySem.Spec PySem.Calls
set_option Elab.async false
set_option maxRecDepth 100000
set_option maxHeartbeats 8000000
namespace B58
section
variable {prog : Program} {w : World} {A : Around} {E : Value → Shared → Prop} {s : Shared}
theorem adjust_upto (b n : Nat) (hb : b ≤ n) : Builtin.Slice.sliceAdjust none (some (b : Int)) 1 (n : Int) = (0, (b : Int)) := by
  unfold Builtin.Slice.sliceAdjust
  have h1 : ¬ ((1 : Int) < 0) := by omega
  have h2 : ¬ ((b : Int) < 0) := by omega
  simp only [h1, h2, if_false]
  congr 1
  omega
theorem places_upto (b : Nat) : Builtin.Slice.slicePlaces 0 (b : Int) 1 = b := by
  unfold Builtin.Slice.slicePlaces
  have h1 : (1 : Int) > 0 := by omega
  simp only [h1, if_true, Int.ediv_one]
  split <;> omega
theorem sliceApplied_upto {sl : Addr} {b n : Nat} {u : Tok} {Q : Int × Int × Nat → Shared → Prop} (hs : s.heap.IsSliceOf sl .none (.int b u) .none) (hb : b ≤ n) (h : Q (0, 1, b) s) :
    wpAny (model prog w) A (Builtin.Slice.sliceApplied (.ref sl) (pure (n : Int))) Q E s := by
  obtain ⟨os, hos, hcs, hds⟩ := id hs
  unfold Builtin.Slice.sliceApplied Builtin.Slice.sliceFields
  refine wpAny_bind (wpAny_bind (wpAny_field hos hds (x := .none) rfl (wpAny_bind (wpAny_field hos hds (x := .int b u) rfl (wpAny_bind (wpAny_field hos hds (x := .none) rfl (wpAny_pure ?_)))))))
  refine wpAny_bind (slicePart_none ?_)
  show wpAny _ _ (if ((1 : Int) == 0) = true then _ else _) _ _ s
  rw [if_neg (by decide)]
  refine wpAny_bind (slicePart_none (wpAny_bind (slicePart_int (wpAny_bind (wpAny_pure ?_)))))
  show wpAny _ _ (match Builtin.Slice.sliceAdjust none (some (b : Int)) 1 (n : Int) with | (lo, hi) => pure (lo, (1 : Int), Builtin.Slice.slicePlaces lo hi 1)) _ _ s
  rw [adjust_upto b n hb]
  show wpAny _ _ (pure ((0 : Int), (1 : Int), Builtin.Slice.slicePlaces 0 (b : Int) 1)) _ _ s
  rw [places_upto b]
  exact wpAny_pure h
theorem pick_upto (xs : Array Value) (b : Nat) : ((List.range b).filterMap fun (k : Nat) => xs[((0 : Int) + (k : Int) * 1).toNat]?).toArray = (xs.toList.take b).toArray := by
  have e : (fun (k : Nat) => xs[((0 : Int) + (k : Int) * 1).toNat]?) = fun k => xs[0 + k]? := by
    funext k
    have : ((0 : Int) + (k : Int) * 1).toNat = 0 + k := by omega
    rw [this]
  rw [e]
  have := pick_run xs 0 b
  rw [List.filterMap_map] at this
  have e2 : ((fun x => xs[x]?) ∘ fun x => 0 + x) = fun k => xs[0 + k]? := rfl
  rw [e2] at this
  rw [this]; simp
theorem getItem_tuple_upto {t sl : Addr} {items : Array Value} {b : Nat} {u : Tok} {Q : Value → Shared → Prop} (ht : IsTup s.heap t items) (hs : s.heap.IsSliceOf sl .none (.int b u) .none) (hb : b < items.size)
    (h : Q (.ref s.heap.objs.size) { s with heap := s.heap.push { cls := .type "tuple", data := .seq (items.toList.take b).toArray } })
    (hsz : items.size ≤ sizeLine) : wpAny (model prog w) A (getItem (.ref t) (.ref sl)) Q E s := by
  have htake : sizeOk (.seq (items.toList.take b).toArray) := by
    show (items.toList.take b).toArray.size ≤ sizeLine
    rw [List.size_toArray, List.length_take, Array.length_toList]
    omega
  obtain ⟨os, hos, hcs, hds⟩ := id hs
  have hTs : s.TypeIs (.ref sl) "slice" := ⟨os, hos, hcs⟩
  unfold getItem
  try with_reducible refine wpAny_holding ?_
  first | refine wpAny_bind (wpAny_pure ?_) | skip
  refine wpAny_bind (wpAny_sequenceKey ht.typeIs (by decide) ?_)
  refine wpAny_bind (wpAny_callSpecial?_slot (name := Str.ofString "__getitem__") ht.typeIs slot_tuple_getitem
    (wpAny_call_entry slot_tuple_getitem ht.typeIs entry_tuple_getitem ?_ (args_tuple_getitem _ _)))
  show wpAny _ _ (Builtin.Tuple.tupleItemsOf (.ref t) >>= _) _ _ s
  refine wpAny_bind (tupleItemsOf_ ht ?_)
  refine wpAny_bind (wpAny_typeOf hTs ?_)
  rw [if_pos (by decide)]
  refine wpAny_bind (sliceApplied_upto hs (Nat.le_of_lt hb) ?_)
  have hno : ¬ (((0 : Int) == 0 && (1 : Int) == 1 && b == items.size) = true) := by
    have : (b == items.size) = false := by rw [beq_eq_false_iff_ne]; omega
    rw [this]; simp
  show wpAny _ _ (if ((0 : Int) == 0 && (1 : Int) == 1 && b == items.size) = true then _ else _) _ _ s
  rw [if_neg hno, pick_upto items b]
  first
    | exact wpAny_bind (m := Builtin.Tuple.tupleExact _) (wpAny_newObj_type (wpAny_pure ⟨_, rfl, wpAny_pure h⟩) htake)
    | exact wpAny_bind (wpAny_bind (m := Builtin.Tuple.tupleExact _) (wpAny_newObj_type (wpAny_pure ⟨_, rfl, wpAny_pure h⟩) htake))
end
section
variable {prog : Program} {w : World} {A : Around} {E : Value → Shared → Prop} {s : Shared} {h₀ : Heap} {L : Addr} {m : Str → Option Value} {news : List (Addr × Obj)} {K : Frag}
theorem slice_tuple_upto {value slice : Expr} {t : Addr} {items : Array Value} {b : Nat} {u : Tok} {Q : Value → Shared → Prop}
    (F : Fr h₀ L s.heap m) (N : News h₀ L s.heap news) (ht : IsTup s.heap t items) (hb : b < items.size)
    (h : ∀ D h', Fr h₀ L h' m → News h₀ L h' ((D, { cls := .type "tuple", data := .seq (items.toList.take b).toArray }) :: news) → (∀ p ∈ news, p.1 < D) → Q (.ref D) { s with heap := h' })
    (hs : subscripted slice false (.ref t) (.ref s.heap.objs.size) = operate [.ref s.heap.objs.size, .ref t] (getItem (.ref t) (.ref s.heap.objs.size)))
    (hg : ∀ r, letTemporaryGo value (.ref t) r = pure ())
    (hsz : items.size ≤ sizeLine) :
    wpAny (model prog w) A (subscriptTail value slice (.ref t) (.ref s.heap.objs.size)) Q E { s with heap := s.heap.push { cls := .type "slice", data := .fields #[.none, .int b u, .none] } } := by
  have ht' : IsTup (s.heap.push { cls := .type "slice", data := .fields #[.none, .int b u, .none] }) t items := ht.keeps fun _ _ e => Heap.get?_push_of_some _ e
  refine subscriptTail_ops (s := { s with heap := s.heap.push { cls := .type "slice", data := .fields #[.none, .int b u, .none] } }) ht'.typeIs slot_tuple_getitem.lookup
    (getItem_tuple_upto ht' (Heap.IsSliceOf.new ..) hb ?_ hsz) hs hg
  have N1 := News.push (F.push { cls := .type "slice", data := .fields #[.none, .int b u, .none] }) (N.grown fun _ _ e => Heap.get?_push_of_some _ e) { cls := .type "tuple", data := .seq (items.toList.take b).toArray }
  rw [Heap.size_push] at N1
  show Q (.ref (s.heap.push _).objs.size) _
  rw [Heap.size_push]
  exact h _ _ ((F.push _).push _) N1 fun p hp => Nat.lt_succ_of_lt (Heap.lt_size (N p hp).1)
theorem slice_tuple_off {value slice : Expr} {t : Addr} {items : Array Value} {b : Nat} {u : Tok} {Q : Value → Shared → Prop}
    (F : Fr h₀ L s.heap m) (N : News h₀ L s.heap news) (ht : IsTup s.heap t items) (h1 : 1 ≤ b) (hb : b ≤ items.size)
    (h : ∀ D h', Fr h₀ L h' m → News h₀ L h' ((D, { cls := .type "tuple", data := .seq (items.toList.drop b).toArray }) :: news) → (∀ p ∈ news, p.1 < D) → Q (.ref D) { s with heap := h' })
    (hs : subscripted slice false (.ref t) (.ref s.heap.objs.size) = operate [.ref s.heap.objs.size, .ref t] (getItem (.ref t) (.ref s.heap.objs.size)))
    (hg : ∀ r, letTemporaryGo value (.ref t) r = pure ())
    (hsz : items.size ≤ sizeLine) :
    wpAny (model prog w) A (subscriptTail value slice (.ref t) (.ref s.heap.objs.size)) Q E { s with heap := s.heap.push { cls := .type "slice", data := .fields #[.int b u, .none, .none] } } :=
  slice_tuple_from F N ht h1 hb (fun h' F' N' => h _ h' F' N' fun p hp => Nat.lt_succ_of_lt (Heap.lt_size (N p hp).1)) hs hg hsz
theorem tup_of_K {t : Addr} {items : Array Value} {dd : Option Addr} {n : Nat} {sl : Array (Option Value)} (X : K.In h₀) (F : Fr h₀ L s.heap m) (e : K.lookup t = some { cls := .type "tuple", dict := dd, data := .seq items n, slots := sl }) : IsTup s.heap t items :=
  ⟨_, F.keep _ _ (X _ _ e), rfl, n, rfl⟩
end
end B58
end
section
open PySem PySem.W PyProof.Rows PySem.Spec PySem.Calls
open PyProof.Rows.LCg PyProof.Rows.LCt
set_option Elab.async false
set_option maxRecDepth 100000
set_option maxHeartbeats 8000000
namespace B58
def StepEnd (h₀ : Heap) (L : Addr) (m : Str → Option Value) (s₁ : Shared) (all : List (Addr × Obj)) (T : Prop) (s₂ : Shared) : Prop :=
  ∃ h' tk, s₂ = { s₁ with heap := h', toks := tk } ∧ Fr h₀ L h' m ∧ News h₀ L h' all ∧ T
theorem StepEnd.intro {h₀ : Heap} {L : Addr} {m : Str → Option Value} {s₁ : Shared} {all all' : List (Addr × Obj)} {T : Prop} {h' : Heap} {tk : Nat} (F : Fr h₀ L h' m) (N : News h₀ L h' all') (hs : ∀ p ∈ all, p ∈ all') (t : T) :
    StepEnd h₀ L m s₁ all T { s₁ with heap := h', toks := tk } := ⟨h', tk, rfl, F, fun p hp => N p (hs p hp), t⟩
def Outs (P : Nat → Value → Prop) (T : Nat → Value → Option Value → Prop) (n : Nat) (ys : List Value) : Prop :=
  ∃ outs : List (Option Value), outs.length = n ∧ (∀ j o, outs[j]? = some o → ∃ v, P j v ∧ T j v o) ∧ ys = outs.filterMap id
section
variable {prog : Program} {w : World} {A : Around} {E : Value → Shared → Prop} {s : Shared} {h₀ : Heap} {L : Addr} {m : Str → Option Value} {env : Env}
theorem restT_all {ct elt : Expr} {x : Str} {scope : Scope} {cl : List (Str × Addr)} {S : List (Addr × Obj) → Prop} {P : Nat → Value → Prop} {Fin : List Value → List (Addr × Obj) → Prop} {news : List (Addr × Obj)} {n : Nat} (T : Nat → Value → Option Value → Prop) (hS : S news)
    (turn : ∀ i v I oI C oC D m₂ h tk (E' : Value → Shared → Prop) ys, P i v → NsObj oC m₂ → m₂ x = some v → Fr h₀ L h m → News h₀ L h ((I, oI) :: (C, oC) :: (D, lst ys) :: news) → Off3 I C D news → ((@Ne Nat I C) ∧ (@Ne Nat I D) ∧ (@Ne Nat C D)) →
      wpAny (model prog w) A (isTrue ct (compEnvC scope cl C env) (eval ct (compEnvC scope cl C env))) (fun ok s' => if ok = true then
        wpAny (model prog w) A (eval elt (compEnvC scope cl C env)) (fun y s'' => Mark (StepEnd h₀ L m { s with heap := h, toks := tk } ((I, oI) :: (C, oC) :: (D, lst ys) :: news) (T i v (some y)) s'')) E' s'
        else Mark (StepEnd h₀ L m { s with heap := h, toks := tk } ((I, oI) :: (C, oC) :: (D, lst ys) :: news) (T i v none) s')) E' { s with heap := h, toks := tk })
    (fin : ∀ ys, Outs P T n ys → Fin ys news) : CompRestT prog w A h₀ L m env ct elt x scope cl s S P Fin n 0 [] news := by
  have main : ∀ k i (outs : List (Option Value)), i + k = n → outs.length = i → (∀ j o, outs[j]? = some o → ∃ v, P j v ∧ T j v o) →
      CompRestT prog w A h₀ L m env ct elt x scope cl s S P Fin k i (outs.filterMap id) news := by
    intro k
    induction k with
    | zero =>
      intro i outs hi hl ho
      exact CompRestT.zero (fin _ ⟨outs, by omega, ho, rfl⟩)
    | succ k ih =>
      intro i outs hi hl ho
      refine CompRestT.succ fun v I oI C oC D m₂ h tk E' hP hoC hx F N off ne => ?_
      have snoc : ∀ o, T i v o → ∀ j o', (outs ++ [o])[j]? = some o' → ∃ v, P j v ∧ T j v o' := by
        intro o ht j o' hj
        rcases Nat.lt_trichotomy j outs.length with h | h | h
        · exact ho j o' (by rwa [List.getElem?_append_left h] at hj)
        · subst h
          rw [List.getElem?_append_right (Nat.le_refl _)] at hj
          simp at hj
          subst hj
          exact ⟨v, hl ▸ hP, hl ▸ ht⟩
        · have : (outs ++ [o])[j]? = none := List.getElem?_eq_none (by rw [List.length_append, List.length_singleton]; omega)
          rw [this] at hj; cases hj
      refine wpAny_mono (turn i v I oI C oC D m₂ h tk E' _ hP hoC hx F N off ne) (fun ok s' hs => ?_) fun _ _ e => e
      cases ok with
      | true =>
        simp only [if_true] at hs ⊢
        refine wpAny_mono hs (fun y s'' hy => ?_) fun _ _ e => e
        obtain ⟨h', tk', rfl, F', N', ht⟩ := hy
        refine ⟨h', tk', news, rfl, F', N', off, hS, ?_⟩
        have := ih (i + 1) (outs ++ [some y]) (by omega) (by rw [List.length_append, List.length_singleton, hl]) (snoc _ ht)
        simpa only [List.filterMap_append, List.filterMap_cons, List.filterMap_nil, id] using this
      | false =>
        simp only [Bool.false_eq_true, if_false] at hs ⊢
        obtain ⟨h', tk', rfl, F', N', ht⟩ := hs
        refine ⟨h', tk', news, rfl, F', N', off, hS, ?_⟩
        have := ih (i + 1) (outs ++ [none]) (by omega) (by rw [List.length_append, List.length_singleton, hl]) (snoc _ ht)
        simpa only [List.filterMap_append, List.filterMap_cons, List.filterMap_nil, id, List.append_nil] using this
  exact main n 0 [] (by omega) rfl (by simp)

theorem restU_all {elt : Expr} {x : Str} {scope : Scope} {cl : List (Str × Addr)} {S : List (Addr × Obj) → Prop} {P : Nat → Value → Prop} {Fin : List Value → List (Addr × Obj) → Prop} {news : List (Addr × Obj)} {n : Nat} (T : Nat → Value → Option Value → Prop) (hS : S news)
    (turn : ∀ i v I oI C oC D m₂ h tk (E' : Value → Shared → Prop) ys, P i v → NsObj oC m₂ → m₂ x = some v → Fr h₀ L h m → News h₀ L h ((I, oI) :: (C, oC) :: (D, lst ys) :: news) → Off3 I C D news → ((@Ne Nat I C) ∧ (@Ne Nat I D) ∧ (@Ne Nat C D)) →
      wpAny (model prog w) A (eval elt (compEnvC scope cl C env)) (fun y s'' => Mark (StepEnd h₀ L m { s with heap := h, toks := tk } ((I, oI) :: (C, oC) :: (D, lst ys) :: news) (T i v (some y)) s'')) E' { s with heap := h, toks := tk })
    (fin : ∀ ys, Outs P T n ys → Fin ys news) : CompRest prog w A h₀ L m env elt x scope cl s S P Fin n 0 [] news := by
  have main : ∀ k i (outs : List (Option Value)), i + k = n → outs.length = i → (∀ j o, outs[j]? = some o → ∃ v, P j v ∧ T j v o) →
      CompRest prog w A h₀ L m env elt x scope cl s S P Fin k i (outs.filterMap id) news := by
    intro k
    induction k with
    | zero =>
      intro i outs hi hl ho
      exact CompRest.zero (fin _ ⟨outs, by omega, ho, rfl⟩)
    | succ k ih =>
      intro i outs hi hl ho
      refine CompRest.succ fun v I oI C oC D m₂ h tk E' hP hoC hx F N off ne => ?_
      have snoc : ∀ o, T i v o → ∀ j o', (outs ++ [o])[j]? = some o' → ∃ v, P j v ∧ T j v o' := by
        intro o ht j o' hj
        rcases Nat.lt_trichotomy j outs.length with h | h | h
        · exact ho j o' (by rwa [List.getElem?_append_left h] at hj)
        · subst h
          rw [List.getElem?_append_right (Nat.le_refl _)] at hj
          simp at hj
          subst hj
          exact ⟨v, hl ▸ hP, hl ▸ ht⟩
        · have : (outs ++ [o])[j]? = none := List.getElem?_eq_none (by rw [List.length_append, List.length_singleton]; omega)
          rw [this] at hj; cases hj
      refine wpAny_mono (turn i v I oI C oC D m₂ h tk E' _ hP hoC hx F N off ne) (fun y s'' hy => ?_) fun _ _ e => e
      obtain ⟨h', tk', rfl, F', N', ht⟩ := hy
      refine ⟨h', tk', news, rfl, F', N', off, hS, ?_⟩
      have := ih (i + 1) (outs ++ [some y]) (by omega) (by rw [List.length_append, List.length_singleton, hl]) (snoc _ ht)
      simpa only [List.filterMap_append, List.filterMap_cons, List.filterMap_nil, id] using this
  exact main n 0 [] (by omega) rfl (by simp)

/-- a source that a comprehension walks -/
structure SrcG (prog : Program) (w : World) (A : Around) (h₀ : Heap) (L : Addr) (m : Str → Option Value) (xv : Value) (s₁ : Shared) (news : List (Addr × Obj)) (oI : Obj) (fp : List Addr) (n : Nat) (P : Nat → Value → Prop) (St : Nat → Heap → Prop) (S : List (Addr × Obj) → Prop) : Prop where
  hh : A.handled = none
  F : Fr h₀ L s₁.heap m
  N : News h₀ L s₁.heap news
  it : ∀ (Q : Value → Shared → Prop) (E : Value → Shared → Prop), Q (.ref s₁.heap.objs.size) { s₁ with heap := s₁.heap.push oI } → wpAny (model prog w) A (pyIter xv) Q E s₁
  W : Walks prog w A s₁.heap.objs.size fp [s₁.heap.objs.size] n P St
  hsz : n ≤ sizeLine
  hIo : ∀ i h, St i h → ∃ o, h.get? s₁.heap.objs.size = some o
  hSt : ∀ i h h' o nw, St i h → h.get? s₁.heap.objs.size = some o → h'.get? s₁.heap.objs.size = some o → (∀ b o, h₀.get? b = some o → h'.get? b = some o) → News h₀ L h' nw → S nw → St i h'
  hst : St 0 (s₁.heap.push oI)
  hfp : ∀ b ∈ fp, b < s₁.heap.objs.size + 1
  hS : S news

theorem ListComp_GT {ct elt iter : Expr} {x : Str} {px : Pos} {scope : Scope} {cl : List (Str × Addr)} {pos : Pos} {Q : Value → Shared → Prop} (F₀ : Fr h₀ L s.heap m)
    (hclos : closureFor scope env = pure cl) (hcell : ∀ y ∈ scope.names, y.2 ≠ .cell) (hkind : scope.kind = .function)
    (hnames : ∀ y ∈ scope.names, y.2 = .local → scope.names.lookup y.1 = some .local) (hx : scope.names.lookup x = some .local)
    (h : wpAny (model prog w) A (eval iter env) (fun xv s₁ => ∃ news oI fp n P St S, SrcG prog w A h₀ L m xv s₁ news oI fp n P St S ∧ ∀ g, CompRestT prog w A h₀ L m env ct elt x scope cl { s₁ with heap := g } S P (FinE h₀ L m { s₁ with heap := g } Q) n 0 [] news) E s)
    (hs : ∀ x, foldedSetIterable iter env x = pure x := by intro _; rfl) :
    wpAny (model prog w) A (eval (.ListComp elt [⟨.Name x px, iter, [ct], 0⟩] scope pos) env) Q E s := by
  rw [eval_ListComp]
  refine wpAny_comprehension_free (use := none) rfl hs hclos hkind hnames (wpAny_mono h (fun xv s₁ h₁ => ?_) fun _ _ e => e)
  obtain ⟨news, oI, fp, n, P, St, S, G, R⟩ := h₁
  refine G.it _ _ ?_
  have up : ∀ b o, s₁.heap.get? b = some o → (s₁.heap.push oI).get? b = some o := fun b o e => Heap.get?_push_of_some _ e
  refine block_T G.W G.hsz G.hIo G.hSt hcell hkind hx G.hst (fun b hb => by rw [Heap.size_push]; exact G.hfp b hb)
    (G.F.keeps up) (G.N.grown up) (Nat.ne_of_lt G.F.ns.lt) (next_is_new G.F) (fun p hp => Nat.ne_of_lt (Heap.lt_size (G.N p hp).1)) G.hS (R _) ?_
  intro D C h tk m' ys news' F' N' o1 hn hC₀ hD₀ hCL hDL hCD offC fin
  refine ⟨m', hn, fun h'' hs'' => fin D h'' tk (F'.change hs'' hCL hC₀) (fun p hp => ?_) o1⟩
  refine ⟨hs''.extBut _ _ ?_ (N' p hp).1, (N' p hp).2⟩
  rcases List.mem_cons.mp hp with rfl | hp
  · exact Ne.symm hCD
  · exact offC p hp

theorem ListComp_GU {elt iter : Expr} {x : Str} {px : Pos} {scope : Scope} {cl : List (Str × Addr)} {pos : Pos} {Q : Value → Shared → Prop} (F₀ : Fr h₀ L s.heap m)
    (hclos : closureFor scope env = pure cl) (hcell : ∀ y ∈ scope.names, y.2 ≠ .cell) (hkind : scope.kind = .function)
    (hnames : ∀ y ∈ scope.names, y.2 = .local → scope.names.lookup y.1 = some .local) (hx : scope.names.lookup x = some .local)
    (h : wpAny (model prog w) A (eval iter env) (fun xv s₁ => ∃ news oI fp n P St S, SrcG prog w A h₀ L m xv s₁ news oI fp n P St S ∧ ∀ g, CompRest prog w A h₀ L m env elt x scope cl { s₁ with heap := g } S P (FinE h₀ L m { s₁ with heap := g } Q) n 0 [] news) E s)
    (hs : ∀ x, foldedSetIterable iter env x = pure x := by intro _; rfl) :
    wpAny (model prog w) A (eval (.ListComp elt [⟨.Name x px, iter, [], 0⟩] scope pos) env) Q E s := by
  rw [eval_ListComp]
  refine wpAny_comprehension_free (use := none) rfl hs hclos hkind hnames (wpAny_mono h (fun xv s₁ h₁ => ?_) fun _ _ e => e)
  obtain ⟨news, oI, fp, n, P, St, S, G, R⟩ := h₁
  refine G.it _ _ ?_
  have up : ∀ b o, s₁.heap.get? b = some o → (s₁.heap.push oI).get? b = some o := fun b o e => Heap.get?_push_of_some _ e
  refine block_U G.W G.hsz G.hIo G.hSt hcell hkind hx G.hst (fun b hb => by rw [Heap.size_push]; exact G.hfp b hb)
    (G.F.keeps up) (G.N.grown up) (Nat.ne_of_lt G.F.ns.lt) (next_is_new G.F) (fun p hp => Nat.ne_of_lt (Heap.lt_size (G.N p hp).1)) G.hS (R _) ?_
  intro D C h tk m' ys news' F' N' o1 hn hC₀ hD₀ hCL hDL hCD offC fin
  refine ⟨m', hn, fun h'' hs'' => fin D h'' tk (F'.change hs'' hCL hC₀) (fun p hp => ?_) o1⟩
  refine ⟨hs''.extBut _ _ ?_ (N' p hp).1, (N' p hp).2⟩
  rcases List.mem_cons.mp hp with rfl | hp
  · exact Ne.symm hCD
  · exact offC p hp

theorem Assign_GT {ct elt iter : Expr} {x y : Str} {px py : Pos} {scope : Scope} {cl : List (Str × Addr)} {pos spos : Pos} {Q : Flow → Shared → Prop} (F₀ : Fr h₀ L s.heap m) (hLe : env.locals = L)
    (hsw : swapsWith (.ListComp elt [⟨.Name x px, iter, [ct], 0⟩] scope pos) (some (.Name y py)) spos.line env = pure true)
    (hclos : closureFor scope env = pure cl) (hcell : ∀ z ∈ scope.names, z.2 ≠ .cell) (hkind : scope.kind = .function)
    (hnames : ∀ z ∈ scope.names, z.2 = .local → scope.names.lookup z.1 = some .local) (hx : scope.names.lookup x = some .local)
    (hy : env.kindOf y = some .local) (hp : (env.scope.kind == .class || (env.scope.kind == .module && env.locals != env.globals)) = false)
    (h : wpAny (model prog w) A (eval iter env) (fun xv s₁ => ∃ news oI fp n P St S, SrcG prog w A h₀ L m xv s₁ news oI fp n P St S ∧ ∀ g, CompRestT prog w A h₀ L m env ct elt x scope cl { s₁ with heap := g } S P (FinA h₀ L m { s₁ with heap := g } y Q) n 0 [] news) E s)
    (hs : ∀ x, foldedSetIterable iter env x = pure x := by intro _; rfl) :
    wpAny (model prog w) A (exec (.Assign [.Name y py] (.ListComp elt [⟨.Name x px, iter, [ct], 0⟩] scope pos) spos) env) Q E s := by
  subst hLe
  rw [exec_Assign_Name_used _ _ _ _ hsw]
  refine wpAny_bind (wpAny_standAt (wpAny_bind ?_))
  show wpAny _ A (do let _ ← comprehension (.ListComp elt [⟨.Name x px, iter, [ct], 0⟩] scope pos) scope env _ (newList []) false (eval iter env) (some (assign (.Name y py) env))) _ _ s
  refine wpAny_bind (wpAny_mono (wpAny_comprehension_free (use := some (assign (.Name y py) env)) (Q := fun _ s' => Q .next s') rfl hs hclos hkind hnames
    (wpAny_mono h (fun xv s₁ h₁ => ?_) fun _ _ e => e)) (fun _ s' hq => wpAny_pure (wpAny_pure hq)) fun _ _ e => e)
  obtain ⟨news, oI, fp, n, P, St, S, G, R⟩ := h₁
  refine G.it _ _ ?_
  have up : ∀ b o, s₁.heap.get? b = some o → (s₁.heap.push oI).get? b = some o := fun b o e => Heap.get?_push_of_some _ e
  refine block_T G.W G.hsz G.hIo G.hSt hcell hkind hx G.hst (fun b hb => by rw [Heap.size_push]; exact G.hfp b hb)
    (G.F.keeps up) (G.N.grown up) (Nat.ne_of_lt G.F.ns.lt) (next_is_new G.F) (fun p hp => Nat.ne_of_lt (Heap.lt_size (G.N p hp).1)) G.hS (R _) ?_
  intro D C h' tk m' ys news' F' N' o1 hn hC₀ hD₀ hCL hDL hCD offC fin
  show wpAny _ A (assign (.Name y py) env (.ref D)) _ _ _
  refine wpAny_assign_Name (wpAny_storeName_local hy F'.ns (fun h₂ hn₂ hs₂ => ?_) hp)
  have hL₀ : h₀.get? env.locals = none := Heap.get?_none_of_le F'.above
  have F₂ : Fr h₀ env.locals h₂ (fun z => if z = y then some (.ref D) else m z) := ⟨hn₂, fun b o e => hs₂.extBut b o (fun q => by rw [q, hL₀] at e; cases e) (F'.keep b o e), F'.above⟩
  refine ⟨m', hn.sameBut hs₂ hCL, fun h'' hs'' => fin D h'' _ (F₂.change hs'' hCL hC₀) (fun p hp => ?_) o1⟩
  have z : h₂.get? p.1 = some p.2 := hs₂.extBut _ _ (N' p hp).2.1 (N' p hp).1
  refine ⟨hs''.extBut _ _ ?_ z, (N' p hp).2⟩
  rcases List.mem_cons.mp hp with rfl | hp
  · exact Ne.symm hCD
  · exact offC p hp

theorem src_bytes {b : Array UInt8} {t : Tok} {s₁ : Shared} {news : List (Addr × Obj)} (hh : A.handled = none) (F : Fr h₀ L s₁.heap m) (N : News h₀ L s₁.heap news) (hsz : b.size ≤ sizeLine) :
    SrcG prog w A h₀ L m (.bytes b t) s₁ news { cls := .type "bytes_iterator", data := .fields #[.bytes b t, .int 0 0] } [s₁.heap.objs.size] b.size
      (fun i v => ∃ c u, b[i]? = some c ∧ v = .int (c.toNat : Int) u) (fun i h => KBw.IsBytesIter h s₁.heap.objs.size b t i) (fun _ => True) where
  hh := hh
  F := F
  N := N
  it := fun Q E hQ => KBw.pyIter_bytes hQ
  W := KBw.walks hh s₁.heap.objs.size b t
  hsz := hsz
  hIo := fun i h st => by obtain ⟨o, e, _⟩ := st; exact ⟨o, e⟩
  hSt := fun i h h' o nw st e e' _ _ _ => by
    obtain ⟨o₁, e₁, r⟩ := st
    rw [e] at e₁
    cases e₁
    exact ⟨o, e', r⟩
  hst := ⟨_, Heap.get?_push_size _ rfl, rfl, rfl⟩
  hfp := fun b' hb => by rw [List.mem_singleton.mp hb]; exact Nat.lt_succ_self _
  hS := trivial

theorem src_list {l : Addr} {vs : List Value} {nn : Nat} {s₁ : Shared} {news : List (Addr × Obj)} (hh : A.handled = none) (F : Fr h₀ L s₁.heap m) (N : News h₀ L s₁.heap news) (hm : (l, listOf vs.toArray nn) ∈ news) (hsz : vs.length ≤ sizeLine) :
    SrcG prog w A h₀ L m (.ref l) s₁ news { cls := .type "list_iterator", data := .fields #[.ref l, .int 0 0] } [s₁.heap.objs.size, l] vs.toArray.size
      (fun i v => vs.toArray[i]? = some v) (fun i h => h.IsListIter s₁.heap.objs.size l i ∧ h.IsList l vs.toArray) (SrcAt h₀ l vs.toArray) where
  hh := hh
  F := F
  N := N
  it := fun Q E hQ => wpAny_pyIter_list ⟨_, (N _ hm).1, rfl, nn, rfl⟩ hQ
  W := Walks.list hh s₁.heap.objs.size l (Nat.ne_of_lt (Heap.lt_size (N _ hm).1)) vs.toArray
  hsz := by rw [List.size_toArray]; exact hsz
  hIo := fun i h st => by obtain ⟨o, e, _⟩ := st.1; exact ⟨o, e⟩
  hSt := list_st
  hst := ⟨⟨_, Heap.get?_push_size _ rfl, rfl, rfl⟩, ⟨_, Heap.get?_push_of_some _ (N _ hm).1, rfl, nn, rfl⟩⟩
  hfp := fun b hb => by
    rcases List.mem_cons.mp hb with rfl | hb
    · exact Nat.lt_succ_self _
    · rw [List.mem_singleton.mp hb]; exact Nat.lt_succ_of_lt (Heap.lt_size (N _ hm).1)
  hS := .inr ⟨_, hm, rfl, nn, rfl⟩

theorem src_tuple {l : Addr} {its : Array Value} {s₁ : Shared} {news : List (Addr × Obj)} (hh : A.handled = none) (F : Fr h₀ L s₁.heap m) (N : News h₀ L s₁.heap news) (hm : (l, ({ cls := .type "tuple", data := .seq its } : Obj)) ∈ news) (hsz : its.size ≤ sizeLine) :
    SrcG prog w A h₀ L m (.ref l) s₁ news { cls := .type "tuple_iterator", data := .fields #[.ref l, .int 0 0] } [s₁.heap.objs.size, l] its.size
      (fun i v => its[i]? = some v) (fun i h => h.IsTupleIter s₁.heap.objs.size l i ∧ h.IsTuple l its) (fun nw => (l, ({ cls := .type "tuple", data := .seq its } : Obj)) ∈ nw) where
  hh := hh
  F := F
  N := N
  it := fun Q E hQ => wpAny_pyIter_tuple ⟨_, (N _ hm).1, rfl, _, rfl⟩ hQ
  W := Walks.tuple hh s₁.heap.objs.size l (Nat.ne_of_lt (Heap.lt_size (N _ hm).1)) its
  hsz := hsz
  hIo := fun i h st => by obtain ⟨o, e, _⟩ := st.1; exact ⟨o, e⟩
  hSt := fun i h h' o nw st e e' _ N' S' => ⟨by obtain ⟨o', q, r⟩ := st.1; rw [e] at q; cases q; exact ⟨o, e', r⟩, ⟨_, (N' _ S').1, rfl, _, rfl⟩⟩
  hst := ⟨⟨_, Heap.get?_push_size _ rfl, rfl, rfl⟩, ⟨_, Heap.get?_push_of_some _ (N _ hm).1, rfl, _, rfl⟩⟩
  hfp := fun b hb => by
    rcases List.mem_cons.mp hb with rfl | hb
    · exact Nat.lt_succ_self _
    · rw [List.mem_singleton.mp hb]; exact Nat.lt_succ_of_lt (Heap.lt_size (N _ hm).1)
  hS := hm

theorem off1_ne {D : Addr} : ∀ {l : List (Addr × Obj)}, Off1 D l → ∀ p ∈ l, p.1 ≠ D
  | [], _, _, hp => nomatch hp
  | _ :: _, h, _, hp => by
    rcases List.mem_cons.mp hp with rfl | hp
    · exact h.1
    · exact off1_ne h.2 _ hp
/-- what a walk of ints with a test by value yields -/
theorem outs_filter {n : Nat} {P : Nat → Value → Prop} {ks : List Int} {q : Int → Bool} (hn : ks.length = n) (hP : ∀ i v, P i v → ∃ k t, ks[i]? = some k ∧ v = Value.int k t) {ys : List Value}
    (h : Outs P (fun _ v o => ∀ k t, v = Value.int k t → (q k = true ∧ o = some v) ∨ (q k = false ∧ o = none)) n ys) : IntsAre ys (ks.filter q) := by
  obtain ⟨outs, hl, ho, rfl⟩ := h
  have main : ∀ (outs : List (Option Value)) (ks : List Int), outs.length = ks.length → (∀ (j : Nat) o, outs[j]? = some o → ∃ k t, ks[j]? = some k ∧ ((q k = true ∧ o = some (Value.int k t)) ∨ (q k = false ∧ o = none))) →
      IntsAre (outs.filterMap id) (ks.filter q) := by
    intro outs
    induction outs with
    | nil =>
      intro ks hl _
      cases ks with
      | nil => exact .nil
      | cons _ _ => simp at hl
    | cons o outs ih =>
      intro ks hl ho
      cases ks with
      | nil => simp at hl
      | cons k ks =>
        have ht := ih ks (by simpa using hl) fun j o' hj => ho (j + 1) o' (by simpa using hj)
        obtain ⟨k', t, hk, h⟩ := ho 0 o rfl
        have hk' : k = k' := by simpa using hk
        subst hk'
        rcases h with ⟨hq, rfl⟩ | ⟨hq, rfl⟩
        · rw [List.filter_cons_of_pos hq]
          exact .cons _ _ ht
        · rw [List.filter_cons_of_neg (by rw [hq]; exact Bool.false_ne_true)]
          exact ht
  refine main outs ks (by omega) fun j o hj => ?_
  obtain ⟨v, hv, hT⟩ := ho j o hj
  obtain ⟨k, t, hk, rfl⟩ := hP j v hv
  exact ⟨k, t, hk, hT k t rfl⟩
/-- what a walk of ints with an element by value yields -/
theorem outs_map {n : Nat} {P : Nat → Value → Prop} {ks : List Int} {f : Int → Int} (hn : ks.length = n) (hP : ∀ i v, P i v → ∃ k t, ks[i]? = some k ∧ v = Value.int k t) {ys : List Value}
    (h : Outs P (fun _ v o => ∀ k t, v = Value.int k t → ∃ t', o = some (Value.int (f k) t')) n ys) : IntsAre ys (ks.map f) := by
  obtain ⟨outs, hl, ho, rfl⟩ := h
  have main : ∀ (outs : List (Option Value)) (ks : List Int), outs.length = ks.length → (∀ (j : Nat) o, outs[j]? = some o → ∃ k t, ks[j]? = some k ∧ o = some (Value.int (f k) t)) →
      IntsAre (outs.filterMap id) (ks.map f) := by
    intro outs
    induction outs with
    | nil =>
      intro ks hl _
      cases ks with
      | nil => exact .nil
      | cons _ _ => simp at hl
    | cons o outs ih =>
      intro ks hl ho
      cases ks with
      | nil => simp at hl
      | cons k ks =>
        have ht := ih ks (by simpa using hl) fun j o' hj => ho (j + 1) o' (by simpa using hj)
        obtain ⟨k', t, hk, rfl⟩ := ho 0 o rfl
        have hk' : k = k' := by simpa using hk
        subst hk'
        exact .cons _ _ ht
  refine main outs ks (by omega) fun j o hj => ?_
  obtain ⟨v, hv, hT⟩ := ho j o hj
  obtain ⟨k, t, hk, rfl⟩ := hP j v hv
  obtain ⟨t', rfl⟩ := hT k t rfl
  exact ⟨k, t', hk, rfl⟩
theorem bytes_ints {b : Array UInt8} {ks : List Int} (hb : KBw.bInts b = ks) : ∀ (i : Nat) (v : Value), (∃ (c : UInt8) (u : Tok), b[i]? = some c ∧ v = Value.int (c.toNat : Int) u) → ∃ (k : Int) (t : Tok), ks[i]? = some k ∧ v = Value.int k t := by
  rintro i v ⟨c, u, hc, rfl⟩
  exact ⟨_, u, by rw [← hb]; exact KBw.ints_get hc, rfl⟩
theorem list_ints {vs : List Value} {ks : List Int} (hi : IntsAre vs ks) : ∀ (i : Nat) (v : Value), vs.toArray[i]? = some v → ∃ (k : Int) (t : Tok), ks[i]? = some k ∧ v = Value.int k t := by
  intro i v hv
  have hv' : vs[i]? = some v := by simpa using hv
  have hlt : i < ks.length := by rw [← hi.length]; exact (List.getElem?_eq_some_iff.mp hv').1
  obtain ⟨t, hx⟩ := hi.get i ks[i] (by simp [hlt])
  rw [hv'] at hx
  exact ⟨ks[i], t, by simp [hlt], Option.some.inj hx⟩
end
end B58
end
section
open PySem PySem.W PyProof.Rows PySem.Spec PySem.Calls PyProof.V
set_option Elab.async false
set_option maxRecDepth 100000
set_option maxHeartbeats 8000000
namespace B58
section
variable {prog : Program} {w : World} {A : Around} {E : Value → Shared → Prop} {Q : Flow → Shared → Prop} {s : Shared} {env : Env} {h₀ : Heap} {x : Str} {body : List Stmt}
/-- a loop over a tuple of ints that stands in the base -/
theorem my_tup {σ : Type} {d : Addr} {vs : List Value} {ks : List Int} {m₀ : Str → Option Value} (Led : σ → List (Addr × Obj)) (ps : σ → List (Str × Value)) (Facts : σ → Prop) (stored : List Str) (P : List Int → σ → Prop) (c₀ : σ)
    (ht : h₀.IsTuple d vs.toArray) (hi : IntsAre vs ks)
    (hh : A.handled = none) (F : Fr h₀ env.locals s.heap m₀) (N : News h₀ env.locals s.heap (Led c₀)) (hf : Facts c₀) (hk : ∀ p ∈ ps c₀, m₀ p.1 = some p.2) (hp : P [] c₀)
    (turn : ∀ (st : σ) (pre post : List Int) (n : Int) t (u : Str → Option Value) h tk own, ks = pre ++ n :: post → OwnOff own ((Led c₀).map (·.1)) → Facts st → P pre st →
      Fr h₀ env.locals h (fun y => if y = x then some (.int n t) else kstB (fun z => if stored.contains z then u z else m₀ z) (ps st) y) → News h₀ env.locals h (Led st ++ own) →
      wpAny (model prog w) A (execs body env) (fun f s₂ => Mark (InvPostN h₀ env.locals (KstS Led ps Facts x stored m₀ P (pre ++ [n])) own ((Led c₀).map (·.1)) { s with heap := h, toks := tk } Q f s₂)) E { s with heap := h, toks := tk })
    (done : ∀ (st : σ) (u : Str → Option Value) h tk, Facts st → P ks st → Fr h₀ env.locals h (fun y => if y = x then u y else kstB (fun z => if stored.contains z then u z else m₀ z) (ps st) y) → News h₀ env.locals h (Led st) → Q .next { s with heap := h, toks := tk }) :
    wpAny (model prog w) A (pyIter (.ref d)) (fun it s₂ => LoopAtV prog w A h₀ env x body Q E it s₂) E s := by
  obtain ⟨od, hod, _⟩ := id ht
  have hts : s.heap.IsTuple d vs.toArray := let ⟨o, e, r⟩ := ht; ⟨o, F.keep _ _ e, r⟩
  have hlt : d < h₀.objs.size := Heap.lt_size hod
  have hdL : d ≠ env.locals := Nat.ne_of_lt (Nat.lt_of_lt_of_le hlt F.above)
  have hdS : d < s.heap.objs.size := Heap.lt_size (F.keep _ _ hod)
  refine wpAny_pyIter_tuple hts ?_
  have W := Walks.tuple (prog := prog) (w := w) (A := A) hh s.heap.objs.size d (Nat.ne_of_lt hdS) vs.toArray
  have hsz : vs.toArray.size = ks.length := by rw [List.size_toArray]; exact hi.length
  refine loop_invN (fun i m nx => KstS Led ps Facts x stored m₀ P (ks.take i) m nx) W ?_ ?_ ?_ ?_
    ⟨⟨_, Heap.get?_push_size _ rfl, rfl, rfl⟩, let ⟨o, e, r⟩ := hts; ⟨o, Heap.get?_push_of_some _ e, r⟩⟩ (F.push _) (fun p hp => ⟨Heap.get?_push_of_some _ (N p hp).1, (N p hp).2⟩) ⟨c₀, rfl, hf, hk, fun _ _ _ _ => rfl, by simpa using hp⟩ ?_ ?_
  · intro hm
    rcases List.mem_cons.mp hm with e | hm
    · exact absurd F.ns.lt (e ▸ Nat.lt_irrefl _)
    · exact hdL (List.mem_singleton.mp hm).symm
  · intro b hb
    rw [List.mem_singleton.mp hb]
    exact next_is_new F
  · intro p hp hI
    exact absurd (Heap.lt_size (N p hp).1) ((List.mem_singleton.mp hI) ▸ Nat.lt_irrefl _)
  · intro p hp hI
    rcases List.mem_cons.mp hI with hI | hI
    · exact absurd (Heap.lt_size (N p hp).1) (hI ▸ Nat.lt_irrefl _)
    · have := (N p hp).2.2
      rw [List.mem_singleton.mp hI, hod] at this
      cases this
  · rintro i v m₁ nx h tk own hi' hP _ hoff ⟨st, rfl, hf', h1, h2, hp'⟩ F₁ N₁
    obtain ⟨k, t, hk', rfl⟩ := list_ints hi i v hP
    have hs : ks.take (i + 1) = ks.take i ++ [k] := by simp [List.take_add_one, hk']
    have e : ks = ks.take i ++ k :: ks.drop (i + 1) := by
      have ht := List.take_append_drop (i + 1) ks
      rw [hs, List.append_assoc] at ht
      exact ht.symm
    rw [hs]
    exact turn st _ _ k t m₁ h tk own e hoff hf' hp' (kst_fr h1 h2 F₁) N₁
  · rintro m₁ nx h tk ⟨st, rfl, hf', h1, h2, hp'⟩ F₁ N₁
    rw [hsz, List.take_length] at hp'
    exact done st m₁ h tk hf' hp' (kst_frOut h1 h2 F₁) N₁
end
def copyC (c : List (Int × Int)) : List (Int × Int) := (c.map (·.1)).foldl (fun out x => kdfPut out x (kdfLook c x 0)) []
def kinL (x : Int) : List Int := (if x = 48 ∨ x = 79 ∨ x = 111 then [48, 79, 111] else [73, 108, 49]).filter fun y => decide (y ≠ x)
def fixStep (c out : List (Int × Int)) (x : Int) : List (Int × Int) :=
  if kdfHas c x = false ∧ ((kinL x).filter (kdfHas c)).length = 1 then kdfPut out x (kdfLook c (((kinL x).filter (kdfHas c)).headD 0) 0) else out
def fixC (c : List (Int × Int)) : List (Int × Int) := [48, 79, 111, 73, 108, 49].foldl (fixStep c) (copyC c)
theorem copy_len (c : List (Int × Int)) : ∀ (l : List Int) (out : List (Int × Int)), (l.foldl (fun out x => kdfPut out x (kdfLook c x 0)) out).length ≤ out.length + l.length
  | [], out => by simp
  | x :: r, out => by
    have h := copy_len c r (kdfPut out x (kdfLook c x 0))
    have h2 := kdfPut_length_le out x (kdfLook c x 0)
    simp only [List.foldl_cons, List.length_cons]
    omega
theorem fixStep_len (c out : List (Int × Int)) (x : Int) : (fixStep c out x).length ≤ out.length + 1 := by
  unfold fixStep
  split
  · exact kdfPut_length_le _ _ _
  · omega
end B58
namespace B58
theorem has_key {c : List (Int × Int)} {n : Int} (h : n ∈ c.map (·.1)) : kdfHas c n = true := by
  obtain ⟨p, hp, rfl⟩ := List.mem_map.mp h
  exact List.any_eq_true.mpr ⟨p, hp, by simp⟩
end B58
namespace B58
theorem led_in (pre l own : List (Addr × Obj)) : ∀ p ∈ pre ++ l, p ∈ pre ++ (l ++ own) := fun p hp =>
  (List.mem_append.mp hp).elim (fun h => List.mem_append_left _ h) fun h => List.mem_append_right _ (List.mem_append_left _ h)
theorem own_in (pre l own : List (Addr × Obj)) : ∀ p ∈ own, p ∈ pre ++ (l ++ own) := fun _ hp => List.mem_append_right _ (List.mem_append_right _ hp)
theorem few {α : Type} {l : List α} (h : l.length ≤ 2) : l = [] ∨ (∃ a, l = [a]) ∨ ∃ a b, l = [a, b] := by
  match l, h with
  | [], _ => exact .inl rfl
  | [a], _ => exact .inr (.inl ⟨a, rfl⟩)
  | [a, b], _ => exact .inr (.inr ⟨a, b, rfl⟩)
theorem alike_mem {pre post : List Int} {n : Int} (e : [48, 79, 111, 73, 108, 49] = pre ++ n :: post) : n = 48 ∨ n = 79 ∨ n = 111 ∨ n = 73 ∨ n = 108 ∨ n = 49 := by
  have h : n ∈ ([48, 79, 111, 73, 108, 49] : List Int) := by rw [e]; simp
  simpa using h
theorem kinL_len {x : Int} (h : x = 48 ∨ x = 79 ∨ x = 111 ∨ x = 73 ∨ x = 108 ∨ x = 49) (q : Int → Bool) : ((kinL x).filter q).length ≤ 2 := by
  refine Nat.le_trans (List.length_filter_le _ _) ?_
  rcases h with rfl | rfl | rfl | rfl | rfl | rfl <;> decide
theorem fold_fix_len (c : List (Int × Int)) : ∀ (l : List Int) (out : List (Int × Int)), (l.foldl (fixStep c) out).length ≤ out.length + l.length
  | [], out => by simp
  | x :: r, out => by
    have h := fold_fix_len c r (fixStep c out x)
    have h2 := fixStep_len c out x
    simp only [List.foldl_cons, List.length_cons]
    omega
theorem alike_is {w : World} {h₀ : Heap} (X : (hd.heap_39 w.params).In h₀) : ∃ vs : List Value, h₀.IsTuple 36 vs.toArray ∧ IntsAre vs [48, 79, 111, 73, 108, 49] :=
  ⟨[.int 48 _, .int 79 _, .int 111 _, .int 73 _, .int 108 _, .int 49 _], ⟨_, X 36 _ (by with_unfolding_all rfl), rfl, _, rfl⟩, .cons _ _ (.cons _ _ (.cons _ _ (.cons _ _ (.cons _ _ (.cons _ _ .nil)))))⟩
end B58
end
section
open PySem PySem.W PyProof.Rows PySem.Spec PySem.Calls
set_option Elab.async false
set_option maxRecDepth 100000
set_option maxHeartbeats 8000000
set_option pp.deepTerms false
set_option pp.maxSteps 3000
namespace B58
open PyProof.Rows.LCg PyProof.Rows.LCt
local macro_rules | `(tactic| walk_at "subscriptTail Name Slice ref ref") => `(tactic| (k_here; (with_reducible show wpAny _ _ (subscriptTail _ (PySem.Expr.Slice none _ none _) (Value.ref _) (Value.ref _)) _ _ _); k_dflt (refine' slice_tuple_upto ?F ?N ?t ?b ?_ ?s ?g ?z; (case F => k_asm); (case N => k_asm); (case t => (refine' tup_of_K ?X ?F2 ?e; (case F2 => k_asm); (case X => k_asm); (case e => k_is))); (case b => decide); (case s => with_unfolding_all rfl); (case g => (intro _; with_unfolding_all rfl)); (case z => decide)); intro D' h' F' N' l1; (try k_lt l1)))
local macro_rules | `(tactic| walk_at "subscriptTail Name Slice ref ref") => `(tactic| (k_here; (with_reducible show wpAny _ _ (subscriptTail _ (PySem.Expr.Slice (some _) none none _) (Value.ref _) (Value.ref _)) _ _ _); k_dflt (refine' slice_tuple_off ?F ?N ?t ?a ?b ?_ ?s ?g ?z; (case F => k_asm); (case N => k_asm); (case t => (refine' tup_of_K ?X ?F2 ?e; (case F2 => k_asm); (case X => k_asm); (case e => k_is))); (case a => decide); (case b => decide); (case s => with_unfolding_all rfl); (case g => (intro _; with_unfolding_all rfl)); (case z => decide)); intro D' h' F' N' l1; (try k_lt l1)))

theorem kin_ok {w : World} {mean : ExcName → Option Value} {mg mb : Str → Option Value}
    {dp un : Nat} {gd : Option (List Code)} {cn : Str} {cs : Scope} {a : Addr} {ccd : Value} {cl : List (Str × Addr)} {outer : List Env} {A₀ : Around} {base h₀ : Heap} {L : Addr} {m : Str → Option Value} {news : List (Addr × Obj)} {s : Shared}
    {Q E : Value → Shared → Prop} {x : Int} {t : Tok}
    (B : Below A₀ base outer h₀) (F : Fr h₀ L s.heap m) (X : (hd.heap_39 w.params).In h₀) (N : News h₀ L s.heap news) (T : Top hd.view_39 (looseW hd.view_39 [Str.ofString "b58decode_int"]) mean mg mb h₀)
    (hk : cs.kind = .function) (hdp : dp + 3 < recursionLimit) (hun : un + 40 < cLine)
    (hx : x = 48 ∨ x = 79 ∨ x = 111 ∨ x = 73 ∨ x = 108 ∨ x = 49)
    (hret : ∀ l ys nn h' tk', Fr h₀ L h' m → News h₀ L h' ((l, listOf ys.toArray nn) :: news) → (∀ p ∈ news, p.1 ≠ l) → IntsAre ys (kinL x) → Q (.ref l) { s with heap := h', toks := tk' }) :
    wpAny (model PySem.Challenge.rw_eg5001_01.row.prog w) (ktrTop dp un gd cn cs L a ccd cl outer) (call (.ref 56) [.int x t]) Q E s := by
  revert X; k_fill; intro X
  k_with_none
  have hMk := kstMark

  k_with "eval ListComp" => refine Mark.intro ?_
  refine wpAny_call ?_
  rcases hx with rfl | rfl | rfl | rfl | rfl | rfl
  all_goals (k_dflt (refine' code_defC ?k1 ?k2 ?k3 ?k4 ?k5 ?kA ?kF ?kK ?k6 ?k7 ?k8 ?k9 ?kB ?kD ?_ ?c2 ?c3 ?c4; (case kA => exact rfl); (case kF => exact rfl); (case kK => assumption); (case k1 => k_asm); (case k2 => k_asm); (case k3 => k_asm); (case k4 => k_asm); (case k5 => k_asm); (case k6 => k_is); (case k7 => k_is); (case k8 => ktr_room); (case k9 => first | exact BindsTo.of_eq rfl | exact binds_K (by k_in) rfl (by k_is) rfl rfl rfl); (case kB => exact rfl); (case kD => decide +kernel); (case c2 => exact rfl); (case c3 => exact rfl); (case c4 => exact rfl); k_whole; intro g' L' h' tk' cells' FG' F' N' Y' B' X' T' l1; (try k_lt l1); k_cells Y'; (try simp only [List.cons_append, List.nil_append] at N'); (try dsimp only); (try k_fold)))
  all_goals k_steps
  all_goals (
    refine Mark.out ?_
    rename Fr _ _ _ _ => F1
    rename News _ _ _ _ => N1
    k_dflt (refine ListComp_GT F1 (by with_unfolding_all rfl) (by decide) (by rfl) (by decide) (by rfl) ?_)
    walk1)
  · refine ⟨_, _, _, _, _, _, _, src_tuple rfl F1 N1 (.head _) (by decide), fun g => ?_⟩
    refine restT_all (fun _ v o => ∀ k t, v = Value.int k t → (decide (k ≠ 48) = true ∧ o = some v) ∨ (decide (k ≠ 48) = false ∧ o = none)) (.head _) ?_ ?_
    · intro i v I oI C oC D m₂ h tk E' ys hP hoC hx F2 N2 off ne
      obtain ⟨k, t, hk, rfl⟩ := list_ints (vs := [_, _, _]) (ks := [48, 79, 111]) (.cons _ _ (.cons _ _ (.cons _ _ .nil))) i v hP
      clear F1 N1
      k_steps
      · refine Mark.out (StepEnd.intro (by assumption) (by assumption) (fun p hp => hp) fun k' t' e => .inl ⟨?_, rfl⟩)
        cases e
        exact decide_eq_true (by assumption)
      · refine Mark.out (StepEnd.intro (by assumption) (by assumption) (fun p hp => hp) fun k' t' e => .inr ⟨?_, rfl⟩)
        cases e
        exact decide_eq_false (fun hne => hne (by assumption))
    · intro ys ho D h tk F3 N3 o1
      have hi := outs_filter (ks := [48, 79, 111]) (q := fun k => decide (k ≠ 48)) rfl (list_ints (vs := [_, _, _]) (ks := [48, 79, 111]) (.cons _ _ (.cons _ _ (.cons _ _ .nil)))) ho
      clear F1 N1
      k_steps
      exact hret _ _ _ _ _ (by assumption) (cb_drop (by assumption) (fun p hp => by rcases List.mem_cons.mp hp with rfl | hp; exact .head _; repeat (first | exact hp | apply List.mem_cons_of_mem))) (fun p hp => off1_ne o1 p (by repeat (first | exact hp | apply List.mem_cons_of_mem))) hi
  · refine ⟨_, _, _, _, _, _, _, src_tuple rfl F1 N1 (.head _) (by decide), fun g => ?_⟩
    refine restT_all (fun _ v o => ∀ k t, v = Value.int k t → (decide (k ≠ 79) = true ∧ o = some v) ∨ (decide (k ≠ 79) = false ∧ o = none)) (.head _) ?_ ?_
    · intro i v I oI C oC D m₂ h tk E' ys hP hoC hx F2 N2 off ne
      obtain ⟨k, t, hk, rfl⟩ := list_ints (vs := [_, _, _]) (ks := [48, 79, 111]) (.cons _ _ (.cons _ _ (.cons _ _ .nil))) i v hP
      clear F1 N1
      k_steps
      · refine Mark.out (StepEnd.intro (by assumption) (by assumption) (fun p hp => hp) fun k' t' e => .inl ⟨?_, rfl⟩)
        cases e
        exact decide_eq_true (by assumption)
      · refine Mark.out (StepEnd.intro (by assumption) (by assumption) (fun p hp => hp) fun k' t' e => .inr ⟨?_, rfl⟩)
        cases e
        exact decide_eq_false (fun hne => hne (by assumption))
    · intro ys ho D h tk F3 N3 o1
      have hi := outs_filter (ks := [48, 79, 111]) (q := fun k => decide (k ≠ 79)) rfl (list_ints (vs := [_, _, _]) (ks := [48, 79, 111]) (.cons _ _ (.cons _ _ (.cons _ _ .nil)))) ho
      clear F1 N1
      k_steps
      exact hret _ _ _ _ _ (by assumption) (cb_drop (by assumption) (fun p hp => by rcases List.mem_cons.mp hp with rfl | hp; exact .head _; repeat (first | exact hp | apply List.mem_cons_of_mem))) (fun p hp => off1_ne o1 p (by repeat (first | exact hp | apply List.mem_cons_of_mem))) hi
  · refine ⟨_, _, _, _, _, _, _, src_tuple rfl F1 N1 (.head _) (by decide), fun g => ?_⟩
    refine restT_all (fun _ v o => ∀ k t, v = Value.int k t → (decide (k ≠ 111) = true ∧ o = some v) ∨ (decide (k ≠ 111) = false ∧ o = none)) (.head _) ?_ ?_
    · intro i v I oI C oC D m₂ h tk E' ys hP hoC hx F2 N2 off ne
      obtain ⟨k, t, hk, rfl⟩ := list_ints (vs := [_, _, _]) (ks := [48, 79, 111]) (.cons _ _ (.cons _ _ (.cons _ _ .nil))) i v hP
      clear F1 N1
      k_steps
      · refine Mark.out (StepEnd.intro (by assumption) (by assumption) (fun p hp => hp) fun k' t' e => .inl ⟨?_, rfl⟩)
        cases e
        exact decide_eq_true (by assumption)
      · refine Mark.out (StepEnd.intro (by assumption) (by assumption) (fun p hp => hp) fun k' t' e => .inr ⟨?_, rfl⟩)
        cases e
        exact decide_eq_false (fun hne => hne (by assumption))
    · intro ys ho D h tk F3 N3 o1
      have hi := outs_filter (ks := [48, 79, 111]) (q := fun k => decide (k ≠ 111)) rfl (list_ints (vs := [_, _, _]) (ks := [48, 79, 111]) (.cons _ _ (.cons _ _ (.cons _ _ .nil)))) ho
      clear F1 N1
      k_steps
      exact hret _ _ _ _ _ (by assumption) (cb_drop (by assumption) (fun p hp => by rcases List.mem_cons.mp hp with rfl | hp; exact .head _; repeat (first | exact hp | apply List.mem_cons_of_mem))) (fun p hp => off1_ne o1 p (by repeat (first | exact hp | apply List.mem_cons_of_mem))) hi
  · refine ⟨_, _, _, _, _, _, _, src_tuple rfl F1 N1 (.head _) (by decide), fun g => ?_⟩
    refine restT_all (fun _ v o => ∀ k t, v = Value.int k t → (decide (k ≠ 73) = true ∧ o = some v) ∨ (decide (k ≠ 73) = false ∧ o = none)) (.head _) ?_ ?_
    · intro i v I oI C oC D m₂ h tk E' ys hP hoC hx F2 N2 off ne
      obtain ⟨k, t, hk, rfl⟩ := list_ints (vs := [_, _, _]) (ks := [73, 108, 49]) (.cons _ _ (.cons _ _ (.cons _ _ .nil))) i v hP
      clear F1 N1
      k_steps
      · refine Mark.out (StepEnd.intro (by assumption) (by assumption) (fun p hp => hp) fun k' t' e => .inl ⟨?_, rfl⟩)
        cases e
        exact decide_eq_true (by assumption)
      · refine Mark.out (StepEnd.intro (by assumption) (by assumption) (fun p hp => hp) fun k' t' e => .inr ⟨?_, rfl⟩)
        cases e
        exact decide_eq_false (fun hne => hne (by assumption))
    · intro ys ho D h tk F3 N3 o1
      have hi := outs_filter (ks := [73, 108, 49]) (q := fun k => decide (k ≠ 73)) rfl (list_ints (vs := [_, _, _]) (ks := [73, 108, 49]) (.cons _ _ (.cons _ _ (.cons _ _ .nil)))) ho
      clear F1 N1
      k_steps
      exact hret _ _ _ _ _ (by assumption) (cb_drop (by assumption) (fun p hp => by rcases List.mem_cons.mp hp with rfl | hp; exact .head _; repeat (first | exact hp | apply List.mem_cons_of_mem))) (fun p hp => off1_ne o1 p (by repeat (first | exact hp | apply List.mem_cons_of_mem))) hi
  · refine ⟨_, _, _, _, _, _, _, src_tuple rfl F1 N1 (.head _) (by decide), fun g => ?_⟩
    refine restT_all (fun _ v o => ∀ k t, v = Value.int k t → (decide (k ≠ 108) = true ∧ o = some v) ∨ (decide (k ≠ 108) = false ∧ o = none)) (.head _) ?_ ?_
    · intro i v I oI C oC D m₂ h tk E' ys hP hoC hx F2 N2 off ne
      obtain ⟨k, t, hk, rfl⟩ := list_ints (vs := [_, _, _]) (ks := [73, 108, 49]) (.cons _ _ (.cons _ _ (.cons _ _ .nil))) i v hP
      clear F1 N1
      k_steps
      · refine Mark.out (StepEnd.intro (by assumption) (by assumption) (fun p hp => hp) fun k' t' e => .inl ⟨?_, rfl⟩)
        cases e
        exact decide_eq_true (by assumption)
      · refine Mark.out (StepEnd.intro (by assumption) (by assumption) (fun p hp => hp) fun k' t' e => .inr ⟨?_, rfl⟩)
        cases e
        exact decide_eq_false (fun hne => hne (by assumption))
    · intro ys ho D h tk F3 N3 o1
      have hi := outs_filter (ks := [73, 108, 49]) (q := fun k => decide (k ≠ 108)) rfl (list_ints (vs := [_, _, _]) (ks := [73, 108, 49]) (.cons _ _ (.cons _ _ (.cons _ _ .nil)))) ho
      clear F1 N1
      k_steps
      exact hret _ _ _ _ _ (by assumption) (cb_drop (by assumption) (fun p hp => by rcases List.mem_cons.mp hp with rfl | hp; exact .head _; repeat (first | exact hp | apply List.mem_cons_of_mem))) (fun p hp => off1_ne o1 p (by repeat (first | exact hp | apply List.mem_cons_of_mem))) hi
  · refine ⟨_, _, _, _, _, _, _, src_tuple rfl F1 N1 (.head _) (by decide), fun g => ?_⟩
    refine restT_all (fun _ v o => ∀ k t, v = Value.int k t → (decide (k ≠ 49) = true ∧ o = some v) ∨ (decide (k ≠ 49) = false ∧ o = none)) (.head _) ?_ ?_
    · intro i v I oI C oC D m₂ h tk E' ys hP hoC hx F2 N2 off ne
      obtain ⟨k, t, hk, rfl⟩ := list_ints (vs := [_, _, _]) (ks := [73, 108, 49]) (.cons _ _ (.cons _ _ (.cons _ _ .nil))) i v hP
      clear F1 N1
      k_steps
      · refine Mark.out (StepEnd.intro (by assumption) (by assumption) (fun p hp => hp) fun k' t' e => .inl ⟨?_, rfl⟩)
        cases e
        exact decide_eq_true (by assumption)
      · refine Mark.out (StepEnd.intro (by assumption) (by assumption) (fun p hp => hp) fun k' t' e => .inr ⟨?_, rfl⟩)
        cases e
        exact decide_eq_false (fun hne => hne (by assumption))
    · intro ys ho D h tk F3 N3 o1
      have hi := outs_filter (ks := [73, 108, 49]) (q := fun k => decide (k ≠ 49)) rfl (list_ints (vs := [_, _, _]) (ks := [73, 108, 49]) (.cons _ _ (.cons _ _ (.cons _ _ .nil)))) ho
      clear F1 N1
      k_steps
      exact hret _ _ _ _ _ (by assumption) (cb_drop (by assumption) (fun p hp => by rcases List.mem_cons.mp hp with rfl | hp; exact .head _; repeat (first | exact hp | apply List.mem_cons_of_mem))) (fun p hp => off1_ne o1 p (by repeat (first | exact hp | apply List.mem_cons_of_mem))) hi
end B58
end
section
open PySem PySem.W PyProof.Rows PySem.Spec PySem.Calls
set_option Elab.async false
set_option maxRecDepth 100000
set_option maxHeartbeats 8000000
set_option pp.deepTerms false
set_option pp.maxSteps 3000
namespace B58
open PyProof.Rows.LCg PyProof.Rows.LCt
local macro_rules | `(tactic| k_mem) => `(tactic| first | with_reducible assumption | with_reducible exact List.mem_cons_self | (with_reducible refine List.mem_cons_of_mem _ ?_; k_mem) | exact List.mem_append_left _ (by assumption) | exact List.mem_append_right _ (by assumption))
theorem fixed_ok {w : World} {mean : ExcName → Option Value} {mg mb : Str → Option Value}
    {dp un : Nat} {gd : Option (List Code)} {cn : Str} {cs : Scope} {a : Addr} {ccd : Value} {cl : List (Str × Addr)} {outer : List Env} {A₀ : Around} {base h₀ : Heap} {L : Addr} {m : Str → Option Value} {news : List (Addr × Obj)} {s : Shared}
    {Q E : Value → Shared → Prop} {d : Addr} {o : Obj} {kvs : List (Int × Value)} {c : List (Int × Int)}
    (B : Below A₀ base outer h₀) (F : Fr h₀ L s.heap m) (X : (hd.heap_39 w.params).In h₀) (N : News h₀ L s.heap news) (T : Top hd.view_39 (looseW hd.view_39 [Str.ofString "b58decode_int"]) mean mg mb h₀)
    (hk : cs.kind = .function) (hdp : dp + 6 < recursionLimit) (hun : un + 100 < cLine)
    (hSd : (d == sysModules) = false) (hmd : (d, o) ∈ news) (hDd : o.IsDictOf (PySem.intKind PySem.Challenge.rw_eg5001_01.row.prog w) kvs) (hFd : PyProof.V.FlatPairs PyData.int kvs (kdfD c)) (hlen : c.length ≤ 100)
    (hret : ∀ d o kvs h' tk', Fr h₀ L h' m → News h₀ L h' ((d, o) :: news) → (∀ p ∈ news, p.1 < d) → (d == sysModules) = false → o.IsDictOf (PySem.intKind PySem.Challenge.rw_eg5001_01.row.prog w) kvs → PyProof.V.FlatPairs PyData.int kvs (kdfD (fixC c)) → Q (.ref d) { s with heap := h', toks := tk' }) :
    wpAny (model PySem.Challenge.rw_eg5001_01.row.prog w) (ktrTop dp un gd cn cs L a ccd cl outer) (call (.ref 61) [.ref d]) Q E s := by
  revert X; k_fill; intro X
  k_with_none
  have hMk := kstMark

  k_with "exec For Name Name cons nil" => refine Mark.intro ?_
  k_with "exec Assign cons ListComp" => refine Mark.intro ?_
  k_with "call ref" => refine Mark.intro ?_
  refine wpAny_call ?_
  k_dflt (refine' code_defC ?k1 ?k2 ?k3 ?k4 ?k5 ?kA ?kF ?kK ?k6 ?k7 ?k8 ?k9 ?kB ?kD ?_ ?c2 ?c3 ?c4; (case kA => exact rfl); (case kF => exact rfl); (case kK => assumption); (case k1 => k_asm); (case k2 => k_asm); (case k3 => k_asm); (case k4 => k_asm); (case k5 => k_asm); (case k6 => k_is); (case k7 => k_is); (case k8 => ktr_room); (case k9 => first | exact BindsTo.of_eq rfl | exact binds_K (by k_in) rfl (by k_is) rfl rfl rfl); (case kB => exact rfl); (case kD => decide +kernel); (case c2 => exact rfl); (case c3 => exact rfl); (case c4 => exact rfl); k_whole; intro g' L' h' tk' cells' FG' F' N' Y' B' X' T' l1; (try k_lt l1); k_cells Y'; (try simp only [List.cons_append, List.nil_append] at N'); (try dsimp only); (try k_fold))
  rename (_ = Data.cell _) => hC
  change _ = Data.cell (some (Value.ref d)) at hC
  k_steps
  refine Mark.out ?_
  rename Fr _ _ _ _ => F1
  rename News _ _ _ _ => N1
  rename Obj.IsDictOf (PySem.intKind PySem.Challenge.rw_eg5001_01.row.prog w) _ [] => hD1
  rename PyProof.V.FlatPairs PyData.int [] _ => hF1
  with_unfolding_all refine' For_invVF F1 ?k1 ?k2 ?_
  case k1 => exact rfl
  case k2 => exact rfl
  walk1
  rename_i oC dO hX oO hSO hs fs hlO h0
  refine my_dict (σ := Obj × List (Int × Value) × List (Int × Int)) (fun st => (dO, st.1) :: (L' + 1, oC) :: news) (fun _ => [])
    (fun st => st.1.IsDictOf (PySem.intKind PySem.Challenge.rw_eg5001_01.row.prog w) st.2.1 ∧ PyProof.V.FlatPairs PyData.int st.2.1 (kdfD st.2.2)) []
    (fun pre st => st.2.2 = pre.foldl (fun out x => kdfPut out x (kdfLook c x 0)) []) (oO, [], []) hSd hDd hFd (fun _ => .tail _ (.tail _ hmd)) (by rfl) F1 N1 ⟨hD1, hF1⟩ (fun _ h => nomatch h) rfl ?_ ?_
  · intro st pre post n t u h tk own e hoff hf hp F2 N2
    obtain ⟨o2, kvs2, c2⟩ := st
    obtain ⟨hD2, hF2⟩ := hf
    have hlen2 : c2.length ≤ 100 := by
      have e1 := congrArg List.length e
      have e2 := copy_len c pre []
      rw [← show c2 = _ from hp] at e2
      simp only [List.length_map, List.length_append, List.length_cons, List.length_nil] at e1 e2
      omega
    have hhas : kdfHas c n = true := has_key (by rw [e]; simp)
    clear F1 N1 hD1 hF1 hs fs
    change Fr g' L' h _ at F2
    change News g' L' h ((dO, o2) :: (L' + 1, oC) :: (news ++ own)) at N2
    change OwnOff own (dO :: (L' + 1) :: news.map (·.1)) at hoff
    have hmd' : (d, o) ∈ news ++ own := List.mem_append_left _ hmd
    change wpAny _ _ _ _ _ _
    dsimp only at hD2 hF2 hp
    k_fold
    k_steps
    rename_i o4 kvs4 F4 N4 hD4 hF4
    refine Mark.out (kst_end (x := Str.ofString "x") (o4, kvs4, kdfPut c2 n (kdfLook c n 0)) F4 N4 (led_in [_, _] news own) (own_in [_, _] news own) rfl ⟨hD4, hF4⟩ (fun _ h => nomatch h) ?_ ?_)
    · intro z h1 h2 h3
      simp [kstB, h1]
    · show kdfPut c2 n (kdfLook c n 0) = _
      rw [List.foldl_append, ← hp]; rfl
  · intro st u h tk hf hp F2 N2
    obtain ⟨o2, kvs2, c2⟩ := st
    obtain ⟨hD2, hF2⟩ := hf
    change Fr g' L' h _ at F2
    change News g' L' h ((dO, o2) :: (L' + 1, oC) :: news) at N2
    change c2 = copyC c at hp
    dsimp only at hD2 hF2
    have hlen2 : c2.length ≤ 100 := by
      have e2 := copy_len c (c.map (·.1)) []
      rw [hp]
      simp only [List.length_map, List.length_nil] at e2
      unfold copyC; omega
    clear F1 N1 hD1 hF1 hs fs
    k_steps
    refine Mark.out ?_
    obtain ⟨tvs, htup, hti⟩ := alike_is X'
    rename Fr _ _ _ _ => F1
    rename News _ _ _ _ => N1
    with_unfolding_all refine' For_invVF F1 ?k1 ?k2 ?_
    case k1 => exact rfl
    case k2 => exact rfl
    walk1
    refine my_tup (σ := Obj × List (Int × Value) × List (Int × Int)) (fun st => (dO, st.1) :: (L' + 1, oC) :: news) (fun _ => [])
      (fun st => st.1.IsDictOf (PySem.intKind PySem.Challenge.rw_eg5001_01.row.prog w) st.2.1 ∧ PyProof.V.FlatPairs PyData.int st.2.1 (kdfD st.2.2)) [Str.ofString "kin"]
      (fun pre st => st.2.2 = pre.foldl (fixStep c) (copyC c)) (o2, kvs2, c2) htup hti (by rfl) F1 N1 ⟨hD2, hF2⟩ (fun _ h => nomatch h) hp ?_ ?_
    · intro st pre post n t u h tk own e hoff hf hp' F2 N2
      obtain ⟨o3, kvs3, c3⟩ := st
      obtain ⟨hD3, hF3⟩ := hf
      have hx := alike_mem e
      change Fr g' L' h _ at F2
      change News g' L' h ((dO, o3) :: (L' + 1, oC) :: (news ++ own)) at N2
      change OwnOff own (dO :: (L' + 1) :: news.map (·.1)) at hoff
      change c3 = pre.foldl (fixStep c) (copyC c) at hp'
      dsimp only at hD3 hF3
      have hlen3 : c3.length ≤ 106 := by
        have e2 := fold_fix_len c pre (copyC c)
        have e3 := congrArg List.length e
        rw [← hp'] at e2
        simp only [List.length_append, List.length_cons, List.length_nil] at e3
        rw [hp] at hlen2
        omega
      have hmd' : (d, o) ∈ news ++ own := List.mem_append_left _ hmd
      clear F1 N1 hD2 hF2 hp
      change wpAny _ _ _ _ _ _
      k_fold
      k_steps
      refine Mark.out ?_
      rename Fr _ _ _ _ => F4
      rename News _ _ _ _ => N4
      k_dflt (refine Assign_GT F4 (by rfl) (by with_unfolding_all rfl) (by with_unfolding_all rfl) (by decide) (by rfl) (by decide) (by rfl) (by rfl) (by rfl) ?_)
      k_steps
      refine Mark.out ?_
      k_dflt (refine' kin_ok ?B ?F ?X ?N ?T ?hk ?hdp ?hun hx ?_; (case B => k_asm); (case F => k_asm); (case X => k_asm); (case N => k_asm); (case T => k_asm); (case hk => exact rfl); (case hdp => ktr_room); (case hun => ktr_units))
      intro l ys nn h' tk' F5 N5 hne hi
      have hkl := kinL_len hx (kdfHas c)
      have hysz : ys.length ≤ sizeLine := by
        rw [hi.length]
        refine Nat.le_trans (List.length_filter_le _ _) ?_
        rw [sizeLine_eq]
        split <;> decide
      refine ⟨_, _, _, _, _, _, _, src_list (by rfl) F5 N5 (.head _) hysz, fun g => ?_⟩
      refine restT_all (fun _ v o => ∀ k t, v = Value.int k t → (kdfHas c k = true ∧ o = some v) ∨ (kdfHas c k = false ∧ o = none)) (.inr ⟨_, .head _, rfl, _, rfl⟩) ?_ ?_
      · intro i v I oI C oC D m₂ h tk E' ys hP hoC hx F2 N2 off ne
        obtain ⟨k, t, hk, rfl⟩ := list_ints hi i v hP
        clear F4 N4 F5 N5
        k_steps
        · refine Mark.out (StepEnd.intro (by assumption) (by assumption) (fun p hp => hp) fun k' t' e => .inl ⟨?_, rfl⟩)
          cases e
          assumption
        · refine Mark.out (StepEnd.intro (by assumption) (by assumption) (fun p hp => hp) fun k' t' e => .inr ⟨?_, rfl⟩)
          cases e
          assumption
      · intro ys ho D h tk F3 N3 o1
        have hi2 := outs_filter (q := kdfHas c) (by rw [← hi.length]; simp) (list_ints hi) ho
        clear F4 N4 F5 N5
        have q1 : @Ne Nat dO D := o1.2.1
        have q2 : @Ne Nat dO l := hne (dO, o3) (.head _)
        have hx4 : ∀ k ∈ (kinL n).filter (kdfHas c), kdfHas c k = true := fun k hk => (List.mem_filter.mp hk).2
        have hfix : ∀ kl, (kinL n).filter (kdfHas c) = kl → fixStep c c3 n = if kdfHas c n = false ∧ kl.length = 1 then kdfPut c3 n (kdfLook c (kl.headD 0) 0) else c3 := by
          intro kl e; subst e; rfl
        generalize hkl9 : (kinL n).filter (kdfHas c) = kl at hi2 hkl hx4
        have hfix' := hfix kl hkl9
        rcases few hkl with e0 | ⟨k1, e0⟩ | ⟨k1, k2, e0⟩
        all_goals (subst e0)
        · cases hi2
          k_steps
          all_goals (
            rename (kdfHas c n = _) => hc
            refine Mark.out (kst_end (x := Str.ofString "x") (o3, kvs3, c3) (by assumption) N3 (fun p hp => .tail _ (.tail _ (led_in [_, _] news own p hp))) (fun p hp => .tail _ (.tail _ (own_in [_, _] news own p hp))) rfl ⟨hD3, hF3⟩ (fun _ h => nomatch h) ?_ ?_))
          all_goals first
            | (show c3 = _
               rw [List.foldl_append, ← hp']
               show c3 = fixStep c c3 n
               rw [hfix', if_neg (by simp [hc])])
            | (intro z h1 h2 h3
               have h4 : z ≠ Str.ofString "kin" := by
                 intro e9
                 rw [e9] at h3
                 exact absurd h3 (by decide)
               simp [kstB, h1, h4])
        · cases hi2
          rename_i hi9
          cases hi9
          have hx5 := hx4 k1 (by simp)
          k_steps
          · rename (kdfHas c n = _) => hc
            refine Mark.out (kst_end (x := Str.ofString "x") (o3, kvs3, c3) (by assumption) N3 (fun p hp => .tail _ (.tail _ (led_in [_, _] news own p hp))) (fun p hp => .tail _ (.tail _ (own_in [_, _] news own p hp))) rfl ⟨hD3, hF3⟩ (fun _ h => nomatch h) ?_ ?_)
            · intro z h1 h2 h3
              have h4 : z ≠ Str.ofString "kin" := by
                intro e9
                rw [e9] at h3
                exact absurd h3 (by decide)
              simp [kstB, h1, h4]
            · show c3 = _
              rw [List.foldl_append, ← hp']
              show c3 = fixStep c c3 n
              rw [hfix', if_neg (by simp [hc])]
          · rename (kdfHas c n = _) => hc
            rename_i o4 kvs4 F4 N4 hD4 hF4
            refine Mark.out (kst_end (x := Str.ofString "x") (o4, kvs4, kdfPut c3 n (kdfLook c k1 0)) F4 N4 (fun p hp => .tail _ (.tail _ (led_in [_, _] news own p hp))) (fun p hp => .tail _ (.tail _ (own_in [_, _] news own p hp))) rfl ⟨hD4, hF4⟩ (fun _ h => nomatch h) ?_ ?_)
            · intro z h1 h2 h3
              have h4 : z ≠ Str.ofString "kin" := by
                intro e9
                rw [e9] at h3
                exact absurd h3 (by decide)
              simp [kstB, h1, h4]
            · show kdfPut c3 n (kdfLook c k1 0) = _
              rw [List.foldl_append, ← hp']
              show kdfPut c3 n (kdfLook c k1 0) = fixStep c c3 n
              rw [hfix', if_pos ⟨hc, rfl⟩]
              rfl
        · cases hi2
          rename_i hi9
          cases hi9
          rename_i hi9
          cases hi9
          k_steps
          all_goals (
            rename (kdfHas c n = _) => hc
            refine Mark.out (kst_end (x := Str.ofString "x") (o3, kvs3, c3) (by assumption) N3 (fun p hp => .tail _ (.tail _ (led_in [_, _] news own p hp))) (fun p hp => .tail _ (.tail _ (own_in [_, _] news own p hp))) rfl ⟨hD3, hF3⟩ (fun _ h => nomatch h) ?_ ?_))
          all_goals first
            | (show c3 = _
               rw [List.foldl_append, ← hp']
               show c3 = fixStep c c3 n
               rw [hfix', if_neg (by simp [hc])])
            | (intro z h1 h2 h3
               have h4 : z ≠ Str.ofString "kin" := by
                 intro e9
                 rw [e9] at h3
                 exact absurd h3 (by decide)
               simp [kstB, h1, h4])
    · intro st u h tk hf hp' F2 N2
      obtain ⟨o3, kvs3, c3⟩ := st
      obtain ⟨hD3, hF3⟩ := hf
      change Fr g' L' h _ at F2
      change News g' L' h ((dO, o3) :: (L' + 1, oC) :: news) at N2
      change c3 = fixC c at hp'
      dsimp only at hD3 hF3
      subst hp'
      clear F1 N1
      k_steps
      exact hret _ _ _ _ _ (by assumption) (cb_drop (by assumption) (fun p hp => by rcases List.mem_cons.mp hp with rfl | hp; exact .head _; exact .tail _ (.tail _ hp))) (kst_ltOf hlO.2) hSO hD3 hF3
end B58
end
section
open PySem PySem.W PyProof.Rows PySem.Spec PySem.Calls PyProof.V
open Builtin
set_option Elab.async false
set_option maxRecDepth 100000
set_option maxHeartbeats 8000000
namespace B58
section
variable {prog : Program} {w : World} {A : Around} {E : Value → Shared → Prop} {s : Shared} {b : Array UInt8} {t : Tok}
theorem nextOf_bytes_item {it : Addr} {i : Nat} {c : UInt8} {Q : Value → Shared → Prop} (hit : KBw.IsBytesIter s.heap it b t i) (hx : b[i]? = some c)
    (hQ : ∀ h', KBw.IsBytesIter h' it b t (i + 1) → Heap.SameBut it s.heap h' → Q (.int (c.toNat : Int) s.toks) { s with heap := h', toks := s.toks + 1 }) :
    wpAny (model prog w) A (Builtin.SmallTypes.nextOf (.ref it)) Q E s := by
  obtain ⟨o, ho, hc, hd⟩ := id hit
  unfold Builtin.SmallTypes.nextOf
  refine wpAny_bind (wpAny_callSpecial?_slot (name := PySem.Str.ofString "__next__") (KBw.iter_typeIs hit) KBw.slot_next
    (wpAny_call_entry KBw.slot_next (KBw.iter_typeIs hit) KBw.entry_next ?_ (KBw.args_next _)))
  show wpAny _ _ (field (.ref it) 0 >>= _) _ _ s
  refine wpAny_bind (wpAny_field ho hd (x := .bytes b t) rfl ?_)
  show wpAny _ _ (if (Value.bytes b t == Value.none) = true then _ else _) _ _ s
  rw [if_neg (show ¬ ((Value.bytes b t == Value.none) = true) from Bool.false_ne_true)]
  show wpAny _ _ (field (.ref it) 1 >>= _) _ _ s
  refine wpAny_bind (wpAny_field ho hd (x := .int i 0) rfl ?_)
  refine wpAny_bind (wpAny_of_eq (a := b) rfl ?_)
  simp only [Int.toNat_natCast, hx]
  refine wpAny_bind (wpAny_setField ho hd (by simp) (wpAny_bind (wpAny_mkInt (wpAny_pure ⟨_, rfl, wpAny_pure (hQ _ ?_ (Heap.SameBut.update ..))⟩))))
  exact ⟨_, Heap.get?_update_self _ ho (Obj.isFreed_of_fields (Obj.data_mapFields hd _)), (Obj.cls_mapFields ..).trans hc, by
    rw [Obj.data_mapFields hd]; simp [rawInt]⟩
theorem nextOf_bytes_end {it : Addr} {i : Nat} {Q : Value → Shared → Prop} (hh : A.handled = none) (hit : KBw.IsBytesIter s.heap it b t i) (hx : b[i]? = none)
    (hE : ∀ h' e, Heap.ExtBut it s.heap h' → (∃ o, h'.get? e = some o ∧ o.cls = .type "StopIteration") → E (.ref e) { s with heap := h' }) :
    wpAny (model prog w) A (Builtin.SmallTypes.nextOf (.ref it)) Q E s := by
  obtain ⟨o, ho, hc, hd⟩ := id hit
  unfold Builtin.SmallTypes.nextOf
  refine wpAny_bind (wpAny_callSpecial?_slot (name := PySem.Str.ofString "__next__") (KBw.iter_typeIs hit) KBw.slot_next
    (wpAny_call_entry KBw.slot_next (KBw.iter_typeIs hit) KBw.entry_next ?_ (KBw.args_next _)))
  show wpAny _ _ (field (.ref it) 0 >>= _) _ _ s
  refine wpAny_bind (wpAny_field ho hd (x := .bytes b t) rfl ?_)
  show wpAny _ _ (if (Value.bytes b t == Value.none) = true then _ else _) _ _ s
  rw [if_neg (show ¬ ((Value.bytes b t == Value.none) = true) from Bool.false_ne_true)]
  show wpAny _ _ (field (.ref it) 1 >>= _) _ _ s
  refine wpAny_bind (wpAny_field ho hd (x := .int i 0) rfl ?_)
  refine wpAny_bind (wpAny_of_eq (a := b) rfl ?_)
  simp only [Int.toNat_natCast, hx]
  refine wpAny_bind (wpAny_rule (wpAny_bind (wpAny_setField ho hd (by simp) ?_)))
  show wpAny _ _ (newExc (.type "StopIteration") [] >>= _) _ _ _
  refine wpAny_bind ?_
  simp only [newExc, newTuple]
  refine wpAny_bind (wpAny_newObj_type ?_ (by size_fits))
  refine wpAny_bind (m := firstArgMember _ _) (wpAny_of_eq (a := Value.none) (by first | rfl | (simp only [firstArgMember]; rfl)) ?_)
  refine wpAny_newObj_type ?_ (by size_fits)
  simp only [raiseNew]
  refine wpAny_bind (wpAny_handled ?_)
  first | rw [show A.in1.handled = none from hh] | rw [hh]
  refine wpAny_bind (wpAny_pure (wpAny_throw ?_))
  exact hE _ _ (((Heap.SameBut.update ..).extBut.push _).push _) ⟨_, Heap.get?_push_size _ rfl, rfl⟩
theorem draws_bytes {prog : Program} {w : World} {A : Around} (hh : A.handled = none) (it : Addr) (b : Array UInt8) (t : Tok) :
    Draws prog w A it [it] b.size (fun i v => ∃ c u, b[i]? = some c ∧ v = .int (c.toNat : Int) u) (fun i h => KBw.IsBytesIter h it b t i) where
  live := fun _ _ st => let ⟨o, ho, _⟩ := st; ⟨o, ho⟩
  frame := fun _ _ _ st hk => let ⟨o, ho, r⟩ := st; ⟨o, hk it (by simp) o ho, r⟩
  item := fun i s Q E hi st hQ => by
    refine nextOf_bytes_item st (c := b[i]) (by simp [hi]) fun h' hit' hs' => ?_
    exact hQ _ h' (s.toks + 1) ⟨_, _, by simp [hi], rfl⟩ hit' hs'
  done := fun s Q E st hE => nextOf_bytes_end hh st (by simp) hE

set_option maxHeartbeats 1000000 in
theorem meets_enumerate_newB (b : Array UInt8) (t : Tok) :
    Meets (Builtin.«enumerate.__new__» ⟨[.type "enumerate", .bytes b t], []⟩) (fun _ R s =>
      R (.ok (.ret (.ref (s.heap.push { cls := .type "bytes_iterator", data := .fields #[.bytes b t, .int 0 0] }).objs.size)))
        { s with heap := (s.heap.push { cls := .type "bytes_iterator", data := .fields #[.bytes b t, .int 0 0] }).push { cls := .type "enumerate", data := .fields #[.none, .bool false, .ref s.heap.objs.size, rawInt 0, .none, .none] } }) :=
  .of_wp fun prog w A R s h => by
    obtain ⟨hp, g, d, tk, os⟩ := s
    have hsub := sub_enumerate
    wp_walk
    refine wpAny_stack_any fun st => wpAny_pure ?_
    split
    · rename_i c _ _ _ _ _
      cases (c == Value.type "enumerate")
      · wp_walk using KBw.pyIter_bytes
        exact ⟨_, rfl, h⟩
      · wp_walk using KBw.pyIter_bytes
        exact ⟨_, rfl, h⟩
    · wp_walk using KBw.pyIter_bytes
      exact ⟨_, rfl, h⟩
theorem call_enumerate_bytes {Q : Value → Shared → Prop}
    (h : ∀ h', IsEnum h' (s.heap.objs.size + 1) s.heap.objs.size 0 .none → KBw.IsBytesIter h' s.heap.objs.size b t 0 → h'.objs.size = s.heap.objs.size + 2 →
      (∀ b o, s.heap.get? b = some o → h'.get? b = some o) → Q (.ref (s.heap.objs.size + 1)) { s with heap := h' }) :
    wpAny (model prog w) A (call (.type "enumerate") [.bytes b t]) Q E s := by
  refine callType_new F.called_enumerate (by decide) (F.typeCall_enumerate_1 _) (F.newCall_enumerate_1 _) (fun obj => F.args_object_init_2 obj _) F.entry_enumerate_new
    (meets_enumerate_newB b t) ?_
  have hz : (s.heap.push { cls := .type "bytes_iterator", data := .fields #[.bytes b t, .int 0 0] }).objs.size = s.heap.objs.size + 1 := Heap.size_push ..
  show _ ∧ _
  rw [hz]
  have he : IsEnum ((s.heap.push { cls := .type "bytes_iterator", data := .fields #[.bytes b t, .int 0 0] }).push
      { cls := .type "enumerate", data := .fields #[.none, .bool false, .ref s.heap.objs.size, rawInt 0, .none, .none] }) (s.heap.objs.size + 1) s.heap.objs.size 0 .none := by
    have := Heap.get?_push_size (s.heap.push { cls := .type "bytes_iterator", data := .fields #[.bytes b t, .int 0 0] })
      (o := { cls := .type "enumerate", data := .fields #[.none, .bool false, .ref s.heap.objs.size, rawInt 0, .none, .none] }) rfl
    rw [hz] at this; exact this
  refine ⟨⟨_, he, rfl⟩, h _ he ⟨_, Heap.get?_push_of_some _ (Heap.get?_push_size _ rfl), rfl, rfl⟩ (by rw [Heap.size_push, hz]) fun b o y => Heap.get?_push_of_some _ (Heap.get?_push_of_some _ y)⟩
end
section
variable {prog : Program} {w : World} {A : Around} {E : Value → Shared → Prop} {s : Shared} {R : Result → Shared → Prop}
theorem compLoop_pairD {kx vx iter : Expr} {elts : List Expr} {x1} {tp : Pos} {scope : Scope} {pos : Pos} {it : Value} {D : Addr} {env : Env} (I : Nat → Shared → Prop)
    (turn : ∀ n s, I n s → wpAny (model prog w) A (pyNext it) (fun r s₁ => match r with
      | none => R (.ok .next) s₁
      | some v => wpAny (model prog w) A (letOwnedTupleGo (.Tuple elts x1 tp) it v) (fun _ s₁' => wpAny (model prog w) A (assign (.Tuple elts x1 tp) env v) (fun _ s₂ =>
          wpAny (model prog w) A (eval kx env) (fun kv s₄ => wpAny (model prog w) A (eval vx env) (fun vv s₅ =>
              wpAny (model prog w) A (dictSet D kv vv) (fun _ s₆ => ∃ m, m < n ∧ I m s₆) (notedBy (model prog w) A env fun e s' => R (.error e) s') s₅) (notedBy (model prog w) A env fun e s' => R (.error e) s') s₄) (notedBy (model prog w) A env fun e s' => R (.error e) s') s₂)
          (notedBy (model prog w) A env fun e s' => R (.error e) s') s₁') (notedBy (model prog w) A env fun e s' => R (.error e) s') s₁) (notedBy (model prog w) A env fun e s' => R (.error e) s') s)
    (n : Nat) (h : I n s) : codeAny (model prog w) A (.compLoop (.DictComp kx vx [⟨.Tuple elts x1 tp, iter, [], 0⟩] scope pos) 0 it (.ref D) env) R s := by
  refine codeAny_loop rfl I (fun n s hI => ?_) n h
  show wpAny _ A ((compTurn (.DictComp kx vx [⟨.Tuple elts x1 tp, iter, [], 0⟩] scope pos) 0 it (.ref D) env).onRaise (fun x => do noteFrame x env; theTreesLotGoes x)) _ _ s
  refine wpAny_noted ?_
  rw [compTurn_dict]
  refine wpAny_bind (wpAny_standAt (wpAny_bind (wpAny_mono (turn n s hI) (fun r s₁ h₁ => ?_) fun _ _ h' => h')))
  cases r with
  | none => exact wpAny_pure h₁
  | some v =>
    refine wpAny_bind (wpAny_mono h₁ (fun _ s₁' h₁' => ?_) fun _ _ h' => h')
    refine wpAny_bind (wpAny_mono h₁' (fun _ s₂ h₂ => wpAny_bind (wpAny_mono (wpAny_tests_nil (Q := fun ok s₃ => ok = true ∧ s₃ = s₂) ⟨rfl, rfl⟩) (fun ok s₃ h₃ => ?_) fun _ _ h' => h')) fun _ _ h' => h')
    obtain ⟨rfl, rfl⟩ := h₃
    exact wpAny_bind (wpAny_bind (wpAny_mono h₂ (fun kv s₄ h₄ => wpAny_bind (wpAny_holding (wpAny_mono h₄ (fun vv s₅ h₅ => wpAny_bind (wpAny_standAt (wpAny_holding (wpAny_mono h₅ (fun _ s₆ h₆ => wpAny_pure ⟨rfl, h₆⟩) fun _ _ h' => h')))) fun _ _ h' => h'))) fun _ _ h' => h'))
end
/-- the table of places, the last place of each -/
def enumTo (ks : List Int) : Nat → List (Int × Int)
  | 0 => []
  | i + 1 => kdfPut (enumTo ks i) (ks.getD i 0) i
def enumD (ks : List Int) : List (Int × Int) := enumTo ks ks.length
theorem enumTo_len (ks : List Int) : ∀ i, (enumTo ks i).length ≤ i
  | 0 => Nat.le_refl _
  | i + 1 => Nat.le_trans (kdfPut_len _ _ _) (Nat.succ_le_succ (enumTo_len ks i))
end B58
end
section
open PySem PySem.W PyProof.Rows PySem.Spec PySem.Calls PyProof.V
open PyProof.Rows.LCg
set_option Elab.async false
set_option maxRecDepth 100000
set_option maxHeartbeats 8000000
namespace B58
section
variable {prog : Program} {w : World} {A : Around} {E : Value → Shared → Prop} {s : Shared} {h₀ : Heap} {L : Addr} {m : Str → Option Value} {env : Env}

theorem cname {scope : Scope} {cl : List (Str × Addr)} {C : Addr} {x : Str} {px : Pos} {m' : Str → Option Value} {v : Value} {Q : Value → Shared → Prop} (hkind : scope.kind = .function) (hx : scope.names.lookup x = some .local)
    (hn : s.heap.Ns C m') (hv : m' x = some v) (h : Q v s) (hd : (x == ("__debug__" : Str)) = false) : wpAny (model prog w) A (eval (.Name x px) (compEnvC scope cl C env)) Q E s :=
  wpAny_Name (wpAny_loadName_local (by simp [compEnvC, relabel, hkind]) (lookup_relabel_local hx) hn hv h) hd

theorem DictComp_enum {c i : Str} {pc pi pc' pi' tp : Pos} {x1} {iter : Expr} {scope : Scope} {cl : List (Str × Addr)} {pos : Pos} {Q : Value → Shared → Prop} (F₀9 : Fr h₀ L s.heap m)
    (hclos : closureFor scope env = pure cl) (hcell : ∀ y ∈ scope.names, y.2 ≠ .cell) (hkind : scope.kind = .function)
    (hnames : ∀ y ∈ scope.names, y.2 = .local → scope.names.lookup y.1 = some .local) (hc : scope.names.lookup c = some .local) (hi : scope.names.lookup i = some .local) (hci : c ≠ i)
    (hdc : (c == ("__debug__" : Str)) = false) (hdi : (i == ("__debug__" : Str)) = false)
    (h : wpAny (model prog w) A (eval iter env) (fun xv s₁ => ∃ (e it : Addr) (b : Array UInt8) (t : Tok) (ks : List Int) (news : List (Addr × Obj)), xv = .ref e ∧ A.handled = none ∧ Fr h₀ L s₁.heap m ∧ News h₀ L s₁.heap news ∧
      IsEnum s₁.heap e it 0 .none ∧ KBw.IsBytesIter s₁.heap it b t 0 ∧ e ≠ it ∧ (∀ p ∈ news, p.1 ≠ e ∧ p.1 ≠ it) ∧ h₀.get? e = none ∧ h₀.get? it = none ∧ L ≠ e ∧ L ≠ it ∧ KBw.bInts b = ks ∧ ks.length ≤ sizeLine ∧ sysModules < h₀.objs.size ∧
      ∀ D o kvs h' tk', Fr h₀ L h' m → News h₀ L h' ((D, o) :: news) → (∀ p ∈ news, p.1 < D) → (D == sysModules) = false → o.IsDictOf (PySem.intKind prog w) kvs → FlatPairs PyData.int kvs (kdfD (enumD ks)) → Q (.ref D) { s₁ with heap := h', toks := tk' }) E s)
    (hs : ∀ x, foldedSetIterable iter env x = pure x := by intro _; rfl) :
    wpAny (model prog w) A (eval (.DictComp (.Name c pc) (.Name i pi) [⟨.Tuple [.Name i pi', .Name c pc'] x1 tp, iter, [], 0⟩] scope pos) env) Q E s := by
  rw [arm_eval_DictComp]
  refine wpAny_comprehension_free (use := none) rfl hs hclos hkind hnames (wpAny_mono h (fun xv s₁ h₁ => ?_) fun _ _ e => e)
  obtain ⟨e, it, b, t, ks, news, rfl, hh, F, N, hen, hit, hei, hoff, he₀, hi₀, hLe, hLi, hks, hsz, hmod, hQ⟩ := h₁
  refine wpAny_pyIter_enum hen ?_
  have D₀ := draws_bytes (prog := prog) (w := w) (A := A.in1) hh it b t
  have W := WalksT.enumerateD D₀ e hei (by simpa using hei) (by simp)
  have hbs : b.size = ks.length := by rw [← hks, KBw.ints_length]
  refine wpAny_newObj_type (wpAny_newFunctionEnv hcell (by intro y hy; simp at hy) (fun h₁ hns₁ hsb₁ => ?_) hkind)
  dsimp only at hns₁ hsb₁ ⊢
  have hnew : (s₁.heap.push { cls := .type "dict", dict := none, data := .dict #[] }).DictOf (PySem.intKind prog w) s₁.heap.objs.size [] := Heap.DictOf.new s₁.heap
  generalize hH2 : s₁.heap.push { cls := .type "dict", dict := none, data := .dict #[] } = H2 at hns₁ hsb₁ hnew ⊢
  have hC : H2.objs.size = s₁.heap.objs.size + 1 := by rw [← hH2, Heap.size_push]
  have hDC : s₁.heap.objs.size ≠ H2.objs.size := by rw [hC]; exact Nat.ne_of_lt (Nat.lt_succ_self _)
  have below : ∀ b, b < s₁.heap.objs.size → b ≠ H2.objs.size ∧ b ≠ s₁.heap.objs.size := fun b hb => ⟨by rw [hC]; exact Nat.ne_of_lt (Nat.lt_succ_of_lt hb), Nat.ne_of_lt hb⟩
  have helt : e < s₁.heap.objs.size := Heap.lt_size hen
  have hilt : it < s₁.heap.objs.size := by obtain ⟨_, x, _⟩ := hit; exact Heap.lt_size x
  have old : ∀ b o, s₁.heap.get? b = some o → h₁.get? b = some o := fun b o e => hsb₁.extBut b o (below b (Heap.lt_size e)).1 (Heap.get?_push_of_some _ (hH2 ▸ Heap.get?_push_of_some _ e))
  have hacc : h₁.DictOf (PySem.intKind prog w) s₁.heap.objs.size [] := hnew.at fun o e => hsb₁.extBut _ _ hDC (Heap.get?_push_of_some _ e)
  have hst₁ : (∃ old, IsEnum h₁ e it ((0 : Nat) : Int) old) ∧ KBw.IsBytesIter h₁ it b t 0 := W.frame 0 s₁.heap h₁ ⟨⟨_, hen⟩, hit⟩ fun b _ o e => old b o e
  have hlow : (s₁.heap.objs.size == sysModules) = false := F.notModules hmod
  have fresh₀ : ∀ a, s₁.heap.objs.size ≤ a → h₀.get? a = none := fun a ha => by
    cases q : h₀.get? a with
    | none => rfl
    | some o' => exact absurd (Heap.lt_size (F.keep _ _ q)) (Nat.not_lt.mpr ha)
  have loop : ∀ s₃ : Shared, s₃ = { s₁ with heap := h₁, toks := s₁.toks + ([] : List (Str × Value)).length } →
      codeAny (model prog w) A (.compLoop (.DictComp (.Name c pc) (.Name i pi) [⟨.Tuple [.Name i pi', .Name c pc'] x1 tp, iter, [], 0⟩] scope pos) 0 (.ref e) (.ref s₁.heap.objs.size) (compEnvC scope cl H2.objs.size env))
        (compPost (model prog w) A E none Q (.ref s₁.heap.objs.size) H2.objs.size) s₃ := by
    rintro s₃ rfl
    refine compLoop_pairD
      (fun k s' => ∃ (h' : Heap) (tk : Nat) (j : Nat) (kvs : List (Int × Value)) (m' : Str → Option Value), s' = { s₁ with heap := h', toks := tk } ∧ j ≤ b.size ∧ k = b.size + 1 - j ∧ ((∃ old, IsEnum h' e it j old) ∧ KBw.IsBytesIter h' it b t j) ∧
        h'.Ns H2.objs.size m' ∧ h'.DictOf (PySem.intKind prog w) s₁.heap.objs.size kvs ∧ FlatPairs PyData.int kvs (kdfD (enumTo ks j)) ∧
        ∀ a o, a ≠ e → a ≠ it → s₁.heap.get? a = some o → h'.get? a = some o) ?_ (b.size + 1)
      ⟨h₁, _, 0, [], _, rfl, Nat.zero_le _, rfl, hst₁, hns₁, hacc, .nil, fun a o _ _ q => old a o q⟩
    rintro k s' ⟨h', tk, j, kvs, m', rfl, hj, rfl, hst', hn', hacc', hfl', hkeep⟩
    by_cases hlt : j < b.size
    · refine W.item j { s₁ with heap := h', toks := tk } _ _ hlt hst' fun T vals h₂ tk₂ hPv hTge hT hMid hk₂ => ?_
      obtain ⟨tt, x, ⟨cc, u, hcc, rfl⟩, rfl⟩ := hPv
      have hap := W.apart _ _ _ hMid
      replace hTge : h'.objs.size ≤ T := hTge
      have hCs : H2.objs.size < h'.objs.size := hn'.lt
      have hDs : s₁.heap.objs.size < h'.objs.size := by
        obtain ⟨od, hod, _⟩ := Heap.dictOf_iff.mp hacc'
        exact Heap.lt_size hod
      have hTC : T ≠ H2.objs.size := fun q => absurd hTge (by rw [q]; exact Nat.not_le.mpr hCs)
      have hTD : T ≠ s₁.heap.objs.size := fun q => absurd hTge (by rw [q]; exact Nat.not_le.mpr hDs)
      have hCe : H2.objs.size ∉ [e, it] := by
        intro q
        rcases List.mem_cons.mp q with q | q
        · exact (below e helt).1 q.symm
        · exact (below it hilt).1 (List.mem_singleton.mp q).symm
      have hDe : s₁.heap.objs.size ∉ [e, it] := by
        intro q
        rcases List.mem_cons.mp q with q | q
        · exact (below e helt).2 q.symm
        · exact (below it hilt).2 (List.mem_singleton.mp q).symm
      refine W.go _ _ _ j T { s₁ with heap := h₂, toks := tk₂ } _ _ hMid fun h₃ hst₃ hk₃ => ?_
      have ht₃ : IsTup h₃ T #[.int j tt, .int (cc.toNat : Int) u] := by
        obtain ⟨oT, hoT, r⟩ := hT
        exact ⟨oT, hk₃ _ _ hap hoT, r⟩
      refine assign_Tuple_tuple hh ht₃ rfl rfl fun h₄ he₄ => ?_
      have he₄' : ∀ a o, h₃.get? a = some o → h₄.get? a = some o := fun a o q => he₄ a o (Nat.ne_of_lt (Heap.lt_size q)) q
      have up4 : ∀ a o, a ∉ [e, it] → h'.get? a = some o → h₄.get? a = some o := fun a o ha q => he₄' a o (hk₃ a o ha (hk₂ a o ha q))
      refine assignInOrder_cons (wpAny_assign_Name (wpAny_storeName_local (lookup_relabel_local hi) (hn'.at' fun o q => up4 _ o hCe q) (fun h₅ hn₅ hs₅ => ?_) (by simp [compEnvC, relabel, hkind])))
      refine assignInOrder_cons (wpAny_assign_Name (wpAny_storeName_local (lookup_relabel_local hc) hn₅ (fun h₆ hn₆ hs₆ => ?_) (by simp [compEnvC, relabel, hkind])))
      refine assignInOrder_nil ?_
      have up6 : ∀ a o, a ≠ H2.objs.size → h₄.get? a = some o → h₆.get? a = some o := fun a o ha q => hs₆.extBut a o ha (hs₅.extBut a o ha q)
      refine cname (v := .int (cc.toNat : Int) u) hkind hc hn₆ (by simp) ?_ hdc
      refine cname (v := .int (j : Int) tt) hkind hi hn₆ (by simp [Ne.symm hci]) ?_ hdi
      have hacc₆ : h₆.DictOf (PySem.intKind prog w) s₁.heap.objs.size kvs := hacc'.at fun o q => up6 _ o hDC (up4 _ o hDe q)
      have hkl : kvs.length ≤ sizeLine := by
        have e1 := hfl'.length
        have e2 := enumTo_len ks j
        rw [kdfD_length] at e1
        omega
      refine wpAny_dictSet_pairs (knd := PySem.intKind prog w) (k := (cc.toNat : Int)) (hsz := hkl) (intKind_is _ _ _ _) hacc₆ fun h₇ hd₇ hs₇ => ?_
      have hgd : ks.getD j 0 = (cc.toNat : Int) := by
        have := KBw.ints_get hcc
        rw [hks] at this
        rw [List.getD_eq_getElem?_getD, this]; rfl
      have hst₇ : (∃ old, IsEnum h₇ e it ((j + 1 : Nat) : Int) old) ∧ KBw.IsBytesIter h₇ it b t (j + 1) := by
        refine W.frame (j + 1) h₃ h₇ hst₃ fun a ha o q => ?_
        have hane : a ∉ [H2.objs.size] ∧ a ≠ s₁.heap.objs.size := by
          rcases List.mem_cons.mp ha with rfl | ha
          · exact ⟨fun z => (below a helt).1 (List.mem_singleton.mp z), (below a helt).2⟩
          · rw [List.mem_singleton.mp ha]
            exact ⟨fun z => (below it hilt).1 (List.mem_singleton.mp z), (below it hilt).2⟩
        exact hs₇.extBut a o hane.2 (up6 a o (fun z => hane.1 (List.mem_singleton.mpr z)) (he₄' a o q))
      refine ⟨b.size + 1 - (j + 1), by omega, h₇, _, j + 1, _, _, rfl, hlt, rfl, hst₇, hn₆.sameBut hs₇ (Ne.symm hDC), hd₇, ?_, ?_⟩
      · have q := hfl'.stored PyProof.V.same_int (cc.toNat : Int) (PyProof.V.Flat.int (j : Int) tt)
        rw [kdfD_put] at q
        show FlatPairs PyData.int _ (kdfD (kdfPut (enumTo ks j) (ks.getD j 0) (j : Int)))
        rw [hgd]
        exact q
      · intro a o hae hai q
        have hal := Heap.lt_size q
        have hane : a ∉ [e, it] := by
          intro z
          rcases List.mem_cons.mp z with z | z
          · exact hae z
          · exact hai (List.mem_singleton.mp z)
        exact hs₇.extBut a o (below a hal).2 (up6 a o (below a hal).1 (up4 a o hane (hkeep a o hae hai q)))
    · have hjn : j = b.size := by omega
      subst hjn
      refine W.done { s₁ with heap := h', toks := tk } _ _ hst' fun h₂ tk₂ hk₂ => ?_
      have hCe : H2.objs.size ∉ [e, it] := by
        intro q
        rcases List.mem_cons.mp q with q | q
        · exact (below e helt).1 q.symm
        · exact (below it hilt).1 (List.mem_singleton.mp q).symm
      have hDe : s₁.heap.objs.size ∉ [e, it] := by
        intro q
        rcases List.mem_cons.mp q with q | q
        · exact (below e helt).2 q.symm
        · exact (below it hilt).2 (List.mem_singleton.mp q).symm
      refine ⟨m', hn'.at' fun o q => hk₂ _ o hCe q, fun h'' hs'' => ?_⟩
      have hD'' : h''.DictOf (PySem.intKind prog w) s₁.heap.objs.size kvs := (hacc'.at fun o q => hk₂ _ o hDe q).extBut hs''.extBut hDC
      obtain ⟨od, hod, hdo⟩ := Heap.dictOf_iff.mp hD''
      have upall : ∀ a o, a ≠ e → a ≠ it → s₁.heap.get? a = some o → h''.get? a = some o := fun a o hae hai q => by
        have hal := Heap.lt_size q
        have hane : a ∉ [e, it] := by
          intro z
          rcases List.mem_cons.mp z with z | z
          · exact hae z
          · exact hai (List.mem_singleton.mp z)
        exact hs''.extBut a o (below a hal).1 (hk₂ a o hane (hkeep a o hae hai q))
      refine hQ _ od kvs h'' tk₂ ⟨F.ns.at' fun o q => upall _ o hLe hLi q, fun a o q => upall a o (fun z => by rw [z, he₀] at q; cases q) (fun z => by rw [z, hi₀] at q; cases q) (F.keep a o q), F.above⟩ (fun p hp => ?_) (fun p hp => Heap.lt_size (N p hp).1) hlow hdo ?_
      · rcases List.mem_cons.mp hp with rfl | hp
        · exact ⟨hod, Ne.symm (below L F.ns.lt).2, fresh₀ _ (Nat.le_refl _)⟩
        · exact ⟨upall _ _ (hoff p hp).1 (hoff p hp).2 (N p hp).1, (N p hp).2⟩
      · rw [hbs] at hfl'
        exact hfl'
  exact codeAny_compStart_dict (loop _ rfl) (wpAny_pyIter_enum (hst₁.1.choose_spec) (loop _ rfl))
end
end B58
end
section
open PySem PySem.W PyProof.Rows PySem.Spec PySem.Calls PyProof.V
set_option Elab.async false
set_option maxRecDepth 100000
set_option maxHeartbeats 8000000
namespace B58
section
variable {prog : Program} {w : World} {A : Around} {E : Value → Shared → Prop} {Q : Flow → Shared → Prop} {s : Shared} {env : Env} {h₀ : Heap} {x : Str} {body : List Stmt}
def zeros (i : Nat) : List Int := List.replicate i 0
/-- a loop over a list of any values that stands in the ledger and stays; the invariant by the turn's number -/
theorem my_listV {σ : Type} {d : Addr} {its : List Value} {nn : Nat} {m₀ : Str → Option Value} (Led : σ → List (Addr × Obj)) (ps : σ → List (Str × Value)) (Facts : σ → Prop) (stored : List Str) (P : Nat → σ → Prop) (c₀ : σ)
    (hm : ∀ st, (d, listOf its.toArray nn) ∈ Led st)
    (hh : A.handled = none) (F : Fr h₀ env.locals s.heap m₀) (N : News h₀ env.locals s.heap (Led c₀)) (hf : Facts c₀) (hk : ∀ p ∈ ps c₀, m₀ p.1 = some p.2) (hp : P 0 c₀)
    (turn : ∀ (st : σ) (i : Nat) (v : Value) (u : Str → Option Value) h tk own, its[i]? = some v → OwnOff own ((Led c₀).map (·.1)) → Facts st → P i st →
      Fr h₀ env.locals h (fun y => if y = x then some v else kstB (fun z => if stored.contains z then u z else m₀ z) (ps st) y) → News h₀ env.locals h (Led st ++ own) →
      wpAny (model prog w) A (execs body env) (fun f s₂ => Mark (InvPostN h₀ env.locals (KstS Led ps Facts x stored m₀ (fun pre st => P pre.length st) (zeros (i + 1))) own ((Led c₀).map (·.1)) { s with heap := h, toks := tk } Q f s₂)) E { s with heap := h, toks := tk })
    (done : ∀ (st : σ) (u : Str → Option Value) h tk, Facts st → P its.length st → Fr h₀ env.locals h (fun y => if y = x then u y else kstB (fun z => if stored.contains z then u z else m₀ z) (ps st) y) → News h₀ env.locals h (Led st) → Q .next { s with heap := h, toks := tk }) :
    wpAny (model prog w) A (pyIter (.ref d)) (fun it s₂ => LoopAtV prog w A h₀ env x body Q E it s₂) E s := by
  have hdo : s.heap.get? d = some (listOf its.toArray nn) := (N _ (hm c₀)).1
  have hls : s.heap.IsList d its.toArray := ⟨_, hdo, rfl, nn, rfl⟩
  refine wpAny_pyIter_list hls ?_
  have hne : d ≠ s.heap.objs.size := Nat.ne_of_lt (Heap.lt_size hdo)
  have W := Walks.list (prog := prog) (w := w) (A := A) hh s.heap.objs.size d hne its.toArray
  refine ⟨_, _, _, its.toArray.size, _, _, m₀, Led c₀, (fun i m nx => nx.map (·.1) = (Led c₀).map (·.1) ∧ KstS Led ps Facts x stored m₀ (fun pre st => P pre.length st) (zeros i) m nx), rfl, W, ?_, ?_, ?_,
    ⟨⟨_, Heap.get?_push_size _ rfl, rfl, rfl⟩, hls.at fun o e => Heap.get?_push_of_some _ e⟩, F.push _, (fun p hp => ⟨Heap.get?_push_of_some _ (N p hp).1, (N p hp).2⟩), ⟨rfl, c₀, rfl, hf, hk, fun _ _ _ _ => rfl, hp⟩, ?_, ?_⟩
  · intro hm'
    rcases List.mem_cons.mp hm' with e | hm'
    · exact absurd F.ns.lt (e ▸ Nat.lt_irrefl _)
    · exact (N _ (hm c₀)).2.1 ((List.mem_singleton.mp hm').symm)
  · intro b hb
    rw [List.mem_singleton.mp hb]
    exact next_is_new F
  · intro p hp hI
    exact absurd (Heap.lt_size (N p hp).1) ((List.mem_singleton.mp hI) ▸ Nat.lt_irrefl _)
  · rintro i v m₁ news₁ s₁ own ⟨hh', tk', rfl⟩ hin hP ⟨hadr, st, rfl, hf', h1, h2, hp'⟩ hoff hown hget hall _ F₁ N₁
    have hsep : OwnOff (own.filter fun p => decide (p.1 = s.heap.objs.size)) ((Led c₀).map (·.1)) := by
      intro p hp b hb e
      obtain ⟨q, hq, rfl⟩ := List.mem_map.mp hb
      have h1 : p.1 = s.heap.objs.size := by simpa using (List.mem_filter.mp hp).2
      exact absurd (Heap.lt_size (N q hq).1) (by rw [← e, h1]; exact Nat.lt_irrefl _)
    have N₂ : News h₀ env.locals hh' (Led st ++ own.filter fun p => decide (p.1 = s.heap.objs.size)) := fun p hp => N₁ p ((List.mem_append.mp hp).elim (fun h => List.mem_append.mpr (.inr h)) fun h => List.mem_append.mpr (.inl ((List.mem_filter.mp h).1)))
    have hlo : hh'.get? d = some (listOf its.toArray nn) := (N₁ _ (List.mem_append.mpr (.inr (hm st)))).1
    have hP' : its[i]? = some v := by simpa using hP
    have hpi : P i st := by simpa [zeros] using hp'
    refine wpAny_mono (turn st i v m₁ hh' tk' _ hP' hsep hf' hpi (kst_fr h1 h2 F₁) N₂) (fun f s₂ p => ?_) fun _ _ e => e
    have fin : InvEndN h₀ env.locals (KstS Led ps Facts x stored m₀ (fun pre st => P pre.length st) (zeros (i + 1))) (own.filter fun p => decide (p.1 = s.heap.objs.size)) ((Led c₀).map (·.1)) { s with heap := hh', toks := tk' } s₂ →
        LoopStepU h₀ env.locals [s.heap.objs.size] own (fun m nx => nx.map (·.1) = (Led c₀).map (·.1) ∧ KstS Led ps Facts x stored m₀ (fun pre st => P pre.length st) (zeros (i + 1)) m nx) { s with heap := hh', toks := tk' } .next s₂ := by
      rintro ⟨h', tk, m', news', nx, e', F', N', hn, ho, ha, hS⟩
      refine ⟨rfl, h', tk, m', nx, e', F', fun p hp => ?_, fun p hp => ?_, ha, hS⟩
      · rcases List.mem_append.mp hp with h | h
        · by_cases hI : p.1 = s.heap.objs.size
          · exact N' p (ho p (List.mem_filter.mpr ⟨h, by simpa using hI⟩))
          · have h1 : p.1 = d := by
              rcases List.mem_cons.mp (hown p h) with h2 | h2
              · exact absurd h2 hI
              · exact List.mem_singleton.mp h2
            have h2 : hh'.get? p.1 = some p.2 := hget p h
            rw [h1, hlo] at h2
            have h3 : p = (d, listOf its.toArray nn) := Prod.ext h1 (Option.some.inj h2).symm
            rw [h3]
            obtain ⟨c', rfl, _⟩ := hS
            exact N' _ (hn _ (hm c'))
        · exact N' p (hn p h)
      · have h1 : p.1 ∈ nx.map (·.1) := List.mem_map.mpr ⟨p, hp, rfl⟩
        rw [ha] at h1
        obtain ⟨q, hq, e⟩ := List.mem_map.mp h1
        intro hI
        exact absurd (Heap.lt_size (N q hq).1) (by rw [e, List.mem_singleton.mp hI]; exact Nat.lt_irrefl _)
    cases f with
    | ret v => exact p
    | brk => exact p
    | next => exact fin p
    | cont => exact fin p
  · rintro h' tk m' news' F' N' _ ⟨_, st, rfl, hf', h1, h2, hp'⟩
    have hp'' : P its.length st := by simpa [zeros] using hp'
    exact done st m' h' tk hf' hp'' (kst_frOut h1 h2 F') N'
end
def groupStep (c : List (Int × Int)) (g : List Int) : List (Int × Int) :=
  if (g.filter (kdfHas c)).length = 1 then g.foldl (fun c' a => kdfPut c' a (kdfLook c' ((g.filter (kdfHas c)).headD 0) 0)) c else c
def mapC (ks : List Int) (fx : Bool) : List (Int × Int) := if fx then groupStep (groupStep (enumD ks) [48, 79, 111]) [73, 108, 49] else enumD ks
theorem fold_put_len (f : List (Int × Int) → Int → Int) : ∀ (l : List Int) (out : List (Int × Int)), (l.foldl (fun c' a => kdfPut c' a (f c' a)) out).length ≤ out.length + l.length
  | [], out => by simp
  | x :: r, out => by
    have h := fold_put_len f r (kdfPut out x (f out x))
    have h2 := kdfPut_length_le out x (f out x)
    simp only [List.foldl_cons, List.length_cons]
    omega
theorem groupStep_len (c : List (Int × Int)) (g : List Int) : (groupStep c g).length ≤ c.length + g.length := by
  unfold groupStep
  split
  · exact fold_put_len _ g c
  · omega
theorem few3 {α : Type} {l : List α} (h : l.length ≤ 3) : l = [] ∨ (∃ a, l = [a]) ∨ (∃ a b, l = [a, b]) ∨ ∃ a b c, l = [a, b, c] := by
  match l, h with
  | [], _ => exact .inl rfl
  | [a], _ => exact .inr (.inl ⟨a, rfl⟩)
  | [a, b], _ => exact .inr (.inr (.inl ⟨a, b, rfl⟩))
  | [a, b, c], _ => exact .inr (.inr (.inr ⟨a, b, c, rfl⟩))
end B58
end
section
open PySem PySem.W PyProof.Rows PySem.Spec PySem.Calls
set_option Elab.async false
set_option maxRecDepth 100000
set_option maxHeartbeats 8000000
set_option pp.deepTerms false
set_option pp.maxSteps 3000
namespace B58
open PyProof.Rows.LCg PyProof.Rows.LCt
local macro_rules | `(tactic| k_mem) => `(tactic| first | with_reducible assumption | with_reducible exact List.mem_cons_self | (with_reducible refine List.mem_cons_of_mem _ ?_; k_mem) | exact List.mem_append_left _ (by assumption) | exact List.mem_append_right _ (by assumption))
theorem map_ok {w : World} {mean : ExcName → Option Value} {mg mb : Str → Option Value}
    {dp un : Nat} {gd : Option (List Code)} {cn : Str} {cs : Scope} {a : Addr} {ccd : Value} {cl : List (Str × Addr)} {outer : List Env} {A₀ : Around} {base h₀ : Heap} {L : Addr} {m : Str → Option Value} {news : List (Addr × Obj)} {s : Shared}
    {Q E : Value → Shared → Prop} {b : Array UInt8} {t : Tok} {ks : List Int} {fx : Bool}
    (B : Below A₀ base outer h₀) (F : Fr h₀ L s.heap m) (X : (hd.heap_39 w.params).In h₀) (N : News h₀ L s.heap news) (T : Top hd.view_39 (looseW hd.view_39 [Str.ofString "b58decode_int"]) mean mg mb h₀)
    (hk : cs.kind = .function) (hdp : dp + 6 < recursionLimit) (hun : un + 100 < cLine)
    (hks : KBw.bInts b = ks) (hlen : ks.length ≤ 100)
    (hret : ∀ d o kvs h' tk', Fr h₀ L h' m → News h₀ L h' ((d, o) :: news) → (∀ p ∈ news, p.1 < d) → (d == sysModules) = false → o.IsDictOf (PySem.intKind PySem.Challenge.rw_eg5001_01.row.prog w) kvs → PyProof.V.FlatPairs PyData.int kvs (kdfD (mapC ks fx)) → Q (.ref d) { s with heap := h', toks := tk' }) :
    wpAny (model PySem.Challenge.rw_eg5001_01.row.prog w) (ktrTop dp un gd cn cs L a ccd cl outer) (call (.ref 26) [.bytes b t, .bool fx]) Q E s := by
  revert X; k_fill; intro X
  k_with_none
  have hMk := kstMark

  k_with "eval DictComp" => refine Mark.intro ?_
  k_with "call type:enumerate" => refine Mark.intro ?_
  k_with "exec For Name Name cons nil" => refine Mark.intro ?_
  k_with "exec Assign cons ListComp" => refine Mark.intro ?_
  refine wpAny_call ?_
  k_dflt (refine' code_defC ?k1 ?k2 ?k3 ?k4 ?k5 ?kA ?kF ?kK ?k6 ?k7 ?k8 ?k9 ?kB ?kD ?_ ?c2 ?c3 ?c4; (case kA => exact rfl); (case kF => exact rfl); (case kK => assumption); (case k1 => k_asm); (case k2 => k_asm); (case k3 => k_asm); (case k4 => k_asm); (case k5 => k_asm); (case k6 => k_is); (case k7 => k_is); (case k8 => ktr_room); (case k9 => first | exact BindsTo.of_eq rfl | exact binds_K (by k_in) rfl (by k_is) rfl rfl rfl); (case kB => exact rfl); (case kD => decide +kernel); (case c2 => exact rfl); (case c3 => exact rfl); (case c4 => exact rfl); k_whole; intro g' L' h' tk' cells' FG' F' N' Y' B' X' T' l1; (try k_lt l1); k_cells Y'; (try simp only [List.cons_append, List.nil_append] at N'); (try dsimp only); (try k_fold))
  k_steps
  refine Mark.out ?_
  rename_i oC hC
  k_dflt (refine DictComp_enum F' (by with_unfolding_all rfl) (by decide) (by rfl) (by decide) (by rfl) (by rfl) (by decide) (by decide) (by decide) ?_)
  k_steps
  refine Mark.out ?_
  rename Fr _ _ _ _ => F1
  rename News _ _ _ _ => N1
  refine call_enumerate_bytes fun h9 he hit hsz9 hk9 => ?_
  have hLl := F1.ns.lt
  have hmod := modules_low (Top.nolimit T')
  refine ⟨_, _, b, t, ks, _, rfl, rfl, F1.keeps hk9, N1.grown hk9, he, hit, Nat.succ_ne_self _, fun p hp => ⟨Nat.ne_of_lt (Nat.lt_succ_of_lt (Heap.lt_size (N1 p hp).1)), Nat.ne_of_lt (Heap.lt_size (N1 p hp).1)⟩,
    Heap.get?_none_of_le (Nat.le_trans F1.above (Nat.le_of_lt (Nat.lt_succ_of_lt hLl))), Heap.get?_none_of_le (Nat.le_trans F1.above (Nat.le_of_lt hLl)), Nat.ne_of_lt (Nat.lt_succ_of_lt hLl), Nat.ne_of_lt hLl, hks, by rw [sizeLine_eq]; omega, hmod, ?_⟩
  intro D o1 kvs1 h2 tk2 F2 N2 hl2 hS2 hD2 hF2
  clear F1 N1
  have l2 : ∀ p ∈ news, p.1 < L' + 1 := fun p hp => Nat.lt_succ_of_lt (l1 p hp)
  have l3 : ∀ p ∈ news, p.1 < D := fun p hp => hl2 p (.tail _ hp)
  k_lt hl2
  cases fx
  · k_steps
    exact hret _ _ _ _ _ (by assumption) (cb_drop (by assumption) (fun p hp => by rcases List.mem_cons.mp hp with rfl | hp; exact .head _; exact .tail _ (.tail _ hp))) l3 hS2 hD2 hF2
  clear he hit hsz9 hk9
  k_steps
  refine Mark.out ?_
  rename Fr _ _ _ _ => F1
  rename News _ _ _ _ => N1
  rename (D < _ ∧ L' + 1 < _ ∧ AllLt _ news) => hlG
  have hlG3 := kst_ltOf hlG.2.2
  with_unfolding_all refine' For_invVF F1 ?k1 ?k2 ?_
  case k1 => exact rfl
  case k2 => exact rfl
  walk1
  refine my_listV (σ := Obj × List (Int × Value) × List (Int × Int)) (its := [Value.bytes #[48, 79, 111] _, Value.bytes #[73, 108, 49] _]) (nn := 0) (fun st => (_, listOf [Value.bytes #[48, 79, 111] _, Value.bytes #[73, 108, 49] _].toArray 0) :: (D, st.1) :: (L' + 1, _) :: news) (fun _ => [])
    (fun st => st.1.IsDictOf (PySem.intKind PySem.Challenge.rw_eg5001_01.row.prog w) st.2.1 ∧ PyProof.V.FlatPairs PyData.int st.2.1 (kdfD st.2.2)) [Str.ofString "pivots", Str.ofString "alternative"]
    (fun i st => st.2.2 = (([[48, 79, 111], [73, 108, 49]] : List (List Int)).take i).foldl groupStep (enumD ks) ∧ st.2.2.length ≤ 100 + 3 * i) (o1, kvs1, enumD ks) (fun _ => .head _) (by rfl) F1 N1 ⟨hD2, hF2⟩ (fun _ h => nomatch h) ⟨rfl, Nat.le_trans (enumTo_len ks _) hlen⟩ ?_ ?_
  · intro st i v u h tk own hv hoff hf hp F2 N2
    obtain ⟨o2, kvs2, c2⟩ := st
    obtain ⟨hD3, hF3⟩ := hf
    obtain ⟨hp, hpl⟩ := hp
    dsimp only at hp hpl hD3 hF3
    have hg : ∃ gb gt g, v = Value.bytes gb gt ∧ KBw.bInts gb = g ∧ g.length = 3 ∧ ([[48, 79, 111], [73, 108, 49]] : List (List Int))[i]? = some g ∧ i < 2 := by
      rcases i with _ | _ | i
      · exact ⟨_, _, _, (Option.some.inj hv).symm, rfl, rfl, rfl, by decide⟩
      · exact ⟨_, _, _, (Option.some.inj hv).symm, rfl, rfl, rfl, by decide⟩
      · simp at hv
    obtain ⟨gb, gt, g, rfl, hgb, hg3, hgi, hi2⟩ := hg
    change Fr g' L' h _ at F2
    change News g' L' h ((_, listOf [Value.bytes #[48, 79, 111] _, Value.bytes #[73, 108, 49] _].toArray 0) :: (D, o2) :: (L' + 1, _) :: (news ++ own)) at N2
    change OwnOff own (_ :: D :: (L' + 1) :: news.map (·.1)) at hoff
    clear F1 N1 hD2 hF2
    change wpAny _ _ _ _ _ _
    k_fold
    k_steps
    refine Mark.out ?_
    rename Fr _ _ _ _ => F4
    rename News _ _ _ _ => N4
    k_dflt (refine Assign_GT F4 (by rfl) (by with_unfolding_all rfl) (by with_unfolding_all rfl) (by decide) (by rfl) (by decide) (by rfl) (by rfl) (by rfl) ?_)
    walk1
    have hbs : gb.size = g.length := by rw [← hgb, KBw.ints_length]
    refine ⟨_, _, _, _, _, _, _, src_bytes (by rfl) (by assumption) (by assumption) (by rw [hbs, hg3]; decide), fun g9 => ?_⟩
    refine restT_all (fun _ v o => ∀ k t, v = Value.int k t → (kdfHas c2 k = true ∧ o = some v) ∨ (kdfHas c2 k = false ∧ o = none)) trivial ?_ ?_
    · intro i v I oI C oC D m₂ h tk E' ys hP hoC hx F2 N2 off ne
      obtain ⟨k, t, hk, rfl⟩ := bytes_ints hgb i v hP
      clear F4 N4
      k_steps
      · refine Mark.out (StepEnd.intro (by assumption) (by assumption) (fun p hp => hp) fun k' t' e => .inl ⟨?_, rfl⟩)
        cases e
        assumption
      · refine Mark.out (StepEnd.intro (by assumption) (by assumption) (fun p hp => hp) fun k' t' e => .inr ⟨?_, rfl⟩)
        cases e
        assumption
    · intro ys ho D9 h tk F3 N3 o1
      have hi3 := outs_filter (q := kdfHas c2) hbs.symm (bytes_ints hgb) ho
      have hkl : (g.filter (kdfHas c2)).length ≤ 3 := hg3 ▸ List.length_filter_le _ _
      have hx4 : ∀ k ∈ g.filter (kdfHas c2), kdfHas c2 k = true := fun k hk => (List.mem_filter.mp hk).2
      have hstep : ∀ kl, g.filter (kdfHas c2) = kl → groupStep c2 g = if kl.length = 1 then g.foldl (fun c' a => kdfPut c' a (kdfLook c' (kl.headD 0) 0)) c2 else c2 := by
        intro kl e; subst e; rfl
      have q1 : @Ne Nat D D9 := o1.2.1
      clear F4 N4
      generalize hkl9 : g.filter (kdfHas c2) = kl at hi3 hkl hx4
      have hstep' := hstep kl hkl9
      have other : kl.length ≠ 1 → c2 = List.foldl groupStep (enumD ks) (List.take (i + 1) [[48, 79, 111], [73, 108, 49]]) := by
        intro hne
        rw [List.take_add_one, hgi]
        show c2 = List.foldl groupStep (enumD ks) (List.take i [[48, 79, 111], [73, 108, 49]] ++ [g])
        rw [List.foldl_append, ← hp]
        show c2 = groupStep c2 g
        rw [hstep', if_neg hne]
      rcases few3 hkl with e0 | ⟨k1, e0⟩ | ⟨k1, k2, e0⟩ | ⟨k1, k2, k3, e0⟩
      all_goals (subst e0)
      · cases hi3
        k_steps
        refine Mark.out (kst_end (x := Str.ofString "group") (o2, kvs2, c2) (by assumption) N3 (fun p hp => .tail _ (led_in [_, _, _] news own p hp)) (fun p hp => .tail _ (own_in [_, _, _] news own p hp)) rfl ⟨hD3, hF3⟩ (fun _ h => nomatch h) ?_ ?_)
        · intro z h1 h2 h3
          have h4 : z ≠ Str.ofString "pivots" := by
            intro e9
            rw [e9] at h3
            simp at h3
          have h5 : z ≠ Str.ofString "alternative" := by
            intro e9
            rw [e9] at h3
            simp at h3
          simp [kstB, h1, h4, h5]
        · refine ⟨?_, ?_⟩
          · rw [show (zeros (i + 1)).length = i + 1 from List.length_replicate]
            exact other (by simp)
          · rw [show (zeros (i + 1)).length = i + 1 from List.length_replicate]
            show c2.length ≤ _
            omega
      · cases hi3
        rename_i hi9
        cases hi9
        have hx5 := hx4 k1 (by simp)
        k_steps
        rename Fr _ _ _ _ => F5
        refine my_bytes (σ := Obj × List (Int × Value) × List (Int × Int)) (fun st => (D9, lst [Value.int k1 _]) :: (_, listOf [Value.bytes #[48, 79, 111] _, Value.bytes #[73, 108, 49] _].toArray 0) :: (D, st.1) :: (L' + 1, _) :: (news ++ own)) (fun _ => [])
          (fun st => st.1.IsDictOf (PySem.intKind PySem.Challenge.rw_eg5001_01.row.prog w) st.2.1 ∧ PyProof.V.FlatPairs PyData.int st.2.1 (kdfD st.2.2)) []
          (fun pre st => st.2.2 = pre.foldl (fun c' a => kdfPut c' a (kdfLook c' k1 0)) c2 ∧ kdfHas st.2.2 k1 = true ∧ st.2.2.length ≤ c2.length + pre.length) (o2, kvs2, c2) hgb (by rfl) F5 N3 ⟨hD3, hF3⟩ (fun _ h => nomatch h) ⟨rfl, hx5, Nat.le_refl _⟩ ?_ ?_
        · intro st pre post n t u h tk own2 e h0 h256 hoff2 hf hp' F6 N6
          obtain ⟨o3, kvs3, c3⟩ := st
          obtain ⟨hD4, hF4⟩ := hf
          obtain ⟨hp', hx6, hl3⟩ := hp'
          change Fr g' L' h _ at F6
          change News g' L' h ((D9, _) :: (_, _) :: (D, o3) :: (L' + 1, _) :: ((news ++ own) ++ own2)) at N6
          change OwnOff own2 (D9 :: _ :: D :: (L' + 1) :: (news ++ own).map (·.1)) at hoff2
          dsimp only at hp' hx6 hl3 hD4 hF4
          have hl4 : c3.length ≤ 112 := by
            have e3 := congrArg List.length e
            simp only [List.length_append, List.length_cons] at e3
            omega
          clear F5 N3 hD3 hF3
          change wpAny _ _ _ _ _ _
          k_fold
          k_steps
          rename Fr _ _ _ _ => F7
          rename News _ _ _ _ => N7
          rename Obj.IsDictOf _ _ _ => hD5
          rename PyProof.V.FlatPairs PyData.int _ _ => hF5
          refine Mark.out (kst_end (x := Str.ofString "alternative") (_, _, kdfPut c3 n (kdfLook c3 k1 0)) F7 N7 (led_in [_, _, _, _] (news ++ own) own2) (own_in [_, _, _, _] (news ++ own) own2) rfl ⟨hD5, hF5⟩ (fun _ h => nomatch h) ?_ ?_)
          · intro z h1 h2 h3
            simp [kstB, h1]
          · refine ⟨?_, ?_, ?_⟩
            · show kdfPut c3 n (kdfLook c3 k1 0) = _
              rw [List.foldl_append, ← hp']; rfl
            · show kdfHas (kdfPut c3 n _) k1 = true
              rw [kdfHas_is, kdfPut_is, kpr_has_put, ← kdfHas_is, hx6, Bool.or_true]
            · have h9 := kdfPut_len c3 n (kdfLook c3 k1 0)
              simp only [List.length_append, List.length_cons, List.length_nil]
              omega
        · intro st u h tk hf hp' F6 N6
          obtain ⟨o3, kvs3, c3⟩ := st
          obtain ⟨hD4, hF4⟩ := hf
          obtain ⟨hp', hx6, hl3⟩ := hp'
          change Fr g' L' h _ at F6
          change News g' L' h ((D9, _) :: (_, _) :: (D, o3) :: (L' + 1, _) :: (news ++ own)) at N6
          dsimp only at hp' hx6 hl3 hD4 hF4
          clear F5 N3 hD3 hF3
          k_steps
          refine Mark.out (kst_end (x := Str.ofString "group") (o3, kvs3, c3) (by assumption) N6 (fun p hp => .tail _ (led_in [_, _, _] news own p hp)) (fun p hp => .tail _ (own_in [_, _, _] news own p hp)) rfl ⟨hD4, hF4⟩ (fun _ h => nomatch h) ?_ ?_)
          · intro z h1 h2 h3
            have h4 : z ≠ Str.ofString "pivots" := by
              intro e9
              rw [e9] at h3
              simp at h3
            have h5 : z ≠ Str.ofString "alternative" := by
              intro e9
              rw [e9] at h3
              simp at h3
            simp [kstB, h1, h4, h5]
          · refine ⟨?_, ?_⟩
            · rw [show (zeros (i + 1)).length = i + 1 from List.length_replicate, List.take_add_one, hgi]
              show c3 = List.foldl groupStep (enumD ks) (List.take i [[48, 79, 111], [73, 108, 49]] ++ [g])
              rw [List.foldl_append, ← hp]
              show c3 = groupStep c2 g
              rw [hstep', if_pos (show [k1].length = 1 from rfl)]
              exact hp'
            · rw [show (zeros (i + 1)).length = i + 1 from List.length_replicate]
              show c3.length ≤ _
              omega
      · cases hi3
        rename_i hi9
        cases hi9
        rename_i hi9
        cases hi9
        k_steps
        refine Mark.out (kst_end (x := Str.ofString "group") (o2, kvs2, c2) (by assumption) N3 (fun p hp => .tail _ (led_in [_, _, _] news own p hp)) (fun p hp => .tail _ (own_in [_, _, _] news own p hp)) rfl ⟨hD3, hF3⟩ (fun _ h => nomatch h) ?_ ?_)
        · intro z h1 h2 h3
          have h4 : z ≠ Str.ofString "pivots" := by
            intro e9
            rw [e9] at h3
            simp at h3
          have h5 : z ≠ Str.ofString "alternative" := by
            intro e9
            rw [e9] at h3
            simp at h3
          simp [kstB, h1, h4, h5]
        · refine ⟨?_, ?_⟩
          · rw [show (zeros (i + 1)).length = i + 1 from List.length_replicate]
            exact other (by simp)
          · rw [show (zeros (i + 1)).length = i + 1 from List.length_replicate]
            show c2.length ≤ _
            omega
      · cases hi3
        rename_i hi9
        cases hi9
        rename_i hi9
        cases hi9
        rename_i hi9
        cases hi9
        k_steps
        refine Mark.out (kst_end (x := Str.ofString "group") (o2, kvs2, c2) (by assumption) N3 (fun p hp => .tail _ (led_in [_, _, _] news own p hp)) (fun p hp => .tail _ (own_in [_, _, _] news own p hp)) rfl ⟨hD3, hF3⟩ (fun _ h => nomatch h) ?_ ?_)
        · intro z h1 h2 h3
          have h4 : z ≠ Str.ofString "pivots" := by
            intro e9
            rw [e9] at h3
            simp at h3
          have h5 : z ≠ Str.ofString "alternative" := by
            intro e9
            rw [e9] at h3
            simp at h3
          simp [kstB, h1, h4, h5]
        · refine ⟨?_, ?_⟩
          · rw [show (zeros (i + 1)).length = i + 1 from List.length_replicate]
            exact other (by simp)
          · rw [show (zeros (i + 1)).length = i + 1 from List.length_replicate]
            show c2.length ≤ _
            omega
  · intro st u h tk hf hp F2 N2
    obtain ⟨o2, kvs2, c2⟩ := st
    obtain ⟨hD3, hF3⟩ := hf
    obtain ⟨hp, hpl⟩ := hp
    change Fr g' L' h _ at F2
    change News g' L' h ((_, _) :: (D, o2) :: (L' + 1, _) :: news) at N2
    have hc2 : c2 = mapC ks true := hp
    dsimp only at hD3 hF3
    subst hc2
    clear F1 N1 hD2 hF2
    k_steps
    exact hret _ _ _ _ _ (by assumption) (cb_drop (by assumption) (fun p hp => by rcases List.mem_cons.mp hp with rfl | hp; exact .tail _ (.head _); exact .tail _ (.tail _ (.tail _ hp)))) l3 hS2 hD3 hF3
theorem map_kw {w : World} {mean : ExcName → Option Value} {mg mb : Str → Option Value}
    {dp un : Nat} {gd : Option (List Code)} {cn : Str} {cs : Scope} {a : Addr} {ccd : Value} {cl : List (Str × Addr)} {outer : List Env} {A₀ : Around} {base h₀ : Heap} {L : Addr} {m : Str → Option Value} {news : List (Addr × Obj)} {s : Shared}
    {Q E : Value → Shared → Prop} {b : Array UInt8} {t : Tok} {ks : List Int} {fx : Bool}
    (B : Below A₀ base outer h₀) (F : Fr h₀ L s.heap m) (X : (hd.heap_39 w.params).In h₀) (N : News h₀ L s.heap news) (T : Top hd.view_39 (looseW hd.view_39 [Str.ofString "b58decode_int"]) mean mg mb h₀)
    (hk : cs.kind = .function) (hdp : dp + 6 < recursionLimit) (hun : un + 100 < cLine)
    (hks : KBw.bInts b = ks) (hlen : ks.length ≤ 100)
    (hret : ∀ d o kvs h' tk', Fr h₀ L h' m → News h₀ L h' ((d, o) :: news) → (∀ p ∈ news, p.1 < d) → (d == sysModules) = false → o.IsDictOf (PySem.intKind PySem.Challenge.rw_eg5001_01.row.prog w) kvs → PyProof.V.FlatPairs PyData.int kvs (kdfD (mapC ks fx)) → Q (.ref d) { s with heap := h', toks := tk' }) :
    wpAny (model PySem.Challenge.rw_eg5001_01.row.prog w) (ktrTop dp un gd cn cs L a ccd cl outer) (call (.ref 26) [.bytes b t] [(Str.ofString "autofix", .bool fx)]) Q E s := by
  revert X; k_fill; intro X
  k_with_none
  have hMk := kstMark

  k_with "eval DictComp" => refine Mark.intro ?_
  k_with "call type:enumerate" => refine Mark.intro ?_
  k_with "exec For Name Name cons nil" => refine Mark.intro ?_
  k_with "exec Assign cons ListComp" => refine Mark.intro ?_
  refine wpAny_call ?_
  k_dflt (refine' code_defC ?k1 ?k2 ?k3 ?k4 ?k5 ?kA ?kF ?kK ?k6 ?k7 ?k8 ?k9 ?kB ?kD ?_ ?c2 ?c3 ?c4; (case kA => exact rfl); (case kF => exact rfl); (case kK => assumption); (case k1 => k_asm); (case k2 => k_asm); (case k3 => k_asm); (case k4 => k_asm); (case k5 => k_asm); (case k6 => k_is); (case k7 => k_is); (case k8 => ktr_room); (case k9 => (refine' kp_binds ?kx ?ke; (case kx => k_in); (case ke => exact fun _ => rfl))); (case kB => exact rfl); (case kD => decide +kernel); (case c2 => exact rfl); (case c3 => exact rfl); (case c4 => exact rfl); k_whole; intro g' L' h' tk' cells' FG' F' N' Y' B' X' T' l1; (try k_lt l1); k_cells Y'; (try simp only [List.cons_append, List.nil_append] at N'); (try dsimp only); (try k_fold))
  k_steps
  refine Mark.out ?_
  rename_i oC hC
  k_dflt (refine DictComp_enum F' (by with_unfolding_all rfl) (by decide) (by rfl) (by decide) (by rfl) (by rfl) (by decide) (by decide) (by decide) ?_)
  k_steps
  refine Mark.out ?_
  rename Fr _ _ _ _ => F1
  rename News _ _ _ _ => N1
  refine call_enumerate_bytes fun h9 he hit hsz9 hk9 => ?_
  have hLl := F1.ns.lt
  have hmod := modules_low (Top.nolimit T')
  refine ⟨_, _, b, t, ks, _, rfl, rfl, F1.keeps hk9, N1.grown hk9, he, hit, Nat.succ_ne_self _, fun p hp => ⟨Nat.ne_of_lt (Nat.lt_succ_of_lt (Heap.lt_size (N1 p hp).1)), Nat.ne_of_lt (Heap.lt_size (N1 p hp).1)⟩,
    Heap.get?_none_of_le (Nat.le_trans F1.above (Nat.le_of_lt (Nat.lt_succ_of_lt hLl))), Heap.get?_none_of_le (Nat.le_trans F1.above (Nat.le_of_lt hLl)), Nat.ne_of_lt (Nat.lt_succ_of_lt hLl), Nat.ne_of_lt hLl, hks, by rw [sizeLine_eq]; omega, hmod, ?_⟩
  intro D o1 kvs1 h2 tk2 F2 N2 hl2 hS2 hD2 hF2
  clear F1 N1
  have l2 : ∀ p ∈ news, p.1 < L' + 1 := fun p hp => Nat.lt_succ_of_lt (l1 p hp)
  have l3 : ∀ p ∈ news, p.1 < D := fun p hp => hl2 p (.tail _ hp)
  k_lt hl2
  cases fx
  · k_steps
    exact hret _ _ _ _ _ (by assumption) (cb_drop (by assumption) (fun p hp => by rcases List.mem_cons.mp hp with rfl | hp; exact .head _; exact .tail _ (.tail _ hp))) l3 hS2 hD2 hF2
  clear he hit hsz9 hk9
  k_steps
  refine Mark.out ?_
  rename Fr _ _ _ _ => F1
  rename News _ _ _ _ => N1
  rename (D < _ ∧ L' + 1 < _ ∧ AllLt _ news) => hlG
  have hlG3 := kst_ltOf hlG.2.2
  with_unfolding_all refine' For_invVF F1 ?k1 ?k2 ?_
  case k1 => exact rfl
  case k2 => exact rfl
  walk1
  refine my_listV (σ := Obj × List (Int × Value) × List (Int × Int)) (its := [Value.bytes #[48, 79, 111] _, Value.bytes #[73, 108, 49] _]) (nn := 0) (fun st => (_, listOf [Value.bytes #[48, 79, 111] _, Value.bytes #[73, 108, 49] _].toArray 0) :: (D, st.1) :: (L' + 1, _) :: news) (fun _ => [])
    (fun st => st.1.IsDictOf (PySem.intKind PySem.Challenge.rw_eg5001_01.row.prog w) st.2.1 ∧ PyProof.V.FlatPairs PyData.int st.2.1 (kdfD st.2.2)) [Str.ofString "pivots", Str.ofString "alternative"]
    (fun i st => st.2.2 = (([[48, 79, 111], [73, 108, 49]] : List (List Int)).take i).foldl groupStep (enumD ks) ∧ st.2.2.length ≤ 100 + 3 * i) (o1, kvs1, enumD ks) (fun _ => .head _) (by rfl) F1 N1 ⟨hD2, hF2⟩ (fun _ h => nomatch h) ⟨rfl, Nat.le_trans (enumTo_len ks _) hlen⟩ ?_ ?_
  · intro st i v u h tk own hv hoff hf hp F2 N2
    obtain ⟨o2, kvs2, c2⟩ := st
    obtain ⟨hD3, hF3⟩ := hf
    obtain ⟨hp, hpl⟩ := hp
    dsimp only at hp hpl hD3 hF3
    have hg : ∃ gb gt g, v = Value.bytes gb gt ∧ KBw.bInts gb = g ∧ g.length = 3 ∧ ([[48, 79, 111], [73, 108, 49]] : List (List Int))[i]? = some g ∧ i < 2 := by
      rcases i with _ | _ | i
      · exact ⟨_, _, _, (Option.some.inj hv).symm, rfl, rfl, rfl, by decide⟩
      · exact ⟨_, _, _, (Option.some.inj hv).symm, rfl, rfl, rfl, by decide⟩
      · simp at hv
    obtain ⟨gb, gt, g, rfl, hgb, hg3, hgi, hi2⟩ := hg
    change Fr g' L' h _ at F2
    change News g' L' h ((_, listOf [Value.bytes #[48, 79, 111] _, Value.bytes #[73, 108, 49] _].toArray 0) :: (D, o2) :: (L' + 1, _) :: (news ++ own)) at N2
    change OwnOff own (_ :: D :: (L' + 1) :: news.map (·.1)) at hoff
    clear F1 N1 hD2 hF2
    change wpAny _ _ _ _ _ _
    k_fold
    k_steps
    refine Mark.out ?_
    rename Fr _ _ _ _ => F4
    rename News _ _ _ _ => N4
    k_dflt (refine Assign_GT F4 (by rfl) (by with_unfolding_all rfl) (by with_unfolding_all rfl) (by decide) (by rfl) (by decide) (by rfl) (by rfl) (by rfl) ?_)
    walk1
    have hbs : gb.size = g.length := by rw [← hgb, KBw.ints_length]
    refine ⟨_, _, _, _, _, _, _, src_bytes (by rfl) (by assumption) (by assumption) (by rw [hbs, hg3]; decide), fun g9 => ?_⟩
    refine restT_all (fun _ v o => ∀ k t, v = Value.int k t → (kdfHas c2 k = true ∧ o = some v) ∨ (kdfHas c2 k = false ∧ o = none)) trivial ?_ ?_
    · intro i v I oI C oC D m₂ h tk E' ys hP hoC hx F2 N2 off ne
      obtain ⟨k, t, hk, rfl⟩ := bytes_ints hgb i v hP
      clear F4 N4
      k_steps
      · refine Mark.out (StepEnd.intro (by assumption) (by assumption) (fun p hp => hp) fun k' t' e => .inl ⟨?_, rfl⟩)
        cases e
        assumption
      · refine Mark.out (StepEnd.intro (by assumption) (by assumption) (fun p hp => hp) fun k' t' e => .inr ⟨?_, rfl⟩)
        cases e
        assumption
    · intro ys ho D9 h tk F3 N3 o1
      have hi3 := outs_filter (q := kdfHas c2) hbs.symm (bytes_ints hgb) ho
      have hkl : (g.filter (kdfHas c2)).length ≤ 3 := hg3 ▸ List.length_filter_le _ _
      have hx4 : ∀ k ∈ g.filter (kdfHas c2), kdfHas c2 k = true := fun k hk => (List.mem_filter.mp hk).2
      have hstep : ∀ kl, g.filter (kdfHas c2) = kl → groupStep c2 g = if kl.length = 1 then g.foldl (fun c' a => kdfPut c' a (kdfLook c' (kl.headD 0) 0)) c2 else c2 := by
        intro kl e; subst e; rfl
      have q1 : @Ne Nat D D9 := o1.2.1
      clear F4 N4
      generalize hkl9 : g.filter (kdfHas c2) = kl at hi3 hkl hx4
      have hstep' := hstep kl hkl9
      have other : kl.length ≠ 1 → c2 = List.foldl groupStep (enumD ks) (List.take (i + 1) [[48, 79, 111], [73, 108, 49]]) := by
        intro hne
        rw [List.take_add_one, hgi]
        show c2 = List.foldl groupStep (enumD ks) (List.take i [[48, 79, 111], [73, 108, 49]] ++ [g])
        rw [List.foldl_append, ← hp]
        show c2 = groupStep c2 g
        rw [hstep', if_neg hne]
      rcases few3 hkl with e0 | ⟨k1, e0⟩ | ⟨k1, k2, e0⟩ | ⟨k1, k2, k3, e0⟩
      all_goals (subst e0)
      · cases hi3
        k_steps
        refine Mark.out (kst_end (x := Str.ofString "group") (o2, kvs2, c2) (by assumption) N3 (fun p hp => .tail _ (led_in [_, _, _] news own p hp)) (fun p hp => .tail _ (own_in [_, _, _] news own p hp)) rfl ⟨hD3, hF3⟩ (fun _ h => nomatch h) ?_ ?_)
        · intro z h1 h2 h3
          have h4 : z ≠ Str.ofString "pivots" := by
            intro e9
            rw [e9] at h3
            simp at h3
          have h5 : z ≠ Str.ofString "alternative" := by
            intro e9
            rw [e9] at h3
            simp at h3
          simp [kstB, h1, h4, h5]
        · refine ⟨?_, ?_⟩
          · rw [show (zeros (i + 1)).length = i + 1 from List.length_replicate]
            exact other (by simp)
          · rw [show (zeros (i + 1)).length = i + 1 from List.length_replicate]
            show c2.length ≤ _
            omega
      · cases hi3
        rename_i hi9
        cases hi9
        have hx5 := hx4 k1 (by simp)
        k_steps
        rename Fr _ _ _ _ => F5
        refine my_bytes (σ := Obj × List (Int × Value) × List (Int × Int)) (fun st => (D9, lst [Value.int k1 _]) :: (_, listOf [Value.bytes #[48, 79, 111] _, Value.bytes #[73, 108, 49] _].toArray 0) :: (D, st.1) :: (L' + 1, _) :: (news ++ own)) (fun _ => [])
          (fun st => st.1.IsDictOf (PySem.intKind PySem.Challenge.rw_eg5001_01.row.prog w) st.2.1 ∧ PyProof.V.FlatPairs PyData.int st.2.1 (kdfD st.2.2)) []
          (fun pre st => st.2.2 = pre.foldl (fun c' a => kdfPut c' a (kdfLook c' k1 0)) c2 ∧ kdfHas st.2.2 k1 = true ∧ st.2.2.length ≤ c2.length + pre.length) (o2, kvs2, c2) hgb (by rfl) F5 N3 ⟨hD3, hF3⟩ (fun _ h => nomatch h) ⟨rfl, hx5, Nat.le_refl _⟩ ?_ ?_
        · intro st pre post n t u h tk own2 e h0 h256 hoff2 hf hp' F6 N6
          obtain ⟨o3, kvs3, c3⟩ := st
          obtain ⟨hD4, hF4⟩ := hf
          obtain ⟨hp', hx6, hl3⟩ := hp'
          change Fr g' L' h _ at F6
          change News g' L' h ((D9, _) :: (_, _) :: (D, o3) :: (L' + 1, _) :: ((news ++ own) ++ own2)) at N6
          change OwnOff own2 (D9 :: _ :: D :: (L' + 1) :: (news ++ own).map (·.1)) at hoff2
          dsimp only at hp' hx6 hl3 hD4 hF4
          have hl4 : c3.length ≤ 112 := by
            have e3 := congrArg List.length e
            simp only [List.length_append, List.length_cons] at e3
            omega
          clear F5 N3 hD3 hF3
          change wpAny _ _ _ _ _ _
          k_fold
          k_steps
          rename Fr _ _ _ _ => F7
          rename News _ _ _ _ => N7
          rename Obj.IsDictOf _ _ _ => hD5
          rename PyProof.V.FlatPairs PyData.int _ _ => hF5
          refine Mark.out (kst_end (x := Str.ofString "alternative") (_, _, kdfPut c3 n (kdfLook c3 k1 0)) F7 N7 (led_in [_, _, _, _] (news ++ own) own2) (own_in [_, _, _, _] (news ++ own) own2) rfl ⟨hD5, hF5⟩ (fun _ h => nomatch h) ?_ ?_)
          · intro z h1 h2 h3
            simp [kstB, h1]
          · refine ⟨?_, ?_, ?_⟩
            · show kdfPut c3 n (kdfLook c3 k1 0) = _
              rw [List.foldl_append, ← hp']; rfl
            · show kdfHas (kdfPut c3 n _) k1 = true
              rw [kdfHas_is, kdfPut_is, kpr_has_put, ← kdfHas_is, hx6, Bool.or_true]
            · have h9 := kdfPut_len c3 n (kdfLook c3 k1 0)
              simp only [List.length_append, List.length_cons, List.length_nil]
              omega
        · intro st u h tk hf hp' F6 N6
          obtain ⟨o3, kvs3, c3⟩ := st
          obtain ⟨hD4, hF4⟩ := hf
          obtain ⟨hp', hx6, hl3⟩ := hp'
          change Fr g' L' h _ at F6
          change News g' L' h ((D9, _) :: (_, _) :: (D, o3) :: (L' + 1, _) :: (news ++ own)) at N6
          dsimp only at hp' hx6 hl3 hD4 hF4
          clear F5 N3 hD3 hF3
          k_steps
          refine Mark.out (kst_end (x := Str.ofString "group") (o3, kvs3, c3) (by assumption) N6 (fun p hp => .tail _ (led_in [_, _, _] news own p hp)) (fun p hp => .tail _ (own_in [_, _, _] news own p hp)) rfl ⟨hD4, hF4⟩ (fun _ h => nomatch h) ?_ ?_)
          · intro z h1 h2 h3
            have h4 : z ≠ Str.ofString "pivots" := by
              intro e9
              rw [e9] at h3
              simp at h3
            have h5 : z ≠ Str.ofString "alternative" := by
              intro e9
              rw [e9] at h3
              simp at h3
            simp [kstB, h1, h4, h5]
          · refine ⟨?_, ?_⟩
            · rw [show (zeros (i + 1)).length = i + 1 from List.length_replicate, List.take_add_one, hgi]
              show c3 = List.foldl groupStep (enumD ks) (List.take i [[48, 79, 111], [73, 108, 49]] ++ [g])
              rw [List.foldl_append, ← hp]
              show c3 = groupStep c2 g
              rw [hstep', if_pos (show [k1].length = 1 from rfl)]
              exact hp'
            · rw [show (zeros (i + 1)).length = i + 1 from List.length_replicate]
              show c3.length ≤ _
              omega
      · cases hi3
        rename_i hi9
        cases hi9
        rename_i hi9
        cases hi9
        k_steps
        refine Mark.out (kst_end (x := Str.ofString "group") (o2, kvs2, c2) (by assumption) N3 (fun p hp => .tail _ (led_in [_, _, _] news own p hp)) (fun p hp => .tail _ (own_in [_, _, _] news own p hp)) rfl ⟨hD3, hF3⟩ (fun _ h => nomatch h) ?_ ?_)
        · intro z h1 h2 h3
          have h4 : z ≠ Str.ofString "pivots" := by
            intro e9
            rw [e9] at h3
            simp at h3
          have h5 : z ≠ Str.ofString "alternative" := by
            intro e9
            rw [e9] at h3
            simp at h3
          simp [kstB, h1, h4, h5]
        · refine ⟨?_, ?_⟩
          · rw [show (zeros (i + 1)).length = i + 1 from List.length_replicate]
            exact other (by simp)
          · rw [show (zeros (i + 1)).length = i + 1 from List.length_replicate]
            show c2.length ≤ _
            omega
      · cases hi3
        rename_i hi9
        cases hi9
        rename_i hi9
        cases hi9
        rename_i hi9
        cases hi9
        k_steps
        refine Mark.out (kst_end (x := Str.ofString "group") (o2, kvs2, c2) (by assumption) N3 (fun p hp => .tail _ (led_in [_, _, _] news own p hp)) (fun p hp => .tail _ (own_in [_, _, _] news own p hp)) rfl ⟨hD3, hF3⟩ (fun _ h => nomatch h) ?_ ?_)
        · intro z h1 h2 h3
          have h4 : z ≠ Str.ofString "pivots" := by
            intro e9
            rw [e9] at h3
            simp at h3
          have h5 : z ≠ Str.ofString "alternative" := by
            intro e9
            rw [e9] at h3
            simp at h3
          simp [kstB, h1, h4, h5]
        · refine ⟨?_, ?_⟩
          · rw [show (zeros (i + 1)).length = i + 1 from List.length_replicate]
            exact other (by simp)
          · rw [show (zeros (i + 1)).length = i + 1 from List.length_replicate]
            show c2.length ≤ _
            omega
  · intro st u h tk hf hp F2 N2
    obtain ⟨o2, kvs2, c2⟩ := st
    obtain ⟨hD3, hF3⟩ := hf
    obtain ⟨hp, hpl⟩ := hp
    change Fr g' L' h _ at F2
    change News g' L' h ((_, _) :: (D, o2) :: (L' + 1, _) :: news) at N2
    have hc2 : c2 = mapC ks true := hp
    dsimp only at hD3 hF3
    subst hc2
    clear F1 N1 hD2 hF2
    k_steps
    exact hret _ _ _ _ _ (by assumption) (cb_drop (by assumption) (fun p hp => by rcases List.mem_cons.mp hp with rfl | hp; exact .tail _ (.head _); exact .tail _ (.tail _ (.tail _ hp)))) l3 hS2 hD3 hF3
end B58
end
section
open PySem PySem.W PyProof.Rows PySem.Spec PySem.Calls
set_option Elab.async false
set_option maxRecDepth 100000
set_option maxHeartbeats 8000000
set_option pp.deepTerms false
set_option pp.maxSteps 3000
namespace B58
open PyProof.Rows.LCg PyProof.Rows.LCt

def numTo (rs : List Int) (b : Int) : Nat → Int
  | 0 => 0
  | n + 1 => numTo rs b n + rs.getD (rs.length - 1 - n) 0 * b ^ n
local macro_rules | `(tactic| is_list) => `(tactic| exact News.isList (by assumption) (by with_reducible assumption))
local macro_rules | `(tactic| k_mem) => `(tactic| first | with_reducible assumption | with_reducible exact List.mem_cons_self | (with_reducible refine List.mem_cons_of_mem _ ?_; k_mem) | exact List.mem_append_left _ (by assumption) | exact List.mem_append_right _ (by assumption))
theorem number_ok {w : World} {mean : ExcName → Option Value} {mg mb : Str → Option Value}
    {dp un : Nat} {gd : Option (List Code)} {cn : Str} {cs : Scope} {a : Addr} {ccd : Value} {cl : List (Str × Addr)} {outer : List Env} {A₀ : Around} {base h₀ : Heap} {L : Addr} {m : Str → Option Value} {news : List (Addr × Obj)} {s : Shared}
    {Q E : Value → Shared → Prop} {l : Addr} {ys : List Value} {rs : List Int} {b : Int} {tb : Tok}
    (B : Below A₀ base outer h₀) (F : Fr h₀ L s.heap m) (X : (hd.heap_39 w.params).In h₀) (N : News h₀ L s.heap news) (T : Top hd.view_39 (looseW hd.view_39 [Str.ofString "b58decode_int"]) mean mg mb h₀)
    (hk : cs.kind = .function) (hdp : dp + 6 < recursionLimit) (hun : un + 100 < cLine)
    (hm : (l, lst ys) ∈ news) (hi : IntsAre ys rs) (hlen : rs.length ≤ 100) (hrs : ∀ x ∈ rs, 0 ≤ x ∧ x < 1000) (hb0 : 0 ≤ b) (hb : b ≤ 100)
    (hret : ∀ t h' tk', Fr h₀ L h' m → News h₀ L h' news → Q (.int (numTo rs b rs.length) t) { s with heap := h', toks := tk' }) :
    wpAny (model PySem.Challenge.rw_eg5001_01.row.prog w) (ktrTop dp un gd cn cs L a ccd cl outer) (call (.ref 75) [.ref l, .int b tb]) Q E s := by
  revert X; k_fill; intro X
  k_with_none
  have hMk := kstMark

  k_with "exec For Name Call cons nil" => refine Mark.intro ?_
  k_with "pyIter ref" => ((with_reducible show wpAny _ _ (pyIter (Value.ref _)) (fun it s₂ => LoopAtV _ _ _ _ _ _ _ _ _ it s₂) _ _); refine Mark.intro ?_)
  refine wpAny_call ?_
  k_dflt ktr_enter
  k_steps
  refine Mark.out ?_
  rename Fr _ _ _ _ => F1
  rename News _ _ _ _ => N1
  with_unfolding_all refine' For_invVF F1 ?k1 ?k2 ?_
  case k1 => exact rfl
  case k2 => exact rfl
  k_steps
  refine Mark.out ?_
  rename Fr _ _ _ _ => F2
  rename News _ _ _ _ => N2
  rename IsRange _ _ _ _ _ _ _ _ => hrg
  refine my_range (σ := Int × Tok) (fun _ => news) (fun st => [(Str.ofString "total", Value.int st.1 st.2)]) (fun _ => True) []
    (fun pre st => st.1 = numTo rs b pre.length) (0, _) (by rfl) hrg (small_one (by omega) (by omega) (by omega) (by omega)) (rangeSize_nat _ _) F2 N2 trivial (fun p hp => by rw [List.mem_singleton.mp hp]; rfl) rfl ?_ ?_
  · intro st pre k t u h tk own hk9 hlt hoff _ hp F3 N3
    obtain ⟨tot, tt⟩ := st
    dsimp only at hp
    change Fr _ _ h _ at F3
    change News _ _ h (news ++ own) at N3
    have hm' : (l, lst ys) ∈ news ++ own := List.mem_append_left _ hm
    have hk0 : 0 ≤ k := by omega
    have hkl : k < rs.length := by omega
    have hk1 : 0 ≤ -1 - k + (rs.length : Int) := by omega
    have hj : (-1 - k + (rs.length : Int)).toNat = rs.length - 1 - pre.length := by omega
    have hjl : rs.length - 1 - pre.length < rs.length := by omega
    have hx := hrs _ (List.getElem_mem hjl)
    have hx' : rs.getD (rs.length - 1 - pre.length) 0 = rs[rs.length - 1 - pre.length] := by simp [List.getD_eq_getElem?_getD, hjl]
    rw [← hx'] at hx
    rw [← hj] at hx
    obtain ⟨hx1, hx2⟩ := hx
    clear F2 N2 hx' 
    change wpAny _ _ _ _ _ _
    k_fold
    k_steps
    k_dflt (refine item_list_ints_neg (News.isList N3 hm') hi (by omega) (by omega) (by omega) (fun t5 => ?_) (by with_unfolding_all rfl) (by intro _; with_unfolding_all rfl))
    k_steps
    rename Fr _ _ _ _ => F4
    rename News _ _ _ _ => N4
    refine Mark.out (kst_end (x := Str.ofString "k") (_, _) F4 N4 (fun p hp => List.mem_append_left _ hp) (fun p hp => List.mem_append_right _ hp) rfl trivial (fun p hp => by rw [List.mem_singleton.mp hp]; rfl) ?_ ?_)
    · intro z h1 h2 h3
      have h4 : z ≠ Str.ofString "total" := h2 _ (.head _)
      simp [kstB, h1, h4]
    · rw [List.length_append]
      show _ = numTo rs b pre.length + rs.getD (rs.length - 1 - pre.length) 0 * b ^ pre.length
      have hkn : k.toNat = pre.length := by omega
      rw [hj, hp, hkn]
  · intro st u h tk _ hp F3 N3
    obtain ⟨tot, tt⟩ := st
    change Fr _ _ h _ at F3
    change News _ _ h news at N3
    clear F2 N2
    have hp' : tot = numTo rs b rs.length := by
      rw [rangeKs_length] at hp
      simpa using hp
    subst hp'
    k_steps
    exact hret _ _ _ (by assumption) (by assumption)
end B58
end
section
open PySem PySem.W PyProof.Rows PySem.Spec PySem.Calls
set_option Elab.async false
set_option maxRecDepth 100000
set_option maxHeartbeats 8000000
set_option pp.deepTerms false
set_option pp.maxSteps 3000
namespace B58
open PyProof.Rows.LCg PyProof.Rows.LCt
section
local macro_rules | `(tactic| k_mem) => `(tactic| first | with_reducible assumption | with_reducible exact List.mem_cons_self | (with_reducible refine List.mem_cons_of_mem _ ?_; k_mem) | exact List.mem_append_left _ (by assumption) | exact List.mem_append_right _ (by assumption))
local macro_rules | `(tactic| walk_at "exec For Name Name cons nil") => `(tactic| refine Mark.intro ?_)
local macro_rules | `(tactic| walk_at "eval ListComp") => `(tactic| refine Mark.intro ?_)
theorem reading_ok {w : World} {mean : ExcName → Option Value} {mg mb : Str → Option Value}
    {dp un : Nat} {gd : Option (List Code)} {cn : Str} {cs : Scope} {a : Addr} {ccd : Value} {cl : List (Str × Addr)} {outer : List Env} {A₀ : Around} {base h₀ : Heap} {L : Addr} {m : Str → Option Value} {news : List (Addr × Obj)} {s : Shared}
    {Q E : Value → Shared → Prop} {tx : Array UInt8} {tt : Tok} {ks : List Int} {b : Int} {tb : Tok} {d : Addr} {o : Obj} {kvs : List (Int × Value)} {c : List (Int × Int)}
    (B : Below A₀ base outer h₀) (F : Fr h₀ L s.heap m) (X : (hd.heap_39 w.params).In h₀) (N : News h₀ L s.heap news) (T : Top hd.view_39 (looseW hd.view_39 [Str.ofString "b58decode_int"]) mean mg mb h₀)
    (hk : cs.kind = .function) (hdp : dp + 9 < recursionLimit) (hun : un + 200 < cLine)
    (hks : KBw.bInts tx = ks) (hlen : ks.length ≤ 100) (hSd : (d == sysModules) = false) (hmd : (d, o) ∈ news) (hDd : o.IsDictOf (PySem.intKind PySem.Challenge.rw_eg5001_01.row.prog w) kvs) (hFd : PyProof.V.FlatPairs PyData.int kvs (kdfD c)) (hcl : c.length ≤ 200) (hcv : ∀ k, kdfHas c k = true → 0 ≤ kdfLook c k 0 ∧ kdfLook c k 0 < 1000) (hb0 : 0 ≤ b) (hb : b ≤ 100)
    (hno : (∃ k ∈ ks, kdfHas c k = false) → ∀ t h' tk', Fr h₀ L h' m → News h₀ L h' news → Q (.str (Str.ofString "refused") t) { s with heap := h', toks := tk' })
    (hret : (∀ k ∈ ks, kdfHas c k = true) → ∀ t h' tk', Fr h₀ L h' m → News h₀ L h' news → Q (.int (numTo (ks.map fun k => kdfLook c k 0) b ks.length) t) { s with heap := h', toks := tk' }) :
    wpAny (model PySem.Challenge.rw_eg5001_01.row.prog w) (ktrTop dp un gd cn cs L a ccd cl outer) (call (.ref 80) [.bytes tx tt, .ref d, .int b tb]) Q E s := by
  revert X; k_fill; intro X
  k_with_none
  have hMk := kstMark

  k_with_none
  k_with "eval ListComp" => refine Mark.intro ?_
  k_with "call ref" => refine Mark.intro ?_
  refine wpAny_call ?_
  k_dflt (refine' code_defC ?k1 ?k2 ?k3 ?k4 ?k5 ?kA ?kF ?kK ?k6 ?k7 ?k8 ?k9 ?kB ?kD ?_ ?c2 ?c3 ?c4; (case kA => exact rfl); (case kF => exact rfl); (case kK => assumption); (case k1 => k_asm); (case k2 => k_asm); (case k3 => k_asm); (case k4 => k_asm); (case k5 => k_asm); (case k6 => k_is); (case k7 => k_is); (case k8 => ktr_room); (case k9 => first | exact BindsTo.of_eq rfl | exact binds_K (by k_in) rfl (by k_is) rfl rfl rfl); (case kB => exact rfl); (case kD => decide +kernel); (case c2 => exact rfl); (case c3 => exact rfl); (case c4 => exact rfl); k_whole; intro g' L' h' tk' cells' FG' F' N' Y' B' X' T' l1; (try k_lt l1); k_cells Y'; (try simp only [List.cons_append, List.nil_append] at N'); (try dsimp only); (try k_fold))
  rename (_ = Data.cell _) => hC
  change _ = Data.cell (some (Value.ref d)) at hC
  have l2 : ∀ p ∈ news, p.1 < L' + 1 := fun p hp => Nat.lt_succ_of_lt (l1 p hp)
  k_steps
  refine Mark.out ?_
  rename Obj => oC
  rename Fr _ _ _ _ => F1
  rename News _ _ _ _ => N1
  with_unfolding_all refine' For_invVF F1 ?k1 ?k2 ?_
  case k1 => exact rfl
  case k2 => exact rfl
  walk1
  refine my_bytes (σ := Unit) (fun _ => (L' + 1, oC) :: news) (fun _ => []) (fun _ => True) [] (fun pre _ => ∀ k ∈ pre, kdfHas c k = true) () hks (by rfl) F1 N1 trivial (fun _ h => nomatch h) (fun _ h => nomatch h) ?_ ?_
  · intro st pre post n t u h tk own e h0 h256 hoff _ hp F2 N2
    change Fr _ _ h _ at F2
    change News _ _ h ((L' + 1, oC) :: (news ++ own)) at N2
    have hmd' : (d, o) ∈ news ++ own := List.mem_append_left _ hmd
    clear F1 N1
    change wpAny _ _ _ _ _ _
    k_fold
    k_steps
    · rename (kdfHas c n = true) => hn
      refine Mark.out (kst_end (x := Str.ofString "x") () (by assumption) (by assumption) (led_in [_] news own) (own_in [_] news own) rfl trivial (fun _ h => nomatch h) ?_ ?_)
      · intro z h1 h2 h3
        simp [kstB, h1]
      · intro k hk9
        rcases List.mem_append.mp hk9 with h9 | h9
        · exact hp k h9
        · rw [List.mem_singleton.mp h9]; exact hn
    · rename (kdfHas c n = false) => hn
      dsimp only
      refine Mark.out ?_
      unfold InvPostN
      dsimp only
      k_steps
      exact hno ⟨n, by rw [e]; simp, hn⟩ _ _ _ (by assumption) (cb_drop (by assumption) (fun p hp => .tail _ (List.mem_append_left _ hp)))
  · intro st u h tk _ hp F2 N2
    change Fr _ _ h _ at F2
    change News _ _ h ((L' + 1, oC) :: news) at N2
    clear F1 N1
    k_steps
    refine Mark.out ?_
    rename Fr _ _ _ _ => F4
    rename News _ _ _ _ => N4
    k_dflt (refine ListComp_GU F4 (by with_unfolding_all rfl) (by decide) (by rfl) (by decide) (by rfl) ?_)
    walk1
    have hbs : tx.size = ks.length := by rw [← hks, KBw.ints_length]
    refine ⟨_, _, _, _, _, _, _, src_bytes (by rfl) (by assumption) (by assumption) (by rw [hbs, sizeLine_eq]; omega), fun g9 => ?_⟩
    refine restU_all (fun j v o => ∀ k t, v = Value.int k t → ∃ t', o = some (Value.int (kdfLook c k 0) t')) trivial ?_ ?_
    · intro i v I oI C oC D m₂ h tk E' ys hP hoC hx F2 N2 off ne
      obtain ⟨k, t, hk, rfl⟩ := bytes_ints hks i v hP
      have hkc : kdfHas c k = true := hp k (List.mem_of_getElem? hk)
      clear F4 N4
      k_steps
      rename_i t9
      refine Mark.out (StepEnd.intro (by assumption) (by assumption) (fun p hp => hp) fun k' t' e => ⟨t9, ?_⟩)
      cases e
      rfl
    · intro ys ho D9 h tk F3 N3 o1
      have hi3 := outs_map (f := fun k => kdfLook c k 0) hbs.symm (bytes_ints hks) ho
      clear F4 N4
      k_steps
      refine Mark.out ?_
      have hrs : ∀ x ∈ ks.map fun k => kdfLook c k 0, 0 ≤ x ∧ x < 1000 := by
        intro x hx
        obtain ⟨k, hk, rfl⟩ := List.mem_map.mp hx
        exact hcv k (hp k hk)
      k_dflt (refine' number_ok ?B ?F ?X ?N ?T ?hk ?hdp ?hun (.head _) hi3 (by rw [List.length_map]; exact hlen) hrs hb0 hb ?_; (case B => k_asm); (case F => k_asm); (case X => k_asm); (case N => k_asm); (case T => k_asm); (case hk => exact rfl); (case hdp => ktr_room); (case hun => ktr_units))
      intro t9 h9 tk9 F9 N9
      k_steps
      rw [List.length_map]
      exact hret hp _ _ _ (by assumption) (cb_drop (by assumption) (fun p hp => .tail _ (.tail _ hp)))
end
end B58
end
section
open PySem PySem.W PyProof.Rows PySem.Spec PySem.Calls
open Builtin
set_option Elab.async false
set_option maxRecDepth 100000
set_option maxHeartbeats 8000000
namespace B58
theorem look_index : typeLookup (.type "bytes") "__index__" = pure none := by rw [typeLookup_type, builtinLookup_eq_fast]; kernel_rfl
theorem slot_bytes_rstrip : Slot "bytes" "rstrip" "bytes.rstrip" :=
  .of (owner := "bytes") (n := "rstrip") (by rw [typeLookup_type, builtinLookup_eq_fast]; kernel_rfl) (by decide +kernel) (by decide +kernel) (by decide +kernel)
    (by first | exact .inl (by decide +kernel) | exact .inr (by decide +kernel)) (by rw [isSubtype_type]; kernel_rfl)
theorem type_bytes_rstrip : typeOf (.builtin "bytes.rstrip") = pure (.type "method_descriptor") := by show builtinType _ = _; rw [builtinType_eq_fast]; kernel_rfl
theorem entry_bytes_rstrip : entryFor table "bytes.rstrip" = some Builtin.«bytes.rstrip» := entryFor_of_tree (by kernel_rfl)
theorem args_bytes_rstrip_1 (a : Value) : argsOk "bytes.rstrip" ⟨[a], []⟩ := by
  unfold argsOk; rw [signature?_of (id := "bytes.rstrip") (n := ['p', 'i', 'r', 't', 's', 'r']) (o := ['s', 'e', 't', 'y', 'b']) (by kernel_rfl) FB.owner_bytes]; kernel_rfl
section
variable {prog : Program} {w : World} {A : Around} {E : Value → Shared → Prop} {s : Shared} {b x : Array UInt8} {t u : Tok}
theorem asIndex_bytes {Q : Int → Shared → Prop} (hh : A.handled = none)
    (h : ∀ h' tk e, Heap.NewExc s.heap h' e "TypeError" → E (.ref e) { s with heap := h', toks := tk }) : wpAny (model prog w) A (asIndex (.bytes x u)) Q E s := by
  unfold asIndex
  refine wpAny_bind (wpAny_of_eq (a := none) rfl ?_)
  dsimp only
  refine wpAny_bind (wpAny_callSpecial?_none (T := "bytes") (typeIs_bytes _ _ _) look_index ?_)
  dsimp only
  refine wpAny_bind (wpAny_of_eq (a := "bytes") (by kernel_rfl) ?_)
  exact wpAny_raiseErrorMade plainExc_TypeError hh h (by rw [sizeLine_eq]; decide +kernel)
theorem containsIn_bytes {id : String} {Q : Bool → Shared → Prop} (hh : A.handled = none)
    (h : ∀ q h' tk, (∀ a o, s.heap.get? a = some o → h'.get? a = some o) → Q q { s with heap := h', toks := tk }) : wpAny (model prog w) A (Bytes.containsIn id (.bytes b t) (.bytes x u)) Q E s := by
  unfold Bytes.containsIn
  refine wpAny_bind (wpAny_attempt (asIndex_bytes hh fun h' tk e hn => ?_))
  refine wpAny_bind (wpAny_of_eq KBy.buffer_eq ?_)
  dsimp only
  refine wpAny_bind (wpAny_of_eq KBy.buffer_eq ?_)
  dsimp only
  exact wpAny_bind (wpAny_rule (wpAny_pure (h _ _ _ hn.keeps)))
theorem notin_bb {Q : Value → Shared → Prop} (hh : A.handled = none)
    (h : ∀ q h' tk, (∀ a o, s.heap.get? a = some o → h'.get? a = some o) → Q (.bool q) { s with heap := h', toks := tk }) : wpAny (model prog w) A (compareOp .NotIn (.bytes x u) (.bytes b t)) Q E s := by
  refine NotIn_slot (typeIs_bytes s b t) FB.slot_bytes_contains (wpAny_call_entry FB.slot_bytes_contains (typeIs_bytes s b t) FB.entry_bytes_contains ?_ (FB.args_bytes_contains_2 _ _))
  show wpAny _ _ (Bytes.containsIn "bytes.__contains__" (.bytes b t) (.bytes x u) >>= fun r => ret (.bool r)) _ _ s
  exact wpAny_bind (containsIn_bytes hh fun q h' tk hk => wpAny_pure ⟨_, rfl, wpAny_truthy_bool (h _ _ _ hk)⟩)
theorem getMethod_rstrip {M : Model} {pl : Sem Bool} {Q : Value × List Value → Shared → Prop} (h : Q (.builtin "bytes.rstrip", [.bytes b t]) s) : wpAny M A (getMethod (.bytes b t) "rstrip" pl) Q E s := by
  exact KBd.method_of (.bytes b t) (typeIs_bytes _ _ _) slot_bytes_rstrip type_bytes_rstrip (fun _ e => nomatch e) h
theorem same_eq : Bytes.Kind.same .bytes (.bytes b t) = pure (.bytes b t) := by kernel_rfl
theorem call_rstrip {Q : Value → Shared → Prop} (hb : ∀ c ∈ b.toList, Bytes.isSpace c = false) (h : Q (.bytes b t) s) : wpAny (model prog w) A (call (.builtin "bytes.rstrip") [.bytes b t]) Q E s := by
  refine wpAny_call_entry slot_bytes_rstrip (typeIs_bytes s b t) entry_bytes_rstrip ?_ (args_bytes_rstrip_1 _)
  have hd : ∀ l : List UInt8, (∀ c ∈ l, Bytes.isSpace c = false) → l.dropWhile Bytes.isSpace = l := by
    intro l hl
    cases l with
    | nil => rfl
    | cons c l => rw [List.dropWhile_cons_of_neg (by rw [hl c (.head _)]; exact Bool.false_ne_true)]
  have hk : (b.toList.reverse.dropWhile Bytes.isSpace).reverse = b.toList := by
    rw [hd _ (fun c hc => hb c (List.mem_reverse.mp hc)), List.reverse_reverse]
  show wpAny _ _ (if ((b.toList.reverse.dropWhile Bytes.isSpace).reverse.length == b.size) = true then (do rule _; ret (← Bytes.Kind.same .bytes (.bytes b t))) else _) _ _ s
  rw [hk, if_pos (by simp)]
  refine wpAny_bind (wpAny_rule ?_)
  rw [same_eq]
  exact wpAny_bind (wpAny_pure (wpAny_pure ⟨_, rfl, h⟩))
end
end B58
end
section
open PySem PySem.W PyProof.Rows PySem.Spec PySem.Calls
set_option Elab.async false
set_option maxRecDepth 100000
set_option maxHeartbeats 8000000
set_option pp.deepTerms false
set_option pp.maxSteps 3000
namespace B58
open PyProof.Rows.LCg PyProof.Rows.LCt
theorem scrub_ok {w : World} {mean : ExcName → Option Value} {mg mb : Str → Option Value}
    {dp un : Nat} {gd : Option (List Code)} {cn : Str} {cs : Scope} {a : Addr} {ccd : Value} {cl : List (Str × Addr)} {outer : List Env} {A₀ : Around} {base h₀ : Heap} {L : Addr} {m : Str → Option Value} {news : List (Addr × Obj)} {s : Shared}
    {Q E : Value → Shared → Prop} {tx : Array UInt8} {tt : Tok}
    (B : Below A₀ base outer h₀) (F : Fr h₀ L s.heap m) (X : (hd.heap_39 w.params).In h₀) (N : News h₀ L s.heap news) (T : Top hd.view_39 (looseW hd.view_39 [Str.ofString "b58decode_int"]) mean mg mb h₀)
    (hk : cs.kind = .function) (hdp : dp + 3 < recursionLimit) (hun : un + 40 < cLine)
    
    (hret : ∀ h' tk', Fr h₀ L h' m → News h₀ L h' news → Q (.bytes tx tt) { s with heap := h', toks := tk' }) :
    wpAny (model PySem.Challenge.rw_eg5001_01.row.prog w) (ktrTop dp un gd cn cs L a ccd cl outer) (call (.ref 21) [.bytes tx tt]) Q E s := by
  revert X; k_fill; intro X
  k_with_none
  have hMk := kstMark

  k_with_none
  refine wpAny_call ?_
  k_dflt ktr_enter
  k_steps
  exact hret _ _ (by assumption) (by assumption)
theorem no_space {tx : Array UInt8} {ts : List Int} (hts : KBw.bInts tx = ts) (htb : ∀ x ∈ ts, x ≠ 9 ∧ x ≠ 10 ∧ x ≠ 11 ∧ x ≠ 12 ∧ x ≠ 13 ∧ x ≠ 32) : ∀ c ∈ tx.toList, Builtin.Bytes.isSpace c = false := by
  intro c hc
  have hm : (c.toNat : Int) ∈ ts := by rw [← hts]; exact List.mem_map.mpr ⟨c, hc, rfl⟩
  have h := htb _ hm
  by_cases h1 : c = 32
  · subst h1; exact absurd rfl h.2.2.2.2.2
  · unfold Builtin.Bytes.isSpace
    have e1 : (c == 32) = false := by simp [h1]
    have e2 : (decide (9 ≤ c) && decide (c ≤ 13)) = false := by
      rw [Bool.and_eq_false_iff]
      simp only [decide_eq_false_iff_not, UInt8.le_iff_toNat_le]
      have e9 : (9 : UInt8).toNat = 9 := rfl
      have e13 : (13 : UInt8).toNat = 13 := rfl
      rw [e9, e13]
      omega
    rw [e1, e2]; rfl
theorem mapC_len {ks : List Int} (h : ks.length ≤ 100) (fx : Bool) : (mapC ks fx).length ≤ 200 := by
  have h1 := enumTo_len ks ks.length
  unfold mapC
  split
  · have h2 := groupStep_len (enumD ks) [48, 79, 111]
    have h3 := groupStep_len (groupStep (enumD ks) [48, 79, 111]) [73, 108, 49]
    simp only [List.length_cons, List.length_nil] at h2 h3
    unfold enumD at *
    omega
  · unfold enumD; omega
def horn (c : List (Int × Int)) (b : Int) (l : List Int) : Int := l.foldl (fun dec k => dec * b + kdfLook c k 0) 0
section
local macro_rules | `(tactic| k_mem) => `(tactic| first | with_reducible assumption | with_reducible exact List.mem_cons_self | (with_reducible refine List.mem_cons_of_mem _ ?_; k_mem) | exact List.mem_append_left _ (by assumption) | exact List.mem_append_right _ (by assumption))
local macro_rules | `(tactic| walk_at "exec For Name Name cons nil") => `(tactic| refine Mark.intro ?_)
local macro_rules | `(tactic| walk_at "getMethod bytes") => `(tactic| (k_here; (with_reducible refine getMethod_rstrip ?_)))
local macro_rules | `(tactic| walk_at "call builtin:bytes.rstrip") => `(tactic| (k_here; (refine call_rstrip (by assumption) ?_)))
local macro_rules | `(tactic| walk_at "call ref") => `(tactic| refine Mark.intro ?_)
theorem dec_kw {w : World} {mean : ExcName → Option Value} {mg mb : Str → Option Value}
    {dp un : Nat} {gd : Option (List Code)} {cn : Str} {cs : Scope} {a : Addr} {ccd : Value} {cl : List (Str × Addr)} {outer : List Env} {A₀ : Around} {base h₀ : Heap} {L : Addr} {m : Str → Option Value} {news : List (Addr × Obj)} {s : Shared}
    {Q E : Value → Shared → Prop} {tx : Array UInt8} {tt : Tok} {ts : List Int} {b : Array UInt8} {t : Tok} {ks : List Int} {fx : Bool}
    (B : Below A₀ base outer h₀) (F : Fr h₀ L s.heap m) (X : (hd.heap_39 w.params).In h₀) (N : News h₀ L s.heap news) (T : Top hd.view_39 (looseW hd.view_39 [Str.ofString "b58decode_int"]) mean mg mb h₀)
    (hk : cs.kind = .function) (hdp : dp + 9 < recursionLimit) (hun : un + 200 < cLine)
    (hts : KBw.bInts tx = ts) (htl : ts.length ≤ 100) (hall : ∀ k ∈ ts, kdfHas (mapC ks fx) k = true) (htb : ∀ x ∈ ts, x ≠ 9 ∧ x ≠ 10 ∧ x ≠ 11 ∧ x ≠ 12 ∧ x ≠ 13 ∧ x ≠ 32) (hks : KBw.bInts b = ks) (hlen : ks.length ≤ 100)
    (hret : ∀ t h' tk', Fr h₀ L h' m → News h₀ L h' news → Q (.int (horn (mapC ks fx) ks.length ts) t) { s with heap := h', toks := tk' }) :
    wpAny (model PySem.Challenge.rw_eg5001_01.row.prog w) (ktrTop dp un gd cn cs L a ccd cl outer) (call (.ref 35) [.bytes tx tt, .bytes b t] [(Str.ofString "autofix", .bool fx)]) Q E s := by
  revert X; k_fill; intro X
  k_with_none
  have hMk := kstMark

  k_with_none
  have hsp := no_space hts htb
  refine wpAny_call ?_
  k_dflt (refine' code_def ?k1 ?k2 ?k3 ?k4 ?k5 ?kA ?kF ?kK ?k6 ?k7 ?k8 ?k9 ?kB ?_ ?c2 ?c3 ?c4 ?c5; (case kA => exact rfl); (case kF => exact rfl); (case kK => assumption); (case k1 => k_asm); (case k2 => k_asm); (case k3 => k_asm); (case k4 => k_asm); (case k5 => k_asm); (case k6 => k_is); (case k7 => k_is); (case k8 => ktr_room); (case k9 => first | exact BindsTo.of_eq rfl | (refine' kp_binds ?kx ?ke; (case kx => k_in); (case ke => exact fun _ => rfl))); (case c5 => decide); (case kB => exact locs rfl); (case c2 => exact rfl); (case c3 => exact rfl); (case c4 => exact rfl); k_whole; intro g' L' h' FG' F' N' B' X' T'; (try dsimp only); (try k_fold))
  k_steps
  rename Fr _ _ _ _ => F1
  rename News _ _ _ _ => N1
  k_dflt (refine notin_bb (by rfl) fun q h2 tk2 hk2 => ?_)
  have F2 := F1.keeps hk2
  have N2 := N1.grown hk2
  clear F1 N1 hk2
  k_steps
  all_goals (
    refine Mark.out ?_
    k_dflt (refine' scrub_ok ?B ?F ?X ?N ?T ?hk ?hdp ?hun  ?_; (case B => k_asm); (case F => k_asm); (case X => k_asm); (case N => k_asm); (case T => k_asm); (case hk => exact rfl); (case hdp => ktr_room); (case hun => ktr_units))
    intro h3 tk3 F3 N3
    k_steps
    refine Mark.out ?_
    k_dflt (refine' map_kw ?B ?F ?X ?N ?T ?hk ?hdp ?hun hks hlen ?_; (case B => k_asm); (case F => k_asm); (case X => k_asm); (case N => k_asm); (case T => k_asm); (case hk => exact rfl); (case hdp => ktr_room); (case hun => ktr_units))
    intro D oD kvsD h4 tk4 F4 N4 hltD hSD hDD hFD
    k_steps
    refine Mark.out ?_
    have hcl : (mapC ks fx).length ≤ 200 := mapC_len hlen fx
    generalize hcm : mapC ks fx = c at hFD hcl hall hret
    rename Fr _ _ _ _ => F1
    rename News _ _ _ _ => N1
    with_unfolding_all refine' For_invVF F1 ?k1 ?k2 ?_
    case k1 => exact rfl
    case k2 => exact rfl
    walk1
    refine my_bytes (σ := Int × Tok) (fun _ => (D, oD) :: news) (fun st => [(Str.ofString "decimal", Value.int st.1 st.2)]) (fun _ => True) [] (fun pre st => (∀ k ∈ pre, kdfHas c k = true) ∧ st.1 = horn c ks.length pre) (0, _) hts (by rfl) F1 N1 trivial (fun p hp => by rw [List.mem_singleton.mp hp]; rfl) ⟨fun _ h => (nomatch h), rfl⟩ ?_ ?_
    · intro st pre post n t u h tk own e h0 h256 hoff _ hp F2 N2
      obtain ⟨dec, td⟩ := st
      obtain ⟨hp1, hp2⟩ := hp
      dsimp only at hp2
      change Fr g' L' h _ at F2
      change News g' L' h ((D, oD) :: (news ++ own)) at N2
      have hb0 : 0 ≤ (ks.length : Int) := by omega
      have hb1 : (ks.length : Int) < 1000 := by omega
      clear F1 N1
      change wpAny _ _ _ _ _ _
      k_fold
      have hc : kdfHas c n = true := hall n (by rw [e]; simp)
      k_steps
      · rename Fr _ _ _ _ => F4
        rename News _ _ _ _ => N4
        refine Mark.out (kst_end (x := Str.ofString "char") (_, _) F4 N4 (led_in [_] news own) (own_in [_] news own) rfl trivial (fun p hp => by rw [List.mem_singleton.mp hp]; rfl) ?_ ?_)
        · intro z h1 h2 h3
          have h4 : z ≠ Str.ofString "decimal" := h2 _ (.head _)
          simp [kstB, h1, h4]
        · refine ⟨?_, ?_⟩
          · intro k hk9
            rcases List.mem_append.mp hk9 with h9 | h9
            · exact hp1 k h9
            · rw [List.mem_singleton.mp h9]; exact hc
          · show _ = horn c ks.length (pre ++ [n])
            unfold horn at hp2 ⊢
            rw [List.foldl_append, ← hp2]
            rfl
    · intro st u h tk _ hp F2 N2
      obtain ⟨dec, td⟩ := st
      obtain ⟨hp1, hp2⟩ := hp
      dsimp only at hp2
      change Fr g' L' h _ at F2
      change News g' L' h ((D, oD) :: news) at N2
      clear F1 N1
      subst hp2
      k_steps
      exact hret _ _ _ (by assumption) (cb_drop (by assumption) (fun p hp => .tail _ hp)))
theorem dec_pos {w : World} {mean : ExcName → Option Value} {mg mb : Str → Option Value}
    {dp un : Nat} {gd : Option (List Code)} {cn : Str} {cs : Scope} {a : Addr} {ccd : Value} {cl : List (Str × Addr)} {outer : List Env} {A₀ : Around} {base h₀ : Heap} {L : Addr} {m : Str → Option Value} {news : List (Addr × Obj)} {s : Shared}
    {Q E : Value → Shared → Prop} {tx : Array UInt8} {tt : Tok} {ts : List Int} {b : Array UInt8} {t : Tok} {ks : List Int} 
    (B : Below A₀ base outer h₀) (F : Fr h₀ L s.heap m) (X : (hd.heap_39 w.params).In h₀) (N : News h₀ L s.heap news) (T : Top hd.view_39 (looseW hd.view_39 [Str.ofString "b58decode_int"]) mean mg mb h₀)
    (hk : cs.kind = .function) (hdp : dp + 9 < recursionLimit) (hun : un + 200 < cLine)
    (hts : KBw.bInts tx = ts) (htl : ts.length ≤ 100) (hall : ∀ k ∈ ts, kdfHas (mapC ks false) k = true) (htb : ∀ x ∈ ts, x ≠ 9 ∧ x ≠ 10 ∧ x ≠ 11 ∧ x ≠ 12 ∧ x ≠ 13 ∧ x ≠ 32) (hks : KBw.bInts b = ks) (hlen : ks.length ≤ 100)
    (hret : ∀ t h' tk', Fr h₀ L h' m → News h₀ L h' news → Q (.int (horn (mapC ks false) ks.length ts) t) { s with heap := h', toks := tk' }) :
    wpAny (model PySem.Challenge.rw_eg5001_01.row.prog w) (ktrTop dp un gd cn cs L a ccd cl outer) (call (.ref 35) [.bytes tx tt, .bytes b t]) Q E s := by
  revert X; k_fill; intro X
  k_with_none
  have hMk := kstMark

  k_with_none
  have hsp := no_space hts htb
  refine wpAny_call ?_
  k_dflt (refine' code_def ?k1 ?k2 ?k3 ?k4 ?k5 ?kA ?kF ?kK ?k6 ?k7 ?k8 ?k9 ?kB ?_ ?c2 ?c3 ?c4 ?c5; (case kA => exact rfl); (case kF => exact rfl); (case kK => assumption); (case k1 => k_asm); (case k2 => k_asm); (case k3 => k_asm); (case k4 => k_asm); (case k5 => k_asm); (case k6 => k_is); (case k7 => k_is); (case k8 => ktr_room); (case k9 => first | exact BindsTo.of_eq rfl | (refine' kp_binds ?kx ?ke; (case kx => k_in); (case ke => exact fun _ => rfl))); (case c5 => decide); (case kB => exact locs rfl); (case c2 => exact rfl); (case c3 => exact rfl); (case c4 => exact rfl); k_whole; intro g' L' h' FG' F' N' B' X' T'; (try dsimp only); (try k_fold))
  k_steps
  rename Fr _ _ _ _ => F1
  rename News _ _ _ _ => N1
  k_dflt (refine notin_bb (by rfl) fun q h2 tk2 hk2 => ?_)
  have F2 := F1.keeps hk2
  have N2 := N1.grown hk2
  clear F1 N1 hk2
  k_steps
  all_goals (
    refine Mark.out ?_
    k_dflt (refine' scrub_ok ?B ?F ?X ?N ?T ?hk ?hdp ?hun  ?_; (case B => k_asm); (case F => k_asm); (case X => k_asm); (case N => k_asm); (case T => k_asm); (case hk => exact rfl); (case hdp => ktr_room); (case hun => ktr_units))
    intro h3 tk3 F3 N3
    k_steps
    refine Mark.out ?_
    k_dflt (refine' map_kw ?B ?F ?X ?N ?T ?hk ?hdp ?hun hks hlen ?_; (case B => k_asm); (case F => k_asm); (case X => k_asm); (case N => k_asm); (case T => k_asm); (case hk => exact rfl); (case hdp => ktr_room); (case hun => ktr_units))
    intro D oD kvsD h4 tk4 F4 N4 hltD hSD hDD hFD
    k_steps
    refine Mark.out ?_
    have hcl : (mapC ks false).length ≤ 200 := mapC_len hlen false
    generalize hcm : mapC ks false = c at hFD hcl hall hret
    rename Fr _ _ _ _ => F1
    rename News _ _ _ _ => N1
    with_unfolding_all refine' For_invVF F1 ?k1 ?k2 ?_
    case k1 => exact rfl
    case k2 => exact rfl
    walk1
    refine my_bytes (σ := Int × Tok) (fun _ => (D, oD) :: news) (fun st => [(Str.ofString "decimal", Value.int st.1 st.2)]) (fun _ => True) [] (fun pre st => (∀ k ∈ pre, kdfHas c k = true) ∧ st.1 = horn c ks.length pre) (0, _) hts (by rfl) F1 N1 trivial (fun p hp => by rw [List.mem_singleton.mp hp]; rfl) ⟨fun _ h => (nomatch h), rfl⟩ ?_ ?_
    · intro st pre post n t u h tk own e h0 h256 hoff _ hp F2 N2
      obtain ⟨dec, td⟩ := st
      obtain ⟨hp1, hp2⟩ := hp
      dsimp only at hp2
      change Fr g' L' h _ at F2
      change News g' L' h ((D, oD) :: (news ++ own)) at N2
      have hb0 : 0 ≤ (ks.length : Int) := by omega
      have hb1 : (ks.length : Int) < 1000 := by omega
      clear F1 N1
      change wpAny _ _ _ _ _ _
      k_fold
      have hc : kdfHas c n = true := hall n (by rw [e]; simp)
      k_steps
      · rename Fr _ _ _ _ => F4
        rename News _ _ _ _ => N4
        refine Mark.out (kst_end (x := Str.ofString "char") (_, _) F4 N4 (led_in [_] news own) (own_in [_] news own) rfl trivial (fun p hp => by rw [List.mem_singleton.mp hp]; rfl) ?_ ?_)
        · intro z h1 h2 h3
          have h4 : z ≠ Str.ofString "decimal" := h2 _ (.head _)
          simp [kstB, h1, h4]
        · refine ⟨?_, ?_⟩
          · intro k hk9
            rcases List.mem_append.mp hk9 with h9 | h9
            · exact hp1 k h9
            · rw [List.mem_singleton.mp h9]; exact hc
          · show _ = horn c ks.length (pre ++ [n])
            unfold horn at hp2 ⊢
            rw [List.foldl_append, ← hp2]
            rfl
    · intro st u h tk _ hp F2 N2
      obtain ⟨dec, td⟩ := st
      obtain ⟨hp1, hp2⟩ := hp
      dsimp only at hp2
      change Fr g' L' h _ at F2
      change News g' L' h ((D, oD) :: news) at N2
      clear F1 N1
      subst hp2
      k_steps
      exact hret _ _ _ (by assumption) (cb_drop (by assumption) (fun p hp => .tail _ hp)))
end
end B58
end
section
open PySem PySem.W PyProof.Rows PySem.Spec PySem.Calls
set_option Elab.async false
set_option maxRecDepth 100000
set_option maxHeartbeats 8000000
namespace B58
section
variable {M : Model} {A : Around} {E : Value → Shared → Prop} {s' : Shared} {base g h : Heap} {outer : List Env} {L a e : Addr} {m : Str → Option Value} {name : Str} {scope : Scope} {cd : Value} {Q : Unit → Shared → Prop} {news : List (Addr × Obj)}
/-- a fresh exception of a built-in, noted and landed in the frame where it rose, under any callers -/
theorem noted_fresh {cls : String} (K : Below A base outer g) (hx : Heap.NewExc h s'.heap e cls) (F : Fr g L h m) (N : News g L h news)
    (hQ : ∀ G h', RaisedSN base G (envOf name scope L a cd :: outer) e (.type cls) news h' → Fr g L G m → G.UpToSlots h' → Q () { s' with heap := h' }) (hk : scope.kind = .function := by rfl) :
    wpAny M (A.deeper (envOf name scope L a cd)) (noteFrame (.ref e) (envOf name scope L a cd)) (fun _ s₂ => wpAny M (A.deeper (envOf name scope L a cd)) (setFlight (.ref e) none) Q E s₂) E s' := by
  have K' := K.push (name := name) (a := a) (cd := cd) F hk
  have hin : ∀ env ∈ (envOf name scope L a cd :: outer), ∀ b, env.frame = some b → b ∈ (envOf name scope L a cd :: outer).filterMap (·.frame) := fun env he b hb => List.mem_filterMap.mpr ⟨env, he, hb⟩
  obtain ⟨ob, tp, he, hcls, hd⟩ := hx.there
  have nL : L ∉ news.map (·.1) := fun q => by
    obtain ⟨p, hp, z⟩ := List.mem_map.mp q
    exact (N p hp).2.1 z
  have FG : Fr g L (hideAll h (news.map (·.1))) m := by
    obtain ⟨oL, es, ep, hL, hLd, hLk, hLf⟩ := F.ns
    refine ⟨⟨oL, es, ep, hideAll_get _ hL nL, hLd, hLk, hLf⟩, fun b o q => hideAll_get _ (F.keep b o q) fun hm => ?_, F.above⟩
    obtain ⟨p, hp, z⟩ := List.mem_map.mp hm
    rw [← z, (N p hp).2.2] at q; cases q
  have st : base.StaysIn (hideAll h ((envOf name scope L a cd :: outer).filterMap (·.frame))) := fun b o q => hideAll_get _ (K'.stays b o q) fun hm => by
    rw [(K'.frames.mem hm).1] at q; cases q
  have hl : ∀ q ∈ news, (hideAll h ((envOf name scope L a cd :: outer).filterMap (·.frame))).get? q.1 = some q.2 ∧ (hideAll h (news.map (·.1))).get? q.1 = none ∧ base.get? q.1 = none := fun q hq => by
    refine ⟨hideAll_get _ (N q hq).1 fun hm => ?_, hideAll_none _ (List.mem_map_of_mem hq), fresh_of_stays K.stays (N q hq).2.2⟩
    rcases kts_mem hm with z | z
    · exact (N q hq).2.1 z
    · obtain ⟨o, ho, _⟩ := (K.frames.mem z).2
      rw [(N q hq).2.2] at ho; cases ho
  have hen : (hideAll h ((envOf name scope L a cd :: outer).filterMap (·.frame))).get? e = none := by
    cases q : (hideAll h ((envOf name scope L a cd :: outer).filterMap (·.frame))).get? e with
    | none => rfl
    | some o => have := of_hideAll _ q; rw [hx.new] at this; cases this
  have hfr : (A.deeper (envOf name scope L a cd)).frames = some (envOf name scope L a cd :: outer) := K'.stack
  have hFF : s'.heap.FunFrames (hideAll h ((envOf name scope L a cd :: outer).filterMap (·.frame))) (envOf name scope L a cd :: outer) := (funFrames_hide K'.frames hin).of_keeps fun b o hb _ => ⟨o, hx.keeps b o hb, rfl⟩
  unfold noteFrame
  simp only [show (envOf name scope L a cd).frame = some L from rfl]
  refine wpAny_bind (wpAny_field he hd (x := Value.none) rfl ?_)
  rw [if_neg (by decide)]
  refine wpAny_newEntryW (a0 := tp) hfr hFF rfl he (fun b o hb => hx.keeps b o (of_hideAll _ hb)) hen hd (show 1 < 6 by decide) rfl fun h' hL => ?_
  obtain ⟨k1, k2, k3, k4⟩ := hL
  refine hQ (hideAll h (news.map (·.1))) h' ⟨_, tp, st, fun b o q nm => hideAll_get _ (of_hideAll _ q) nm, hl, k1, hen, k2, by rw [← hcls]; exact k3⟩ FG ?_
  exact ((Heap.UpToSlots.of_keeps fun b o q => of_hideAll _ q).trans (Heap.UpToSlots.of_keeps hx.keeps)).trans k4
end
end B58
end
section
open PySem PySem.W PyProof.Rows PySem.Spec PySem.Calls
set_option Elab.async false
set_option maxRecDepth 100000
set_option maxHeartbeats 8000000
namespace B58
theorem entry_unchain : entryFor table "proto.unchain" = some Builtin.«proto.unchain» := entryFor_of_tree (by kernel_rfl)
section
variable {prog : Program} {w : World} {A : Around} {E : Value → Shared → Prop} {s : Shared} {env : Env}
/-- raise ValueError() from None, within a clause that holds an exception of no context -/
theorem Raise_none_in {e8 : Addr} {o8 : Obj} {vs8 : Array Value} {np cpos pos p3 : Pos} {k : Nat} {Q : Flow → Shared → Prop} (hm : A.handled = some (.ref e8)) (he8 : s.heap.get? e8 = some o8) (hd8 : o8.data = .fields vs8) (hc2 : vs8[2]? = some .none)
    (hname : wpAny (model prog w) A (eval (.Name (Str.ofString "ValueError") np) env) (fun f s₁ => f = .type "ValueError" ∧ s₁ = s) E s)
    (h : ∀ h' e2 t tk, (∀ b o, s.heap.get? b = some o → h'.get? b = some o) → s.heap.get? e2 = none → h'.get? e2 = some { cls := .type "ValueError", data := .fields #[.ref t, .none, .ref e8, .none, .bool true, .none] } → E (.ref e2) { s with heap := h', toks := tk }) :
    wpAny (model prog w) A (exec (.Raise (some (.Call (.Name (Str.ofString "ValueError") np) [] [] cpos)) (some (.Constant .none k p3)) pos) env) Q E s := by
  rw [arm_exec_Raise]
  refine wpAny_bind (wpAny_standAt ?_)
  unfold raiseStmt
  simp only [evalOpt, Option.map]
  refine wpAny_bind (wpAny_bind (wpAny_Call_ofName (wpAny_mono hname (fun f s₁ h₁ => ?_) fun _ _ x => x)))
  obtain ⟨rfl, rfl⟩ := h₁
  refine callWith_excType (by rfl) (wpAny_mono (Q := fun a s₂ => a.pos = [] ∧ a.kw = [] ∧ s₂ = s₁) (by exact wpAny_pure ⟨rfl, rfl, rfl⟩) (fun a s₂ h₂ => ?_) fun _ _ x => x)
  obtain ⟨apos, akw⟩ := a
  obtain ⟨rfl, rfl, rfl⟩ := h₂
  obtain ⟨hp, g, d, tk, os⟩ := s₂
  refine wpAny_call_exc PySem.F.excCall_ValueError (fun h' e hmade => ?_)
  obtain ⟨keeps, new, t, he, hnt, ht⟩ := hmade
  refine wpAny_bind (wpAny_standAt (wpAny_pure ?_))
  have hsub := PySem.F.excRaise_ValueError.isExc
  have hmeta := PySem.F.excRaise_ValueError.plainMeta
  repeat (first | refine wpAny_loadPart he ?_ | wp_step)
  have hne : e8 ≠ e := fun q => by rw [← q] at new; dsimp only at he8; rw [he8] at new; cases new
  have he8' : h'.get? e8 = some o8 := keeps _ _ he8
  generalize hh2 : (h'.update e (Obj.mapFields fun x => x.setIfInBounds 3 Value.none)).update e (Obj.mapFields fun x => x.setIfInBounds 4 (Value.bool true)) = h2
  have he1 := Heap.get?_update_self (Obj.mapFields fun x => x.setIfInBounds 3 Value.none) he rfl
  have he2 := Heap.get?_update_self (Obj.mapFields fun x => x.setIfInBounds 4 (Value.bool true)) he1 rfl
  rw [hh2] at he2
  have oth : ∀ b o, b ≠ e → h'.get? b = some o → h2.get? b = some o := fun b o hb q => by
    rw [← hh2, Heap.get?_update_other _ _ (Ne.symm hb), Heap.get?_update_other _ _ (Ne.symm hb)]
    exact q
  have he8'' : h2.get? e8 = some o8 := oth _ _ hne he8'
  unfold raiseNew
  refine wpAny_bind (wpAny_handled ?_)
  rw [hm]
  dsimp only
  rw [if_pos (show (Value.ref e8 != Value.ref e) = true by simp [hne])]
  refine wpAny_bind (wpAny_holding (runValue_entry entry_unchain ?_))
  show wpAny _ _ (field (.ref e8) 2 >>= _) _ _ _
  refine wpAny_bind (wpAny_field he8'' hd8 hc2 ?_)
  rw [if_pos (show (Value.none == Value.none) = true from rfl)]
  refine wpAny_pure ⟨_, rfl, ?_⟩
  refine wpAny_bind ?_
  show wpAny _ _ (setField (.ref e) 2 (.ref e8)) _ _ _
  refine wpAny_setField he2 rfl (show 2 < 6 by decide) (wpAny_throw ?_)
  refine h _ _ t _ (fun b o q => ?_) new (Heap.get?_update_self _ he2 rfl)
  have hb : b ≠ e := fun z => by rw [z] at q; dsimp only at q; rw [new] at q; cases q
  rw [Heap.get?_update_other _ _ (Ne.symm hb)]
  exact oth _ _ hb (keeps _ _ q)
end
end B58
end
section
open PySem PySem.W PyProof.Rows PySem.Spec PySem.Calls
set_option Elab.async false
set_option maxRecDepth 100000
set_option maxHeartbeats 8000000
namespace B58
theorem frames_nonfields {base h h' : Heap} (k : ∀ b o, h.get? b = some o → (∀ vs, o.data ≠ .fields vs) → ∃ o', h'.get? b = some o' ∧ ∀ vs, o'.data ≠ .fields vs) : ∀ {l : List Env}, h.FunFrames base l → h'.FunFrames base l
  | [], _ => trivial
  | _ :: _, ⟨hk, ⟨L, o, hf, hn, ho, hd⟩, hr⟩ => by
    obtain ⟨o', ho', hd'⟩ := k L o ho hd
    exact ⟨hk, ⟨L, o', hf, hn, ho', hd'⟩, frames_nonfields k hr⟩
section
variable {M : Model} {A : Around} {E : Value → Shared → Prop} {s : Shared}
theorem held_again {B : Heap} {l : List Env} {e L : Addr} {cls a0 : Value} {Q : Unit → Shared → Prop} (R : Heap.HeldW B l e cls a0 L s.heap)
    (h : ∀ h', Heap.HeldW B l e cls a0 L h' → (∀ b o, s.heap.get? b = some o → (∀ vs, o.data ≠ .fields vs) → h'.get? b = some o) → Q () { s with heap := h' }) : wpAny M A (setFlight (.ref e) (some L)) Q E s := by
  obtain ⟨hkb, hen, hl, oe, vs, T, oT, ts, he, hcls, hd, h1, hnT, hTe, hT, hdT, h3⟩ := R
  have hsz3 : 3 < ts.size := (Array.getElem?_eq_some_iff.mp h3).1
  have other : ∀ b, b ≠ T → (s.heap.update T (Obj.mapFields (·.setIfInBounds 3 ((some L).elim Value.none fun f => rawInt f)))).get? b = s.heap.get? b :=
    fun b hb => Heap.get?_update_other _ _ (Ne.symm hb)
  have noRecord : ∀ b o, s.heap.get? b = some o → (∀ vs, o.data ≠ .fields vs) → b ≠ T := fun b o hb hnf q => by
    rw [q, hT] at hb; injection hb with hb; subst hb; exact hnf ts hdT
  unfold setFlight
  refine wpAny_bind (wpAny_field he hd h1 ?_)
  rw [if_pos (show (Value.ref T != Value.none) = true from by simp)]
  refine wpAny_setField hT hdT hsz3 (h _ ⟨fun b o hbo => (other b fun q => by rw [q, hnT] at hbo; cases hbo).trans (hkb b o hbo), hen,
    hl.of_keeps fun b o hb hnf => ⟨o, (other b (noRecord b o hb hnf)).trans hb, rfl⟩, ?_⟩ fun b o hb hnf => (other b (noRecord b o hb hnf)).trans hb)
  exact ⟨oe, vs, T, _, _, (other e (Ne.symm hTe)).trans he, hcls, hd, h1, hnT, hTe, Heap.get?_update_self _ hT (Obj.isFreed_of_fields (Obj.data_mapFields hdT _)), Obj.data_mapFields hdT _, by simp [hsz3]⟩
theorem held_field {B : Heap} {l : List Env} {e L : Addr} {cls a0 : Value} {Q : Value → Shared → Prop} (R : Heap.HeldW B l e cls a0 L s.heap) (h : ∀ T, Q (.ref T) s) : wpAny M A (field (.ref e) 1) Q E s := by
  obtain ⟨hkb, hen, hl, oe, vs, T, oT, ts, he, hcls, hd, h1, _⟩ := R
  exact wpAny_field he hd h1 (h T)
end
section
variable {prog : Program} {w : World} {A₀ : Around} {E : Value → Shared → Prop} {s' : Shared} {base g h : Heap} {outer : List Env} {L a e : Addr} {m : Str → Option Value} {name : Str} {scope : Scope} {cd : Value} {news : List (Addr × Obj)} {n : Str} {pos : Pos}
/-- an exception made within a clause «as n»: noted, the name goes, and on it flies in its frame -/
theorem suite_raised {hnd : Option Value} {cls : Value} {t : Value} {c d b : Value} (K : Below A₀ base outer g) (F : Fr g L h m) (N : News g L h news) (keeps : ∀ b o, h.get? b = some o → s'.heap.get? b = some o) (new : h.get? e = none)
    (there : s'.heap.get? e = some { cls := cls, data := .fields #[t, .none, c, d, b, .none] })
    (k : ∀ G h' m' tk, RaisedHN base G (envOf name scope L a cd :: outer) L e cls news h' → Fr g L G m' → G.UpToSlots h' → E (.ref e) { s' with heap := h', toks := tk })
    (hk : scope.kind = .function := by rfl) (hl : (envOf name scope L a cd).kindOf n = some .local := by rfl) :
    AsSuiteRaised (model prog w) ((A₀.deeper (envOf name scope L a cd)).mark hnd) (envOf name scope L a cd) n pos (notedBy (model prog w) ((A₀.deeper (envOf name scope L a cd)).mark hnd) (envOf name scope L a cd) (cameBackBy (model prog w) (A₀.deeper (envOf name scope L a cd)) (envOf name scope L a cd) E)) (.ref e) s' := by
  have K' := K.push (name := name) (a := a) (cd := cd) F hk
  have hin : ∀ env ∈ (envOf name scope L a cd :: outer), ∀ b, env.frame = some b → b ∈ (envOf name scope L a cd :: outer).filterMap (·.frame) := fun env he b hb => List.mem_filterMap.mpr ⟨env, he, hb⟩
  have nL : L ∉ news.map (·.1) := fun q => by
    obtain ⟨p, hp, z⟩ := List.mem_map.mp q
    exact (N p hp).2.1 z
  have Lin : L ∈ (envOf name scope L a cd :: outer).filterMap (·.frame) := List.mem_filterMap.mpr ⟨_, .head _, rfl⟩
  have st : base.StaysIn (hideAll h ((envOf name scope L a cd :: outer).filterMap (·.frame))) := fun b o q => hideAll_get _ (K'.stays b o q) fun hm => by
    rw [(K'.frames.mem hm).1] at q; cases q
  have hlB : ∀ q ∈ news, (hideAll h ((envOf name scope L a cd :: outer).filterMap (·.frame))).get? q.1 = some q.2 ∧ base.get? q.1 = none := fun q hq => by
    refine ⟨hideAll_get _ (N q hq).1 fun hm => ?_, fresh_of_stays K.stays (N q hq).2.2⟩
    rcases kts_mem hm with z | z
    · exact (N q hq).2.1 z
    · obtain ⟨o, ho, _⟩ := (K.frames.mem z).2
      rw [(N q hq).2.2] at ho; cases ho
  have hen : (hideAll h ((envOf name scope L a cd :: outer).filterMap (·.frame))).get? e = none := by
    cases q : (hideAll h ((envOf name scope L a cd :: outer).filterMap (·.frame))).get? e with
    | none => rfl
    | some o => have := of_hideAll _ q; rw [new] at this; cases this
  have hfr : ((A₀.deeper (envOf name scope L a cd)).mark hnd).frames = some (envOf name scope L a cd :: outer) := K'.stack
  have hFF : s'.heap.FunFrames (hideAll h ((envOf name scope L a cd :: outer).filterMap (·.frame))) (envOf name scope L a cd :: outer) := (funFrames_hide K'.frames hin).of_keeps fun b o hb _ => ⟨o, keeps b o hb, rfl⟩
  generalize hB : hideAll h ((envOf name scope L a cd :: outer).filterMap (·.frame)) = B at st hlB hen hFF
  show wpAny _ _ (noteFrame (.ref e) (envOf name scope L a cd)) _ _ s'
  unfold noteFrame
  simp only [show (envOf name scope L a cd).frame = some L from rfl]
  refine wpAny_bind (wpAny_field there rfl (x := Value.none) rfl ?_)
  rw [if_neg (by decide)]
  refine wpAny_entryW (a0 := t) hfr hFF rfl there (fun b o hb => keeps b o (of_hideAll _ (by rw [hB]; exact hb))) hen rfl (show 1 < 6 by decide) rfl fun h₁ hN => ?_
  obtain ⟨k1, k2, k3, k4⟩ := hN
  have F₁ns : h₁.Ns L m := by
    obtain ⟨oL, es, ep, hL, hLd, r⟩ := F.ns
    obtain ⟨sl, hs⟩ := k4 L oL (keeps _ _ hL) (fun vs q => by rw [hLd] at q; cases q)
    exact ⟨_, es, ep, hs, hLd, r⟩
  refine wpAny_nameGoes_keeps hl F₁ns (by show (scope.kind == .class || (scope.kind == .module && L != mainGlobals)) = false; rw [hk]; rfl) fun h₂ v hns₂ hsb₂ => ?_
  have hns₂' := hns₂
  obtain ⟨oL₂, es₂, ep₂, hL₂, hLd₂, hLk₂, hLf₂⟩ := hns₂'
  have BL : B.get? L = none := by rw [← hB]; exact hideAll_none _ Lin
  have H₂ : Heap.HeldW B (envOf name scope L a cd :: outer) e cls t L h₂ := by
    obtain ⟨oe, vs, T, oT, ts, he, hcls, hd, h1, hnT, hTe, hT, hdT, h3⟩ := k3
    have hLd₁ : ∃ oL₁ es ep, h₁.get? L = some oL₁ ∧ oL₁.data = .dict es ep := by
      obtain ⟨o, es, ep, ho, hd, _⟩ := F₁ns
      exact ⟨o, es, ep, ho, hd⟩
    obtain ⟨oL₁, es₁, ep₁, hL₁, hLd₁⟩ := hLd₁
    have eL : e ≠ L := fun q => by rw [q, hL₁] at he; cases he; rw [hLd₁] at hd; cases hd
    have TL : T ≠ L := fun q => by rw [q, hL₁] at hT; cases hT; rw [hLd₁] at hdT; cases hdT
    refine ⟨fun b o q => (hsb₂.2 b fun (z : b = L) => by rw [z, BL] at q; cases q).trans (k1 b o q), hen, frames_nonfields (fun b o hb hnf => ?_) k2, oe, vs, T, oT, ts, (hsb₂.2 e eL).trans he, hcls, hd, h1, hnT, hTe, (hsb₂.2 T TL).trans hT, hdT, h3⟩
    by_cases z : b = L
    · subst z
      exact ⟨oL₂, hL₂, fun vs q => by rw [hLd₂] at q; cases q⟩
    · exact ⟨o, (hsb₂.2 b z).trans hb, hnf⟩
  unfold PySem.passOn
  refine wpAny_bind (held_field H₂ fun T => ?_)
  rw [if_neg (show ¬ ((Value.ref T == Value.none) = true) from by simp)]
  refine wpAny_bind (held_again H₂ fun h₃ H₃ u₃ => wpAny_throw ?_)
  show wpAny _ _ (noteFrame (.ref e) (envOf name scope L a cd)) _ _ _
  refine wpAny_noteFrame_againW rfl H₃.2.2.2 ?_
  unfold cameBackBy
  refine wpAny_bind (held_field H₃ fun T => ?_)
  rw [if_neg (show ¬ ((Value.ref T == Value.none) = true) from by simp)]
  refine held_again H₃ fun h₄ H₄ u₄ => ?_
  have hL₄ : h₄.get? L = some oL₂ := u₄ _ _ (u₃ _ _ hL₂ (fun vs q => by rw [hLd₂] at q; cases q)) (fun vs q => by rw [hLd₂] at q; cases q)
  obtain ⟨oL, es, ep, hL, hLd, hLk, hLf⟩ := F.ns
  have hGL : (h.update L (fun _ => oL₂)).get? L = some oL₂ := Heap.get?_update_self (fun _ => oL₂) hL (Heap.get?_some_iff.mp hL₂).2
  have hGo : ∀ b, b ≠ L → (h.update L (fun _ => oL₂)).get? b = h.get? b := fun b hb => Heap.get?_update_other _ _ (Ne.symm hb)
  refine k (hideAll (h.update L (fun _ => oL₂)) (news.map (·.1))) h₄ _ _ ⟨B, t, st, fun b o q nm => ?_, fun q hq => ⟨(hlB q hq).1, hideAll_none _ (List.mem_map_of_mem hq), (hlB q hq).2⟩, H₄⟩ ⟨⟨oL₂, es₂, ep₂, hideAll_get _ hGL nL, hLd₂, hLk₂, hLf₂⟩, fun b o q => ?_, F.above⟩ fun b o q hnf => ?_
  · have q' := of_hideAll _ q
    have hbL : b ≠ L := fun z => nm (by rw [z]; exact Lin)
    rw [hGo b hbL] at q'
    rw [← hB]
    exact hideAll_get _ q' nm
  · have hbL : b ≠ L := fun z => by rw [z, kts_self F] at q; cases q
    refine hideAll_get _ ((hGo b hbL).trans (F.keep b o q)) fun hm => ?_
    obtain ⟨p, hp, z⟩ := List.mem_map.mp hm
    rw [← z, (N p hp).2.2] at q; cases q
  · have q' := of_hideAll _ q
    by_cases hbL : b = L
    · subst hbL
      rw [hGL] at q'
      cases q'
      exact ⟨oL₂.slots, hL₄⟩
    · rw [hGo b hbL] at q'
      obtain ⟨sl, hs⟩ := k4 b o (keeps b o q') hnf
      exact ⟨sl, u₄ _ _ (u₃ _ _ ((hsb₂.2 b hbL).trans hs) hnf) hnf⟩
end
end B58
end
section
open PySem PySem.W PyProof.Rows PySem.Spec PySem.Calls
set_option Elab.async false
set_option maxRecDepth 100000
set_option maxHeartbeats 8000000
namespace B58
section
variable {prog : Program} {w : World} {A₀ : Around} {E : Value → Shared → Prop} {s' : Shared} {base g h : Heap} {outer : List Env} {L a e : Addr} {m : Str → Option Value} {name : Str} {scope : Scope} {cd : Value} {news : List (Addr × Obj)}
  {n : Str} {b₀ : Stmt} {suite : List Stmt} {pos np : Pos} {rest : List ExceptHandler} {Q : Flow → Shared → Prop} {KF : Frag}
  {p : Program} {loose : List Str} {mean : ExcName → Option Value} {mg mb : Str → Option Value} {x : Str} {X T' : String}
/-- a fresh exception of a built-in, caught «as n» in the frame where it rose: its object has no context -/
theorem caught_fresh_as (K : Below A₀ base outer g) (hx : Heap.NewExc h s'.heap e X) (F : Fr g L h m) (N : News g L h news) (XB : KF.In base) (TB : Top p loose mean mg mb base)
    (D : KtsDicts (outer.filterMap (·.frame)) g)
    (ex : nsIn KF mainGlobals x = some none) (hv : bootBuiltins x = some (.type T')) (hn' : x ≠ "__name__")
    (hexc : isSubtype (.type T') (.type "BaseException") = pure true) (hnt : isSubtype (.type ((Manifest.find? T').elim "type" fun y => y.metatype)) (.type "tuple") = pure false) (hsub : isSubtype (.type X) (.type T') = pure true)
    (k : ∀ h' g' tk o vs, KtsTurn (outer.filterMap (·.frame)) g g' → Fr g' L h' (fun y => if y = n then some (.ref e) else m y) → News g' L h' news → Below A₀ base outer g' → KF.In g' → Top p loose mean mg mb g' → KtsDicts (outer.filterMap (·.frame)) g' →
      h'.get? e = some o → o.data = .fields vs → vs[2]? = some .none →
      wpAny (model prog w) ((A₀.deeper (envOf name scope L a cd)).mark (some (.ref e))) (execs (b₀ :: suite) (envOf name scope L a cd))
        (fun f s₄ => wpAny (model prog w) (A₀.deeper (envOf name scope L a cd)) (do bindName (envOf name scope L a cd) n .none; unbindBehindTheSuite (envOf name scope L a cd) n pos) (fun _ s₅ => Q f s₅) E s₄)
        (AsSuiteRaised (model prog w) ((A₀.deeper (envOf name scope L a cd)).mark (some (.ref e))) (envOf name scope L a cd) n pos (notedBy (model prog w) ((A₀.deeper (envOf name scope L a cd)).mark (some (.ref e))) (envOf name scope L a cd) (cameBackBy (model prog w) (A₀.deeper (envOf name scope L a cd)) (envOf name scope L a cd) E)))
        { s' with heap := h', toks := tk })
    (hk : scope.kind = .function := by rfl) (hlo : (envOf name scope L a cd).kindOf n = some .local := by rfl) (hxk : (envOf name scope L a cd).kindOf x = some .globalImplicit := by rfl) (hd : (x == ("__debug__" : Str)) = false := by decide) :
    wpAny (model prog w) (A₀.deeper (envOf name scope L a cd)) (noteFrame (.ref e) (envOf name scope L a cd))
      (fun _ s₂ => wpAny (model prog w) (A₀.deeper (envOf name scope L a cd)) (setFlight (.ref e) none) (fun _ s₃ =>
        wpAny (model prog w) (A₀.deeper (envOf name scope L a cd)) (handleBy (.ref e) (envOf name scope L a cd) (.ExceptHandler (some (.Name x np)) (some n) (b₀ :: suite) pos :: rest)) Q E s₃) E s₂) E s' := by
  have K' := K.push (name := name) (a := a) (cd := cd) F hk
  have hin : ∀ env ∈ (envOf name scope L a cd :: outer), ∀ b, env.frame = some b → b ∈ (envOf name scope L a cd :: outer).filterMap (·.frame) := fun env he b hb => List.mem_filterMap.mpr ⟨env, he, hb⟩
  obtain ⟨ob, tp, he, hcls, hob⟩ := hx.there
  have Lin : L ∈ (envOf name scope L a cd :: outer).filterMap (·.frame) := List.mem_filterMap.mpr ⟨_, .head _, rfl⟩
  have BL : (hideAll h ((envOf name scope L a cd :: outer).filterMap (·.frame))).get? L = none := hideAll_none _ Lin
  have hl : ∀ q ∈ news, (hideAll h ((envOf name scope L a cd :: outer).filterMap (·.frame))).get? q.1 = some q.2 := fun q hq => by
    refine hideAll_get _ (N q hq).1 fun hm => ?_
    rcases kts_mem hm with z | z
    · exact (N q hq).2.1 z
    · obtain ⟨o, ho, _⟩ := (K.frames.mem z).2
      rw [(N q hq).2.2] at ho; cases ho
  have hBG : ∀ b o, h.get? b = some o → b ∉ (envOf name scope L a cd :: outer).filterMap (·.frame) → (hideAll h ((envOf name scope L a cd :: outer).filterMap (·.frame))).get? b = some o := fun b o q nm => hideAll_get _ q nm
  have hBh : ∀ b o, (hideAll h ((envOf name scope L a cd :: outer).filterMap (·.frame))).get? b = some o → h.get? b = some o := fun b o q => of_hideAll _ q
  have hfr : (A₀.deeper (envOf name scope L a cd)).frames = some (envOf name scope L a cd :: outer) := K'.stack
  have hFF : s'.heap.FunFrames (hideAll h ((envOf name scope L a cd :: outer).filterMap (·.frame))) (envOf name scope L a cd :: outer) := (funFrames_hide K'.frames hin).of_keeps fun b o hb _ => ⟨o, hx.keeps b o hb, rfl⟩
  have hBf : ∀ b ∈ (envOf name scope L a cd :: outer).filterMap (·.frame), (hideAll h ((envOf name scope L a cd :: outer).filterMap (·.frame))).get? b = none := fun b hb => hideAll_none _ hb
  have hef : e ∉ (envOf name scope L a cd :: outer).filterMap (·.frame) := fun hm => by
    obtain ⟨_, o, ho, _⟩ := K'.frames.mem hm
    rw [hx.new] at ho; cases ho
  generalize hB : hideAll h ((envOf name scope L a cd :: outer).filterMap (·.frame)) = B at BL hl hBG hBh hFF hBf
  unfold noteFrame
  simp only [show (envOf name scope L a cd).frame = some L from rfl]
  refine wpAny_bind (wpAny_field he hob (x := Value.none) rfl ?_)
  rw [if_neg (by decide)]
  refine wpAny_bind (wpAny_frameOf_fun hfr hFF rfl fun h₁ hs₁ => ?_)
  refine wpAny_bind (wpAny_entryPlaceOf fun pl hpl => ?_)
  unfold EntryCells.newEntry newFields
  refine wpAny_bind (wpAny_newObj_type ?_ (hpl.sizeOk5 _ _ _ _ _))
  have he₁ : h₁.get? e = some ob := (hs₁.2.1 e hef).trans he
  have hTe : h₁.objs.size ≠ e := Nat.ne_of_gt (Heap.lt_size he₁)
  generalize htb : ({ cls := .type "traceback", dict := none, data := .fields ([Value.none, .ref L, .none, rawInt L, .none] ++ (if pl.isEmpty then List.replicate 6 Value.none else pl)).toArray } : Obj) = tb
  have htd : tb.data = .fields ([Value.none, .ref L, .none, rawInt L, .none] ++ (if pl.isEmpty then List.replicate 6 Value.none else pl)).toArray := by rw [← htb]
  have htf : tb.isFreed = false := by rw [← htb]; rfl
  have he₂ := Heap.get?_push_of_some (h := h₁) tb he₁
  refine wpAny_setField he₂ hob (show 1 < 6 by decide) ?_
  have hd₃ := Obj.data_mapFields hob (·.setIfInBounds 1 (Value.ref h₁.objs.size))
  have he₃ := Heap.get?_update_self (Obj.mapFields (·.setIfInBounds 1 (Value.ref h₁.objs.size))) he₂ (Obj.isFreed_of_fields hd₃)
  have hT₃ := (Heap.get?_update_other (h₁.push tb) (Obj.mapFields (·.setIfInBounds 1 (Value.ref h₁.objs.size))) (Ne.symm hTe)).trans (Heap.get?_push_size h₁ htf)
  have up₃ : ∀ b o, b ≠ e → h₁.get? b = some o → ((h₁.push tb).update e (Obj.mapFields (·.setIfInBounds 1 (Value.ref h₁.objs.size)))).get? b = some o := fun b o hb q =>
    (Heap.get?_update_other _ _ (Ne.symm hb)).trans (Heap.get?_push_of_some _ q)
  generalize (h₁.push tb).update e (Obj.mapFields (·.setIfInBounds 1 (Value.ref h₁.objs.size))) = h₃ at he₃ hT₃ up₃
  have h3sz : 3 < ([Value.none, .ref L, .none, rawInt L, .none] ++ (if pl.isEmpty then List.replicate 6 Value.none else pl)).toArray.size := by simp only [List.size_toArray, List.length_append, List.length_cons, List.length_nil]; omega
  have step : ∀ (A : Around) (h₉ : Heap) (tk : Nat) (oT : Obj) (ts : Array Value) (Q₉ : Unit → Shared → Prop) (E₉ : Value → Shared → Prop), h₉.get? e = some (ob.mapFields (·.setIfInBounds 1 (Value.ref h₁.objs.size))) → h₉.get? h₁.objs.size = some oT → oT.data = .fields ts → 3 < ts.size →
      (∀ h' oT' ts', h'.get? e = some (ob.mapFields (·.setIfInBounds 1 (Value.ref h₁.objs.size))) → h'.get? h₁.objs.size = some oT' → oT'.data = .fields ts' → 3 < ts'.size → (∀ b o, b ≠ h₁.objs.size → h₉.get? b = some o → h'.get? b = some o) → Q₉ () { s' with heap := h', toks := tk }) →
      wpAny (model prog w) A (setFlight (.ref e) none) Q₉ E₉ { s' with heap := h₉, toks := tk } := by
    intro A h₉ tk oT ts Q₉ E₉ q1 q2 q3 q4 q5
    unfold setFlight
    refine wpAny_bind (wpAny_field q1 hd₃ (x := .ref h₁.objs.size) (by simp) ?_)
    rw [if_pos (show (Value.ref h₁.objs.size != Value.none) = true from by simp)]
    refine wpAny_setField q2 q3 q4 (q5 _ _ _ ((Heap.get?_update_other _ _ hTe).trans q1) (Heap.get?_update_self _ q2 (Obj.isFreed_of_fields (Obj.data_mapFields q3 _))) (Obj.data_mapFields q3 _) (by simpa using q4) fun b o hb q => (Heap.get?_update_other _ _ (Ne.symm hb)).trans q)
  refine step _ h₃ s'.toks _ _ _ _ he₃ hT₃ htd h3sz fun h₅ oT₅ ts₅ he₅ hT₅ hdT₅ hts₅ up₅ => ?_
  have low : ∀ b o, h.get? b = some o → b ≠ e ∧ b ≠ h₁.objs.size := fun b o q => by
    refine ⟨fun z => (by rw [z, hx.new] at q; cases q), fun z => ?_⟩
    obtain ⟨sl, hs⟩ := hs₁.2.2 b o (hx.keeps b o q)
    exact absurd (Heap.lt_size hs) (by rw [z]; exact Nat.lt_irrefl _)
  have stB₅ : B.StaysIn h₅ := fun b o q => by
    have q' := hBh b o q
    have hl' := low b o q'
    have hbf : b ∉ (envOf name scope L a cd :: outer).filterMap (·.frame) := fun z => by rw [hBf b z] at q; cases q
    exact up₅ b o hl'.2 (up₃ b o hl'.1 ((hs₁.2.1 b hbf).trans (hx.keeps b o q')))
  have U₅ : h.UpToSlots h₅ := fun b o q hnf => by
    have hl' := low b o q
    obtain ⟨sl, hs⟩ := hs₁.2.2 b o (hx.keeps b o q)
    exact ⟨sl, up₅ b _ hl'.2 (up₃ b _ hl'.1 hs)⟩
  obtain ⟨g₅, T₅, F₅, K₅⟩ := kts_ground K F hBG stB₅ U₅
  have X₅ : KF.In g₅ := XB.keeps K₅.stays
  have P₅ : TopRead p loose mg mb g₅ := topRead_of (TB.keeps K₅.stays)
  refine wpAny_handleBy_builtin_as (X := X) (T := T') (b := true) hexc hnt hsub (name_B F₅ X₅ P₅ ex hv hn' ⟨rfl, ⟨_, he₅, by rw [← hcls]; exact Obj.cls_mapFields _ _⟩, ?_⟩ hk hxk hd)
  refine step _ h₅ _ _ _ _ _ he₅ hT₅ hdT₅ hts₅ fun h₆ oT₆ ts₆ he₆ hT₆ hdT₆ hts₆ up₆ => ?_
  have stB₆ : B.StaysIn h₆ := fun b o q => up₆ b o (low b o (hBh b o q)).2 (stB₅ b o q)
  have U₆ : h.UpToSlots h₆ := fun b o q hnf => by
    obtain ⟨sl, hs⟩ := U₅ b o q hnf
    exact ⟨sl, up₆ b _ (low b o q).2 hs⟩
  obtain ⟨g₆, T₆, F₆, K₆⟩ := kts_ground K F hBG stB₆ U₆
  have Nl : News g₆ L h₆ news := fun q hq => ⟨stB₆ _ _ (hl q hq), (N q hq).2.1, T₆.none_ _ (N q hq).2.2⟩
  have X₆ : KF.In g₆ := XB.keeps K₆.stays
  have P₆ : Top p loose mean mg mb g₆ := TB.keeps K₆.stays
  have D₆ : KtsDicts (outer.filterMap (·.frame)) g₆ := D.turn T₆
  refine stNK F₆ Nl (fun h₇ F₇ N₇ sb₇ _ => ?_) hk hlo
  have eL : e ≠ L := fun z => hef (by rw [z]; exact Lin)
  exact k h₇ g₆ _ _ _ T₆ F₇ N₇ K₆ X₆ P₆ D₆ ((sb₇.2 e eL).trans he₆) hd₃ (by simp)
end
theorem turn_back {A₀ : Around} {base h₀ g g' : Heap} {outer : List Env} {L a : Addr} {m : Str → Option Value} {cn : Str} {cs : Scope} {ccd : Value} (B : Below A₀ base outer h₀) (F : Fr h₀ L g m) (T : KtsTurn ((envOf cn cs L a ccd :: outer).filterMap (·.frame)) g g') :
    ∃ h₁, KtsTurn (outer.filterMap (·.frame)) h₀ h₁ ∧ Fr h₁ L g' m ∧ Below A₀ base outer h₁ := by
  have nL : h₀.get? L = none := kts_self F
  obtain ⟨T₁, S₁⟩ := kts_turn_at (h := g') (fs := outer.filterMap (·.frame)) (g := h₀)
    (fun b hb => by
      obtain ⟨_, o, ho, _⟩ := B.frames.mem hb
      exact ⟨o, ho⟩)
    (fun b o e nm => T.other b o (F.keep b o e) fun q => by
      rcases kts_mem q with z | z
      · rw [z, nL] at e; cases e
      · exact nm z)
    (fun b o e _ => T.up (F.keep b o e))
  obtain ⟨oL, es, ep, hL, hLd, hLk, hLf⟩ := F.ns
  obtain ⟨sl, hs⟩ := T.up hL
  refine ⟨_, T₁, ⟨⟨_, es, ep, hs, hLd, hLk, hLf⟩, S₁, by rw [T₁.size]; exact F.above⟩, B.stack, fun b o e => T₁.other b o (B.stays b o e) fun hm => ?_, B.frames.of_keeps fun b o e _ => ?_⟩
  · rw [(B.frames.mem hm).1] at e; cases e
  · obtain ⟨sl', hs'⟩ := T₁.up e
    exact ⟨_, hs', rfl⟩
theorem raised_less {base G : Heap} {l : List Env} {e : Addr} {cls : Value} {news news' : List (Addr × Obj)} {h : Heap} (R : RaisedSN base G l e cls news h) (hs : ∀ p ∈ news', p ∈ news) : RaisedSN base G l e cls news' h := by
  obtain ⟨B, a0, h1, h2, h3, h4⟩ := R
  exact ⟨B, a0, h1, h2, fun q hq => h3 q (hs q hq), h4⟩
end B58
end
section
open PySem PySem.W PyProof.Rows PySem.Spec PySem.Calls
set_option Elab.async false
set_option maxRecDepth 100000
set_option maxHeartbeats 8000000
set_option pp.deepTerms false
set_option pp.maxSteps 3000
namespace B58
open PyProof.Rows.LCg PyProof.Rows.LCt
theorem dicts_push {h₀ g : Heap} {L : Addr} {m : Str → Option Value} {outer : List Env} {cn : Str} {cs : Scope} {a : Addr} {ccd : Value} (F : Fr h₀ L g m) (D : KtsDicts (outer.filterMap (·.frame)) h₀) : KtsDicts ((envOf cn cs L a ccd :: outer).filterMap (·.frame)) g := fun b hb => by
  rcases kts_mem hb with rfl | hb
  · obtain ⟨o, es, ep, ho, hd, _⟩ := F.ns
    exact ⟨o, es, ep, ho, hd⟩
  · obtain ⟨o, es, n, ho, hd⟩ := D b hb
    exact ⟨o, es, n, F.keep _ _ ho, hd⟩
section
local macro_rules | `(tactic| k_mem) => `(tactic| first | with_reducible assumption | with_reducible exact List.mem_cons_self | (with_reducible refine List.mem_cons_of_mem _ ?_; k_mem) | exact List.mem_append_left _ (by assumption) | exact List.mem_append_right _ (by assumption))
local macro_rules | `(tactic| walk_at "exec For Name Name cons nil") => `(tactic| refine Mark.intro ?_)
local macro_rules | `(tactic| walk_at "getMethod bytes") => `(tactic| (k_here; (with_reducible refine getMethod_rstrip ?_)))
local macro_rules | `(tactic| walk_at "call builtin:bytes.rstrip") => `(tactic| (k_here; (refine call_rstrip (by assumption) ?_)))
local macro_rules | `(tactic| walk_at "call ref") => `(tactic| refine Mark.intro ?_)
theorem dec_bad {w : World} {mean : ExcName → Option Value} {mg mb : Str → Option Value}
    {dp un : Nat} {gd : Option (List Code)} {cn : Str} {cs : Scope} {a : Addr} {ccd : Value} {outer : List Env} {A₀ : Around} {base h₀ : Heap} {L : Addr} {m : Str → Option Value} {news : List (Addr × Obj)} {s : Shared}
    {Q E : Value → Shared → Prop} {tx : Array UInt8} {tt : Tok} {ts : List Int} {b : Array UInt8} {t : Tok} {ks : List Int} {fx : Bool}
    (B : Below A₀ base outer h₀) (F : Fr h₀ L s.heap m) (X : (hd.heap_39 w.params).In h₀) (N : News h₀ L s.heap news) (T : Top hd.view_39 (looseW hd.view_39 [Str.ofString "b58decode_int"]) mean mg mb h₀)
    (hk : cs.kind = .function) (hdp : dp + 9 < recursionLimit) (hun : un + 200 < cLine)
    (XB : (hd.heap_39 w.params).In base) (TB : Top hd.view_39 (looseW hd.view_39 [Str.ofString "b58decode_int"]) mean mg mb base) (D₀ : KtsDicts (outer.filterMap (·.frame)) h₀) (hts : KBw.bInts tx = ts) (htl : ts.length ≤ 100) (hsome : ∃ k ∈ ts, kdfHas (mapC ks fx) k = false) (htb : ∀ x ∈ ts, x ≠ 9 ∧ x ≠ 10 ∧ x ≠ 11 ∧ x ≠ 12 ∧ x ≠ 13 ∧ x ≠ 32) (hks : KBw.bInts b = ks) (hlen : ks.length ≤ 100)
    (hret : ∀ e G h₁ h' tk', KtsTurn (outer.filterMap (·.frame)) h₀ h₁ → Fr h₁ L G m → Below A₀ base outer h₁ → KtsDicts (outer.filterMap (·.frame)) h₁ → RaisedSN base G (envOf cn cs L a ccd :: outer) e (.type "ValueError") news h' → G.UpToSlots h' → E (.ref e) { s with heap := h', toks := tk' }) :
    wpAny (model PySem.Challenge.rw_eg5001_01.row.prog w) (ktrTop dp un gd cn cs L a ccd [] outer) (call (.ref 35) [.bytes tx tt, .bytes b t] [(Str.ofString "autofix", .bool fx)]) Q E s := by
  revert X; k_fill; intro X
  k_with_none
  have hMk := kstMark
  k_with_none
  have hsp := no_space hts htb
  refine wpAny_call ?_
  k_dflt (refine' code_def ?k1 ?k2 ?k3 ?k4 ?k5 ?kA ?kF ?kK ?k6 ?k7 ?k8 ?k9 ?kB ?_ ?c2 ?c3 ?c4 ?c5; (case kA => exact rfl); (case kF => exact rfl); (case kK => assumption); (case k1 => k_asm); (case k2 => k_asm); (case k3 => k_asm); (case k4 => k_asm); (case k5 => k_asm); (case k6 => k_is); (case k7 => k_is); (case k8 => ktr_room); (case k9 => first | exact BindsTo.of_eq rfl | (refine' kp_binds ?kx ?ke; (case kx => k_in); (case ke => exact fun _ => rfl))); (case c5 => decide); (case kB => exact locs rfl); (case c2 => exact rfl); (case c3 => exact rfl); (case c4 => exact rfl); k_whole; intro g' L' h' FG' F' N' B' X' T'; (try dsimp only); (try k_fold))
  k_steps
  rename Fr _ _ _ _ => F1
  rename News _ _ _ _ => N1
  k_dflt (refine notin_bb (by rfl) fun q h2 tk2 hk2 => ?_)
  have F2 := F1.keeps hk2
  have N2 := N1.grown hk2
  clear F1 N1 hk2
  k_steps
  all_goals (
    refine Mark.out ?_
    k_dflt (refine' scrub_ok ?B ?F ?X ?N ?qqT ?hk ?hdp ?hun  ?_; (case B => k_asm); (case F => k_asm); (case X => k_asm); (case N => k_asm); (case qqT => k_asm); (case hk => exact rfl); (case hdp => ktr_room); (case hun => ktr_units))
    intro h3 tk3 F3 N3
    k_steps
    refine Mark.out ?_
    k_dflt (refine' map_kw ?B ?F ?X ?N ?qqT ?hk ?hdp ?hun hks hlen ?_; (case B => k_asm); (case F => k_asm); (case X => k_asm); (case N => k_asm); (case qqT => k_asm); (case hk => exact rfl); (case hdp => ktr_room); (case hun => ktr_units))
    intro D oD kvsD h4 tk4 F4 N4 hltD hSD hDD hFD
    k_steps
    refine Mark.out ?_
    have hcl : (mapC ks fx).length ≤ 200 := mapC_len hlen fx
    generalize hcm : mapC ks fx = c at hFD hcl hsome
    rename Fr _ _ _ _ => F1
    rename News _ _ _ _ => N1
    with_unfolding_all refine' For_invVF F1 ?k1 ?k2 ?_
    case k1 => exact rfl
    case k2 => exact rfl
    walk1
    refine my_bytes (σ := Int × Tok) (fun _ => (D, oD) :: news) (fun st => [(Str.ofString "decimal", Value.int st.1 st.2)]) (fun _ => True) [] (fun pre st => (∀ k ∈ pre, kdfHas c k = true) ∧ st.1 = horn c ks.length pre) (0, _) hts (by rfl) F1 N1 trivial (fun p hp => by rw [List.mem_singleton.mp hp]; rfl) ⟨fun _ h => (nomatch h), rfl⟩ ?_ ?_
    · intro st pre post n t u h tk own e h0 h256 hoff _ hp F2 N2
      obtain ⟨dec, td⟩ := st
      obtain ⟨hp1, hp2⟩ := hp
      dsimp only at hp2
      change Fr g' L' h _ at F2
      change News g' L' h ((D, oD) :: (news ++ own)) at N2
      have hb0 : 0 ≤ (ks.length : Int) := by omega
      have hb1 : (ks.length : Int) < 1000 := by omega
      clear F1 N1
      change wpAny _ _ _ _ _ _
      k_fold
      cases hc : kdfHas c n
      · k_steps
        k_dflt (refine getItem_tab_missing PyProof.V.same_int (intKind_is _ _ _ _) (D := kdfD c) ⟨hSD, kvsD, Heap.dictOf_iff.mpr ⟨oD, (N2 _ (.head _)).1, hDD⟩, hFD⟩ (by rfl) (kdfD_none hc) ?_)
        intro h8 e8 x8
        dsimp only at x8
        have D' : KtsDicts ((envOf cn cs L a ccd :: outer).filterMap (·.frame)) g' := dicts_push FG' D₀
        k_dflt (refine caught_fresh_as B' x8 F2 N2 XB TB D' (by k_is) PyProof.Rows.Boot.«KeyError» (by decide) kr_isExc_KeyError kr_notTuple_KeyError (by rw [isSubtype_type]; kernel_rfl) ?_)
        intro h9 g9 tk9 o9 vs9 T9 F9 N9 K9 X9 P9 D9 he9 hd9 h29
        clear F2 N2 x8
        k_steps
        k_dflt (refine Raise_none_in (by rfl) he9 hd9 h29 ?_ ?_)
        · walk1
          exact ⟨rfl, rfl⟩
        intro h10 e10 t10 tk10 keeps10 new10 there10
        k_dflt (refine suite_raised K9 F9 N9 keeps10 new10 there10 ?_)
        intro G11 h11 m11 tk11 R11 F11 U11
        clear F9 N9 he9 hd9 h29
        k_steps
        rename RaisedSN _ _ _ _ _ _ _ => R12
        rename Heap.UpToSlots g9 _ => U12
        obtain ⟨h13, T13, F13, B13⟩ := turn_back B FG' T9
        exact hret e10 g9 h13 _ _ T13 F13 B13 (D₀.turn T13) (raised_less R12 fun p hp => .tail _ (List.mem_append_left _ hp)) U12
      · k_steps
        rename Fr _ _ _ _ => F4
        rename News _ _ _ _ => N4
        refine Mark.out (kst_end (x := Str.ofString "char") (_, _) F4 N4 (led_in [_] news own) (own_in [_] news own) rfl trivial (fun p hp => by rw [List.mem_singleton.mp hp]; rfl) ?_ ?_)
        · intro z h1 h2 h3
          have h4 : z ≠ Str.ofString "decimal" := h2 _ (.head _)
          simp [kstB, h1, h4]
        · refine ⟨?_, ?_⟩
          · intro k hk9
            rcases List.mem_append.mp hk9 with h9 | h9
            · exact hp1 k h9
            · rw [List.mem_singleton.mp h9]; exact hc
          · show _ = horn c ks.length (pre ++ [n])
            unfold horn at hp2 ⊢
            rw [List.foldl_append, ← hp2]
            rfl
    · intro st u h tk _ hp F2 N2
      obtain ⟨dec, td⟩ := st
      obtain ⟨hp1, hp2⟩ := hp
      dsimp only at hp2
      change Fr g' L' h _ at F2
      change News g' L' h ((D, oD) :: news) at N2
      clear F1 N1
      obtain ⟨k9, hk9, hn9⟩ := hsome
      rw [hp1 k9 hk9] at hn9
      cases hn9)
end
end B58
end
section
open PySem PySem.W PyProof.Rows PySem.Spec PySem.Calls
set_option Elab.async false
set_option maxRecDepth 100000
set_option maxHeartbeats 8000000
set_option pp.deepTerms false
set_option pp.maxSteps 3000
namespace B58
open PyProof.Rows.LCg PyProof.Rows.LCt
section
local macro_rules | `(tactic| k_mem) => `(tactic| first | with_reducible assumption | with_reducible exact List.mem_cons_self | (with_reducible refine List.mem_cons_of_mem _ ?_; k_mem) | exact List.mem_append_left _ (by assumption) | exact List.mem_append_right _ (by assumption))
local macro_rules | `(tactic| walk_at "call ref") => `(tactic| refine Mark.intro ?_)
theorem read_ok {w : World} {mean : ExcName → Option Value} {mg mb : Str → Option Value}
    {dp un : Nat} {gd : Option (List Code)} {cn : Str} {cs : Scope} {a : Addr} {ccd : Value} {A₀ : Around} {h₀ : Heap} {L : Addr} {m : Str → Option Value} {news : List (Addr × Obj)} {s : Shared}
    {Q E : Value → Shared → Prop} {tx : Array UInt8} {tt : Tok} {ts : List Int} {b : Array UInt8} {t : Tok} {ks : List Int} {fx : Bool}
    (B : Below A₀ h₀ [] h₀) (F : Fr h₀ L s.heap m) (X : (hd.heap_39 w.params).In h₀) (N : News h₀ L s.heap news) (T : Top hd.view_39 (looseW hd.view_39 [Str.ofString "b58decode_int"]) mean mg mb h₀)
    (hk : cs.kind = .function) (hdp : dp + 20 < recursionLimit) (hun : un + 400 < cLine)
    (hts : KBw.bInts tx = ts) (htl : ts.length ≤ 100) (htb : ∀ x ∈ ts, x ≠ 9 ∧ x ≠ 10 ∧ x ≠ 11 ∧ x ≠ 12 ∧ x ≠ 13 ∧ x ≠ 32) (hks : KBw.bInts b = ks) (hlen : ks.length ≤ 100)
    (hno : (∃ k ∈ ts, kdfHas (mapC ks fx) k = false) → ∀ t h' tk', Fr h₀ L h' m → News h₀ L h' news → Q (.str (Str.ofString "refused") t) { s with heap := h', toks := tk' })
    (hret : (∀ k ∈ ts, kdfHas (mapC ks fx) k = true) → ∀ t h' tk', Fr h₀ L h' m → News h₀ L h' news → Q (.int (horn (mapC ks fx) ks.length ts) t) { s with heap := h', toks := tk' }) :
    wpAny (model PySem.Challenge.rw_eg5001_01.row.prog w) (ktrTop dp un gd cn cs L a ccd [] []) (call (.ref 87) [.bytes tx tt, .bytes b t, .bool fx]) Q E s := by
  revert X; k_fill; intro X
  k_with_none
  have hMk := kstMark

  k_with_none
  refine wpAny_call ?_
  k_dflt (refine' code_defS0 ?k1 ?k2 ?k3 ?k4 ?k5 ?kA ?k6 ?k7 ?k8 ?k9 ?kB ?_ ?cK ?c2 ?c3 ?c4 ?c5; (case kA => exact rfl); (case k2 => k_asm); (case k1 => k_asm); (case k3 => k_asm); (case k4 => k_asm); (case k5 => k_asm); (case k6 => k_is); (case k7 => k_is); (case k8 => ktr_room); (case k9 => first | exact BindsTo.of_eq rfl | exact binds_K (by k_in) rfl (by k_is) rfl rfl rfl); (case kB => exact locs rfl); (case cK => assumption); (case c2 => exact rfl); (case c3 => exact rfl); (case c4 => exact rfl); (case c5 => decide); k_whole; intro g' L' h' FG' F' N' B' X' T' D'; (try dsimp only); (try k_fold))
  k_steps
  refine Mark.out ?_
  by_cases hall : ∀ k ∈ ts, kdfHas (mapC ks fx) k = true
  · k_dflt (refine' dec_kw ?B ?F ?X ?N ?T ?hk ?hdp ?hun hts htl hall htb hks hlen ?_; (case B => k_asm); (case F => k_asm); (case X => k_asm); (case N => k_asm); (case T => k_asm); (case hk => exact rfl); (case hdp => ktr_room); (case hun => ktr_units))
    intro t9 h9 tk9 F9 N9
    k_steps
    exact hret hall _ _ _ (by assumption) (by assumption)
  · have hsome : ∃ k ∈ ts, kdfHas (mapC ks fx) k = false := by
      apply Classical.byContradiction
      intro hn
      refine hall fun k hk => ?_
      cases hq : kdfHas (mapC ks fx) k with
      | true => rfl
      | false => exact absurd ⟨k, hk, hq⟩ hn
    k_dflt (refine' dec_bad ?B ?F ?X ?N ?T ?hk ?hdp ?hun X T D' hts htl hsome htb hks hlen ?_; (case B => k_asm); (case F => k_asm); (case X => k_asm); (case N => k_asm); (case T => k_asm); (case hk => exact rfl); (case hdp => ktr_room); (case hun => ktr_units))
    intro e9 G9 g9 h9 tk9 T9 F9 B9 D9 R9 U9
    k_steps
    exact hno hsome _ _ _ (by assumption) (by assumption)
end
end B58
end
section
open PySem PySem.W PyProof.Rows PySem.Spec PySem.Calls
set_option Elab.async false
set_option maxRecDepth 100000
set_option maxHeartbeats 2000000
set_option pp.deepTerms false
set_option pp.maxSteps 3000
namespace B58
open PyProof.Rows.LCg PyProof.Rows.LCt
theorem draw_ok {w : World} {mean : ExcName → Option Value} {mg mb : Str → Option Value}
    {dp un : Nat} {gd : Option (List Code)} {cn : Str} {cs : Scope} {a : Addr} {ccd : Value} {cl : List (Str × Addr)} {outer : List Env} {A₀ : Around} {base h₀ : Heap} {L : Addr} {m : Str → Option Value} {news : List (Addr × Obj)} {s : Shared}
    {Q E : Value → Shared → Prop} {S : Addr} {vs : List Value} {ns : List Int} {k : Int} {t : Tok}
    (B : Below A₀ base outer h₀) (F : Fr h₀ L s.heap m) (X : (hd.heap_39 w.params).In h₀) (N : News h₀ L s.heap news) (T : Top hd.view_39 (looseW hd.view_39 [Str.ofString "b58decode_int"]) mean mg mb h₀)
    (hk : cs.kind = .function) (hdp : dp + 3 < recursionLimit) (hun : un + 60 < cLine)
    (hS : h₀.IsList S vs.toArray) (hIs : IntsAre vs ns) (hn : ns.length ≤ 2 ^ 20) (hk0 : 0 ≤ k) (hk1 : k < 1000)
    (hret : ∀ v t' h' tk', Fr h₀ L h' m → News h₀ L h' news → Q (.int v t') { s with heap := h', toks := tk' }) :
    wpAny (model PySem.Challenge.rw_eg5001_01.row.prog w) (ktrTop dp un gd cn cs L a ccd cl outer) (call (.ref 44) [.ref S, .int k t]) Q E s := by
  revert X; k_fill; intro X
  k_with_none
  have hMk := kstMark

  k_with_none
  refine wpAny_call ?_
  k_dflt ktr_enter
  rename Fr h₀ L _ m => FG1
  have hS' := hS.at (fun o e => FG1.keep _ _ e)
  clear hS
  k_steps
  all_goals exact hret _ _ _ _ (by assumption) (by assumption)
end B58
end
section
open PySem PySem.W PyProof.Rows PySem.Spec PySem.Calls
set_option Elab.async false
namespace B58
theorem has_put (c : List (Int × Int)) (k v k' : Int) : kdfHas (kdfPut c k v) k' = (decide (k' = k) || kdfHas c k') := by
  rw [kdfHas_is, kdfPut_is, kpr_has_put, ← kdfHas_is]
theorem look_put (c : List (Int × Int)) (k v k' d : Int) : kdfLook (kdfPut c k v) k' d = if k' = k then v else kdfLook c k' d := by
  rw [kdfLook_is, kdfPut_is, kpr_look_put, ← kdfLook_is]
theorem nodup_put {c : List (Int × Int)} (h : (c.map (·.1)).Nodup) (k v : Int) : ((kdfPut c k v).map (·.1)).Nodup := by
  rw [kdfPut_is]; exact kpr_nodup h k v
theorem has_iff {c : List (Int × Int)} {k : Int} : kdfHas c k = true ↔ k ∈ c.map (·.1) := by
  rw [kdfHas_is]; exact kpr_has_iff
/-- two tables that say the same -/
def Alike (c1 c2 : List (Int × Int)) : Prop := ∀ k, kdfHas c1 k = kdfHas c2 k ∧ (kdfHas c1 k = true → kdfLook c1 k 0 = kdfLook c2 k 0)
theorem len_of_keys {c1 c2 : List (Int × Int)} (h1 : (c1.map (·.1)).Nodup) (h2 : (c2.map (·.1)).Nodup) (h : ∀ k, kdfHas c1 k = kdfHas c2 k) : c1.length = c2.length := by
  have p : (c1.map (·.1)).Perm (c2.map (·.1)) := by
    rw [List.perm_ext_iff_of_nodup h1 h2]
    intro k
    rw [← has_iff, ← has_iff, h k]
  simpa using p.length_eq
theorem sameD_of {c1 c2 : List (Int × Int)} (h1 : (c1.map (·.1)).Nodup) (h2 : (c2.map (·.1)).Nodup) (hl : c1.length ≤ 200) (h : Alike c1 c2) : SameD c1 c2 := by
  refine ⟨len_of_keys h1 h2 fun k => (h k).1, hl, fun x hx => ?_⟩
  have hx2 : kdfHas c2 x = true := has_iff.mpr hx
  have hx1 : kdfHas c1 x = true := (h x).1.trans hx2
  exact ⟨hx1, hx2, (h x).2 hx1⟩
-- the last place
def lastIx (ks : List Int) (off : Int) (k : Int) : Option Int := match ks with
  | [] => none
  | x :: r => match lastIx r (off + 1) k with
    | some i => some i
    | none => if k = x then some off else none
theorem lastAt_ix : ∀ (ks : List Int) (off k : Int), kdfHas (lastAt off ks) k = (lastIx ks off k).isSome ∧ (∀ i, lastIx ks off k = some i → kdfLook (lastAt off ks) k 0 = i)
  | [], off, k => ⟨rfl, fun i h => by cases h⟩
  | x :: r, off, k => by
    obtain ⟨ih1, ih2⟩ := lastAt_ix r (off + 1) k
    obtain ⟨jh1, jh2⟩ := lastAt_ix r (off + 1) x
    unfold lastAt
    by_cases hx : kdfHas (lastAt (off + 1) r) x = true
    · rw [if_pos hx]
      have hs : lastIx (x :: r) off k = lastIx r (off + 1) k := by
        show (match lastIx r (off + 1) k with | some i => some i | none => if k = x then some off else none) = _
        cases hq : lastIx r (off + 1) k with
        | some i => rfl
        | none =>
          dsimp only
          by_cases hk : k = x
          · subst hk
            rw [hx, hq] at jh1
            cases jh1
          · rw [if_neg hk]
      rw [hs]
      exact ⟨ih1, ih2⟩
    · rw [if_neg hx]
      rw [has_put]
      have hx' : kdfHas (lastAt (off + 1) r) x = false := by simpa using hx
      have hn : lastIx r (off + 1) x = none := by
        rw [hx'] at jh1
        cases hq : lastIx r (off + 1) x with
        | none => rfl
        | some i => rw [hq] at jh1; cases jh1
      show _ ∧ ∀ i, (match lastIx r (off + 1) k with | some i => some i | none => if k = x then some off else none) = some i → _
      by_cases hk : k = x
      · subst hk
        refine ⟨?_, fun i h => ?_⟩
        · show _ = (match lastIx r (off + 1) k with | some i => some i | none => if k = k then some off else none).isSome
          rw [hn]; simp
        · rw [hn] at h
          simp at h
          rw [look_put, if_pos rfl]; exact h
      · refine ⟨?_, fun i h => ?_⟩
        · show _ = (match lastIx r (off + 1) k with | some i => some i | none => if k = x then some off else none).isSome
          rw [ih1]
          cases hq : lastIx r (off + 1) k with
          | some i => simp
          | none => simp [hk]
        · rw [look_put, if_neg hk]
          cases hq : lastIx r (off + 1) k with
          | some j => rw [hq] at h; exact ih2 i (by rw [hq]; exact h)
          | none => rw [hq] at h; simp [hk] at h
theorem lastAt_nodup : ∀ (ks : List Int) (off : Int), ((lastAt off ks).map (·.1)).Nodup
  | [], _ => List.nodup_nil
  | x :: r, off => by
    unfold lastAt
    split
    · exact lastAt_nodup r (off + 1)
    · exact nodup_put (lastAt_nodup r (off + 1)) _ _
theorem lastIx_append : ∀ (a b : List Int) (off k : Int), lastIx (a ++ b) off k = (match lastIx b (off + a.length) k with | some i => some i | none => lastIx a off k)
  | [], b, off, k => by
    show lastIx b off k = _
    rw [show off + (([] : List Int).length : Int) = off by simp]
    cases lastIx b off k <;> rfl
  | x :: a, b, off, k => by
    show (match lastIx (a ++ b) (off + 1) k with | some i => some i | none => if k = x then some off else none) = _
    rw [lastIx_append a b (off + 1) k, show off + 1 + (a.length : Int) = off + ((x :: a).length : Int) by simp; omega]
    cases lastIx b (off + ((x :: a).length : Int)) k with
    | some i => rfl
    | none => rfl
theorem enumTo_ix (ks : List Int) : ∀ n, n ≤ ks.length → ∀ k, kdfHas (enumTo ks n) k = (lastIx (ks.take n) 0 k).isSome ∧ (∀ i, lastIx (ks.take n) 0 k = some i → kdfLook (enumTo ks n) k 0 = i)
  | 0, _, k => ⟨rfl, fun i h => by cases h⟩
  | n + 1, hn, k => by
    obtain ⟨ih1, ih2⟩ := enumTo_ix ks n (by omega) k
    have hlt : n < ks.length := by omega
    have hg : ks.getD n 0 = ks[n] := by simp [List.getD_eq_getElem?_getD, hlt]
    have ht : ks.take (n + 1) = ks.take n ++ [ks[n]] := List.take_succ_eq_append_getElem hlt
    have hx : lastIx (ks.take (n + 1)) 0 k = if k = ks[n] then some (n : Int) else lastIx (ks.take n) 0 k := by
      rw [ht, lastIx_append]
      have hl : ((ks.take n).length : Int) = n := by rw [List.length_take, Nat.min_eq_left (by omega)]
      rw [hl]
      show (match (match (none : Option Int) with | some i => some i | none => if k = ks[n] then some (0 + (n : Int)) else none) with | some i => some i | none => lastIx (ks.take n) 0 k) = _
      by_cases hk : k = ks[n]
      · rw [if_pos hk, if_pos hk]; simp
      · rw [if_neg hk, if_neg hk]
    unfold enumTo
    rw [has_put, hg, hx]
    by_cases hk : k = ks[n]
    · rw [if_pos hk]
      refine ⟨by simp [hk], fun i h => ?_⟩
      rw [look_put, if_pos hk]
      exact Option.some.inj h
    · rw [if_neg hk]
      refine ⟨by simp [hk, ih1], fun i h => ?_⟩
      rw [look_put, if_neg hk]
      exact ih2 i h
theorem enumTo_nodup (ks : List Int) : ∀ n, ((enumTo ks n).map (·.1)).Nodup
  | 0 => List.nodup_nil
  | n + 1 => nodup_put (enumTo_nodup ks n) _ _
theorem enum_alike (ks : List Int) : Alike (enumD ks) (lastAt 0 ks) := by
  intro k
  obtain ⟨h1, h2⟩ := enumTo_ix ks ks.length (Nat.le_refl _) k
  obtain ⟨g1, g2⟩ := lastAt_ix ks 0 k
  rw [List.take_length] at h1 h2
  refine ⟨h1.trans g1.symm, fun h => ?_⟩
  unfold enumD at h ⊢
  rw [h1] at h
  obtain ⟨i, hi⟩ := Option.isSome_iff_exists.mp h
  rw [h2 i hi, g2 i hi]
end B58
end
section
open PySem PySem.W PyProof.Rows PySem.Spec PySem.Calls
set_option Elab.async false
namespace B58
theorem fold_piv (p : Int) : ∀ (l : List Int) (c : List (Int × Int)) (k : Int),
    kdfHas (l.foldl (fun c' a => kdfPut c' a (kdfLook c' p 0)) c) k = (kdfHas c k || l.contains k) ∧
    kdfLook (l.foldl (fun c' a => kdfPut c' a (kdfLook c' p 0)) c) k 0 = if l.contains k then kdfLook c p 0 else kdfLook c k 0
  | [], c, k => by simp
  | x :: l, c, k => by
    obtain ⟨h1, h2⟩ := fold_piv p l (kdfPut c x (kdfLook c p 0)) k
    rw [List.foldl_cons]
    have hp : kdfLook (kdfPut c x (kdfLook c p 0)) p 0 = kdfLook c p 0 := by rw [look_put]; split <;> simp_all
    refine ⟨?_, ?_⟩
    · rw [h1, has_put, List.contains_cons]
      by_cases hk : k = x
      · simp [hk]
      · have : (k == x) = false := by simp [hk]
        rw [this]; simp [hk]
    · rw [h2, hp, look_put, List.contains_cons]
      by_cases hk : k = x
      · simp [hk]
      · simp [hk]
theorem nodup_piv (p : Int) : ∀ (l : List Int) (c : List (Int × Int)), (c.map (·.1)).Nodup → ((l.foldl (fun c' a => kdfPut c' a (kdfLook c' p 0)) c).map (·.1)).Nodup
  | [], _, h => h
  | x :: l, c, h => nodup_piv p l _ (nodup_put h _ _)
theorem group_nodup {c : List (Int × Int)} (h : (c.map (·.1)).Nodup) (g : List Int) : ((groupStep c g).map (·.1)).Nodup := by
  unfold groupStep
  split
  · exact nodup_piv _ g c h
  · exact h
def one3 (a b d : Bool) : Bool := (a && !b && !d) || (!a && b && !d) || (!a && !b && d)
theorem group_says (c : List (Int × Int)) (x y z k : Int) :
    kdfHas (groupStep c [x, y, z]) k = (kdfHas c k || (one3 (kdfHas c x) (kdfHas c y) (kdfHas c z) && [x, y, z].contains k)) ∧
    kdfLook (groupStep c [x, y, z]) k 0 = if one3 (kdfHas c x) (kdfHas c y) (kdfHas c z) && [x, y, z].contains k then kdfLook c (if kdfHas c x then x else if kdfHas c y then y else z) 0 else kdfLook c k 0 := by
  have key : ∀ p, kdfHas ([x, y, z].foldl (fun c' a => kdfPut c' a (kdfLook c' p 0)) c) k = (kdfHas c k || [x, y, z].contains k) ∧
    kdfLook ([x, y, z].foldl (fun c' a => kdfPut c' a (kdfLook c' p 0)) c) k 0 = if [x, y, z].contains k then kdfLook c p 0 else kdfLook c k 0 := fun p => fold_piv p _ c k
  have hF : [x, y, z].filter (kdfHas c) = (if kdfHas c x then [x] else []) ++ ((if kdfHas c y then [y] else []) ++ (if kdfHas c z then [z] else [])) := by
    cases hx : kdfHas c x <;> cases hy : kdfHas c y <;> cases hz : kdfHas c z <;> simp [List.filter_cons, hx, hy, hz]
  unfold groupStep
  rw [hF]
  cases hx : kdfHas c x <;> cases hy : kdfHas c y <;> cases hz : kdfHas c z
  · exact ⟨by simp [one3], by simp [one3]⟩
  · exact ⟨(key z).1.trans (by simp [one3]), (key z).2.trans (by simp [one3])⟩
  · exact ⟨(key y).1.trans (by simp [one3]), (key y).2.trans (by simp [one3])⟩
  · exact ⟨by simp [one3], by simp [one3]⟩
  · exact ⟨(key x).1.trans (by simp [one3]), (key x).2.trans (by simp [one3])⟩
  · exact ⟨by simp [one3], by simp [one3]⟩
  · exact ⟨by simp [one3], by simp [one3]⟩
  · exact ⟨by simp [one3], by simp [one3]⟩
theorem fold_cond (f : List (Int × Int) → Int → List (Int × Int)) (cond : Int → Bool) (val : Int → Int) (hf : ∀ out x, f out x = if cond x then kdfPut out x (val x) else out) : ∀ (l : List Int) (out : List (Int × Int)) (k : Int),
    kdfHas (l.foldl f out) k = (kdfHas out k || (l.contains k && cond k)) ∧ kdfLook (l.foldl f out) k 0 = if l.contains k && cond k then val k else kdfLook out k 0
  | [], out, k => by simp
  | x :: l, out, k => by
    obtain ⟨h1, h2⟩ := fold_cond f cond val hf l (f out x) k
    rw [List.foldl_cons, h1, h2, hf, List.contains_cons]
    by_cases hk : k = x
    · subst hk
      cases hc : cond k
      · simp
      · simp only [if_true, has_put, look_put]
        cases l.contains k <;> simp
    · have hkx : (k == x) = false := by simp [hk]
      rw [hkx]
      cases hc : cond x
      · simp
      · simp only [if_true, has_put, look_put, hk, decide_false, Bool.false_or, if_false]
        exact ⟨trivial, trivial⟩
theorem nodup_fold (f : List (Int × Int) → Int → List (Int × Int)) (hf : ∀ out x, (out.map (·.1)).Nodup → ((f out x).map (·.1)).Nodup) : ∀ (l : List Int) (out : List (Int × Int)), (out.map (·.1)).Nodup → ((l.foldl f out).map (·.1)).Nodup
  | [], _, h => h
  | x :: l, out, h => nodup_fold f hf l _ (hf out x h)
theorem copy_says (c : List (Int × Int)) (k : Int) : kdfHas (copyC c) k = kdfHas c k ∧ (kdfHas c k = true → kdfLook (copyC c) k 0 = kdfLook c k 0) := by
  obtain ⟨h1, h2⟩ := fold_cond (fun out x => kdfPut out x (kdfLook c x 0)) (fun _ => true) (fun x => kdfLook c x 0) (fun _ _ => rfl) (c.map (·.1)) [] k
  have hc : (c.map (·.1)).contains k = kdfHas c k := by
    cases hq : kdfHas c k with
    | true => simpa using has_iff.mp hq
    | false =>
      have : ¬ k ∈ c.map (·.1) := fun hm => by rw [has_iff.mpr hm] at hq; cases hq
      simpa using this
  unfold copyC
  rw [h1, h2, hc]
  refine ⟨by simp [kdfHas], fun h => by simp [h]⟩
theorem copy_nodup (c : List (Int × Int)) : ((copyC c).map (·.1)).Nodup := nodup_fold _ (fun _ _ h => nodup_put h _ _) _ _ List.nodup_nil
theorem fix_nodup (c : List (Int × Int)) : ((fixC c).map (·.1)).Nodup := by
  refine nodup_fold _ (fun out x h => ?_) _ _ (copy_nodup c)
  unfold fixStep
  split
  · exact nodup_put h _ _
  · exact h
def condF (c : List (Int × Int)) (x : Int) : Bool := !kdfHas c x && decide (((kinL x).filter (kdfHas c)).length = 1)
theorem fix_says (c : List (Int × Int)) (k : Int) :
    kdfHas (fixC c) k = (kdfHas c k || ([48, 79, 111, 73, 108, 49].contains k && condF c k)) ∧
    (kdfHas c k = true → kdfLook (fixC c) k 0 = kdfLook c k 0) ∧
    (kdfHas c k = false → [48, 79, 111, 73, 108, 49].contains k = true → condF c k = true → kdfLook (fixC c) k 0 = kdfLook c (((kinL k).filter (kdfHas c)).headD 0) 0) := by
  obtain ⟨h1, h2⟩ := fold_cond (fixStep c) (condF c) (fun x => kdfLook c (((kinL x).filter (kdfHas c)).headD 0) 0) (fun out x => by
    unfold fixStep condF
    cases hx : kdfHas c x <;> simp) [48, 79, 111, 73, 108, 49] (copyC c) k
  obtain ⟨g1, g2⟩ := copy_says c k
  unfold fixC
  rw [h1, h2, g1]
  refine ⟨rfl, fun h => ?_, fun h h3 h4 => ?_⟩
  · have : condF c k = false := by unfold condF; simp [h]
    rw [this]; simpa using g2 h
  · rw [h3, h4]; rfl
theorem kin_says (c : List (Int × Int)) (y z : Int) : [y, z].filter (kdfHas c) = (if kdfHas c y then [y] else []) ++ (if kdfHas c z then [z] else []) := by
  cases hy : kdfHas c y <;> cases hz : kdfHas c z <;> simp [List.filter_cons, hy, hz]
theorem grouped (c c' : List (Int × Int)) (hA : Alike c c') : Alike (groupStep (groupStep c [48, 79, 111]) [73, 108, 49]) (fixC c') := by
  have H : ∀ k, kdfHas c' k = kdfHas c k := fun k => ((hA k).1).symm
  intro k
  obtain ⟨p1, p2⟩ := group_says (groupStep c [48, 79, 111]) 73 108 49 k
  have q := fun j => group_says c 48 79 111 j
  obtain ⟨r1, r2, r3⟩ := fix_says c' k
  have e73 : kdfHas (groupStep c [48, 79, 111]) 73 = kdfHas c 73 := by rw [(q 73).1]; simp
  have e108 : kdfHas (groupStep c [48, 79, 111]) 108 = kdfHas c 108 := by rw [(q 108).1]; simp
  have e49 : kdfHas (groupStep c [48, 79, 111]) 49 = kdfHas c 49 := by rw [(q 49).1]; simp
  have l73 : kdfLook (groupStep c [48, 79, 111]) 73 0 = kdfLook c 73 0 := by rw [(q 73).2]; simp
  have l108 : kdfLook (groupStep c [48, 79, 111]) 108 0 = kdfLook c 108 0 := by rw [(q 108).2]; simp
  have l49 : kdfLook (groupStep c [48, 79, 111]) 49 0 = kdfLook c 49 0 := by rw [(q 49).2]; simp
  rw [e73, e108, e49] at p1 p2
  have V := fun j => (hA j).2
  by_cases h48 : k = 48
  · subst h48
    have n : condF c' 48 = (!kdfHas c 48 && decide (([79, 111].filter (kdfHas c')).length = 1)) := by unfold condF; rw [H]; rfl
    have m : (kinL 48) = [79, 111] := rfl
    rw [(q 48).1] at p1
    rw [(q 48).2] at p2
    rw [m] at r3
    rw [n] at r1 r3
    rw [kin_says, H, H] at r1 r3
    have V1 := V 48
    have V2 := V 79
    have V3 := V 111
    rw [H] at r1 r2 r3
    rw [p1, p2, r1]
    cases a1 : kdfHas c 48 <;> cases a2 : kdfHas c 79 <;> cases a3 : kdfHas c 111 <;> simp_all [one3]
  by_cases h79 : k = 79
  · subst h79
    have n : condF c' 79 = (!kdfHas c 79 && decide (([48, 111].filter (kdfHas c')).length = 1)) := by unfold condF; rw [H]; rfl
    have m : (kinL 79) = [48, 111] := rfl
    rw [(q 79).1] at p1
    rw [(q 79).2] at p2
    rw [m] at r3
    rw [n] at r1 r3
    rw [kin_says, H, H] at r1 r3
    have V1 := V 79
    have V2 := V 48
    have V3 := V 111
    rw [H] at r1 r2 r3
    rw [p1, p2, r1]
    cases a1 : kdfHas c 48 <;> cases a2 : kdfHas c 79 <;> cases a3 : kdfHas c 111 <;> simp_all [one3]
  by_cases h111 : k = 111
  · subst h111
    have n : condF c' 111 = (!kdfHas c 111 && decide (([48, 79].filter (kdfHas c')).length = 1)) := by unfold condF; rw [H]; rfl
    have m : (kinL 111) = [48, 79] := rfl
    rw [(q 111).1] at p1
    rw [(q 111).2] at p2
    rw [m] at r3
    rw [n] at r1 r3
    rw [kin_says, H, H] at r1 r3
    have V1 := V 111
    have V2 := V 48
    have V3 := V 79
    rw [H] at r1 r2 r3
    rw [p1, p2, r1]
    cases a1 : kdfHas c 48 <;> cases a2 : kdfHas c 79 <;> cases a3 : kdfHas c 111 <;> simp_all [one3]
  by_cases h73 : k = 73
  · subst h73
    have n : condF c' 73 = (!kdfHas c 73 && decide (([108, 49].filter (kdfHas c')).length = 1)) := by unfold condF; rw [H]; rfl
    have m : (kinL 73) = [108, 49] := rfl
    rw [(q 73).1] at p1
    rw [(q 73).2] at p2
    rw [m] at r3
    rw [n] at r1 r3
    rw [kin_says, H, H] at r1 r3
    have V1 := V 73
    have V2 := V 108
    have V3 := V 49
    rw [H] at r1 r2 r3
    rw [p1, p2, r1]
    cases a1 : kdfHas c 73 <;> cases a2 : kdfHas c 108 <;> cases a3 : kdfHas c 49 <;> simp_all [one3]
  by_cases h108 : k = 108
  · subst h108
    have n : condF c' 108 = (!kdfHas c 108 && decide (([73, 49].filter (kdfHas c')).length = 1)) := by unfold condF; rw [H]; rfl
    have m : (kinL 108) = [73, 49] := rfl
    rw [(q 108).1] at p1
    rw [(q 108).2] at p2
    rw [m] at r3
    rw [n] at r1 r3
    rw [kin_says, H, H] at r1 r3
    have V1 := V 108
    have V2 := V 73
    have V3 := V 49
    rw [H] at r1 r2 r3
    rw [p1, p2, r1]
    cases a1 : kdfHas c 73 <;> cases a2 : kdfHas c 108 <;> cases a3 : kdfHas c 49 <;> simp_all [one3]
  by_cases h49 : k = 49
  · subst h49
    have n : condF c' 49 = (!kdfHas c 49 && decide (([73, 108].filter (kdfHas c')).length = 1)) := by unfold condF; rw [H]; rfl
    have m : (kinL 49) = [73, 108] := rfl
    rw [(q 49).1] at p1
    rw [(q 49).2] at p2
    rw [m] at r3
    rw [n] at r1 r3
    rw [kin_says, H, H] at r1 r3
    have V1 := V 49
    have V2 := V 73
    have V3 := V 108
    rw [H] at r1 r2 r3
    rw [p1, p2, r1]
    cases a1 : kdfHas c 73 <;> cases a2 : kdfHas c 108 <;> cases a3 : kdfHas c 49 <;> simp_all [one3]
  have hn : [48, 79, 111, 73, 108, 49].contains k = false := by simp [h48, h79, h111, h73, h108, h49]
  rw [(q k).1] at p1
  rw [(q k).2] at p2
  rw [hn, H] at r1
  rw [H] at r2
  rw [p1, p2, r1]
  have V1 := V k
  simp_all
end B58
end
section
open PySem PySem.W PyProof.Rows PySem.Spec PySem.Calls
set_option Elab.async false
namespace B58
theorem alike_last (ks : List Int) : Alike (mapC ks false) (lastAt 0 ks) := enum_alike ks
theorem alike_fixed (ks : List Int) : Alike (mapC ks true) (fixC (lastAt 0 ks)) := grouped _ _ (enum_alike ks)
theorem enumD_nodup (ks : List Int) : ((enumD ks).map (·.1)).Nodup := enumTo_nodup ks _
theorem same_last {ks : List Int} (h : ks.length ≤ 100) : SameD (mapC ks false) (lastAt 0 ks) :=
  sameD_of (enumD_nodup ks) (lastAt_nodup ks 0) (mapC_len h false) (alike_last ks)
theorem same_fixed {ks : List Int} (h : ks.length ≤ 100) : SameD (mapC ks true) (fixC (lastAt 0 ks)) :=
  sameD_of (group_nodup (group_nodup (enumD_nodup ks) _) _) (fix_nodup _) (mapC_len h true) (alike_fixed ks)
theorem last_len {ks : List Int} (h : ks.length ≤ 58) : (lastAt 0 ks).length ≤ 100 := Nat.le_trans (lastAt_len ks 0) (by omega)
theorem lastIx_in : ∀ (ks : List Int) (off k i : Int), lastIx ks off k = some i → off ≤ i ∧ i < off + ks.length
  | [], off, k, i, h => by cases h
  | x :: r, off, k, i, h => by
    have h' : (match lastIx r (off + 1) k with | some i => some i | none => if k = x then some off else none) = some i := h
    cases hq : lastIx r (off + 1) k with
    | some j =>
      rw [hq] at h'
      have hj : j = i := Option.some.inj h'
      have := lastIx_in r (off + 1) k j hq
      simp only [List.length_cons]
      omega
    | none =>
      rw [hq] at h'
      dsimp only at h'
      split at h'
      · have hj : off = i := Option.some.inj h'
        simp only [List.length_cons]
        omega
      · cases h'
theorem last_vals {ks : List Int} (h : ks.length ≤ 58) : ∀ k, kdfHas (lastAt 0 ks) k = true → 0 ≤ kdfLook (lastAt 0 ks) k 0 ∧ kdfLook (lastAt 0 ks) k 0 < 1000 := by
  intro k hk
  obtain ⟨g1, g2⟩ := lastAt_ix ks 0 k
  rw [hk] at g1
  obtain ⟨i, hi⟩ := Option.isSome_iff_exists.mp g1.symm
  rw [g2 i hi]
  have := lastIx_in ks 0 k i hi
  omega
theorem head_has {c : List (Int × Int)} {l : List Int} (h : (l.filter (kdfHas c)).length = 1) : kdfHas c ((l.filter (kdfHas c)).headD 0) = true := by
  cases hq : l.filter (kdfHas c) with
  | nil => rw [hq] at h; cases h
  | cons a r =>
    have : a ∈ l.filter (kdfHas c) := by rw [hq]; exact .head _
    exact (List.mem_filter.mp this).2
theorem fixed_vals {ks : List Int} (h : ks.length ≤ 58) : ∀ k, kdfHas (fixC (lastAt 0 ks)) k = true → 0 ≤ kdfLook (fixC (lastAt 0 ks)) k 0 ∧ kdfLook (fixC (lastAt 0 ks)) k 0 < 1000 := by
  intro k hk
  obtain ⟨r1, r2, r3⟩ := fix_says (lastAt 0 ks) k
  cases hq : kdfHas (lastAt 0 ks) k with
  | true => rw [r2 hq]; exact last_vals h k hq
  | false =>
    rw [hk, hq, Bool.false_or] at r1
    have hb := Bool.and_eq_true_iff.mp r1.symm
    rw [r3 hq hb.1 hb.2]
    have hc := hb.2
    unfold condF at hc
    rw [Bool.and_eq_true_iff] at hc
    exact last_vals h _ (head_has (of_decide_eq_true hc.2))
theorem fix_len200 {ks : List Int} (h : ks.length ≤ 58) : (fixC (lastAt 0 ks)).length ≤ 200 := by
  have h1 := fold_fix_len (lastAt 0 ks) [48, 79, 111, 73, 108, 49] (copyC (lastAt 0 ks))
  have h2 := copy_len (lastAt 0 ks) ((lastAt 0 ks).map (·.1)) []
  have h3 := lastAt_len ks 0
  simp only [List.length_map, List.length_nil, List.length_cons] at h1 h2
  unfold fixC
  unfold copyC at h1 ⊢
  omega
theorem numTo_snoc (rs : List Int) (x b : Int) : ∀ m, m ≤ rs.length → numTo (rs ++ [x]) b (m + 1) = x + b * numTo rs b m
  | 0, _ => by
    show 0 + (rs ++ [x]).getD ((rs ++ [x]).length - 1 - 0) 0 * b ^ 0 = x + b * 0
    have : (rs ++ [x]).getD ((rs ++ [x]).length - 1 - 0) 0 = x := by simp [List.getD_eq_getElem?_getD]
    rw [this]; simp
  | m + 1, h => by
    have ih := numTo_snoc rs x b m (by omega)
    show numTo (rs ++ [x]) b (m + 1) + (rs ++ [x]).getD ((rs ++ [x]).length - 1 - (m + 1)) 0 * b ^ (m + 1) = x + b * (numTo rs b m + rs.getD (rs.length - 1 - m) 0 * b ^ m)
    have hi : (rs ++ [x]).length - 1 - (m + 1) = rs.length - 1 - m := by simp; omega
    have hl : rs.length - 1 - m < rs.length := by omega
    have hg : (rs ++ [x]).getD (rs.length - 1 - m) 0 = rs.getD (rs.length - 1 - m) 0 := by
      simp [List.getD_eq_getElem?_getD, List.getElem?_append_left hl]
    rw [ih, hi, hg, Int.pow_succ, Int.mul_add, Int.add_assoc, Int.mul_comm (b ^ m) b, ← Int.mul_assoc, ← Int.mul_assoc, Int.mul_comm (rs.getD _ 0) b]
theorem fold_num' (b : Int) : ∀ (n : Nat) (rs : List Int), rs.length = n → rs.foldl (fun d x => d * b + x) 0 = numTo rs b rs.length
  | 0, rs, h => by
    cases rs with
    | nil => rfl
    | cons _ _ => cases h
  | n + 1, rs, h => by
    obtain ⟨r, x, rfl⟩ : ∃ r x, rs = r ++ [x] := ⟨rs.dropLast, rs.getLast (by intro e; rw [e] at h; cases h), (List.dropLast_concat_getLast _).symm⟩
    have ih := fold_num' b n r (by simpa using h)
    rw [List.foldl_append, List.length_append]
    show r.foldl (fun d x => d * b + x) 0 * b + x = numTo (r ++ [x]) b (r.length + 1)
    rw [numTo_snoc r x b r.length (Nat.le_refl _), ih, Int.mul_comm, Int.add_comm]
theorem fold_num (b : Int) (rs : List Int) : rs.foldl (fun d x => d * b + x) 0 = numTo rs b rs.length := fold_num' b _ rs rfl
theorem horn_num {c c' : List (Int × Int)} {ts : List Int} {b : Int} (hA : Alike c c') (h : ∀ k ∈ ts, kdfHas c k = true) : horn c b ts = numTo (ts.map fun k => kdfLook c' k 0) b ts.length := by
  have e : ts.map (fun k => kdfLook c' k 0) = ts.map (fun k => kdfLook c k 0) := List.map_congr_left fun k hk => ((hA k).2 (h k hk)).symm
  rw [e]
  have := fold_num b (ts.map fun k => kdfLook c k 0)
  rw [List.length_map] at this
  rw [← this, List.foldl_map]
  rfl
end B58
end
section
open PySem PySem.W PyProof.Rows PySem.Spec PySem.Calls
set_option Elab.async false
set_option maxRecDepth 100000
set_option maxHeartbeats 4000000
set_option pp.deepTerms false
set_option pp.maxSteps 3000
namespace B58
open PyProof.Rows.LCg PyProof.Rows.LCt
theorem alike_get (i : Nat) : 0 ≤ [48, 79, 111, 73, 108, 49].getD i (0 : Int) ∧ [48, 79, 111, 73, 108, 49].getD i (0 : Int) < 256 := by
  match i with
  | 0 | 1 | 2 | 3 | 4 | 5 => decide
  | n + 6 => exact ⟨by simp, by simp⟩
theorem lst_push {h₀ h : Heap} {L l : Addr} {vs : List Value} {v : Value} {own : List (Addr × Obj)} {k : Nat} {ns : List Int} (N : News h₀ L h ((l, listOf (vs.toArray.push v) k) :: own)) (_ : IntsAre vs ns) (hk : k = vs.length + 1 := by simp) : News h₀ L h ((l, lst (vs ++ [v])) :: own) := by
  have e : (l, listOf (vs.toArray.push v) k) = (l, lst (vs ++ [v])) := by
    subst hk
    show (l, ({ cls := .type "list", data := .seq (vs.toArray.push v) (vs.length + 1) } : Obj)) = _
    simp [lst]
  rw [e] at N
  exact N
theorem row_more {vs : List Value} {ns : List Int} {m : Int} {t : Tok} {pre : List Int} {k : Int} (h1 : IntsAre vs ns) (h2 : ns.length = pre.length) (h3 : ∀ x ∈ ns, 0 ≤ x ∧ x < 256) (hm : 0 ≤ m ∧ m < 256) :
    IntsAre (vs ++ [Value.int m t]) (ns ++ [m]) ∧ (ns ++ [m]).length = (pre ++ [k]).length ∧ ∀ x ∈ ns ++ [m], 0 ≤ x ∧ x < 256 := by
  refine ⟨IntsAre.append h1 (.cons _ _ .nil), by simp [h2], fun x hx => ?_⟩
  rcases List.mem_append.mp hx with h | h
  · exact h3 x h
  · rw [List.mem_singleton.mp h]; exact hm
theorem one_in {a : Addr × Obj} {own : List (Addr × Obj)} : ∀ p ∈ [a], p ∈ a :: own := fun p hp => by rw [List.mem_singleton.mp hp]; exact .head _
theorem cut_exec {prog : Program} {w : World} {A : Around} {env : Env} {st : Stmt} {Q : Flow → Shared → Prop} {E : Value → Shared → Prop} {s : Shared} {h₀ : Heap} {L : Addr} {m : Str → Option Value} (Fz : Fr h₀ L s.heap m) (x : Str) (P : Value → Prop)
    (h1 : wpAny (model prog w) A (exec st env) (fun f s' => Mark (f = .next ∧ ∃ v h tk, s' = { s with heap := h, toks := tk } ∧ Fr h₀ L h (fun y => if y = x then some v else m y) ∧ P v)) E s)
    (h2 : ∀ v h tk, P v → Fr h₀ L h (fun y => if y = x then some v else m y) → News h₀ L h [] → Q .next { s with heap := h, toks := tk }) : wpAny (model prog w) A (exec st env) Q E s := by
  refine wpAny_mono h1 (fun f s' h => ?_) fun _ _ e => e
  obtain ⟨rfl, v, h, tk, rfl, F, hP⟩ := h
  exact h2 v h tk hP F (fun _ h => nomatch h)
theorem three_in {a b c : Addr × Obj} {own : List (Addr × Obj)} : ∀ p ∈ [a, b, c], p ∈ a :: b :: c :: own := fun _ hp => List.mem_append_left own hp
theorem three_own {a b c : Addr × Obj} {own : List (Addr × Obj)} : ∀ p ∈ own, p ∈ a :: b :: c :: own := fun _ hp => .tail _ (.tail _ (.tail _ hp))
def isBlank (k : Int) : Bool := [9, 10, 11, 12, 13, 32].any (· == k)
def unblank (k : Int) : Int := if isBlank k then 33 else k
theorem blanks_is {w : World} {h₀ : Heap} (X : (hd.heap_39 w.params).In h₀) : ∃ items : Array Value, IsTup h₀ 37 items ∧ IntsAre items.toList [9, 10, 11, 12, 13, 32] :=
  ⟨[.int 9 _, .int 10 _, .int 11 _, .int 12 _, .int 13 _, .int 32 _].toArray, ⟨_, X 37 _ (by with_unfolding_all rfl), rfl, _, rfl⟩, .cons _ _ (.cons _ _ (.cons _ _ (.cons _ _ (.cons _ _ (.cons _ _ .nil)))))⟩
theorem unblank_in {ns : List Int} (h : ∀ x ∈ ns, 0 ≤ x ∧ x < 256) : KBa.In (ns.map unblank) := by
  intro n hn
  obtain ⟨k, hk, rfl⟩ := List.mem_map.mp hn
  unfold unblank
  split
  · decide
  · exact h k hk
theorem unblank_not {ns : List Int} : ∀ x ∈ ns.map unblank, x ≠ 9 ∧ x ≠ 10 ∧ x ≠ 11 ∧ x ≠ 12 ∧ x ≠ 13 ∧ x ≠ 32 := by
  intro n hn
  obtain ⟨k, hk, rfl⟩ := List.mem_map.mp hn
  unfold unblank
  split
  · decide
  · rename_i h
    unfold isBlank at h
    simp only [List.any_cons, List.any_nil, Bool.or_false, Bool.or_eq_true, beq_iff_eq, not_or] at h
    omega
theorem no_miss {c : List (Int × Int)} {ts : List Int} (h : ∀ k ∈ ts, kdfHas c k = true) : ¬ ∃ k ∈ ts, kdfHas c k = false := by
  rintro ⟨k, hk, hn⟩
  rw [h k hk] at hn; cases hn
theorem lastIx_mem : ∀ (ks : List Int) (off k : Int), k ∈ ks → (lastIx ks off k).isSome = true
  | x :: r, off, k, h => by
    show (match lastIx r (off + 1) k with | some i => some i | none => if k = x then some off else none).isSome = true
    cases hq : lastIx r (off + 1) k with
    | some i => rfl
    | none =>
      rcases List.mem_cons.mp h with rfl | h
      · simp
      · rw [lastIx_mem r (off + 1) k h |> Option.isSome_iff_exists.mp |>.choose_spec] at hq
        cases hq
theorem mem_last {ks : List Int} {k : Int} (h : k ∈ ks) : kdfHas (mapC ks false) k = true := by
  rw [(alike_last ks k).1, (lastAt_ix ks 0 k).1]
  exact lastIx_mem ks 0 k h
theorem filter_not {ks : List Int} : ∀ x ∈ ks.filter (fun k => !isBlank k), x ≠ 9 ∧ x ≠ 10 ∧ x ≠ 11 ∧ x ≠ 12 ∧ x ≠ 13 ∧ x ≠ 32 := by
  intro n hn
  have h := (List.mem_filter.mp hn).2
  unfold isBlank at h
  simp only [List.any_cons, List.any_nil, Bool.or_false, Bool.not_eq_true', Bool.or_eq_false_iff, beq_eq_false_iff_ne, ne_eq] at h
  omega
def LedL (l : Addr) (st : List Value × List Int) : List (Addr × Obj) := [(l, lst st.1)]
def LedL3 (l : Addr) (df : Addr) (of : Obj) (dl : Addr) (ol : Obj) (st : List Value × List Int) : List (Addr × Obj) := [(l, lst st.1), (df, of), (dl, ol)]
section
local macro_rules | `(tactic| k_mem) => `(tactic| first | with_reducible assumption | with_reducible exact List.mem_cons_self | (with_reducible refine List.mem_cons_of_mem _ ?_; k_mem) | exact List.mem_append_left _ (by assumption) | exact List.mem_append_right _ (by assumption))
local macro_rules | `(tactic| walk_at "call ref") => `(tactic| ((with_reducible show wpAny _ _ (call (Value.ref 44) _ _) _ _ _); refine Mark.intro ?_))
local macro_rules | `(tactic| walk_at "call ref") => `(tactic| ((with_reducible show wpAny _ _ (call (Value.ref 51) _ _) _ _ _); refine Mark.intro ?_))
local macro_rules | `(tactic| walk_at "call ref") => `(tactic| ((with_reducible show wpAny _ _ (call (Value.ref 61) _ _) _ _ _); refine Mark.intro ?_))
local macro_rules | `(tactic| walk_at "call ref") => `(tactic| ((with_reducible show wpAny _ _ (call (Value.ref 26) _ _) _ _ _); refine Mark.intro ?_))
local macro_rules | `(tactic| walk_at "call ref") => `(tactic| ((with_reducible show wpAny _ _ (call (Value.ref 68) _ _) _ _ _); refine Mark.intro ?_))
local macro_rules | `(tactic| walk_at "call ref") => `(tactic| ((with_reducible show wpAny _ _ (call (Value.ref 87) _ _) _ _ _); refine Mark.intro ?_))
local macro_rules | `(tactic| walk_at "call ref") => `(tactic| ((with_reducible show wpAny _ _ (call (Value.ref 80) _ _) _ _ _); refine Mark.intro ?_))
local macro_rules | `(tactic| walk_at "call ref") => `(tactic| ((with_reducible show wpAny _ _ (call (Value.ref 35) _ _) _ _ _); refine Mark.intro ?_))
local macro_rules | `(tactic| walk_at "call type:bytes") => `(tactic| refine Mark.intro ?_)
local macro_rules | `(tactic| walk_at "exec For Name Call cons nil") => `(tactic| refine Mark.intro ?_)
local macro_rules | `(tactic| walk_at "pyIter ref") => `(tactic| ((with_reducible show wpAny _ _ (pyIter (Value.ref _)) (fun it s₂ => LoopAtV _ _ _ _ _ _ _ _ _ it s₂) _ _); refine Mark.intro ?_))
local macro_rules | `(tactic| walk_at "exec Assign cons Subscript") => `(tactic| ((fail_if_success (with_reducible show wpAny _ _ (exec _ _) (fun f s' => Mark _) _ _)); refine Mark.intro ?_))
local macro_rules | `(tactic| walk_at "exec Assign cons IfExp") => `(tactic| ((fail_if_success (with_reducible show wpAny _ _ (exec _ _) (fun f s' => Mark _) _ _)); refine Mark.intro ?_))
local macro_rules | `(tactic| walk_at "eval ListComp") => `(tactic| refine Mark.intro ?_)
local macro_rules | `(tactic| walk_at "compareOp In int ref") => `(tactic| refine Mark.intro ?_)
local macro_rules | `(tactic| walk_at "compareOp NotIn int ref") => `(tactic| refine Mark.intro ?_)
local macro_rules | `(tactic| walk_at "eval Call") => `(tactic| (k_here; (with_reducible show wpAny _ _ (eval (PySem.Expr.Call (PySem.Expr.Name _ _) _ _ _) _) _ _ _); k_dflt (refine Call_ ?_)))
theorem law_holds : PySem.Challenge.rw_eg5001_01.Holds := by
  refine hd ?_
  k_with_none
  k_go0
  (all_goals try k_fold)
  have hMk := kstMark
  rename Heap.IsList _ _ _ => hSL
  rename IntsAre _ _ => hSI
  rename (PyData.layable0 _ = true) => hSy
  have hSn := len_ints_list hSy
  rename Frag.In _ _ => hKX
  obtain ⟨bItems, hBt, hBi⟩ := blanks_is hKX
  k_steps
  refine Mark.out ?_
  k_dflt (refine' draw_ok ?q1B ?q1F ?q1X ?q1N ?q1T ?q1k ?q1d ?q1u hSL hSI hSn (by omega) (by omega) ?_; (case q1B => k_asm); (case q1F => k_asm); (case q1X => k_asm); (case q1N => k_asm); (case q1T => k_asm); (case q1k => exact rfl); (case q1d => ktr_room); (case q1u => ktr_units))
  intro v1 t1 h1 tk1 F1 N1
  k_steps
  refine Mark.out ?_
  rename Fr _ _ _ _ => F2
  rename News _ _ _ _ => N2
  with_unfolding_all refine' For_invVF F2 ?k1 ?k2 ?_
  case k1 => exact rfl
  case k2 => exact rfl
  k_steps
  refine Mark.out ?_
  k_dflt (refine' draw_ok ?q2B ?q2F ?q2X ?q2N ?q2T ?q2k ?q2d ?q2u hSL hSI hSn (by omega) (by omega) ?_; (case q2B => k_asm); (case q2F => k_asm); (case q2X => k_asm); (case q2N => k_asm); (case q2T => k_asm); (case q2k => exact rfl); (case q2d => ktr_room); (case q2u => ktr_units))
  intro v2 t2 h2 tk2 F3 N3
  k_steps
  refine Mark.out ?_
  rename IsRange _ _ _ _ _ _ _ _ => hrg
  rename Fr _ _ _ _ => F4
  rename News _ _ _ _ => N4
  have hf0 : 0 ≤ v2.fmod 41 := Int.fmod_nonneg_of_pos _ (by decide)
  have hf1 : v2.fmod 41 < 41 := Int.fmod_lt_of_pos _ (by decide)
  generalize v2.fmod 41 = n41 at hrg hf0 hf1
  refine my_range (σ := List Value × List Int) (LedL _) (fun _ => []) (fun _ => True) [Str.ofString "x"]
    (fun pre st => IntsAre st.1 st.2 ∧ st.2.length = pre.length ∧ ∀ x ∈ st.2, 0 ≤ x ∧ x < 256) ([], []) (by rfl) hrg (small_one (by omega) (by omega) (by omega) (by omega)) (rangeSize_nat _ _) F4 (by exact N4) trivial (fun _ h => nomatch h) ⟨.nil, rfl, fun _ h => nomatch h⟩ ?_ ?_
  · intro st pre k t u h tk own hk9 hlt hoff _ hp F5 N5
    obtain ⟨vs5, ns5⟩ := st
    obtain ⟨hp1, hp2, hp3⟩ := hp
    change Fr _ _ h _ at F5
    change News _ _ h ((_, lst vs5) :: own) at N5
    dsimp only at hp1 hp2 hp3
    have hk0 : 0 ≤ k := by omega
    have hk1 : k < 41 := by omega
    have hl5 : ns5.length < 41 := by omega
    clear F4 N4
    change wpAny _ _ _ _ _ _
    k_fold
    k_steps
    refine Mark.out ?_
    k_dflt (refine' draw_ok ?q3B ?q3F ?q3X ?q3N ?q3T ?q3k ?q3d ?q3u hSL hSI hSn (by omega) (by omega) ?_; (case q3B => k_asm); (case q3F => k_asm); (case q3X => k_asm); (case q3N => k_asm); (case q3T => k_asm); (case q3k => exact rfl); (case q3d => ktr_room); (case q3u => ktr_units))
    intro v3 t3 h3 tk3 F6 N6
    clear F5 N5
    k_steps
    · have hm : 0 ≤ [48, 79, 111, 73, 108, 49].getD ((v3.fdiv 4).fmod 6).toNat (0 : Int) ∧ [48, 79, 111, 73, 108, 49].getD ((v3.fdiv 4).fmod 6).toNat (0 : Int) < 256 := alike_get _
      rename Fr _ _ _ _ => F7
      rename News _ _ _ _ => N7
      generalize [48, 79, 111, 73, 108, 49].getD ((v3.fdiv 4).fmod 6).toNat (0 : Int) = m9 at hm N7
      refine Mark.out (kst_end (x := Str.ofString "k") (vs5 ++ [Value.int m9 _], ns5 ++ [m9]) F7 (lst_push N7 hp1) one_in (fun p hp => .tail _ hp) rfl trivial (fun _ h => nomatch h) ?_ ?_)
      · intro z h1 h2 h3
        have h4 : z ≠ Str.ofString "x" := by
          intro e9
          rw [e9] at h3
          simp at h3
        simp [kstB, h1, h4]
      · exact row_more hp1 hp2 hp3 hm
    · have hm : 0 ≤ (v3.fdiv 4).fmod 256 ∧ (v3.fdiv 4).fmod 256 < 256 := ⟨Int.fmod_nonneg_of_pos _ (by decide), Int.fmod_lt_of_pos _ (by decide)⟩
      rename Fr _ _ _ _ => F7
      rename News _ _ _ _ => N7
      generalize (v3.fdiv 4).fmod 256 = m9 at hm N7
      refine Mark.out (kst_end (x := Str.ofString "k") (vs5 ++ [Value.int m9 _], ns5 ++ [m9]) F7 (lst_push N7 hp1) one_in (fun p hp => .tail _ hp) rfl trivial (fun _ h => nomatch h) ?_ ?_)
      · intro z h1 h2 h3
        have h4 : z ≠ Str.ofString "x" := by
          intro e9
          rw [e9] at h3
          simp at h3
        simp [kstB, h1, h4]
      · exact row_more hp1 hp2 hp3 hm
  · intro st u h tk _ hp F5 N5
    obtain ⟨vs5, ns5⟩ := st
    obtain ⟨hp1, hp2, hp3⟩ := hp
    change Fr _ _ h _ at F5
    change News _ _ h [(_, lst vs5)] at N5
    rw [rangeKs_length] at hp2
    dsimp only at hp1 hp2 hp3
    have hl5 : ns5.length ≤ 40 := by omega
    clear F4 N4
    k_steps
    refine Mark.out ?_
    rename Fr _ _ _ _ => F6
    rename News _ _ _ _ => N6
    k_dflt (refine cut_exec F6 (Str.ofString "signs") (fun v => ∃ sb st, v = Value.bytes sb st ∧ sb.size ≤ 58) ?_ ?_)
    · k_steps
      refine Mark.out ?_
      rename Fr _ _ _ _ => F6
      rename News _ _ _ _ => N6
      k_dflt (refine KBa.make_K F6 N6 (by rfl) (News.isList N6 (.head _)) hp1 hp3 (by omega) ?_)
      intro h6 t6 tk6 F7 N7 hIn
      have hks := KBa.ints_make hp3
      have hks2 : (byteArr ns5).size ≤ 58 := by rw [← KBw.ints_length, hks]; omega
      clear F6 N6
      k_steps
      all_goals first
        | exact Mark.out ⟨by first | rfl | trivial, _, _, _, rfl, by assumption, _, _, rfl, by decide⟩
        | exact Mark.out ⟨by first | rfl | trivial, _, _, _, rfl, by assumption, _, _, rfl, hks2⟩
    clear F6 N6
    rintro _ h7 tk7 ⟨sb, st7, rfl, hsb⟩ F7 N7
    k_steps
    refine Mark.out ?_
    k_dflt (refine cut_exec F7 (Str.ofString "other") (fun v => ∃ sb st, v = Value.bytes sb st ∧ sb.size ≤ 58) ?_ ?_)
    · k_steps
      all_goals exact Mark.out ⟨by first | rfl | trivial, _, _, _, rfl, by assumption, _, _, rfl, by decide⟩
    clear F7 N7
    rintro _ h8 tk8 ⟨ob, ot8, rfl, hob⟩ F8 N8
    have hkl : (KBw.bInts sb).length ≤ 58 := by rw [KBw.ints_length]; exact hsb
    have hol : (KBw.bInts ob).length ≤ 58 := by rw [KBw.ints_length]; exact hob
    obtain ⟨ks, hks⟩ : ∃ ks, KBw.bInts sb = ks := ⟨_, rfl⟩
    obtain ⟨oks, hos⟩ : ∃ ks, KBw.bInts ob = ks := ⟨_, rfl⟩
    rw [hks] at hkl
    rw [hos] at hol
    have hkl2 : ks.length ≤ 100 := by omega
    have hol2 : oks.length ≤ 100 := by omega
    k_steps
    refine Mark.out ?_
    k_dflt (refine' last_ok ?q4B ?q4F ?q4X ?q4N ?q4T ?q4k ?q4d ?q4u hks hkl2 ?_; (case q4B => k_asm); (case q4F => k_asm); (case q4X => k_asm); (case q4N => k_asm); (case q4T => k_asm); (case q4k => exact rfl); (case q4d => ktr_room); (case q4u => ktr_units))
    intro dl ol kvl hl tkl Fl Nl ltl Sl Dl Gl
    k_steps
    refine Mark.out ?_
    k_dflt (refine' fixed_ok ?q5B ?q5F ?q5X ?q5N ?q5T ?q5k ?q5d ?q5u Sl (.head _) Dl Gl (last_len hkl) ?_; (case q5B => k_asm); (case q5F => k_asm); (case q5X => k_asm); (case q5N => k_asm); (case q5T => k_asm); (case q5k => exact rfl); (case q5d => ktr_room); (case q5u => ktr_units))
    intro df of kvf hf tkf Ff Nf ltf Sf Df Gf
    (try k_lt ltf)
    k_steps
    refine Mark.out ?_
    k_dflt (refine' map_ok ?q6B ?q6F ?q6X ?q6N ?q6T ?q6k ?q6d ?q6u hks hkl2 ?_; (case q6B => k_asm); (case q6F => k_asm); (case q6X => k_asm); (case q6N => k_asm); (case q6T => k_asm); (case q6k => exact rfl); (case q6d => ktr_room); (case q6u => ktr_units))
    intro dt ot kvt ht tkt Ft Nt ltt St Dt Gt
    (try k_lt ltt)
    k_steps
    refine Mark.out ?_
    k_dflt (refine' same_ok ?q7B ?q7F ?q7X ?q7N ?q7T ?q7k ?q7d ?q7u St (.head _) Dt Gt Sl (.tail _ (.tail _ (.head _))) Dl Gl (same_last hkl2) ?_; (case q7B => k_asm); (case q7F => k_asm); (case q7X => k_asm); (case q7N => k_asm); (case q7T => k_asm); (case q7k => exact rfl); (case q7d => ktr_room); (case q7u => ktr_units))
    intro hsa tksa Fsa Nsa
    k_steps
    refine Mark.out ?_
    k_dflt (refine' map_kw ?q8B ?q8F ?q8X ?q8N ?q8T ?q8k ?q8d ?q8u hks hkl2 ?_; (case q8B => k_asm); (case q8F => k_asm); (case q8X => k_asm); (case q8N => k_asm); (case q8T => k_asm); (case q8k => exact rfl); (case q8d => ktr_room); (case q8u => ktr_units))
    intro dm om kvm hm tkm Fm Nm ltm Sm Dm Gm
    (try k_lt ltm)
    k_steps
    refine Mark.out ?_
    k_dflt (refine' same_ok ?q9B ?q9F ?q9X ?q9N ?q9T ?q9k ?q9d ?q9u Sm (.head _) Dm Gm Sf (.tail _ (.tail _ (.head _))) Df Gf (same_fixed hkl2) ?_; (case q9B => k_asm); (case q9F => k_asm); (case q9X => k_asm); (case q9N => k_asm); (case q9T => k_asm); (case q9k => exact rfl); (case q9d => ktr_room); (case q9u => ktr_units))
    intro hsb2 tksb Fsb Nsb
    have hmc1 := mapC_len hkl2 false
    have hmc2 := mapC_len hkl2 true
    generalize hcf : mapC ks false = cf at Gt hmc1
    generalize hct : mapC ks true = ct at Gm hmc2
    k_steps
    refine Mark.out ?_
    rename Fr _ _ _ _ => F20
    rename News _ _ _ _ => N20
    have N21 : News _ _ _ [(df, of), (dl, ol)] := cb_drop N20 (fun p hp => .tail _ (.tail _ hp))
    clear N20
    k_dflt (refine' map_ok ?q10B ?q10F ?q10X ?q10N ?q10T ?q10k ?q10d ?q10u hos hol2 ?_; (case q10B => k_asm); (case q10F => k_asm); (case q10X => k_asm); (case q10N => k_asm); (case q10T => k_asm); (case q10k => exact rfl); (case q10d => ktr_room); (case q10u => ktr_units))
    intro da oa kva ha tka Fa Na lta Sa Da Ga
    (try k_lt lta)
    k_steps
    refine Mark.out ?_
    k_dflt (refine' last_ok ?q11B ?q11F ?q11X ?q11N ?q11T ?q11k ?q11d ?q11u hos hol2 ?_; (case q11B => k_asm); (case q11F => k_asm); (case q11X => k_asm); (case q11N => k_asm); (case q11T => k_asm); (case q11k => exact rfl); (case q11d => ktr_room); (case q11u => ktr_units))
    intro db ob9 kvb hb tkb Fb Nb ltb Sb Db Gb
    (try k_lt ltb)
    k_steps
    refine Mark.out ?_
    k_dflt (refine' fixed_ok ?q12B ?q12F ?q12X ?q12N ?q12T ?q12k ?q12d ?q12u Sb (.head _) Db Gb (last_len hol) ?_; (case q12B => k_asm); (case q12F => k_asm); (case q12X => k_asm); (case q12N => k_asm); (case q12T => k_asm); (case q12k => exact rfl); (case q12d => ktr_room); (case q12u => ktr_units))
    intro dc oc kvc hc9 tkc Fc Nc ltc Sc Dc Gc
    (try k_lt ltc)
    k_steps
    refine Mark.out ?_
    k_dflt (refine' same_ok ?q13B ?q13F ?q13X ?q13N ?q13T ?q13k ?q13d ?q13u Sa (.tail _ (.tail _ (.head _))) Da Ga Sc (.head _) Dc Gc (same_fixed hol2) ?_; (case q13B => k_asm); (case q13F => k_asm); (case q13X => k_asm); (case q13N => k_asm); (case q13T => k_asm); (case q13k => exact rfl); (case q13d => ktr_room); (case q13u => ktr_units))
    intro hsc tksc Fsc Nsc
    k_steps
    refine Mark.out ?_
    have N22 : News _ _ _ [(df, of), (dl, ol)] := cb_drop Nsc (fun p hp => .tail _ (.tail _ (.tail _ hp)))
    clear Nsc
    k_dflt (refine' map_kw ?q14B ?q14F ?q14X ?q14N ?q14T ?q14k ?q14d ?q14u hks hkl2 ?_; (case q14B => k_asm); (case q14F => k_asm); (case q14X => k_asm); (case q14N => k_asm); (case q14T => k_asm); (case q14k => exact rfl); (case q14d => ktr_room); (case q14u => ktr_units))
    intro dd od kvd hd9 tkd Fd Nd ltd Sd Dd Gd
    (try k_lt ltd)
    k_steps
    refine Mark.out ?_
    k_dflt (refine' same_ok ?q15B ?q15F ?q15X ?q15N ?q15T ?q15k ?q15d ?q15u Sd (.head _) Dd Gd Sl (.tail _ (.tail _ (.head _))) Dl Gl (same_last hkl2) ?_; (case q15B => k_asm); (case q15F => k_asm); (case q15X => k_asm); (case q15N => k_asm); (case q15T => k_asm); (case q15k => exact rfl); (case q15d => ktr_room); (case q15u => ktr_units))
    intro hsd tksd Fsd Nsd
    k_steps
    refine Mark.out ?_
    have N23 : News _ _ _ [(df, of), (dl, ol)] := cb_drop Nsd (fun p hp => .tail _ hp)
    clear Nsd
    k_dflt (refine' map_kw ?q16B ?q16F ?q16X ?q16N ?q16T ?q16k ?q16d ?q16u hks hkl2 ?_; (case q16B => k_asm); (case q16F => k_asm); (case q16X => k_asm); (case q16N => k_asm); (case q16T => k_asm); (case q16k => exact rfl); (case q16d => ktr_room); (case q16u => ktr_units))
    intro de oe kve he9 tke Fe Ne lte Se De Ge
    (try k_lt lte)
    k_steps
    refine Mark.out ?_
    k_dflt (refine' same_ok ?q17B ?q17F ?q17X ?q17N ?q17T ?q17k ?q17d ?q17u Se (.head _) De Ge Sf (.tail _ (.head _)) Df Gf (same_fixed hkl2) ?_; (case q17B => k_asm); (case q17F => k_asm); (case q17X => k_asm); (case q17N => k_asm); (case q17T => k_asm); (case q17k => exact rfl); (case q17d => ktr_room); (case q17u => ktr_units))
    intro hse tkse Fse Nse
    k_steps
    refine Mark.out ?_
    rename Fr _ _ _ _ => F24
    rename News _ _ _ _ => N24
    have N25 : News _ _ _ [(_, lst []), (df, of), (dl, ol)] := cb_drop N24 (fun p hp => by rcases List.mem_cons.mp hp with rfl | hp; exact .head _; exact .tail _ (.tail _ hp))
    clear N24
    with_unfolding_all refine' For_invVF F24 ?k1 ?k2 ?_
    case k1 => exact rfl
    case k2 => exact rfl
    k_steps
    refine Mark.out ?_
    k_dflt (refine' draw_ok ?q18B ?q18F ?q18X ?q18N ?q18T ?q18k ?q18d ?q18u hSL hSI hSn (by omega) (by omega) ?_; (case q18B => k_asm); (case q18F => k_asm); (case q18X => k_asm); (case q18N => k_asm); (case q18T => k_asm); (case q18k => exact rfl); (case q18d => ktr_room); (case q18u => ktr_units))
    intro v4 t4 h9 tk9 F26 N26
    k_steps
    refine Mark.out ?_
    rename IsRange _ _ _ _ _ _ _ _ => hrg2
    rename Fr _ _ _ _ => F27
    rename News _ _ _ _ => N27
    have hg0 : 0 ≤ v4.fmod 13 := Int.fmod_nonneg_of_pos _ (by decide)
    have hg1 : v4.fmod 13 < 13 := Int.fmod_lt_of_pos _ (by decide)
    generalize v4.fmod 13 = n13 at hrg2 hg0 hg1
    refine my_range (σ := List Value × List Int) (LedL3 _ df of dl ol) (fun _ => []) (fun _ => True) [Str.ofString "y"]
      (fun pre st => IntsAre st.1 st.2 ∧ st.2.length = pre.length ∧ ∀ x ∈ st.2, 0 ≤ x ∧ x < 256) ([], []) (by rfl) hrg2 (small_one (by omega) (by omega) (by omega) (by omega)) (rangeSize_nat _ _) F27 (by exact N27) trivial (fun _ h => nomatch h) ⟨.nil, rfl, fun _ h => nomatch h⟩ ?_ ?_
    · intro st pre k t u h tk own hk9 hlt hoff _ hp F5 N5
      obtain ⟨vs5, ns5⟩ := st
      obtain ⟨hp1, hp2, hp3⟩ := hp
      change Fr _ _ h _ at F5
      change News _ _ h ((_, lst vs5) :: (df, of) :: (dl, ol) :: own) at N5
      dsimp only at hp1 hp2 hp3
      have hk0 : 0 ≤ k := by omega
      have hk1 : k < 13 := by omega
      have hl5 : ns5.length < 13 := by omega
      clear F27 N27
      change wpAny _ _ _ _ _ _
      k_fold
      k_steps
      refine Mark.out ?_
      k_dflt (refine' draw_ok ?q19B ?q19F ?q19X ?q19N ?q19T ?q19k ?q19d ?q19u hSL hSI hSn (by omega) (by omega) ?_; (case q19B => k_asm); (case q19F => k_asm); (case q19X => k_asm); (case q19N => k_asm); (case q19T => k_asm); (case q19k => exact rfl); (case q19d => ktr_room); (case q19u => ktr_units))
      intro v3 t3 h3 tk3 F6 N6
      clear F5 N5
      k_steps
      · have hm : 0 ≤ [48, 79, 111, 73, 108, 49].getD ((v3.fdiv 3).fmod 6).toNat (0 : Int) ∧ [48, 79, 111, 73, 108, 49].getD ((v3.fdiv 3).fmod 6).toNat (0 : Int) < 256 := alike_get _
        rename Fr _ _ _ _ => F7
        rename News _ _ _ _ => N7
        generalize [48, 79, 111, 73, 108, 49].getD ((v3.fdiv 3).fmod 6).toNat (0 : Int) = m9 at hm N7
        refine Mark.out (kst_end (x := Str.ofString "k") (vs5 ++ [Value.int m9 _], ns5 ++ [m9]) F7 (lst_push N7 hp1) three_in three_own rfl trivial (fun _ h => nomatch h) ?_ ?_)
        · intro z h1 h2 h3
          have h4 : z ≠ Str.ofString "y" := by
            intro e9
            rw [e9] at h3
            simp at h3
          simp [kstB, h1, h4]
        · exact row_more hp1 hp2 hp3 hm
      · have hm : 0 ≤ 33 + (v3.fdiv 3).fmod 94 ∧ 33 + (v3.fdiv 3).fmod 94 < 256 := by
          have q1 : 0 ≤ (v3.fdiv 3).fmod 94 := Int.fmod_nonneg_of_pos _ (by decide)
          have q2 : (v3.fdiv 3).fmod 94 < 94 := Int.fmod_lt_of_pos _ (by decide)
          omega
        rename Fr _ _ _ _ => F7
        rename News _ _ _ _ => N7
        generalize 33 + (v3.fdiv 3).fmod 94 = m9 at hm N7
        refine Mark.out (kst_end (x := Str.ofString "k") (vs5 ++ [Value.int m9 _], ns5 ++ [m9]) F7 (lst_push N7 hp1) three_in three_own rfl trivial (fun _ h => nomatch h) ?_ ?_)
        · intro z h1 h2 h3
          have h4 : z ≠ Str.ofString "y" := by
            intro e9
            rw [e9] at h3
            simp at h3
          simp [kstB, h1, h4]
        · exact row_more hp1 hp2 hp3 hm
      · have hm : 0 ≤ 33 + (v3.fdiv 3).fmod 94 ∧ 33 + (v3.fdiv 3).fmod 94 < 256 := by
          have q1 : 0 ≤ (v3.fdiv 3).fmod 94 := Int.fmod_nonneg_of_pos _ (by decide)
          have q2 : (v3.fdiv 3).fmod 94 < 94 := Int.fmod_lt_of_pos _ (by decide)
          omega
        rename Fr _ _ _ _ => F7
        rename News _ _ _ _ => N7
        generalize 33 + (v3.fdiv 3).fmod 94 = m9 at hm N7
        refine Mark.out (kst_end (x := Str.ofString "k") (vs5 ++ [Value.int m9 _], ns5 ++ [m9]) F7 (lst_push N7 hp1) three_in three_own rfl trivial (fun _ h => nomatch h) ?_ ?_)
        · intro z h1 h2 h3
          have h4 : z ≠ Str.ofString "y" := by
            intro e9
            rw [e9] at h3
            simp at h3
          simp [kstB, h1, h4]
        · exact row_more hp1 hp2 hp3 hm
      · rename (0 ≤ ks.getD _ _) => q1
        rename (ks.getD _ _ < 256) => q2
        have hm : 0 ≤ ks.getD ((v3.fdiv 3).fmod ↑ks.length).toNat 0 ∧ ks.getD ((v3.fdiv 3).fmod ↑ks.length).toNat 0 < 256 := ⟨q1, q2⟩
        rename Fr _ _ _ _ => F7
        rename News _ _ _ _ => N7
        generalize ks.getD ((v3.fdiv 3).fmod ↑ks.length).toNat 0 = m9 at hm N7
        refine Mark.out (kst_end (x := Str.ofString "k") (vs5 ++ [Value.int m9 _], ns5 ++ [m9]) F7 (lst_push N7 hp1) three_in three_own rfl trivial (fun _ h => nomatch h) ?_ ?_)
        · intro z h1 h2 h3
          have h4 : z ≠ Str.ofString "y" := by
            intro e9
            rw [e9] at h3
            simp at h3
          simp [kstB, h1, h4]
        · exact row_more hp1 hp2 hp3 hm
    · intro st u h tk _ hp F5 N5
      obtain ⟨vs5, ns5⟩ := st
      obtain ⟨hp1, hp2, hp3⟩ := hp
      change Fr _ _ h _ at F5
      change News _ _ h [(_, lst vs5), (df, of), (dl, ol)] at N5
      rw [rangeKs_length] at hp2
      dsimp only at hp1 hp2 hp3
      have hl5 : ns5.length ≤ 12 := by omega
      clear F27 N27
      k_steps
      refine Mark.out ?_
      rename Fr _ _ _ _ => F30
      rename News _ _ _ _ => N30
      k_dflt (refine ListComp_GU F30 (by with_unfolding_all rfl) (by decide) (by rfl) (by decide) (by rfl) ?_)
      walk1
      refine ⟨_, _, _, _, _, _, _, src_list (by rfl) F30 N30 (.head _) (by rw [hp1.length, sizeLine_eq]; omega), fun g9 => ?_⟩
      refine restU_all (fun j v o => ∀ k t, v = Value.int k t → ∃ t', o = some (Value.int (unblank k) t')) (.inr ⟨_, .head _, rfl, _, rfl⟩) ?_ ?_
      · intro i v I oI C oC D m₂ h tk E' ys hP hoC hx F2 N2 off ne
        obtain ⟨k, t, hk, rfl⟩ := list_ints hp1 i v hP
        clear F30 N30
        k_steps
        refine Mark.out ?_
        k_dflt (refine in_tuple_ints (Fr.tup F2 hBt) hBi ?_)
        cases hq : [9, 10, 11, 12, 13, 32].any (· == k)
        · have hun : unblank k = k := by unfold unblank isBlank; rw [hq]; rfl
          k_steps
          refine Mark.out (StepEnd.intro (by assumption) (by assumption) (fun p hp => hp) fun k' t' e => ⟨t, ?_⟩)
          cases e
          rw [hun]
        · have hun : unblank k = 33 := by unfold unblank isBlank; rw [hq]; rfl
          k_steps
          refine Mark.out (StepEnd.intro (by assumption) (by assumption) (fun p hp => hp) fun k' t' e => by cases e; rw [hun]; exact ⟨_, rfl⟩)
      · intro ys ho D9 h tk F3 N3 o1
        have hi3 := outs_map (f := unblank) (by rw [← hp1.length]; simp) (list_ints hp1) ho
        clear F30 N30
        k_steps
        refine Mark.out ?_
        have hr31 : KBa.In (ns5.map unblank) := unblank_in hp3
        have htb : ∀ x ∈ ns5.map unblank, x ≠ 9 ∧ x ≠ 10 ∧ x ≠ 11 ∧ x ≠ 12 ∧ x ≠ 13 ∧ x ≠ 32 := unblank_not
        have htl0 : (ns5.map unblank).length ≤ 12 := by rw [List.length_map]; exact hl5
        generalize hts0 : ns5.map unblank = ts at hi3 hr31 htb htl0
        have htl : ts.length ≤ 100 := by omega
        k_dflt (refine KBa.make_K F3 N3 (by rfl) (News.isList N3 (.head _)) hi3 hr31 (by omega) ?_)
        intro h31 t31 tk31 F31 N31 _
        have hts := KBa.ints_make hr31
        generalize byteArr ts = tx at hts
        have N32 : News _ _ _ [(df, of), (dl, ol)] := cb_drop N31 (fun p hp => .tail _ (.tail _ hp))
        clear F3 N3 N31
        have hA1 : Alike (mapC ks false) (lastAt 0 ks) := alike_last ks
        have hA2 : Alike (mapC ks true) (fixC (lastAt 0 ks)) := alike_fixed ks
        have hb0 : 0 ≤ (ks.length : Int) := by omega
        have hb1 : (ks.length : Int) ≤ 100 := by omega
        have hcl1 : (lastAt 0 ks).length ≤ 200 := Nat.le_trans (last_len hkl) (by decide)
        have hcl2 : (fixC (lastAt 0 ks)).length ≤ 200 := fix_len200 hkl
        have hv1 := last_vals hkl
        have hv2 := fixed_vals hkl
        k_steps
        by_cases c1 : ∀ k ∈ ts, kdfHas (mapC ks false) k = true
        · have c1' : ∀ k ∈ ts, kdfHas (lastAt 0 ks) k = true := fun k hk => (hA1 k).1 ▸ c1 k hk
          have e1 := horn_num (b := (ks.length : Int)) hA1 c1
          by_cases c2 : ∀ k ∈ ts, kdfHas (mapC ks true) k = true
          · have c2' : ∀ k ∈ ts, kdfHas (fixC (lastAt 0 ks)) k = true := fun k hk => (hA2 k).1 ▸ c2 k hk
            have e2 := horn_num (b := (ks.length : Int)) hA2 c2
            refine Mark.out ?_
            k_dflt (refine' read_ok ?q20B ?q20F ?q20X ?q20N ?q20T ?q20k ?q20d ?q20u hts htl htb hks hkl2 ?zn1 ?_; (case q20B => k_asm); (case q20F => k_asm); (case q20X => k_asm); (case q20N => k_asm); (case q20T => k_asm); (case q20k => exact rfl); (case q20d => ktr_room); (case q20u => ktr_units); (case zn1 => exact fun hx => absurd hx (no_miss c1)))
            intro _ tg1 hg1 tkg1 Fg1 Ng1
            k_steps
            refine Mark.out ?_
            k_dflt (refine' reading_ok ?q21B ?q21F ?q21X ?q21N ?q21T ?q21k ?q21d ?q21u hts htl Sl ?zm1 Dl Gl hcl1 hv1 hb0 hb1 ?zo1 ?_; (case q21B => k_asm); (case q21F => k_asm); (case q21X => k_asm); (case q21N => k_asm); (case q21T => k_asm); (case q21k => exact rfl); (case q21d => ktr_room); (case q21u => ktr_units); (case zm1 => k_mem); (case zo1 => exact fun hx => absurd hx (no_miss c1')))
            intro _ tr1 hr1 tkr1 Fr1 Nr1
            rw [← e1]
            k_steps
            refine Mark.out ?_
            k_dflt (refine' read_ok ?q22B ?q22F ?q22X ?q22N ?q22T ?q22k ?q22d ?q22u hts htl htb hks hkl2 ?zn2 ?_; (case q22B => k_asm); (case q22F => k_asm); (case q22X => k_asm); (case q22N => k_asm); (case q22T => k_asm); (case q22k => exact rfl); (case q22d => ktr_room); (case q22u => ktr_units); (case zn2 => exact fun hx => absurd hx (no_miss c2)))
            intro _ tg2 hg2 tkg2 Fg2 Ng2
            k_steps
            refine Mark.out ?_
            k_dflt (refine' reading_ok ?q23B ?q23F ?q23X ?q23N ?q23T ?q23k ?q23d ?q23u hts htl Sf ?zm2 Df Gf hcl2 hv2 hb0 hb1 ?zo2 ?_; (case q23B => k_asm); (case q23F => k_asm); (case q23X => k_asm); (case q23N => k_asm); (case q23T => k_asm); (case q23k => exact rfl); (case q23d => ktr_room); (case q23u => ktr_units); (case zm2 => k_mem); (case zo2 => exact fun hx => absurd hx (no_miss c2')))
            intro _ tr2 hr2 tkr2 Fr2 Nr2
            rw [← e2]
            k_steps
            refine Mark.out ?_
            k_dflt (refine' read_ok ?q24B ?q24F ?q24X ?q24N ?q24T ?q24k ?q24d ?q24u hts htl htb hks hkl2 ?zn3 ?_; (case q24B => k_asm); (case q24F => k_asm); (case q24X => k_asm); (case q24N => k_asm); (case q24T => k_asm); (case q24k => exact rfl); (case q24d => ktr_room); (case q24u => ktr_units); (case zn3 => exact fun hx => absurd hx (no_miss c1)))
            intro _ tg3 hg3 tkg3 Fg3 Ng3
            k_steps
            refine Mark.out ?_
            k_dflt (refine' reading_ok ?q25B ?q25F ?q25X ?q25N ?q25T ?q25k ?q25d ?q25u hts htl Sl ?zm3 Dl Gl hcl1 hv1 hb0 hb1 ?zo3 ?_; (case q25B => k_asm); (case q25F => k_asm); (case q25X => k_asm); (case q25N => k_asm); (case q25T => k_asm); (case q25k => exact rfl); (case q25d => ktr_room); (case q25u => ktr_units); (case zm3 => k_mem); (case zo3 => exact fun hx => absurd hx (no_miss c1')))
            intro _ tr3 hr3 tkr3 Fr3 Nr3
            rw [← e1]
            k_steps
            refine Mark.out ?_
            rename Fr _ _ _ _ => F40
            rename News _ _ _ _ => N40
            k_dflt (refine ListComp_GT F40 (by with_unfolding_all rfl) (by decide) (by rfl) (by decide) (by rfl) ?_)
            walk1
            have hbs : sb.size = ks.length := by rw [← hks, KBw.ints_length]
            refine ⟨_, _, _, _, _, _, _, src_bytes (by rfl) F40 N40 (by rw [hbs, sizeLine_eq]; omega), fun g9 => ?_⟩
            refine restT_all (fun _ v o => ∀ k t, v = Value.int k t → ((!isBlank k) = true ∧ o = some v) ∨ ((!isBlank k) = false ∧ o = none)) trivial ?_ ?_
            · intro i v I oI C oC D m₂ h tk E' ys hP hoC hx F2 N2 off ne
              obtain ⟨k, t, hk, rfl⟩ := bytes_ints hks i v hP
              clear F40 N40
              k_steps
              refine Mark.out ?_
              k_dflt (refine notin_tuple_ints (Fr.tup F2 hBt) hBi ?_)
              cases hq : [9, 10, 11, 12, 13, 32].any (· == k)
              · k_steps
                refine Mark.out (StepEnd.intro (by assumption) (by assumption) (fun p hp => hp) fun k' t' e => .inl ⟨by cases e; unfold isBlank; rw [hq]; rfl, rfl⟩)
              · k_steps
                refine Mark.out (StepEnd.intro (by assumption) (by assumption) (fun p hp => hp) fun k' t' e => .inr ⟨by cases e; unfold isBlank; rw [hq]; rfl, rfl⟩)
            · intro ys ho D9 h tk F3 N3 o1
              have hi4 := outs_filter (q := fun k => !isBlank k) hbs.symm (bytes_ints hks) ho
              clear F40 N40
              k_steps
              refine Mark.out ?_
              have hr41 : KBa.In (ks.filter fun k => !isBlank k) := fun n hn => by
                have := (List.mem_filter.mp hn).1
                rw [← hks] at this
                exact KBw.ints_in this
              have hlb : ∀ x ∈ ks.filter (fun k => !isBlank k), x ≠ 9 ∧ x ≠ 10 ∧ x ≠ 11 ∧ x ≠ 12 ∧ x ≠ 13 ∧ x ≠ 32 := filter_not
              have hll : (ks.filter fun k => !isBlank k).length ≤ 58 := Nat.le_trans (List.length_filter_le _ _) hkl
              have hla : ∀ k ∈ ks.filter (fun k => !isBlank k), kdfHas (mapC ks false) k = true := fun k hk => mem_last (List.mem_filter.mp hk).1
              generalize ks.filter (fun k => !isBlank k) = ls at hi4 hr41 hlb hll hla
              have hla' : ∀ k ∈ ls, kdfHas (lastAt 0 ks) k = true := fun k hk => (hA1 k).1 ▸ hla k hk
              have hll2 : ls.length ≤ 100 := by omega
              have e4 := horn_num (b := (ks.length : Int)) hA1 hla
              k_dflt (refine KBa.make_K F3 N3 (by rfl) (News.isList N3 (.head _)) hi4 hr41 (by omega) ?_)
              intro h41 t41 tk41 F41 N41 _
              have hl41 := KBa.ints_make hr41
              generalize byteArr ls = lx at hl41
              clear F3 N3
              k_steps
              refine Mark.out ?_
              k_dflt (refine' dec_pos ?q26B ?q26F ?q26X ?q26N ?q26T ?q26k ?q26d ?q26u hl41 hll2 hla hlb hks hkl2 ?_; (case q26B => k_asm); (case q26F => k_asm); (case q26X => k_asm); (case q26N => k_asm); (case q26T => k_asm); (case q26k => exact rfl); (case q26d => ktr_room); (case q26u => ktr_units))
              intro t42 h42 tk42 F42 N42
              k_steps
              refine Mark.out ?_
              k_dflt (refine' reading_ok ?q27B ?q27F ?q27X ?q27N ?q27T ?q27k ?q27d ?q27u hl41 hll2 Sl ?zm4 Dl Gl hcl1 hv1 hb0 hb1 ?zo4 ?_; (case q27B => k_asm); (case q27F => k_asm); (case q27X => k_asm); (case q27N => k_asm); (case q27T => k_asm); (case q27k => exact rfl); (case q27d => ktr_room); (case q27u => ktr_units); (case zm4 => k_mem); (case zo4 => exact fun hx => absurd hx (no_miss hla')))
              intro _ t43 h43 tk43 F43 N43
              rw [← e4]
              k_steps
          · have c2' : ¬ ∀ k ∈ ts, kdfHas (fixC (lastAt 0 ks)) k = true := fun hx => c2 fun k hk => (hA2 k).1 ▸ hx k hk
            refine Mark.out ?_
            k_dflt (refine' read_ok ?q28B ?q28F ?q28X ?q28N ?q28T ?q28k ?q28d ?q28u hts htl htb hks hkl2 ?zn1 ?_; (case q28B => k_asm); (case q28F => k_asm); (case q28X => k_asm); (case q28N => k_asm); (case q28T => k_asm); (case q28k => exact rfl); (case q28d => ktr_room); (case q28u => ktr_units); (case zn1 => exact fun hx => absurd hx (no_miss c1)))
            intro _ tg1 hg1 tkg1 Fg1 Ng1
            k_steps
            refine Mark.out ?_
            k_dflt (refine' reading_ok ?q29B ?q29F ?q29X ?q29N ?q29T ?q29k ?q29d ?q29u hts htl Sl ?zm1 Dl Gl hcl1 hv1 hb0 hb1 ?zo1 ?_; (case q29B => k_asm); (case q29F => k_asm); (case q29X => k_asm); (case q29N => k_asm); (case q29T => k_asm); (case q29k => exact rfl); (case q29d => ktr_room); (case q29u => ktr_units); (case zm1 => k_mem); (case zo1 => exact fun hx => absurd hx (no_miss c1')))
            intro _ tr1 hr1 tkr1 Fr1 Nr1
            rw [← e1]
            k_steps
            refine Mark.out ?_
            k_dflt (refine' read_ok ?q30B ?q30F ?q30X ?q30N ?q30T ?q30k ?q30d ?q30u hts htl htb hks hkl2 ?_ ?_; (case q30B => k_asm); (case q30F => k_asm); (case q30X => k_asm); (case q30N => k_asm); (case q30T => k_asm); (case q30k => exact rfl); (case q30d => ktr_room); (case q30u => ktr_units))
            rotate_left
            · exact fun hx => absurd hx c2
            intro _ tg2 hg2 tkg2 Fg2 Ng2
            k_steps
            refine Mark.out ?_
            k_dflt (refine' reading_ok ?q31B ?q31F ?q31X ?q31N ?q31T ?q31k ?q31d ?q31u hts htl Sf ?zm2 Df Gf hcl2 hv2 hb0 hb1 ?_ ?_; (case q31B => k_asm); (case q31F => k_asm); (case q31X => k_asm); (case q31N => k_asm); (case q31T => k_asm); (case q31k => exact rfl); (case q31d => ktr_room); (case q31u => ktr_units); (case zm2 => k_mem))
            rotate_left
            · exact fun hx => absurd hx c2'
            intro _ tr2 hr2 tkr2 Fr2 Nr2
            k_steps
            refine Mark.out ?_
            k_dflt (refine' read_ok ?q32B ?q32F ?q32X ?q32N ?q32T ?q32k ?q32d ?q32u hts htl htb hks hkl2 ?zn3 ?_; (case q32B => k_asm); (case q32F => k_asm); (case q32X => k_asm); (case q32N => k_asm); (case q32T => k_asm); (case q32k => exact rfl); (case q32d => ktr_room); (case q32u => ktr_units); (case zn3 => exact fun hx => absurd hx (no_miss c1)))
            intro _ tg3 hg3 tkg3 Fg3 Ng3
            k_steps
            refine Mark.out ?_
            k_dflt (refine' reading_ok ?q33B ?q33F ?q33X ?q33N ?q33T ?q33k ?q33d ?q33u hts htl Sl ?zm3 Dl Gl hcl1 hv1 hb0 hb1 ?zo3 ?_; (case q33B => k_asm); (case q33F => k_asm); (case q33X => k_asm); (case q33N => k_asm); (case q33T => k_asm); (case q33k => exact rfl); (case q33d => ktr_room); (case q33u => ktr_units); (case zm3 => k_mem); (case zo3 => exact fun hx => absurd hx (no_miss c1')))
            intro _ tr3 hr3 tkr3 Fr3 Nr3
            rw [← e1]
            k_steps
            refine Mark.out ?_
            rename Fr _ _ _ _ => F40
            rename News _ _ _ _ => N40
            k_dflt (refine ListComp_GT F40 (by with_unfolding_all rfl) (by decide) (by rfl) (by decide) (by rfl) ?_)
            walk1
            have hbs : sb.size = ks.length := by rw [← hks, KBw.ints_length]
            refine ⟨_, _, _, _, _, _, _, src_bytes (by rfl) F40 N40 (by rw [hbs, sizeLine_eq]; omega), fun g9 => ?_⟩
            refine restT_all (fun _ v o => ∀ k t, v = Value.int k t → ((!isBlank k) = true ∧ o = some v) ∨ ((!isBlank k) = false ∧ o = none)) trivial ?_ ?_
            · intro i v I oI C oC D m₂ h tk E' ys hP hoC hx F2 N2 off ne
              obtain ⟨k, t, hk, rfl⟩ := bytes_ints hks i v hP
              clear F40 N40
              k_steps
              refine Mark.out ?_
              k_dflt (refine notin_tuple_ints (Fr.tup F2 hBt) hBi ?_)
              cases hq : [9, 10, 11, 12, 13, 32].any (· == k)
              · k_steps
                refine Mark.out (StepEnd.intro (by assumption) (by assumption) (fun p hp => hp) fun k' t' e => .inl ⟨by cases e; unfold isBlank; rw [hq]; rfl, rfl⟩)
              · k_steps
                refine Mark.out (StepEnd.intro (by assumption) (by assumption) (fun p hp => hp) fun k' t' e => .inr ⟨by cases e; unfold isBlank; rw [hq]; rfl, rfl⟩)
            · intro ys ho D9 h tk F3 N3 o1
              have hi4 := outs_filter (q := fun k => !isBlank k) hbs.symm (bytes_ints hks) ho
              clear F40 N40
              k_steps
              refine Mark.out ?_
              have hr41 : KBa.In (ks.filter fun k => !isBlank k) := fun n hn => by
                have := (List.mem_filter.mp hn).1
                rw [← hks] at this
                exact KBw.ints_in this
              have hlb : ∀ x ∈ ks.filter (fun k => !isBlank k), x ≠ 9 ∧ x ≠ 10 ∧ x ≠ 11 ∧ x ≠ 12 ∧ x ≠ 13 ∧ x ≠ 32 := filter_not
              have hll : (ks.filter fun k => !isBlank k).length ≤ 58 := Nat.le_trans (List.length_filter_le _ _) hkl
              have hla : ∀ k ∈ ks.filter (fun k => !isBlank k), kdfHas (mapC ks false) k = true := fun k hk => mem_last (List.mem_filter.mp hk).1
              generalize ks.filter (fun k => !isBlank k) = ls at hi4 hr41 hlb hll hla
              have hla' : ∀ k ∈ ls, kdfHas (lastAt 0 ks) k = true := fun k hk => (hA1 k).1 ▸ hla k hk
              have hll2 : ls.length ≤ 100 := by omega
              have e4 := horn_num (b := (ks.length : Int)) hA1 hla
              k_dflt (refine KBa.make_K F3 N3 (by rfl) (News.isList N3 (.head _)) hi4 hr41 (by omega) ?_)
              intro h41 t41 tk41 F41 N41 _
              have hl41 := KBa.ints_make hr41
              generalize byteArr ls = lx at hl41
              clear F3 N3
              k_steps
              refine Mark.out ?_
              k_dflt (refine' dec_pos ?q34B ?q34F ?q34X ?q34N ?q34T ?q34k ?q34d ?q34u hl41 hll2 hla hlb hks hkl2 ?_; (case q34B => k_asm); (case q34F => k_asm); (case q34X => k_asm); (case q34N => k_asm); (case q34T => k_asm); (case q34k => exact rfl); (case q34d => ktr_room); (case q34u => ktr_units))
              intro t42 h42 tk42 F42 N42
              k_steps
              refine Mark.out ?_
              k_dflt (refine' reading_ok ?q35B ?q35F ?q35X ?q35N ?q35T ?q35k ?q35d ?q35u hl41 hll2 Sl ?zm4 Dl Gl hcl1 hv1 hb0 hb1 ?zo4 ?_; (case q35B => k_asm); (case q35F => k_asm); (case q35X => k_asm); (case q35N => k_asm); (case q35T => k_asm); (case q35k => exact rfl); (case q35d => ktr_room); (case q35u => ktr_units); (case zm4 => k_mem); (case zo4 => exact fun hx => absurd hx (no_miss hla')))
              intro _ t43 h43 tk43 F43 N43
              rw [← e4]
              k_steps
        · have c1' : ¬ ∀ k ∈ ts, kdfHas (lastAt 0 ks) k = true := fun hx => c1 fun k hk => (hA1 k).1 ▸ hx k hk
          by_cases c2 : ∀ k ∈ ts, kdfHas (mapC ks true) k = true
          · have c2' : ∀ k ∈ ts, kdfHas (fixC (lastAt 0 ks)) k = true := fun k hk => (hA2 k).1 ▸ c2 k hk
            have e2 := horn_num (b := (ks.length : Int)) hA2 c2
            refine Mark.out ?_
            k_dflt (refine' read_ok ?q36B ?q36F ?q36X ?q36N ?q36T ?q36k ?q36d ?q36u hts htl htb hks hkl2 ?_ ?_; (case q36B => k_asm); (case q36F => k_asm); (case q36X => k_asm); (case q36N => k_asm); (case q36T => k_asm); (case q36k => exact rfl); (case q36d => ktr_room); (case q36u => ktr_units))
            rotate_left
            · exact fun hx => absurd hx c1
            intro _ tg1 hg1 tkg1 Fg1 Ng1
            k_steps
            refine Mark.out ?_
            k_dflt (refine' reading_ok ?q37B ?q37F ?q37X ?q37N ?q37T ?q37k ?q37d ?q37u hts htl Sl ?zm1 Dl Gl hcl1 hv1 hb0 hb1 ?_ ?_; (case q37B => k_asm); (case q37F => k_asm); (case q37X => k_asm); (case q37N => k_asm); (case q37T => k_asm); (case q37k => exact rfl); (case q37d => ktr_room); (case q37u => ktr_units); (case zm1 => k_mem))
            rotate_left
            · exact fun hx => absurd hx c1'
            intro _ tr1 hr1 tkr1 Fr1 Nr1
            k_steps
            refine Mark.out ?_
            k_dflt (refine' read_ok ?q38B ?q38F ?q38X ?q38N ?q38T ?q38k ?q38d ?q38u hts htl htb hks hkl2 ?zn2 ?_; (case q38B => k_asm); (case q38F => k_asm); (case q38X => k_asm); (case q38N => k_asm); (case q38T => k_asm); (case q38k => exact rfl); (case q38d => ktr_room); (case q38u => ktr_units); (case zn2 => exact fun hx => absurd hx (no_miss c2)))
            intro _ tg2 hg2 tkg2 Fg2 Ng2
            k_steps
            refine Mark.out ?_
            k_dflt (refine' reading_ok ?q39B ?q39F ?q39X ?q39N ?q39T ?q39k ?q39d ?q39u hts htl Sf ?zm2 Df Gf hcl2 hv2 hb0 hb1 ?zo2 ?_; (case q39B => k_asm); (case q39F => k_asm); (case q39X => k_asm); (case q39N => k_asm); (case q39T => k_asm); (case q39k => exact rfl); (case q39d => ktr_room); (case q39u => ktr_units); (case zm2 => k_mem); (case zo2 => exact fun hx => absurd hx (no_miss c2')))
            intro _ tr2 hr2 tkr2 Fr2 Nr2
            rw [← e2]
            k_steps
            refine Mark.out ?_
            k_dflt (refine' read_ok ?q40B ?q40F ?q40X ?q40N ?q40T ?q40k ?q40d ?q40u hts htl htb hks hkl2 ?_ ?_; (case q40B => k_asm); (case q40F => k_asm); (case q40X => k_asm); (case q40N => k_asm); (case q40T => k_asm); (case q40k => exact rfl); (case q40d => ktr_room); (case q40u => ktr_units))
            rotate_left
            · exact fun hx => absurd hx c1
            intro _ tg3 hg3 tkg3 Fg3 Ng3
            k_steps
            refine Mark.out ?_
            k_dflt (refine' reading_ok ?q41B ?q41F ?q41X ?q41N ?q41T ?q41k ?q41d ?q41u hts htl Sl ?zm3 Dl Gl hcl1 hv1 hb0 hb1 ?_ ?_; (case q41B => k_asm); (case q41F => k_asm); (case q41X => k_asm); (case q41N => k_asm); (case q41T => k_asm); (case q41k => exact rfl); (case q41d => ktr_room); (case q41u => ktr_units); (case zm3 => k_mem))
            rotate_left
            · exact fun hx => absurd hx c1'
            intro _ tr3 hr3 tkr3 Fr3 Nr3
            k_steps
            refine Mark.out ?_
            rename Fr _ _ _ _ => F40
            rename News _ _ _ _ => N40
            k_dflt (refine ListComp_GT F40 (by with_unfolding_all rfl) (by decide) (by rfl) (by decide) (by rfl) ?_)
            walk1
            have hbs : sb.size = ks.length := by rw [← hks, KBw.ints_length]
            refine ⟨_, _, _, _, _, _, _, src_bytes (by rfl) F40 N40 (by rw [hbs, sizeLine_eq]; omega), fun g9 => ?_⟩
            refine restT_all (fun _ v o => ∀ k t, v = Value.int k t → ((!isBlank k) = true ∧ o = some v) ∨ ((!isBlank k) = false ∧ o = none)) trivial ?_ ?_
            · intro i v I oI C oC D m₂ h tk E' ys hP hoC hx F2 N2 off ne
              obtain ⟨k, t, hk, rfl⟩ := bytes_ints hks i v hP
              clear F40 N40
              k_steps
              refine Mark.out ?_
              k_dflt (refine notin_tuple_ints (Fr.tup F2 hBt) hBi ?_)
              cases hq : [9, 10, 11, 12, 13, 32].any (· == k)
              · k_steps
                refine Mark.out (StepEnd.intro (by assumption) (by assumption) (fun p hp => hp) fun k' t' e => .inl ⟨by cases e; unfold isBlank; rw [hq]; rfl, rfl⟩)
              · k_steps
                refine Mark.out (StepEnd.intro (by assumption) (by assumption) (fun p hp => hp) fun k' t' e => .inr ⟨by cases e; unfold isBlank; rw [hq]; rfl, rfl⟩)
            · intro ys ho D9 h tk F3 N3 o1
              have hi4 := outs_filter (q := fun k => !isBlank k) hbs.symm (bytes_ints hks) ho
              clear F40 N40
              k_steps
              refine Mark.out ?_
              have hr41 : KBa.In (ks.filter fun k => !isBlank k) := fun n hn => by
                have := (List.mem_filter.mp hn).1
                rw [← hks] at this
                exact KBw.ints_in this
              have hlb : ∀ x ∈ ks.filter (fun k => !isBlank k), x ≠ 9 ∧ x ≠ 10 ∧ x ≠ 11 ∧ x ≠ 12 ∧ x ≠ 13 ∧ x ≠ 32 := filter_not
              have hll : (ks.filter fun k => !isBlank k).length ≤ 58 := Nat.le_trans (List.length_filter_le _ _) hkl
              have hla : ∀ k ∈ ks.filter (fun k => !isBlank k), kdfHas (mapC ks false) k = true := fun k hk => mem_last (List.mem_filter.mp hk).1
              generalize ks.filter (fun k => !isBlank k) = ls at hi4 hr41 hlb hll hla
              have hla' : ∀ k ∈ ls, kdfHas (lastAt 0 ks) k = true := fun k hk => (hA1 k).1 ▸ hla k hk
              have hll2 : ls.length ≤ 100 := by omega
              have e4 := horn_num (b := (ks.length : Int)) hA1 hla
              k_dflt (refine KBa.make_K F3 N3 (by rfl) (News.isList N3 (.head _)) hi4 hr41 (by omega) ?_)
              intro h41 t41 tk41 F41 N41 _
              have hl41 := KBa.ints_make hr41
              generalize byteArr ls = lx at hl41
              clear F3 N3
              k_steps
              refine Mark.out ?_
              k_dflt (refine' dec_pos ?q42B ?q42F ?q42X ?q42N ?q42T ?q42k ?q42d ?q42u hl41 hll2 hla hlb hks hkl2 ?_; (case q42B => k_asm); (case q42F => k_asm); (case q42X => k_asm); (case q42N => k_asm); (case q42T => k_asm); (case q42k => exact rfl); (case q42d => ktr_room); (case q42u => ktr_units))
              intro t42 h42 tk42 F42 N42
              k_steps
              refine Mark.out ?_
              k_dflt (refine' reading_ok ?q43B ?q43F ?q43X ?q43N ?q43T ?q43k ?q43d ?q43u hl41 hll2 Sl ?zm4 Dl Gl hcl1 hv1 hb0 hb1 ?zo4 ?_; (case q43B => k_asm); (case q43F => k_asm); (case q43X => k_asm); (case q43N => k_asm); (case q43T => k_asm); (case q43k => exact rfl); (case q43d => ktr_room); (case q43u => ktr_units); (case zm4 => k_mem); (case zo4 => exact fun hx => absurd hx (no_miss hla')))
              intro _ t43 h43 tk43 F43 N43
              rw [← e4]
              k_steps
          · have c2' : ¬ ∀ k ∈ ts, kdfHas (fixC (lastAt 0 ks)) k = true := fun hx => c2 fun k hk => (hA2 k).1 ▸ hx k hk
            refine Mark.out ?_
            k_dflt (refine' read_ok ?q44B ?q44F ?q44X ?q44N ?q44T ?q44k ?q44d ?q44u hts htl htb hks hkl2 ?_ ?_; (case q44B => k_asm); (case q44F => k_asm); (case q44X => k_asm); (case q44N => k_asm); (case q44T => k_asm); (case q44k => exact rfl); (case q44d => ktr_room); (case q44u => ktr_units))
            rotate_left
            · exact fun hx => absurd hx c1
            intro _ tg1 hg1 tkg1 Fg1 Ng1
            k_steps
            refine Mark.out ?_
            k_dflt (refine' reading_ok ?q45B ?q45F ?q45X ?q45N ?q45T ?q45k ?q45d ?q45u hts htl Sl ?zm1 Dl Gl hcl1 hv1 hb0 hb1 ?_ ?_; (case q45B => k_asm); (case q45F => k_asm); (case q45X => k_asm); (case q45N => k_asm); (case q45T => k_asm); (case q45k => exact rfl); (case q45d => ktr_room); (case q45u => ktr_units); (case zm1 => k_mem))
            rotate_left
            · exact fun hx => absurd hx c1'
            intro _ tr1 hr1 tkr1 Fr1 Nr1
            k_steps
            refine Mark.out ?_
            k_dflt (refine' read_ok ?q46B ?q46F ?q46X ?q46N ?q46T ?q46k ?q46d ?q46u hts htl htb hks hkl2 ?_ ?_; (case q46B => k_asm); (case q46F => k_asm); (case q46X => k_asm); (case q46N => k_asm); (case q46T => k_asm); (case q46k => exact rfl); (case q46d => ktr_room); (case q46u => ktr_units))
            rotate_left
            · exact fun hx => absurd hx c2
            intro _ tg2 hg2 tkg2 Fg2 Ng2
            k_steps
            refine Mark.out ?_
            k_dflt (refine' reading_ok ?q47B ?q47F ?q47X ?q47N ?q47T ?q47k ?q47d ?q47u hts htl Sf ?zm2 Df Gf hcl2 hv2 hb0 hb1 ?_ ?_; (case q47B => k_asm); (case q47F => k_asm); (case q47X => k_asm); (case q47N => k_asm); (case q47T => k_asm); (case q47k => exact rfl); (case q47d => ktr_room); (case q47u => ktr_units); (case zm2 => k_mem))
            rotate_left
            · exact fun hx => absurd hx c2'
            intro _ tr2 hr2 tkr2 Fr2 Nr2
            k_steps
            refine Mark.out ?_
            k_dflt (refine' read_ok ?q48B ?q48F ?q48X ?q48N ?q48T ?q48k ?q48d ?q48u hts htl htb hks hkl2 ?_ ?_; (case q48B => k_asm); (case q48F => k_asm); (case q48X => k_asm); (case q48N => k_asm); (case q48T => k_asm); (case q48k => exact rfl); (case q48d => ktr_room); (case q48u => ktr_units))
            rotate_left
            · exact fun hx => absurd hx c1
            intro _ tg3 hg3 tkg3 Fg3 Ng3
            k_steps
            refine Mark.out ?_
            k_dflt (refine' reading_ok ?q49B ?q49F ?q49X ?q49N ?q49T ?q49k ?q49d ?q49u hts htl Sl ?zm3 Dl Gl hcl1 hv1 hb0 hb1 ?_ ?_; (case q49B => k_asm); (case q49F => k_asm); (case q49X => k_asm); (case q49N => k_asm); (case q49T => k_asm); (case q49k => exact rfl); (case q49d => ktr_room); (case q49u => ktr_units); (case zm3 => k_mem))
            rotate_left
            · exact fun hx => absurd hx c1'
            intro _ tr3 hr3 tkr3 Fr3 Nr3
            k_steps
            refine Mark.out ?_
            rename Fr _ _ _ _ => F40
            rename News _ _ _ _ => N40
            k_dflt (refine ListComp_GT F40 (by with_unfolding_all rfl) (by decide) (by rfl) (by decide) (by rfl) ?_)
            walk1
            have hbs : sb.size = ks.length := by rw [← hks, KBw.ints_length]
            refine ⟨_, _, _, _, _, _, _, src_bytes (by rfl) F40 N40 (by rw [hbs, sizeLine_eq]; omega), fun g9 => ?_⟩
            refine restT_all (fun _ v o => ∀ k t, v = Value.int k t → ((!isBlank k) = true ∧ o = some v) ∨ ((!isBlank k) = false ∧ o = none)) trivial ?_ ?_
            · intro i v I oI C oC D m₂ h tk E' ys hP hoC hx F2 N2 off ne
              obtain ⟨k, t, hk, rfl⟩ := bytes_ints hks i v hP
              clear F40 N40
              k_steps
              refine Mark.out ?_
              k_dflt (refine notin_tuple_ints (Fr.tup F2 hBt) hBi ?_)
              cases hq : [9, 10, 11, 12, 13, 32].any (· == k)
              · k_steps
                refine Mark.out (StepEnd.intro (by assumption) (by assumption) (fun p hp => hp) fun k' t' e => .inl ⟨by cases e; unfold isBlank; rw [hq]; rfl, rfl⟩)
              · k_steps
                refine Mark.out (StepEnd.intro (by assumption) (by assumption) (fun p hp => hp) fun k' t' e => .inr ⟨by cases e; unfold isBlank; rw [hq]; rfl, rfl⟩)
            · intro ys ho D9 h tk F3 N3 o1
              have hi4 := outs_filter (q := fun k => !isBlank k) hbs.symm (bytes_ints hks) ho
              clear F40 N40
              k_steps
              refine Mark.out ?_
              have hr41 : KBa.In (ks.filter fun k => !isBlank k) := fun n hn => by
                have := (List.mem_filter.mp hn).1
                rw [← hks] at this
                exact KBw.ints_in this
              have hlb : ∀ x ∈ ks.filter (fun k => !isBlank k), x ≠ 9 ∧ x ≠ 10 ∧ x ≠ 11 ∧ x ≠ 12 ∧ x ≠ 13 ∧ x ≠ 32 := filter_not
              have hll : (ks.filter fun k => !isBlank k).length ≤ 58 := Nat.le_trans (List.length_filter_le _ _) hkl
              have hla : ∀ k ∈ ks.filter (fun k => !isBlank k), kdfHas (mapC ks false) k = true := fun k hk => mem_last (List.mem_filter.mp hk).1
              generalize ks.filter (fun k => !isBlank k) = ls at hi4 hr41 hlb hll hla
              have hla' : ∀ k ∈ ls, kdfHas (lastAt 0 ks) k = true := fun k hk => (hA1 k).1 ▸ hla k hk
              have hll2 : ls.length ≤ 100 := by omega
              have e4 := horn_num (b := (ks.length : Int)) hA1 hla
              k_dflt (refine KBa.make_K F3 N3 (by rfl) (News.isList N3 (.head _)) hi4 hr41 (by omega) ?_)
              intro h41 t41 tk41 F41 N41 _
              have hl41 := KBa.ints_make hr41
              generalize byteArr ls = lx at hl41
              clear F3 N3
              k_steps
              refine Mark.out ?_
              k_dflt (refine' dec_pos ?q50B ?q50F ?q50X ?q50N ?q50T ?q50k ?q50d ?q50u hl41 hll2 hla hlb hks hkl2 ?_; (case q50B => k_asm); (case q50F => k_asm); (case q50X => k_asm); (case q50N => k_asm); (case q50T => k_asm); (case q50k => exact rfl); (case q50d => ktr_room); (case q50u => ktr_units))
              intro t42 h42 tk42 F42 N42
              k_steps
              refine Mark.out ?_
              k_dflt (refine' reading_ok ?q51B ?q51F ?q51X ?q51N ?q51T ?q51k ?q51d ?q51u hl41 hll2 Sl ?zm4 Dl Gl hcl1 hv1 hb0 hb1 ?zo4 ?_; (case q51B => k_asm); (case q51F => k_asm); (case q51X => k_asm); (case q51N => k_asm); (case q51T => k_asm); (case q51k => exact rfl); (case q51d => ktr_room); (case q51u => ktr_units); (case zm4 => k_mem); (case zo4 => exact fun hx => absurd hx (no_miss hla')))
              intro _ t43 h43 tk43 F43 N43
              rw [← e4]
              k_steps
end
end B58
end
set_option maxRecDepth 100000 in
set_option maxHeartbeats 8000000 in
theorem PySem.Challenge.cw_eg5001_01_holds : PySem.Challenge.rw_eg5001_01.Holds := by
  exact B58.law_holds
