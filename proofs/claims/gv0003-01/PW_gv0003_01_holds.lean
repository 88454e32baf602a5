import PyProof.Rows.All
import Wide.All
import OpenK.AllK
import Wide.FinOn
import PySem.Challenge.RW_gv0003_01
set_option Elab.async false
namespace Mine
section
open PySem PySem.W PyProof.Rows
set_option maxRecDepth 100000 in
set_option maxHeartbeats 8000000 in
open_top hd for PySem.Challenge.rw_gv0003_01
end
section
open PySem PySem.W PyProof.Rows
abbrev tupO (l : List Value) : Obj := { cls := .type "tuple", data := .seq l.toArray }

theorem newsLt {h₀ h : Heap} {L : Addr} {news : List (Addr × Obj)} (N : News h₀ L h news) : ∀ q ∈ news, q.1 < h.objs.size := fun q hq => Heap.lt_size (N q hq).1
end
section
open PySem PySem.W PyProof.Rows PySem.Calls
set_option maxRecDepth 100000

/-- the statics at h₀ stand in h; the ledger tb (what the callee may change) stands, off h₀ -/
structure St (h₀ h : Heap) (tb : List (Addr × Obj)) : Prop where
  keep : ∀ b o, h₀.get? b = some o → h.get? b = some o
  tab : ∀ p ∈ tb, h.get? p.1 = some p.2 ∧ h₀.get? p.1 = none

theorem St.of {h₀ h : Heap} {L : Addr} {m : Str → Option Value} {news tb : List (Addr × Obj)} (F : Fr h₀ L h m) (N : News h₀ L h news) (hs : ∀ p ∈ tb, p ∈ news) : St h₀ h tb :=
  ⟨F.keep, fun p hp => ⟨(N p (hs p hp)).1, (N p (hs p hp)).2.2⟩⟩

structure Post (h h' : Heap) (tb new : List (Addr × Obj)) : Prop where
  keep : ∀ b o, b ∉ tb.map (·.1) → h.get? b = some o → h'.get? b = some o
  holds : ∀ p ∈ new, h'.get? p.1 = some p.2
  fresh : ∀ p ∈ new, p.1 ∈ tb.map (·.1) ∨ h.get? p.1 = none

/-- two ledgers share no address -/
def Off (l r : List (Addr × Obj)) : Prop := ∀ p ∈ l, ∀ q ∈ r, p.1 ≠ q.1
theorem Off.symm {l r : List (Addr × Obj)} (h : Off l r) : Off r l := fun p hp q hq e => h q hq p hp e.symm
theorem Off.nil {r : List (Addr × Obj)} : Off [] r := fun _ h => nomatch h
theorem Off.nilr {r : List (Addr × Obj)} : Off r [] := fun _ _ _ h => nomatch h
theorem Off.cons {e : Addr × Obj} {l r : List (Addr × Obj)} (h1 : ∀ q ∈ r, e.1 ≠ q.1) (h2 : Off l r) : Off (e :: l) r := fun p hp => by
  rcases List.mem_cons.mp hp with rfl | hp
  · exact h1
  · exact h2 p hp

theorem Post.back {h₀ h h' : Heap} {L : Addr} {m : Str → Option Value} {news rest tb new : List (Addr × Obj)} (P : Post h h' tb new) (F : Fr h₀ L h m) (N : News h₀ L h news) (hr : ∀ p ∈ rest, p ∈ news) (ht : ∀ p ∈ tb, p ∈ news)
    (sep : Off rest tb) : Fr h₀ L h' m ∧ News h₀ L h' (new ++ rest) ∧ Off new rest := by
  have hL : L ∉ tb.map (·.1) := fun q => by
    obtain ⟨p, hp, e⟩ := List.mem_map.mp q
    exact (N p (ht p hp)).2.1 e
  have h0 : ∀ b o, h₀.get? b = some o → b ∉ tb.map (·.1) := fun b o e q => by
    obtain ⟨p, hp, rfl⟩ := List.mem_map.mp q
    rw [(N p (ht p hp)).2.2] at e; cases e
  have hrt : ∀ p ∈ rest, p.1 ∉ tb.map (·.1) := fun p hp q => by
    obtain ⟨t, ht, e⟩ := List.mem_map.mp q
    exact sep p hp t ht e.symm
  obtain ⟨oL, es, ep, hL1, hLd, hLk, hLf⟩ := id F.ns
  refine ⟨⟨⟨oL, es, ep, P.keep _ _ hL hL1, hLd, hLk, hLf⟩, fun b o e => P.keep _ _ (h0 b o e) (F.keep b o e), F.above⟩, fun p hp => ?_, fun p hp q hq e => ?_⟩
  · rcases List.mem_append.mp hp with hp | hp
    · refine ⟨P.holds p hp, fun e => ?_, ?_⟩
      · rcases P.fresh p hp with q | q
        · exact hL (e ▸ q)
        · rw [e, hL1] at q; cases q
      · rcases P.fresh p hp with q | q
        · obtain ⟨t, ht', e⟩ := List.mem_map.mp q
          rw [← e]; exact (N t (ht t ht')).2.2
        · cases e : h₀.get? p.1 with
          | none => rfl
          | some o => rw [F.keep _ _ e] at q; cases q
    · exact ⟨P.keep _ _ (hrt p hp) (N p (hr p hp)).1, (N p (hr p hp)).2⟩
  · rcases P.fresh p hp with z | z
    · exact hrt q hq (e ▸ z)
    · rw [e, (N q (hr q hq)).1] at z; cases z

/-- what a callee's walk ends in -/
def LeaveH (g h : Heap) (L' : Addr) (tb : List (Addr × Obj)) (Q : Value → Shared → Prop) (v : Value) (s' : Shared) : Prop :=
  ∃ m' new, Fr g L' s'.heap m' ∧ News g L' s'.heap new ∧ (Post h s'.heap tb new → Q v s')

theorem hideAll_get_none {h : Heap} : ∀ (l : List Addr) {b : Addr}, (hideAll h l).get? b = none → b ∈ l ∨ h.get? b = none := fun l b e => by
  by_cases hb : b ∈ l
  · exact .inl hb
  · refine .inr ?_
    cases q : h.get? b with
    | none => rfl
    | some o => rw [hideAll_get l q hb] at e; cases e

section
variable {prog : Program} {w : World} {A : Around} {s : Shared} {h₀ : Heap} {K : Frag} {tb : List (Addr × Obj)} {E : Value → Shared → Prop}
  {Q : Value → Shared → Prop} {name qual : Str} {params : Arguments} {body : List Stmt} {scope : Scope} {dV kV doc pm cdv ct oc : Value} {an od : Option Addr} {osl : Array (Option Value)} {f : Addr} {pos : List Value} {kw : List (Str × Value)} {binds : List (Str × Value)}
  {p : Program} {loose : List Str} {mean : ExcName → Option Value} {mg mb : Str → Option Value}

theorem stays_hide (S : St h₀ s.heap tb) : h₀.StaysIn (hideAll s.heap (tb.map (·.1))) := fun b o e => hideAll_get _ (S.keep b o e) fun q => by
  obtain ⟨t, ht, e2⟩ := List.mem_map.mp q
  have e3 := (S.tab t ht).2
  rw [e2, e] at e3; cases e3

theorem post_hide {L' : Addr} {h' : Heap} {m' : Str → Option Value} {new : List (Addr × Obj)} (F : Fr (hideAll s.heap (tb.map (·.1))) L' h' m') (N : News (hideAll s.heap (tb.map (·.1))) L' h' new) : Post s.heap h' tb new :=
  ⟨fun b o hb e => F.keep b o (hideAll_get _ e hb), fun p hp => (N p hp).1, fun p hp => hideAll_get_none _ (N p hp).2.2⟩

/-- a def without cells, entered by its heap alone -/
theorem enterP (S : St h₀ s.heap tb) (X₀ : K.In h₀) (T : Top p loose mean mg mb h₀)
    (ho : K.lookup f = some ⟨oc, od, .func (fnOf name qual params body scope dV kV doc pm an cdv ct), osl⟩) (hcd : codeIn K cdv qual = true) (hroom : A.depth < recursionLimit)
    (hbind : BindsTo s (fnOf name qual params body scope dV kV doc pm an cdv ct) ⟨pos, kw⟩ binds) (hloc : ∀ y ∈ binds, scope.names.lookup y.1 = some .local)
    (h : ∀ g L' h₁, Fr g L' h₁ (fun y => binds.reverse.lookup y) → News g L' h₁ tb → K.In g → Top p loose mean mg mb g → h₀.StaysIn g → (∀ b o, s.heap.get? b = some o → b ∉ tb.map (·.1) → g.get? b = some o) →
      wpAny (model prog w) (A.deeper (envOf qual scope L' f cdv)) (execs body (envOf qual scope L' f cdv))
        (fun fl s' => LeaveH g s.heap L' tb Q (match fl with | .ret v => v | _ => .none) s') (fun _ _ => False)
        { s with heap := h₁, toks := s.toks + binds.length })
    (hco : scope.isCoroutine = false) (hgen : scope.isGenerator = false) (hk : scope.kind = .function)
    (hcell : ∀ x ∈ scope.names, x.2 ≠ .cell) : wpAny (model prog w) A (call (.ref f) pos kw) Q E s := by
  have st := stays_hide S
  have Xg : K.In (hideAll s.heap (tb.map (·.1))) := X₀.keeps st
  have Tg : Top p loose mean mg mb (hideAll s.heap (tb.map (·.1))) := T.keeps st
  have X := X₀.keeps S.keep
  refine wpAny_call (codeAny_call_def (fd := fnOf name qual params body scope dV kV doc pm an cdv ct) (body := body) (binds := binds) hroom (X _ _ ho) rfl (T.nolimit.keeps S.keep) (codeRec_of X hcd) rfl hbind hcell hloc (fun h₁ hns hk₁ => ?_) hco hgen hk)
  refine wpAny_mono (h (hideAll s.heap (tb.map (·.1))) s.heap.objs.size h₁ ⟨hns, fun b o e => hk₁ b o (of_hideAll _ e), Nat.le_of_eq (hideAll_size _ _)⟩
    (fun p hp => ⟨hk₁ _ _ (S.tab p hp).1, Nat.ne_of_lt (Heap.lt_size (S.tab p hp).1), hideAll_none _ (List.mem_map_of_mem hp)⟩) Xg Tg st (fun b o e hb => hideAll_get _ e hb)) (fun fl s' hl => ?_) fun _ _ y => y.elim
  obtain ⟨m', new, F', N', k⟩ := hl
  exact k (post_hide F' N')

/-- a def with cells, entered by its heap alone -/
theorem enterC (S : St h₀ s.heap tb) (X₀ : K.In h₀) (T : Top p loose mean mg mb h₀)
    (ho : K.lookup f = some ⟨oc, od, .func (fnOf name qual params body scope dV kV doc pm an cdv ct), osl⟩) (hcd : codeIn K cdv qual = true) (hroom : A.depth < recursionLimit)
    (hbind : BindsTo s (fnOf name qual params body scope dV kV doc pm an cdv ct) ⟨pos, kw⟩ binds) (hkind : (binds.all fun y => scope.names.lookup y.1 == some .local || scope.names.lookup y.1 == some .cell) = true)
    (hnd : ((cellsFrom 0 scope.names []).map (·.1)).Nodup)
    (h : ∀ g L' h₁ tk cells, Fr g L' h₁ (bindL (envOfC qual scope L' f cdv).kindOf binds fun _ => none) → News g L' h₁ (cells ++ tb) →
      CellsAre (bindC (envOfC qual scope L' f cdv).kindOf binds fun _ => none) (cellsFrom (L' + 1) scope.names []) cells → K.In g → Top p loose mean mg mb g → h₀.StaysIn g → (∀ b o, s.heap.get? b = some o → b ∉ tb.map (·.1) → g.get? b = some o) → (∀ p ∈ tb, p.1 < L') →
      wpAny (model prog w) (A.deeper (envOfC qual scope L' f cdv)) (execs body (envOfC qual scope L' f cdv))
        (fun fl s' => LeaveH g s.heap L' tb Q (match fl with | .ret v => v | _ => .none) s') (fun _ _ => False)
        { s with heap := h₁, toks := tk })
    (hco : scope.isCoroutine = false) (hgen : scope.isGenerator = false) (hk : scope.kind = .function) : wpAny (model prog w) A (call (.ref f) pos kw) Q E s := by
  have st := stays_hide S
  have Xg : K.In (hideAll s.heap (tb.map (·.1))) := X₀.keeps st
  have Tg : Top p loose mean mg mb (hideAll s.heap (tb.map (·.1))) := T.keeps st
  have X := X₀.keeps S.keep
  refine wpAny_call (codeAny_call_function hroom (X _ _ ho) rfl hco hgen rfl (codeRec_of X hcd) (hbind _ _ _ _ ?_))
  refine wpAny_newFunctionEnv_cells hk (kindsX hkind _) fun env' he s' x => ?_
  subst he
  refine ⟨(T.nolimit.keeps S.keep).keeps x.toInCall.keep, codeAny_func ?_⟩
  obtain ⟨h₁, tk, rfl, _⟩ := x.done
  have hk₁ := x.toInCall.keep
  obtain ⟨cells, NC, Y⟩ := Cl.news (h₀ := s.heap) (Nat.le_refl _) fun n c hm => ⟨x.cell n c (lookup_of_mem_nodup (cellsFrom_names scope.names 0 (s.heap.objs.size + 1) [] [] rfl ▸ hnd) hm), x.above n c hm⟩
  refine wpAny_mono (h (hideAll s.heap (tb.map (·.1))) s.heap.objs.size h₁ tk cells ⟨x.toInCall.ns, fun b o e => hk₁ b o (of_hideAll _ e), Nat.le_of_eq (hideAll_size _ _)⟩ (fun p hp => ?_) Y Xg Tg st (fun b o e hb => hideAll_get _ e hb) (fun p hp => Heap.lt_size (S.tab p hp).1)) (fun fl s' hl => ?_) fun _ _ y => y.elim
  · rcases List.mem_append.mp hp with hp | hp
    · refine ⟨(NC p hp).1, (NC p hp).2.1, ?_⟩
      cases q : (hideAll s.heap (tb.map (·.1))).get? p.1 with
      | none => rfl
      | some o => have := of_hideAll _ q; rw [(NC p hp).2.2] at this; cases this
    · exact ⟨hk₁ _ _ (S.tab p hp).1, Nat.ne_of_lt (Heap.lt_size (S.tab p hp).1), hideAll_none _ (List.mem_map_of_mem hp)⟩
  · obtain ⟨m', new, F', N', k⟩ := hl
    exact k (post_hide F' N')

/-- a nested def that stands on the ledger or in the heap, entered by its heap alone -/
theorem enterN {cl : List (Str × Addr)} {c' : Addr} (S : St h₀ s.heap tb) (X₀ : K.In h₀) (T : Top p loose mean mg mb h₀)
    (ho : s.heap.get? f = some (fnMade name qual params body scope cl doc pm c' ct)) (hcd : s.heap.CodeRec (.ref c') qual) (hroom : A.depth < recursionLimit)
    (hbind : BindsTo s (fnX name qual params body scope cl .none .none doc pm none (.ref c') ct) ⟨pos, kw⟩ binds) (hloc : ∀ y ∈ binds, scope.names.lookup y.1 = some .local)
    (h : ∀ g L' h₁, Fr g L' h₁ (fun y => binds.reverse.lookup y) → News g L' h₁ tb → K.In g → Top p loose mean mg mb g → h₀.StaysIn g → (∀ b o, s.heap.get? b = some o → b ∉ tb.map (·.1) → g.get? b = some o) →
      wpAny (model prog w) (A.deeper (envX qual scope L' f (.ref c') cl)) (execs body (envX qual scope L' f (.ref c') cl))
        (fun fl s' => LeaveH g s.heap L' tb Q (match fl with | .ret v => v | _ => .none) s') (fun _ _ => False)
        { s with heap := h₁, toks := s.toks + binds.length })
    (hco : scope.isCoroutine = false) (hgen : scope.isGenerator = false) (hk : scope.kind = .function)
    (hcell : ∀ x ∈ scope.names, x.2 ≠ .cell) : wpAny (model prog w) A (call (.ref f) pos kw) Q E s := by
  have st := stays_hide S
  have Xg : K.In (hideAll s.heap (tb.map (·.1))) := X₀.keeps st
  have Tg : Top p loose mean mg mb (hideAll s.heap (tb.map (·.1))) := T.keeps st
  refine wpAny_call (codeAny_call_def (fd := fnX name qual params body scope cl .none .none doc pm none (.ref c') ct) (body := body) (binds := binds) hroom ho rfl (T.nolimit.keeps S.keep) hcd rfl hbind hcell hloc (fun h₁ hns hk₁ => ?_) hco hgen hk)
  refine wpAny_mono (h (hideAll s.heap (tb.map (·.1))) s.heap.objs.size h₁ ⟨hns, fun b o e => hk₁ b o (of_hideAll _ e), Nat.le_of_eq (hideAll_size _ _)⟩
    (fun p hp => ⟨hk₁ _ _ (S.tab p hp).1, Nat.ne_of_lt (Heap.lt_size (S.tab p hp).1), hideAll_none _ (List.mem_map_of_mem hp)⟩) Xg Tg st (fun b o e hb => hideAll_get _ e hb)) (fun fl s' hl => ?_) fun _ _ y => y.elim
  obtain ⟨m', new, F', N', k⟩ := hl
  exact k (post_hide F' N')
end

abbrev top0 (dp un : Nat) (gd : Option (List Code)) (fr : Option (List Env)) : Around := { handled := none, depth := dp, frames := fr, guards := gd, units := un }

/-- the two tables of the codes that _int2digits and _digits2int make -/
def Tab1 (P : Addr) (line col : Nat) (qual : Str) (t : List (Addr × Obj)) : Prop :=
  t = [(P, tabObj #[])] ∨ ∃ c oc vs k, t = [(P, tabObj #[rawInt line, rawInt col, .ref c]), (c, oc)] ∧ oc.data = .fields vs ∧ vs[1]? = some (.str qual k) ∧ c ≠ P
end
section
open PySem PySem.W PyProof.Rows
/-- the value of digits, the lowest first, base 2^n -/
def val (n : Nat) : List Int → Int
  | [] => 0
  | d :: r => d + 2 ^ n * val n r
theorem val_append (n : Nat) : ∀ a b : List Int, val n (a ++ b) = val n a + 2 ^ (n * a.length) * val n b
  | [], b => by simp [val]
  | d :: r, b => by
    rw [List.cons_append, val, val, val_append n r b, List.length_cons, Nat.mul_succ, Nat.add_comm, Int.pow_add, Int.mul_add, Int.mul_assoc, Int.add_assoc]
theorem val_one (n : Nat) (d : Int) : val n [d] = d := by simp [val]

theorem pow2_pos (k : Nat) : (0 : Int) < 2 ^ k := Int.pow_pos (by decide)
theorem and_high (x s : Nat) : x &&& (x / 2 ^ s * 2 ^ s) = x / 2 ^ s * 2 ^ s := by
  apply Nat.eq_of_testBit_eq
  intro i
  rw [Nat.testBit_and, ← Nat.shiftLeft_eq, ← Nat.shiftRight_eq_div_pow]
  simp only [Nat.testBit_shiftLeft, Nat.testBit_shiftRight]
  by_cases h : s ≤ i
  · simp [h, Nat.add_sub_cancel' h]
  · simp [h]
theorem fdiv_pow (x : Int) (s : Nat) : x.fdiv (2 ^ s) = x / 2 ^ s := by
  rw [Int.fdiv_eq_ediv_of_nonneg _ (Int.le_of_lt (pow2_pos s))]
theorem xor_low (x : Int) (s : Nat) (hx : 0 ≤ x) : Builtin.bitXor x (x.fdiv (2 ^ s) * 2 ^ s) = x % 2 ^ s := by
  obtain ⟨m, rfl⟩ := Int.eq_ofNat_of_zero_le hx
  have e : ((m : Int).fdiv (2 ^ s) * 2 ^ s) = ((m / 2 ^ s * 2 ^ s : Nat) : Int) := by
    rw [fdiv_pow]; push_cast; rfl
  have h1 : Builtin.bitAnd (m : Int) ((m / 2 ^ s * 2 ^ s : Nat) : Int) = ((m / 2 ^ s * 2 ^ s : Nat) : Int) := by
    rw [bitAnd_pp (Int.natCast_nonneg _) (Int.natCast_nonneg _)]
    simp only [Int.toNat_natCast]
    rw [and_high]
  rw [e, bitXor_and, h1]
  have h2 := Nat.div_add_mod m (2 ^ s)
  have h3 : ((m : Int) % 2 ^ s) = ((m % 2 ^ s : Nat) : Int) := by push_cast; rfl
  have h4 : m / 2 ^ s * 2 ^ s + m % 2 ^ s = m := by rw [Nat.mul_comm]; exact h2
  rw [h3]
  clear h3 h2 h1 e
  generalize m / 2 ^ s * 2 ^ s = q at *
  generalize m % 2 ^ s = r at *
  omega

/-- what _int2digits' inner writes -/
def fill (n : Int) : Nat → Int → Int → Int → List Int → List Int
  | 0, _, _, _, ns => ns
  | k + 1, x, lo, hi, ns => if lo + 1 = hi then ns.set lo.toNat x else
      fill n k (x.fdiv (2 ^ (((lo + hi).fdiv (2 ^ (1 : Int).toNat) - lo) * n).toNat)) ((lo + hi).fdiv (2 ^ (1 : Int).toNat)) hi
        (fill n k (x % 2 ^ (((lo + hi).fdiv (2 ^ (1 : Int).toNat) - lo) * n).toNat) lo ((lo + hi).fdiv (2 ^ (1 : Int).toNat)) ns)

theorem mid_eq (lo hi : Int) : (lo + hi).fdiv (2 ^ (1 : Int).toNat) = (lo + hi) / 2 := by
  rw [show (2 : Int) ^ (1 : Int).toNat = 2 from by decide]
  exact Int.fdiv_eq_ediv_of_nonneg _ (by decide)

theorem fill_spec (n : Nat) : ∀ (k : Nat) (x : Int) (pre mid post : List Int), mid ≠ [] → mid.length ≤ k → 0 ≤ x →
    ∃ mid', fill n k x pre.length (pre.length + mid.length : Nat) (pre ++ mid ++ post) = pre ++ mid' ++ post ∧ mid'.length = mid.length ∧ val n mid' = x ∧ ∀ d ∈ mid', 0 ≤ d ∧ d ≤ x
  | 0, _, _, mid, _, h, hk, _ => absurd (List.length_eq_zero_iff.mp (Nat.le_zero.mp hk)) h
  | k + 1, x, pre, mid, post, h, hk, hx => by
    have hp := List.length_pos_iff.mpr h
    rw [fill]
    by_cases h1 : mid.length = 1
    · rw [if_pos (by omega)]
      match mid, h1 with
      | [d], _ =>
        refine ⟨[x], ?_, rfl, val_one n x, ?_⟩
        · rw [Int.toNat_natCast]; simp
        · intro d hd; rw [List.mem_singleton.mp hd]; exact ⟨hx, Int.le_refl _⟩
    · rw [if_neg (by omega), mid_eq]
      have hj : ∃ j : Nat, ((pre.length : Int) + ((pre.length + mid.length : Nat) : Int)) / 2 = ((pre.length + j : Nat) : Int) ∧ 0 < j ∧ j < mid.length := by
        refine ⟨mid.length / 2, ?_, ?_, ?_⟩ <;> omega
      obtain ⟨j, ej, j0, j1⟩ := hj
      rw [ej]
      have esh : (((((pre.length + j : Nat) : Int)) - (pre.length : Int)) * (n : Int)).toNat = n * j := by
        have : (((pre.length + j : Nat) : Int)) - (pre.length : Int) = (j : Int) := by omega
        rw [this, ← Int.natCast_mul, Int.toNat_natCast, Nat.mul_comm]
      rw [esh, fdiv_pow]
      have em : mid = mid.take j ++ mid.drop j := (List.take_append_drop j mid).symm
      have l1 : (mid.take j).length = j := by rw [List.length_take]; omega
      have l2 : (mid.drop j).length = mid.length - j := List.length_drop
      have hpw := pow2_pos (n * j)
      obtain ⟨a, ea, la, va, ba⟩ := fill_spec n k (x % 2 ^ (n * j)) pre (mid.take j) (mid.drop j ++ post) (by intro q; rw [q] at l1; simp at l1; omega) (by omega) (Int.emod_nonneg _ (Int.ne_of_gt hpw))
      obtain ⟨b, eb, lb, vb, bb⟩ := fill_spec n k (x / 2 ^ (n * j)) (pre ++ a) (mid.drop j) post (by intro q; rw [q] at l2; simp at l2; omega) (by omega) (Int.ediv_nonneg hx (Int.le_of_lt hpw))
      rw [l1] at ea
      have e1 : pre ++ mid ++ post = pre ++ mid.take j ++ (mid.drop j ++ post) := by
        conv => lhs; rw [em]
        simp only [List.append_assoc]
      rw [e1, ea]
      have e2 : pre ++ a ++ (mid.drop j ++ post) = (pre ++ a) ++ mid.drop j ++ post := by simp only [List.append_assoc]
      have e3 : (pre ++ a).length = pre.length + j := by rw [List.length_append, la, l1]
      have e4 : (pre ++ a).length + (mid.drop j).length = pre.length + mid.length := by rw [e3, l2]; omega
      rw [e4, e3] at eb
      rw [e2, eb]
      have hdm := Int.mul_ediv_add_emod x (2 ^ (n * j))
      refine ⟨a ++ b, by simp only [List.append_assoc], by rw [List.length_append, la, lb, l1, l2]; omega, ?_, ?_⟩
      · rw [val_append, va, vb, la, l1]; omega
      · have q0 : 0 ≤ x / 2 ^ (n * j) := Int.ediv_nonneg hx (Int.le_of_lt hpw)
        have q1 : x / 2 ^ (n * j) ≤ 2 ^ (n * j) * (x / 2 ^ (n * j)) := by
          have := Int.mul_le_mul_of_nonneg_right (show (1 : Int) ≤ 2 ^ (n * j) by omega) q0
          omega
        have q2 : 0 ≤ x % 2 ^ (n * j) := Int.emod_nonneg _ (Int.ne_of_gt hpw)
        intro d hd
        rcases List.mem_append.mp hd with hd | hd
        · have := ba d hd; omega
        · have := bb d hd; omega

/-- what _digits2int's inner reads -/
def read (n : Int) (ns : List Int) : Nat → Int → Int → Int
  | 0, _, _ => 0
  | k + 1, lo, hi => if lo + 1 = hi then ns.getD lo.toNat 0 else
      read n ns k ((lo + hi).fdiv (2 ^ (1 : Int).toNat)) hi * 2 ^ (((lo + hi).fdiv (2 ^ (1 : Int).toNat) - lo) * n).toNat + read n ns k lo ((lo + hi).fdiv (2 ^ (1 : Int).toNat))
theorem read_spec (n : Nat) : ∀ (k : Nat) (pre mid post : List Int), mid ≠ [] → mid.length ≤ k → read n (pre ++ mid ++ post) k pre.length (pre.length + mid.length : Nat) = val n mid
  | 0, _, mid, _, h, hk => absurd (List.length_eq_zero_iff.mp (Nat.le_zero.mp hk)) h
  | k + 1, pre, mid, post, h, hk => by
    have hp := List.length_pos_iff.mpr h
    rw [read]
    by_cases h1 : mid.length = 1
    · rw [if_pos (by omega)]
      match mid, h1 with
      | [d], _ => rw [Int.toNat_natCast]; simp [val]
    · rw [if_neg (by omega), mid_eq]
      have hj : ∃ j : Nat, ((pre.length : Int) + ((pre.length + mid.length : Nat) : Int)) / 2 = ((pre.length + j : Nat) : Int) ∧ 0 < j ∧ j < mid.length := by
        refine ⟨mid.length / 2, ?_, ?_, ?_⟩ <;> omega
      obtain ⟨j, ej, j0, j1⟩ := hj
      rw [ej]
      have esh : (((((pre.length + j : Nat) : Int)) - (pre.length : Int)) * (n : Int)).toNat = n * j := by
        have : (((pre.length + j : Nat) : Int)) - (pre.length : Int) = (j : Int) := by omega
        rw [this, ← Int.natCast_mul, Int.toNat_natCast, Nat.mul_comm]
      rw [esh]
      have em : mid = mid.take j ++ mid.drop j := (List.take_append_drop j mid).symm
      have l1 : (mid.take j).length = j := by rw [List.length_take]; omega
      have l2 : (mid.drop j).length = mid.length - j := List.length_drop
      have ea := read_spec n k pre (mid.take j) (mid.drop j ++ post) (by intro q; rw [q] at l1; simp at l1; omega) (by omega)
      have eb := read_spec n k (pre ++ mid.take j) (mid.drop j) post (by intro q; rw [q] at l2; simp at l2; omega) (by omega)
      have e1 : pre ++ mid ++ post = pre ++ mid.take j ++ (mid.drop j ++ post) := by
        conv => lhs; rw [em]
        simp only [List.append_assoc]
      have e2 : pre ++ mid ++ post = pre ++ mid.take j ++ mid.drop j ++ post := by
        conv => lhs; rw [em]
        simp only [List.append_assoc]
      have e3 : (pre ++ mid.take j).length = pre.length + j := by rw [List.length_append, l1]
      have e4 : (pre ++ mid.take j).length + (mid.drop j).length = pre.length + mid.length := by rw [e3, l2]; omega
      rw [← e2, e4, e3] at eb
      rw [← e1, l1] at ea
      rw [ea, eb]
      conv => rhs; rw [em, val_append, l1]
      rw [Int.mul_comm, Int.add_comm]

/-- the long division, the highest digit first -/
def divs (n b : Int) : List Int → Int → List Int → List Int × Int
  | [], r, qs => (qs, r)
  | d :: ds, r, qs => divs n b ds ((r * 2 ^ n.toNat + d).fmod b) (qs ++ [(r * 2 ^ n.toNat + d).fdiv b])
end
section
open PySem PySem.W PyProof.Rows
theorem freshH1 : (1 : Nat) = 1 := by
  (first | walk1 | rfl)
  w_top off
end
section
open PySem PySem.W PyProof.Rows
set_option maxRecDepth 100000 in
set_option maxHeartbeats 8000000 in
theorem div2 : ∀ (w : World) (p : Program) (loose : List Str) (mean : ExcName → Option Value) (mg mb : Str → Option Value) (dp un : Nat) (gd : Option (List Code)) (fr : Option (List Env)) (h₀ : Heap) (s : Shared) (Q E : Value → Shared → Prop) (tb : List (Addr × Obj)) (x y n : Int) (tx ty tn : Tok),
    St h₀ s.heap tb → (Mine.hd.heap_39 w.params).In h₀ → Top p loose mean mg mb h₀ → dp + 1 < recursionLimit → un + 8 < cLine → 0 < y → y.natAbs < 1073741824 → (Builtin.Int.intBits x : Int) - n ≤ 4000 →
    (∀ D t1 t2 h' tk', Post s.heap h' tb ((D, tupO [.int (x.fdiv y) t1, .int (x.fmod y) t2]) :: tb) → (∀ q ∈ tb, q.1 < D) → Q (.ref D) { s with heap := h', toks := tk' }) →
    wpAny (model PySem.Challenge.rw_gv0003_01.row.prog w) (top0 dp un gd fr) (call (.ref 21) [.int x tx, .int y ty, .int n tn]) Q E s := by
  k_fill
  intro w p loose mean mg mb dp un gd fr h₀ s Q E tb x y n tx ty tn S X T hdp hun hy hy2 hx hret
  k_dflt (refine' enterP ?k4 ?k3 ?k5 ?k6 ?k7 ?k8 ?k9 ?kB ?_ ?c2 ?c3 ?c4 ?c5; (case k3 => k_asm); (case k4 => k_asm); (case k5 => k_asm); (case k6 => k_is); (case k7 => k_is); (case k8 => ktr_room); (case k9 => exact BindsTo.of_eq rfl); (case c5 => decide); (case kB => exact locs rfl); (case c2 => exact rfl); (case c3 => exact rfl); (case c4 => exact rfl); k_whole; intro g' L' h' F' N' X' T' kS' kG'; (try dsimp only); (try k_fold))
  k_steps
  exact ⟨_, _, by assumption, by assumption, fun P => hret _ _ _ _ _ P (newsLt (by assumption))⟩
end
section
open PySem PySem.W PyProof.Rows
theorem freshH2 : (1 : Nat) = 1 := by
  (first | walk1 | rfl)
  w_top off
end
section
open PySem PySem.W PyProof.Rows
theorem tailNe {L d : Addr} {t : List (Addr × Obj)} (h : AllLt L t) (hd : @LE.le Nat _ L d) : ∀ p ∈ t, p.1 ≠ d := by
  induction t with
  | nil => intro p hp; cases hp
  | cons e r ih =>
    intro p hp
    rcases List.mem_cons.mp hp with rfl | hp
    · exact Nat.ne_of_lt (Nat.lt_of_lt_of_le h.1 hd)
    · exact ih h.2 p hp
theorem lookFn (n : Nat) {K : Frag} {a : Addr} {P : Prop} {oc oc' : Value} {od od' : Option Addr} {nm nm' q q' : Str} {prm prm' : Arguments} {l l' : List Stmt} {sc sc' : Scope} {dV dV' kV kV' doc doc' pm pm' : Value} {an an' : Option Addr} {cdv cdv' ct ct' : Value} {osl osl' : Array (Option Value)}
    (h : K.lookup a = some ⟨oc, od, .func (fnOf nm q prm l sc dV kV doc pm an cdv ct), osl⟩) (h' : K.lookup a = some ⟨oc', od', .func (fnOf nm' q' prm' l' sc' dV' kV' doc' pm' an' cdv' ct'), osl'⟩)
    (k : q = q' → sc = sc' → l.drop n = l'.drop n → P) : P := by
  have e := Option.some.inj (h.symm.trans h')
  cases e
  exact k rfl rfl rfl
theorem nameX_H {M : Model} {A : Around} {E : Value → Shared → Prop} {s : Shared} {h₀ : Heap} {L a : Addr} {m : Str → Option Value} {cn : Str} {cs : Scope} {ccd : Value} {cl : List (Str × Addr)}
    {x : Str} {pos : Pos} {v : Value} {Q : Value → Shared → Prop} {c : Addr} {o : Obj} (F : Fr h₀ L s.heap m) (hc : cl.lookup x = some c) (hg : h₀.get? c = some o) (hd : o.data = .cell (some v)) (h : Q v s)
    (hk : cs.kind = .function := by rfl) (hx : (envX cn cs L a ccd cl).kindOf x = some .free := by rfl) (hb : (x == ("__debug__" : Str)) = false := by decide) (hn : (x == ("__classdict__" : Str)) = false := by decide) :
    wpAny M A (eval (.Name x pos) (envX cn cs L a ccd cl)) Q E s := wpAny_Name (wpAny_loadName_free hk hx hc ⟨_, F.keep _ _ hg, hd⟩ h hn) hb
theorem fnAt_H {h₀ h : Heap} {L q : Addr} {m : Str → Option Value} {oc : Value} {od : Option Addr} {fd : FuncData} {sl : Array (Option Value)} (F : Fr h₀ L h m) (hg : h₀.get? q = some (⟨oc, od, .func fd, sl⟩ : Obj)) : FnAt q h := ⟨oc, od, fd, sl, F.keep _ _ hg⟩
theorem codeRec_off {h g : Heap} {c' : Addr} {q : Str} {mu : List Addr} (hc : h.CodeRec (.ref c') q) (hn : c' ∉ mu) (k : ∀ b o, h.get? b = some o → b ∉ mu → g.get? b = some o) : g.CodeRec (.ref c') q := by
  obtain ⟨c2, oc, v, t, e, hg, d, i⟩ := hc
  cases e
  exact ⟨_, _, _, _, rfl, k _ _ hg hn, d, i⟩
theorem codeRec_keep {h g : Heap} {c' : Addr} {q : Str} (hc : h.CodeRec (.ref c') q) (k : ∀ b o, h.get? b = some o → g.get? b = some o) : g.CodeRec (.ref c') q :=
  codeRec_off (mu := []) hc (fun x => nomatch x) fun b o e _ => k b o e
theorem sh_bound {lo hi n : Int} (h1 : 0 ≤ lo) (h2 : lo < hi) (h3 : hi < 1000) (hn : 0 < n) (hn2 : n < 30) :
    0 ≤ ((lo + hi).fdiv (2 ^ (1 : Int).toNat) - lo) * n ∧ ((lo + hi).fdiv (2 ^ (1 : Int).toNat) - lo) * n ≤ 30000 := by
  rw [mid_eq]
  have a : 0 ≤ (lo + hi) / 2 - lo := by omega
  have b : (lo + hi) / 2 - lo ≤ 1000 := by omega
  refine ⟨Int.mul_nonneg a (by omega), ?_⟩
  have := Int.mul_le_mul b (show n ≤ 30 by omega) (by omega) (by decide)
  omega
theorem fdiv_bound {x B : Int} (s : Nat) (h : 0 ≤ x) (hx : x ≤ B) : 0 ≤ x.fdiv (2 ^ s) ∧ x.fdiv (2 ^ s) ≤ B := by
  rw [fdiv_pow]
  have p := pow2_pos s
  have q := Int.ediv_nonneg h (Int.le_of_lt p)
  refine ⟨q, ?_⟩
  have := Int.mul_le_mul_of_nonneg_right (show (1 : Int) ≤ 2 ^ s by omega) q
  have := Int.mul_ediv_add_emod x (2 ^ s)
  have := Int.emod_nonneg x (Int.ne_of_gt p)
  omega
theorem emod_bound {x B : Int} (s : Nat) (h : 0 ≤ x) (hx : x ≤ B) : 0 ≤ x % 2 ^ s ∧ x % 2 ^ s ≤ B := by
  have p := pow2_pos s
  have q := Int.ediv_nonneg h (Int.le_of_lt p)
  have := Int.mul_nonneg (Int.le_of_lt p) q
  have := Int.mul_ediv_add_emod x (2 ^ s)
  have := Int.emod_nonneg x (Int.ne_of_gt p)
  omega
theorem fill_len (n : Int) : ∀ (k : Nat) (x lo hi : Int) (ns : List Int), (fill n k x lo hi ns).length = ns.length
  | 0, _, _, _, _ => rfl
  | k + 1, x, lo, hi, ns => by
    rw [fill]; split
    · exact List.length_set ..
    · rw [fill_len, fill_len]

section
local macro_rules | `(tactic| walk_at "eval Name") => `(tactic| (k_here; k_dflt (refine' nameX_H ?F ?c ?g ?d ?_ ?a ?b; (case a => rfl); (case b => rfl); (case F => k_asm); (case c => rfl); (case g => assumption); (case d => assumption); k_whole)))
local macro_rules | `(tactic| walk_at "FnAt") => `(tactic| (k_dflt (exact fnAt_H (by assumption) (by assumption))))
local macro_rules | `(tactic| walk_at "callWith ref") => `(tactic| (k_here; k_dflt (refine' callWith_F ?k1 ?_; (case k1 => exact fnAt_H (by assumption) (by assumption)); k_whole)))
set_option maxRecDepth 100000 in
set_option maxHeartbeats 8000000 in
theorem i2d_in {w : World} {p : Program} {loose : List Str} {mean : ExcName → Option Value} {mg mb : Str → Option Value}
    {oc0 : Value} {od0 : Option Addr} {nm0 q0 : Str} {prm0 : Arguments} {st1 st3 st4 : Stmt} {nm : Str} {prm : Arguments} {bod : List Stmt} {ds : List Expr} {rt : Option Expr} {tps : List TypeParam} {sc : Scope} {tsc : Option Scope} {bd : Str} {ps : Pos}
    {sc0 : Scope} {dV kV doc0 pm0 : Value} {an0 : Option Addr} {cdv0 ct0 : Value} {osl0 : Array (Option Value)}
    {f c' cA cN cI D : Addr} {oA oN oI : Obj} {n : Int} {tn : Tok} {q : Str} {doc pm ct : Value} :
    (Mine.hd.heap_39 w.params).lookup 35 = some ⟨oc0, od0, .func (fnOf nm0 q0 prm0 [st1, .FunctionDef nm prm bod ds rt tps sc tsc bd ps, st3, st4] sc0 dV kV doc0 pm0 an0 cdv0 ct0), osl0⟩ →
    oA.data = .cell (some (.ref D)) → oN.data = .cell (some (.int n tn)) → oI.data = .cell (some (.ref f)) → 0 < n → n < 30 →
    f ≠ D → c' ≠ D → cA ≠ D → cN ≠ D → cI ≠ D →
    ∀ (k : Nat) (h₀ : Heap) (dp un : Nat) (gd : Option (List Code)) (fr : Option (List Env)) (s : Shared) (Q E : Value → Shared → Prop) (x lo hi : Int) (tx tl th : Tok) (vs : List Value) (ns : List Int),
      (Mine.hd.heap_39 w.params).In h₀ → Top p loose mean mg mb h₀ →
      St h₀ s.heap [(D, listOf vs.toArray 0)] → s.heap.get? f = some (fnMade nm q prm bod sc [(Str.ofString "n", cN), (Str.ofString "inner", cI), (Str.ofString "a_digits", cA)] doc pm c' ct) → s.heap.CodeRec (.ref c') q →
      s.heap.get? cA = some oA → s.heap.get? cN = some oN → s.heap.get? cI = some oI →
      IntsAre vs ns → hi - lo ≤ k → 0 ≤ lo → lo < hi → hi ≤ ns.length → ns.length < 1000 → 0 ≤ x → x ≤ 1099511627776 →
      dp + k + 1 < recursionLimit → un + 8 * k + 8 < cLine →
      (∀ vs' h' tk', IntsAre vs' (fill n k x lo hi ns) → Post s.heap h' [(D, listOf vs.toArray 0)] [(D, listOf vs'.toArray 0)] → Q .none { s with heap := h', toks := tk' }) →
      wpAny (model PySem.Challenge.rw_gv0003_01.row.prog w) (top0 dp un gd fr) (call (.ref f) [.int x tx, .int lo tl, .int hi th]) Q E s := by
  k_fill
  intro hK hA hN hI hn hn2 hfD hcD hAD hND hID k
  refine' lookFn 1 hK ?kk ?_
  case kk => k_is
  intro eq es e
  subst eq es
  dsimp only [List.drop] at e
  cases e
  clear hK
  induction k with
  | zero => 
    intro h₀ dp un gd fr s Q E x lo hi tx tl th vs ns X T S hf hc gA gN gI hi1 h1 h2 h3
    omega
  | succ k ih =>
    intro h₀ dp un gd fr s Q E x lo hi tx tl th vs ns X T S hf hc gA gN gI hi1 h1 h2 h3 h4 h5 h6 h7 hdp hun hret
    k_dflt (refine' enterN ?k4 ?k3 ?k5 ?k6 ?k7 ?k8 ?k9 ?kB ?_ ?c2 ?c3 ?c4 ?c5; (case k3 => k_asm); (case k4 => k_asm); (case k5 => k_asm); (case k6 => k_asm); (case k7 => k_asm); (case k8 => ktr_room); (case k9 => exact BindsTo.of_eq rfl); (case c5 => decide); (case kB => exact locs rfl); (case c2 => exact rfl); (case c3 => exact rfl); (case c4 => exact rfl); k_whole; intro g' L' h' F' N' X' T' kS' kG'; (try dsimp only); (try k_fold))
    have jf := kG' _ _ hf
    have jA := kG' _ _ gA
    have jN := kG' _ _ gN
    have jI := kG' _ _ gI
    have jc := codeRec_off hc (by simpa using hcD) kG'
    simp only [List.map_cons, List.map_nil, List.mem_singleton] at jf jA jN jI
    replace jf := jf hfD
    replace jA := jA hAD
    replace jN := jN hND
    replace jI := jI hID
    have hsh := sh_bound h2 h3 (by omega) hn hn2
    have hup := fdiv_bound (((lo + hi).fdiv (2 ^ (1 : Int).toNat) - lo) * n).toNat h6 h7
    have hlw := emod_bound (((lo + hi).fdiv (2 ^ (1 : Int).toNat) - lo) * n).toNat h6 h7
    have hm1 : (lo + hi).fdiv (2 ^ (1 : Int).toNat) = (lo + hi) / 2 := mid_eq lo hi
    have hxl := xor_low x (((lo + hi).fdiv (2 ^ (1 : Int).toNat) - lo) * n).toNat h6
    k_steps
    · rename lo + 1 = hi => hlh
      refine (show LeaveH _ _ _ _ _ _ _ from ⟨_, _, by assumption, by assumption, fun P => hret _ _ _ ?_ P⟩)
      rw [fill, if_pos hlh]; assumption
    · rename lo + 1 ≠ hi => hlh
      rename Fr _ _ _ _ => F1
      rename News _ _ _ _ => N1
      rw [hxl]
      (k_dflt (refine' ih g' _ _ _ _ _ _ _ _ _ _ _ _ _ vs ns X' T' (St.of F1 N1 fun _ h => h) (F1.keep _ _ jf) (codeRec_keep jc F1.keep) (F1.keep _ _ jA) (F1.keep _ _ jN) (F1.keep _ _ jI) hi1 ?a1 ?a2 ?a3 ?a4 ?a5 ?a6 ?a7 ?a8 ?a9 ?_))
      case a1 => omega
      case a2 => omega
      case a3 => omega
      case a4 => omega
      case a5 => omega
      case a6 => omega
      case a7 => omega
      case a8 => (dsimp only [top0]; omega)
      case a9 => (dsimp only [top0]; omega)
      intro vs1 h1 tk1 hi2 P1
      obtain ⟨F2, N2, _⟩ := P1.back (rest := []) F1 N1 (fun _ h => nomatch h) (fun _ h => h) Off.nil
      clear F1 N1
      rw [List.append_nil] at N2
      dsimp only at F2 N2 ⊢
      k_steps
      have hl2 := fill_len n k (x % 2 ^ (((lo + hi).fdiv (2 ^ (1 : Int).toNat) - lo) * n).toNat) lo ((lo + hi).fdiv (2 ^ (1 : Int).toNat)) ns
      (k_dflt (refine' ih g' _ _ _ _ _ _ _ _ _ _ _ _ _ vs1 _ X' T' (St.of F2 N2 fun _ h => h) (F2.keep _ _ jf) (codeRec_keep jc F2.keep) (F2.keep _ _ jA) (F2.keep _ _ jN) (F2.keep _ _ jI) hi2 ?a1 ?a2 ?a3 ?a4 ?a5 ?a6 ?a7 ?a8 ?a9 ?_))
      case a1 => omega
      case a2 => omega
      case a3 => omega
      case a4 => omega
      case a5 => omega
      case a6 => omega
      case a7 => omega
      case a8 => (dsimp only [top0]; omega)
      case a9 => (dsimp only [top0]; omega)
      intro vs3 h3 tk3 hi4 P3
      obtain ⟨F4, N4, _⟩ := P3.back (rest := []) F2 N2 (fun _ h => nomatch h) (fun _ h => h) Off.nil
      clear F2 N2
      rw [List.append_nil] at N4
      dsimp only at F4 N4 ⊢
      k_steps
      refine (show LeaveH _ _ _ _ _ _ _ from ⟨_, _, F4, N4, fun P => hret _ _ _ ?_ P⟩)
      rw [fill, if_neg hlh]; exact hi4
end
end
section
open PySem PySem.W PyProof.Rows
theorem freshH3 : (1 : Nat) = 1 := by
  (first | walk1 | rfl)
  w_top off
end
section
open PySem PySem.W PyProof.Rows
theorem digits_le {x n : Int} (hx : 0 ≤ x) (hx2 : x ≤ 1099511627776) (hn : 0 < n) : 0 ≤ ((Builtin.Int.intBits x : Int) + n - 1).fdiv n ∧ ((Builtin.Int.intBits x : Int) + n - 1).fdiv n ≤ 64 ∧ (0 < x → 0 < ((Builtin.Int.intBits x : Int) + n - 1).fdiv n) ∧ (x = 0 → ((Builtin.Int.intBits x : Int) + n - 1).fdiv n = 0) := by
  have hb : Builtin.Int.intBits x ≤ 64 := intBits_le (by omega)
  have e := Int.fdiv_eq_ediv_of_nonneg ((Builtin.Int.intBits x : Int) + n - 1) (Int.le_of_lt hn)
  rw [e]
  have hp : 0 < x → 0 < Builtin.Int.intBits x := fun h => by
    unfold Builtin.Int.intBits
    rw [if_neg (by simp; omega)]
    omega
  have hz : x = 0 → Builtin.Int.intBits x = 0 := fun h => by subst h; rfl
  generalize Builtin.Int.intBits x = B at *
  have a1 : 0 ≤ ((B : Int) + n - 1) / n := Int.ediv_nonneg (by omega) (by omega)
  have a2 := Int.mul_ediv_add_emod ((B : Int) + n - 1) n
  have a3 := Int.emod_nonneg ((B : Int) + n - 1) (show n ≠ 0 by omega)
  have a4 := Int.emod_lt_of_pos ((B : Int) + n - 1) hn
  refine ⟨a1, ?_, fun h => ?_, fun h => ?_⟩
  · by_cases c : ((B : Int) + n - 1) / n ≤ 64
    · exact c
    · have := Int.mul_le_mul_of_nonneg_left (show 65 ≤ ((B : Int) + n - 1) / n by omega) (Int.le_of_lt hn)
      omega
  · have := hp h
    by_cases c : ((B : Int) + n - 1) / n = 0
    · rw [c] at a2; omega
    · omega
  · rw [hz h]
    exact Int.ediv_eq_zero_of_lt (by omega) (by omega)

theorem fill_all {n : Int} (hn : 0 < n) {k : Nat} {x : Int} {ns : List Int} (h : ns.length = k) (hk : 0 < k) (hx : 0 ≤ x) :
    (fill n k x 0 k ns).length = k ∧ val n.toNat (fill n k x 0 k ns) = x ∧ ∀ e ∈ fill n k x 0 k ns, 0 ≤ e ∧ e ≤ x := by
  obtain ⟨m', e, l, v, b⟩ := fill_spec n.toNat k x [] ns [] (List.length_pos_iff.mp (by omega)) (by omega) hx
  rw [Int.toNat_of_nonneg (by omega)] at e
  simp only [List.length_nil, List.nil_append, List.append_nil, Nat.zero_add, h] at e
  have e' : fill n k x 0 k ns = m' := e
  rw [e']
  exact ⟨l.trans h, v, b⟩

abbrev q35 : Str := Str.ofString "_int2digits" ++ ".<locals>." ++ Str.ofString "inner"
local macro_rules | `(tactic| k_all) => `(tactic| first | with_reducible assumption | exact tailNe (by assumption) (by omega))
set_option maxRecDepth 100000 in
set_option maxHeartbeats 8000000 in
theorem i2d_miss : ∀ (w : World) (p : Program) (loose : List Str) (mean : ExcName → Option Value) (mg mb : Str → Option Value) (dp un : Nat) (gd : Option (List Code)) (fr : Option (List Env)) (h₀ : Heap) (s : Shared) (Q E : Value → Shared → Prop) (x n : Int) (tx tn : Tok),
    St h₀ s.heap [(30, tabObj #[])] → CodeHd h₀ 34 30 → (Mine.hd.heap_39 w.params).In h₀ → Top p loose mean mg mb h₀ → dp + 100 < recursionLimit → un + 1000 < cLine → 0 ≤ x → x ≤ 1099511627776 → 0 < n → n < 30 →
    (∀ D vs ds t1 h' tk', Tab1 30 32 4 q35 t1 → IntsAre vs ds → ds.length ≤ 64 → val n.toNat ds = x → (∀ e ∈ ds, 0 ≤ e ∧ e ≤ x) → (∀ q ∈ t1, q.1 ≠ D) → Post s.heap h' [(30, tabObj #[])] ((D, listOf vs.toArray 0) :: t1) → Q (.ref D) { s with heap := h', toks := tk' }) →
    wpAny (model PySem.Challenge.rw_gv0003_01.row.prog w) (top0 dp un gd fr) (call (.ref 35) [.int x tx, .int n tn]) Q E s := by
  k_fill
  intro w p loose mean mg mb dp un gd fr h₀ s Q E x n tx tn S C X T hdp hun hx hx2 hn hn2 hret
  have hdl := digits_le hx hx2 hn
  obtain ⟨hd1, hd2, hd3, hd4⟩ := hdl
  k_dflt (refine' enterC ?k4 ?k3 ?k5 ?k6 ?k7 ?k8 ?k9 ?kB ?kD ?_ ?c2 ?c3 ?c4; (case k3 => k_asm); (case k4 => k_asm); (case k5 => k_asm); (case k6 => k_is); (case k7 => k_is); (case k8 => ktr_room); (case k9 => exact BindsTo.of_eq rfl); (case kB => exact rfl); (case kD => decide +kernel); (case c2 => exact rfl); (case c3 => exact rfl); (case c4 => exact rfl); k_whole; intro g' L' h' tk' cells' F' N' Y' X' T' kS' kG' l1; (try k_lt l1); k_cells Y'; (try simp only [List.cons_append, List.nil_append] at N'); (try dsimp only); (try k_fold))
  have C' := C.keeps kS'
  k_steps
  · rename_i oI0 oA0 oN dI0 dA0 dN0 lL hA lA D hB iB nB sB eB1 eB2 eB3 lB hC oA dA f c oc vc tc ct dc hD tkD dc1 dc2 lc1 lc2 hE oI F1 N1 dI ha
    have e3 := eB3 hd1
    have e4 := hd3 (by omega)
    have hnB : 0 < nB := by omega
    refine' i2d_in ?hK dA ?hN dI hn hn2 ?x1 ?x2 ?x3 ?x4 ?x5 nB g' _ _ _ _ _ _ _ x 0 nB _ _ _ _ _ X' T' (St.of F1 N1 ?sub) ?hf ?hc ?gA ?gN ?gI iB ?a1 ?a2 ?a3 ?a4 ?a5 hx hx2 ?a6 ?a7 ?last
    case hK => k_is
    case hf => exact (N1 _ (by k_mem)).1
    case hN => exact dN0
    case x1 => exact Nat.ne_of_gt (by omega)
    case x2 => exact Nat.ne_of_gt (by omega)
    case x3 => exact Nat.ne_of_lt (by omega)
    case x4 => exact Nat.ne_of_lt (by omega)
    case x5 => exact Nat.ne_of_lt (by omega)
    case sub => 
      intro q hq
      rw [List.mem_singleton.mp hq]
      k_mem
    case hc => exact codeRec_news N1 (by k_mem) dc1 dc2
    case gA => exact News.get N1 (by k_mem)
    case gN => exact News.get N1 (by k_mem)
    case gI => exact News.get N1 (by k_mem)
    case a1 => omega
    case a2 => omega
    case a3 => omega
    case a4 => omega
    case a5 => omega
    case a6 => (dsimp only [top0]; omega)
    case a7 => (dsimp only [top0]; omega)
    case last =>
      intro vs1 h1 tk1 hi2 P1
      obtain ⟨F2, N2, _⟩ := P1.back (rest := [(L' + 1 + 1, oA), (30, tabObj #[rawInt 32, rawInt 4, .ref c]), (c, oc)]) F1 N1 (fun q hq => by
        rcases List.mem_cons.mp hq with rfl | hq
        · k_mem
        · rcases List.mem_cons.mp hq with rfl | hq
          · k_mem
          · rw [List.mem_singleton.mp hq]; k_mem) (fun q hq => by rw [List.mem_singleton.mp hq]; k_mem)
        (Off.cons (fun q hq => by rw [List.mem_singleton.mp hq]; exact Nat.ne_of_lt (by omega)) (Off.cons (fun q hq => by rw [List.mem_singleton.mp hq]; exact Nat.ne_of_lt (by omega)) (Off.cons (fun q hq => by rw [List.mem_singleton.mp hq]; exact Nat.ne_of_gt (by omega)) Off.nil)))
      clear F1 N1
      rw [List.cons_append, List.nil_append] at N2
      dsimp only at F2 N2 ⊢
      k_steps
      obtain ⟨fl, fv, fb⟩ := fill_all (x := x) hn eB1 hnB hx
      refine (show LeaveH _ _ _ _ _ _ _ from ⟨_, (D, listOf vs1.toArray 0) :: [(30, tabObj #[rawInt 32, rawInt 4, .ref c]), (c, oc)], F2, fun q hq => N2 q ?_, fun P => hret D vs1 _ _ _ _ (.inr ⟨c, oc, vc, tc, rfl, dc1, dc2, Nat.ne_of_gt (by omega)⟩) hi2 (by omega) fv fb ?_ P⟩)
      · rcases List.mem_cons.mp hq with rfl | hq
        · k_mem
        · exact List.mem_cons_of_mem _ (List.mem_cons_of_mem _ hq)
      · intro q hq
        rcases List.mem_cons.mp hq with rfl | hq
        · exact Nat.ne_of_lt (by omega)
        · rw [List.mem_singleton.mp hq]; exact Nat.ne_of_gt (by omega)
  · rename_i oI0 oA0 oN dI0 dA0 dN0 lL hA lA D hB iB nB sB eB1 eB2 eB3 lB hC oA dA f c oc vc tc ct dc hD tkD dc1 dc2 lc1 lc2 hE oI F1 N1 dI ha
    have e3 := eB3 hd1
    have e4 := hd4 ha
    have hnB : nB = 0 := by omega
    have eds : (List.replicate (((Builtin.Int.intBits x : Int) + n - 1).fdiv n).toNat [(0 : Int)]).flatten = [] := List.length_eq_zero_iff.mp (by omega)
    rw [eds] at iB
    refine (show LeaveH _ _ _ _ _ _ _ from ⟨_, (D, listOf (List.replicate (((Builtin.Int.intBits x : Int) + n - 1).fdiv n).toNat [Value.int 0 tk']).flatten.toArray 0) :: [(30, tabObj #[rawInt 32, rawInt 4, .ref c]), (c, oc)], F1, fun q hq => N1 q ?_, fun P => hret D _ [] _ _ _ (.inr ⟨c, oc, vc, tc, rfl, dc1, dc2, Nat.ne_of_gt (by omega)⟩) iB (by decide) ha.symm (fun e he => nomatch he) ?_ P⟩)
    · rcases List.mem_cons.mp hq with rfl | hq
      · k_mem
      · rcases List.mem_cons.mp hq with rfl | hq
        · k_mem
        · rw [List.mem_singleton.mp hq]; k_mem
    · intro q hq
      rcases List.mem_cons.mp hq with rfl | hq
      · exact Nat.ne_of_lt (by omega)
      · rw [List.mem_singleton.mp hq]; exact Nat.ne_of_gt (by omega)
end
section
open PySem PySem.W PyProof.Rows
theorem freshH4 : (1 : Nat) = 1 := by
  (first | walk1 | rfl)
  w_top off
end
section
open PySem PySem.W PyProof.Rows
local macro_rules | `(tactic| k_all) => `(tactic| first | with_reducible assumption | exact tailNe (by assumption) (by omega))
set_option maxRecDepth 100000 in
set_option maxHeartbeats 8000000 in
theorem i2d_hit : ∀ (w : World) (p : Program) (loose : List Str) (mean : ExcName → Option Value) (mg mb : Str → Option Value) (dp un : Nat) (gd : Option (List Code)) (fr : Option (List Env)) (h₀ : Heap) (s : Shared) (Q E : Value → Shared → Prop) (c : Addr) (oc : Obj) (vc : Array Value) (tc : Tok) (x n : Int) (tx tn : Tok),
    St h₀ s.heap [(30, tabObj #[rawInt 32, rawInt 4, .ref c]), (c, oc)] → oc.data = .fields vc → vc[1]? = some (.str q35 tc) → c ≠ 30 → CodeHd h₀ 34 30 → (Mine.hd.heap_39 w.params).In h₀ → Top p loose mean mg mb h₀ → dp + 100 < recursionLimit → un + 1000 < cLine → 0 ≤ x → x ≤ 1099511627776 → 0 < n → n < 30 →
    (∀ D vs ds h' tk', IntsAre vs ds → ds.length ≤ 64 → val n.toNat ds = x → (∀ e ∈ ds, 0 ≤ e ∧ e ≤ x) → (∀ q ∈ [(30, tabObj #[rawInt 32, rawInt 4, .ref c]), (c, oc)], q.1 ≠ D) → Post s.heap h' [(30, tabObj #[rawInt 32, rawInt 4, .ref c]), (c, oc)] ((D, listOf vs.toArray 0) :: [(30, tabObj #[rawInt 32, rawInt 4, .ref c]), (c, oc)]) → Q (.ref D) { s with heap := h', toks := tk' }) →
    wpAny (model PySem.Challenge.rw_gv0003_01.row.prog w) (top0 dp un gd fr) (call (.ref 35) [.int x tx, .int n tn]) Q E s := by
  k_fill
  intro w p loose mean mg mb dp un gd fr h₀ s Q E c oc vc tc x n tx tn S dc1 dc2 hc30 C X T hdp hun hx hx2 hn hn2 hret
  have hdl := digits_le hx hx2 hn
  obtain ⟨hd1, hd2, hd3, hd4⟩ := hdl
  k_dflt (refine' enterC ?k4 ?k3 ?k5 ?k6 ?k7 ?k8 ?k9 ?kB ?kD ?_ ?c2 ?c3 ?c4; (case k3 => k_asm); (case k4 => k_asm); (case k5 => k_asm); (case k6 => k_is); (case k7 => k_is); (case k8 => ktr_room); (case k9 => exact BindsTo.of_eq rfl); (case kB => exact rfl); (case kD => decide +kernel); (case c2 => exact rfl); (case c3 => exact rfl); (case c4 => exact rfl); k_whole; intro g' L' h' tk' cells' F' N' Y' X' T' kS' kG' l1; (try k_lt l1); k_cells Y'; (try simp only [List.cons_append, List.nil_append] at N'); (try dsimp only); (try k_fold))
  have C' := C.keeps kS'
  k_steps
  · rename_i oI0 oA0 oN dI0 dA0 dN0 lL hA lA D hB iB nB sB eB1 eB2 eB3 lB hC oA dA f ct dc hD tkD lF hE oI F1 N1 dI ha
    have e3 := eB3 hd1
    have e4 := hd3 (by omega)
    have hnB : 0 < nB := by omega
    refine' i2d_in ?hK dA ?hN dI hn hn2 ?x1 ?x2 ?x3 ?x4 ?x5 nB g' _ _ _ _ _ _ _ x 0 nB _ _ _ _ _ X' T' (St.of F1 N1 ?sub) ?hf ?hc ?gA ?gN ?gI iB ?a1 ?a2 ?a3 ?a4 ?a5 hx hx2 ?a6 ?a7 ?last
    case hK => k_is
    case hf => exact (N1 _ (by k_mem)).1
    case hN => exact dN0
    case x1 => exact Nat.ne_of_gt (by omega)
    case x2 => exact Nat.ne_of_lt (by omega)
    case x3 => exact Nat.ne_of_lt (by omega)
    case x4 => exact Nat.ne_of_lt (by omega)
    case x5 => exact Nat.ne_of_lt (by omega)
    case sub => 
      intro q hq
      rw [List.mem_singleton.mp hq]
      k_mem
    case hc => exact codeRec_news N1 (by k_mem) dc1 dc2
    case gA => exact News.get N1 (by k_mem)
    case gN => exact News.get N1 (by k_mem)
    case gI => exact News.get N1 (by k_mem)
    case a1 => omega
    case a2 => omega
    case a3 => omega
    case a4 => omega
    case a5 => omega
    case a6 => (dsimp only [top0]; omega)
    case a7 => (dsimp only [top0]; omega)
    case last =>
      intro vs1 h1 tk1 hi2 P1
      obtain ⟨F2, N2, _⟩ := P1.back (rest := [(L' + 1 + 1, oA), (30, tabObj #[rawInt 32, rawInt 4, .ref c]), (c, oc)]) F1 N1 (fun q hq => by
        rcases List.mem_cons.mp hq with rfl | hq
        · k_mem
        · rcases List.mem_cons.mp hq with rfl | hq
          · k_mem
          · rw [List.mem_singleton.mp hq]; k_mem) (fun q hq => by rw [List.mem_singleton.mp hq]; k_mem)
        (Off.cons (fun q hq => by rw [List.mem_singleton.mp hq]; exact Nat.ne_of_lt (by omega)) (Off.cons (fun q hq => by rw [List.mem_singleton.mp hq]; exact Nat.ne_of_lt (by omega)) (Off.cons (fun q hq => by rw [List.mem_singleton.mp hq]; exact Nat.ne_of_lt (by omega)) Off.nil)))
      clear F1 N1
      rw [List.cons_append, List.nil_append] at N2
      dsimp only at F2 N2 ⊢
      k_steps
      obtain ⟨fl, fv, fb⟩ := fill_all (x := x) hn eB1 hnB hx
      refine (show LeaveH _ _ _ _ _ _ _ from ⟨_, (D, listOf vs1.toArray 0) :: [(30, tabObj #[rawInt 32, rawInt 4, .ref c]), (c, oc)], F2, fun q hq => N2 q ?_, fun P => hret D vs1 _ _ _ hi2 (by omega) fv fb ?_ P⟩)
      · rcases List.mem_cons.mp hq with rfl | hq
        · k_mem
        · exact List.mem_cons_of_mem _ (List.mem_cons_of_mem _ hq)
      · intro q hq
        rcases List.mem_cons.mp hq with rfl | hq
        · exact Nat.ne_of_lt (by omega)
        · rw [List.mem_singleton.mp hq]; exact Nat.ne_of_lt (by omega)
  · rename_i oI0 oA0 oN dI0 dA0 dN0 lL hA lA D hB iB nB sB eB1 eB2 eB3 lB hC oA dA f ct dc hD tkD lF hE oI F1 N1 dI ha
    have e3 := eB3 hd1
    have e4 := hd4 ha
    have hnB : nB = 0 := by omega
    have eds : (List.replicate (((Builtin.Int.intBits x : Int) + n - 1).fdiv n).toNat [(0 : Int)]).flatten = [] := List.length_eq_zero_iff.mp (by omega)
    rw [eds] at iB
    refine (show LeaveH _ _ _ _ _ _ _ from ⟨_, (D, listOf (List.replicate (((Builtin.Int.intBits x : Int) + n - 1).fdiv n).toNat [Value.int 0 tk']).flatten.toArray 0) :: [(30, tabObj #[rawInt 32, rawInt 4, .ref c]), (c, oc)], F1, fun q hq => N1 q ?_, fun P => hret D _ [] _ _ iB (by decide) ha.symm (fun e he => nomatch he) ?_ P⟩)
    · rcases List.mem_cons.mp hq with rfl | hq
      · k_mem
      · rcases List.mem_cons.mp hq with rfl | hq
        · k_mem
        · rw [List.mem_singleton.mp hq]; k_mem
    · intro q hq
      rcases List.mem_cons.mp hq with rfl | hq
      · exact Nat.ne_of_lt (by omega)
      · rw [List.mem_singleton.mp hq]; exact Nat.ne_of_lt (by omega)
/-- _int2digits, with its table empty or filled -/
theorem i2d : ∀ (w : World) (p : Program) (loose : List Str) (mean : ExcName → Option Value) (mg mb : Str → Option Value) (dp un : Nat) (gd : Option (List Code)) (fr : Option (List Env)) (h₀ : Heap) (s : Shared) (Q E : Value → Shared → Prop) (t1 : List (Addr × Obj)) (x n : Int) (tx tn : Tok),
    St h₀ s.heap t1 → Tab1 30 32 4 q35 t1 → CodeHd h₀ 34 30 → (Mine.hd.heap_39 w.params).In h₀ → Top p loose mean mg mb h₀ → dp + 100 < recursionLimit → un + 1000 < cLine → 0 ≤ x → x ≤ 1099511627776 → 0 < n → n < 30 →
    (∀ D vs ds t1' h' tk', Tab1 30 32 4 q35 t1' → IntsAre vs ds → ds.length ≤ 64 → val n.toNat ds = x → (∀ e ∈ ds, 0 ≤ e ∧ e ≤ x) → (∀ q ∈ t1', q.1 ≠ D) → Post s.heap h' t1 ((D, listOf vs.toArray 0) :: t1') → Q (.ref D) { s with heap := h', toks := tk' }) →
    wpAny (model PySem.Challenge.rw_gv0003_01.row.prog w) (top0 dp un gd fr) (call (.ref 35) [.int x tx, .int n tn]) Q E s := by
  intro w p loose mean mg mb dp un gd fr h₀ s Q E t1 x n tx tn S ht C X T hdp hun hx hx2 hn hn2 hret
  rcases ht with rfl | ⟨c, oc, vc, tc, rfl, d1, d2, d3⟩
  · exact i2d_miss w p loose mean mg mb dp un gd fr h₀ s Q E x n tx tn S C X T hdp hun hx hx2 hn hn2 hret
  · exact i2d_hit w p loose mean mg mb dp un gd fr h₀ s Q E c oc vc tc x n tx tn S d1 d2 d3 C X T hdp hun hx hx2 hn hn2 fun D vs ds h' tk' => hret D vs ds _ h' tk' (.inr ⟨c, oc, vc, tc, rfl, d1, d2, d3⟩)
end
section
open PySem PySem.W PyProof.Rows
theorem freshH5 : (1 : Nat) = 1 := by
  (first | walk1 | rfl)
  w_top off
end
section
open PySem PySem.W PyProof.Rows
section
local macro_rules | `(tactic| walk_at "eval Name") => `(tactic| (k_here; k_dflt (refine' nameX_H ?F ?c ?g ?d ?_ ?a ?b; (case a => rfl); (case b => rfl); (case F => k_asm); (case c => rfl); (case g => assumption); (case d => assumption); k_whole)))
local macro_rules | `(tactic| walk_at "FnAt") => `(tactic| (k_dflt (exact fnAt_H (by assumption) (by assumption))))
local macro_rules | `(tactic| walk_at "callWith ref") => `(tactic| (k_here; k_dflt (refine' callWith_F ?k1 ?_; (case k1 => exact fnAt_H (by assumption) (by assumption)); k_whole)))
set_option maxRecDepth 100000 in
set_option maxHeartbeats 8000000 in
theorem d2i_in {w : World} {p : Program} {loose : List Str} {mean : ExcName → Option Value} {mg mb : Str → Option Value}
    {oc0 : Value} {od0 : Option Addr} {nm0 q0 : Str} {prm0 : Arguments} {st1 : Stmt} {nm : Str} {prm : Arguments} {bod : List Stmt} {ds : List Expr} {rt : Option Expr} {tps : List TypeParam} {sc : Scope} {tsc : Option Scope} {bd : Str} {ps : Pos}
    {sc0 : Scope} {dV kV doc0 pm0 : Value} {an0 : Option Addr} {cdv0 ct0 : Value} {osl0 : Array (Option Value)}
    {f c' cA cN cI D : Addr} {oA oN oI : Obj} {n : Int} {tn : Tok} {q : Str} {doc pm ct : Value} {cD : Nat} {vs : List Value} {ns : List Int} :
    (Mine.hd.heap_39 w.params).lookup 42 = some ⟨oc0, od0, .func (fnOf nm0 q0 prm0 [.FunctionDef nm prm bod ds rt tps sc tsc bd ps, st1] sc0 dV kV doc0 pm0 an0 cdv0 ct0), osl0⟩ →
    oA.data = .cell (some (.ref D)) → oN.data = .cell (some (.int n tn)) → oI.data = .cell (some (.ref f)) → 0 < n → n < 30 →
    IntsAre vs ns → ns.length < 1000 → (∀ (k : Nat) (lo hi : Int), 0 ≤ lo → lo < hi → hi ≤ (ns.length : Int) → hi - lo ≤ (k : Int) → 0 ≤ read n ns k lo hi ∧ read n ns k lo hi ≤ 1099511627776) →
    ∀ (k : Nat) (h₀ : Heap) (dp un : Nat) (gd : Option (List Code)) (fr : Option (List Env)) (s : Shared) (Q E : Value → Shared → Prop) (lo hi : Int) (tl th : Tok),
      (Mine.hd.heap_39 w.params).In h₀ → Top p loose mean mg mb h₀ →
      St h₀ s.heap [] → s.heap.get? f = some (fnMade nm q prm bod sc [(Str.ofString "n", cN), (Str.ofString "inner", cI), (Str.ofString "digits", cA)] doc pm c' ct) → s.heap.CodeRec (.ref c') q →
      s.heap.get? cA = some oA → s.heap.get? cN = some oN → s.heap.get? cI = some oI → s.heap.get? D = some (listOf vs.toArray cD) →
      hi - lo ≤ k → 0 ≤ lo → lo < hi → hi ≤ ns.length →
      dp + k + 1 < recursionLimit → un + 8 * k + 8 < cLine →
      (∀ t h' tk', Post s.heap h' [] [] → Q (.int (read n ns k lo hi) t) { s with heap := h', toks := tk' }) →
      wpAny (model PySem.Challenge.rw_gv0003_01.row.prog w) (top0 dp un gd fr) (call (.ref f) [.int lo tl, .int hi th]) Q E s := by
  k_fill
  intro hK hA hN hI hn hn2 hi1 h5 hrd k
  refine' lookFn 0 hK ?kk ?_
  case kk => k_is
  intro eq es e
  subst eq es
  dsimp only [List.drop] at e
  cases e
  clear hK
  induction k with
  | zero => 
    intro h₀ dp un gd fr s Q E lo hi tl th X T S hf hc gA gN gI gD h1 h2 h3
    omega
  | succ k ih =>
    intro h₀ dp un gd fr s Q E lo hi tl th X T S hf hc gA gN gI gD h1 h2 h3 h4 hdp hun hret
    k_dflt (refine' enterN ?k4 ?k3 ?k5 ?k6 ?k7 ?k8 ?k9 ?kB ?_ ?c2 ?c3 ?c4 ?c5; (case k3 => k_asm); (case k4 => k_asm); (case k5 => k_asm); (case k6 => k_asm); (case k7 => k_asm); (case k8 => ktr_room); (case k9 => exact BindsTo.of_eq rfl); (case c5 => decide); (case kB => exact locs rfl); (case c2 => exact rfl); (case c3 => exact rfl); (case c4 => exact rfl); k_whole; intro g' L' h' F' N' X' T' kS' kG'; (try dsimp only); (try k_fold))
    have jf := kG' _ _ hf (by simp)
    have jA := kG' _ _ gA (by simp)
    have jN := kG' _ _ gN (by simp)
    have jI := kG' _ _ gI (by simp)
    have jD := kG' _ _ gD (by simp)
    have jc := codeRec_off hc (by simp) kG'
    have jL : g'.IsList D vs.toArray := ⟨_, jD, rfl, _, rfl⟩
    have hsh := sh_bound h2 h3 (by omega) hn hn2
    have hm1 : (lo + hi).fdiv (2 ^ (1 : Int).toNat) = (lo + hi) / 2 := mid_eq lo hi
    k_steps
    · rename lo + 1 = hi => hlh
      refine (show LeaveH _ _ _ _ _ _ _ from ⟨_, _, by assumption, by assumption, fun P => ?_⟩)
      have hq := fun t tk' => hret t _ tk' P
      rw [read, if_pos hlh] at hq
      exact hq _ _
    · rename lo + 1 ≠ hi => hlh
      rename Fr _ _ _ _ => F1
      rename News _ _ _ _ => N1
      (k_dflt (refine' ih g' _ _ _ _ _ _ _ _ _ _ _ X' T' (St.of F1 N1 fun _ h => h) (F1.keep _ _ jf) (codeRec_keep jc F1.keep) (F1.keep _ _ jA) (F1.keep _ _ jN) (F1.keep _ _ jI) (F1.keep _ _ jD) ?a1 ?a2 ?a3 ?a4 ?a5 ?a6 ?_))
      case a1 => omega
      case a2 => omega
      case a3 => omega
      case a4 => omega
      case a5 => (dsimp only [top0]; omega)
      case a6 => (dsimp only [top0]; omega)
      intro t1 h1 tk1 P1
      obtain ⟨F2, N2, _⟩ := P1.back (rest := []) F1 N1 (fun _ h => h) (fun _ h => h) Off.nil
      clear F1 N1
      rw [List.append_nil] at N2
      dsimp only at F2 N2 ⊢
      have hr1 := hrd k ((lo + hi).fdiv (2 ^ (1 : Int).toNat)) hi (by omega) (by omega) (by omega) (by omega)
      k_steps
      (k_dflt (refine' ih g' _ _ _ _ _ _ _ _ _ _ _ X' T' (St.of F2 N2 fun _ h => h) (F2.keep _ _ jf) (codeRec_keep jc F2.keep) (F2.keep _ _ jA) (F2.keep _ _ jN) (F2.keep _ _ jI) (F2.keep _ _ jD) ?a1 ?a2 ?a3 ?a4 ?a5 ?a6 ?_))
      case a1 => omega
      case a2 => omega
      case a3 => omega
      case a4 => omega
      case a5 => (dsimp only [top0]; omega)
      case a6 => (dsimp only [top0]; omega)
      intro t3 h3 tk3 P3
      obtain ⟨F4, N4, _⟩ := P3.back (rest := []) F2 N2 (fun _ h => h) (fun _ h => h) Off.nil
      clear F2 N2
      rw [List.append_nil] at N4
      dsimp only at F4 N4 ⊢
      k_steps
      refine (show LeaveH _ _ _ _ _ _ _ from ⟨_, _, F4, N4, fun P => ?_⟩)
      have hq := fun t tk' => hret t _ tk' P
      rw [read, if_neg hlh] at hq
      exact hq _ _
end
end
section
open PySem PySem.W PyProof.Rows
local macro_rules | `(tactic| k_all) => `(tactic| first | with_reducible assumption | exact tailNe (by assumption) (by omega))
section
open PySem PySem.W PyProof.Rows
theorem freshH6 : (1 : Nat) = 1 := by
  (first | walk1 | rfl)
  w_top off
end
section
open PySem PySem.W PyProof.Rows
theorem val_nonneg (n : Nat) : ∀ l : List Int, (∀ e ∈ l, 0 ≤ e) → 0 ≤ val n l
  | [], _ => by simp [val]
  | d :: r, h => by
    have a := h d (.head _)
    have b := val_nonneg n r fun e he => h e (.tail _ he)
    have := Int.mul_nonneg (Int.le_of_lt (pow2_pos n)) b
    rw [val]; omega
theorem val_mid (n : Nat) (a b c : List Int) (h : ∀ e ∈ a ++ b ++ c, 0 ≤ e) : 0 ≤ val n b ∧ val n b ≤ val n (a ++ b ++ c) := by
  have ha := val_nonneg n a fun e he => h e (List.mem_append_left _ (List.mem_append_left _ he))
  have hb := val_nonneg n b fun e he => h e (List.mem_append_left _ (List.mem_append_right _ he))
  have hc := val_nonneg n c fun e he => h e (List.mem_append_right _ he)
  refine ⟨hb, ?_⟩
  rw [List.append_assoc, val_append, val_append]
  have p1 := pow2_pos (n * a.length)
  have p2 := pow2_pos (n * b.length)
  have q1 := Int.mul_nonneg (Int.le_of_lt p2) hc
  have q2 := Int.mul_le_mul_of_nonneg_right (show (1 : Int) ≤ 2 ^ (n * a.length) by omega) (Int.add_nonneg hb q1)
  omega
theorem read_sl {n : Int} (hn : 0 < n) {ns : List Int} {k : Nat} {lo hi : Int} (h0 : 0 ≤ lo) (h1 : lo < hi) (h2 : hi ≤ (ns.length : Int)) (hk : hi - lo ≤ (k : Int)) :
    ∃ a b c, ns = a ++ b ++ c ∧ read n ns k lo hi = val n.toNat b := by
  obtain ⟨l, rfl⟩ := Int.eq_ofNat_of_zero_le h0
  obtain ⟨r, rfl⟩ := Int.eq_ofNat_of_zero_le (show 0 ≤ hi by omega)
  have e : ns = ns.take l ++ (ns.drop l).take (r - l) ++ ns.drop r := by
    conv => lhs; rw [← List.take_append_drop l ns, ← List.take_append_drop (r - l) (ns.drop l)]
    rw [List.drop_drop, show l + (r - l) = r by omega, List.append_assoc]
  refine ⟨_, _, _, e, ?_⟩
  have l1 : (ns.take l).length = l := by rw [List.length_take]; omega
  have l2 : ((ns.drop l).take (r - l)).length = r - l := by rw [List.length_take, List.length_drop]; omega
  have s := read_spec n.toNat k (ns.take l) ((ns.drop l).take (r - l)) (ns.drop r) (by intro q; rw [q] at l2; simp at l2; omega) (by omega)
  rw [← e, Int.toNat_of_nonneg (by omega), l1, l2, show l + (r - l) = r by omega] at s
  exact s
theorem read_bound {n B : Int} (hn : 0 < n) {ns : List Int} (hnn : ∀ e ∈ ns, 0 ≤ e) (hv : val n.toNat ns ≤ B) :
    ∀ (k : Nat) (lo hi : Int), 0 ≤ lo → lo < hi → hi ≤ (ns.length : Int) → hi - lo ≤ (k : Int) → 0 ≤ read n ns k lo hi ∧ read n ns k lo hi ≤ B := by
  intro k lo hi h0 h1 h2 hk
  obtain ⟨a, b, c, e, r⟩ := read_sl hn h0 h1 h2 hk
  subst e
  have := val_mid n.toNat a b c hnn
  rw [r]; omega
theorem read_all {n : Int} (hn : 0 < n) {ns : List Int} (h : 0 < ns.length) : read n ns ns.length 0 ns.length = val n.toNat ns := by
  have s := read_spec n.toNat ns.length [] ns [] (List.length_pos_iff.mp h) (Nat.le_refl _)
  rw [Int.toNat_of_nonneg (by omega)] at s
  simp only [List.length_nil, List.nil_append, List.append_nil, Nat.zero_add] at s
  exact s
abbrev q42 : Str := Str.ofString "_digits2int" ++ ".<locals>." ++ Str.ofString "inner"
set_option maxRecDepth 100000 in
set_option maxHeartbeats 8000000 in
theorem d2i_miss : ∀ (w : World) (p : Program) (loose : List Str) (mean : ExcName → Option Value) (mg mb : Str → Option Value) (dp un : Nat) (gd : Option (List Code)) (fr : Option (List Env)) (h₀ : Heap) (s : Shared) (Q E : Value → Shared → Prop) (Dg : Addr) (cD : Nat) (vs : List Value) (ns : List Int) (n : Int) (tn : Tok),
    St h₀ s.heap [(37, tabObj #[])] → s.heap.get? Dg = some (listOf vs.toArray cD) → Dg ≠ 37 → IntsAre vs ns → ns.length ≤ 64 → (∀ e ∈ ns, 0 ≤ e) → val n.toNat ns ≤ 1099511627776 → CodeHd h₀ 41 37 → (Mine.hd.heap_39 w.params).In h₀ → Top p loose mean mg mb h₀ → dp + 100 < recursionLimit → un + 1000 < cLine → 0 < n → n < 30 →
    (∀ t t1 h' tk', Tab1 37 47 4 q42 t1 → Post s.heap h' [(37, tabObj #[])] t1 → Q (.int (val n.toNat ns) t) { s with heap := h', toks := tk' }) →
    wpAny (model PySem.Challenge.rw_gv0003_01.row.prog w) (top0 dp un gd fr) (call (.ref 42) [.ref Dg, .int n tn]) Q E s := by
  k_fill
  intro w p loose mean mg mb dp un gd fr h₀ s Q E Dg cD vs ns n tn S hDg hD37 hi hlen hnn hv C X T hdp hun hn hn2 hret
  k_dflt (refine' enterC ?k4 ?k3 ?k5 ?k6 ?k7 ?k8 ?k9 ?kB ?kD ?_ ?c2 ?c3 ?c4; (case k3 => k_asm); (case k4 => k_asm); (case k5 => k_asm); (case k6 => k_is); (case k7 => k_is); (case k8 => ktr_room); (case k9 => exact BindsTo.of_eq rfl); (case kB => exact rfl); (case kD => decide +kernel); (case c2 => exact rfl); (case c3 => exact rfl); (case c4 => exact rfl); k_whole; intro g' L' h' tk' cells' F' N' Y' X' T' kS' kG' l1; (try k_lt l1); k_cells Y'; (try simp only [List.cons_append, List.nil_append] at N'); (try dsimp only); (try k_fold))
  have C' := C.keeps kS'
  have hlen2 := hi.length
  have hgD : g'.get? Dg = some (listOf vs.toArray cD) := kG' _ _ hDg (by simpa using hD37)
  have jD : g'.IsList Dg vs.toArray := ⟨_, hgD, rfl, _, rfl⟩
  k_steps
  · rename_i oI0 oN oA dI0 dN0 dA0 f c oc vc tc ct dc hD tkD dc1 dc2 lc1 lc2 hE oI F1 N1 dI ha
    refine' d2i_in ?hK ?hA ?hN dI hn hn2 hi ?x1 (read_bound hn hnn hv) ns.length g' _ _ _ _ _ _ _ 0 ns.length _ _ X' T' (St.of F1 N1 (fun _ h => nomatch h)) ?hf ?hc ?gA ?gN ?gI ?gD ?a1 ?a2 ?a3 ?a4 ?a6 ?a7 ?last
    case hK => k_is
    case hf => exact (N1 _ (by k_mem)).1
    case hA => exact dA0
    case hN => exact dN0
    case x1 => omega
    case hc => exact codeRec_news N1 (by k_mem) dc1 dc2
    case gA => exact News.get N1 (by k_mem)
    case gN => exact News.get N1 (by k_mem)
    case gI => exact News.get N1 (by k_mem)
    case gD => exact F1.keep _ _ hgD
    case a1 => omega
    case a2 => omega
    case a3 => omega
    case a4 => omega
    case a6 => (dsimp only [top0]; omega)
    case a7 => (dsimp only [top0]; omega)
    case last =>
      intro t1 h1 tk1 P1
      obtain ⟨F2, N2, _⟩ := P1.back (rest := [(37, tabObj #[rawInt 47, rawInt 4, .ref c]), (c, oc)]) F1 N1 (fun q hq => by
        rcases List.mem_cons.mp hq with rfl | hq
        · k_mem
        · rw [List.mem_singleton.mp hq]; k_mem) (fun q hq => nomatch hq) Off.nilr
      clear F1 N1
      rw [List.nil_append] at N2
      dsimp only at F2 N2 ⊢
      k_steps
      refine (show LeaveH _ _ _ _ _ _ _ from ⟨_, _, F2, N2, fun P => ?_⟩)
      rw [read_all hn ha]
      exact hret _ _ _ _ (.inr ⟨c, oc, vc, tc, rfl, dc1, dc2, Nat.ne_of_gt (by omega)⟩) P
  · rename_i oI0 oN oA dI0 dN0 dA0 f c oc vc tc ct dc hD tkD dc1 dc2 lc1 lc2 hE oI F1 N1 dI ha
    have e0 : ns = [] := List.length_eq_zero_iff.mp (by omega)
    subst e0
    refine (show LeaveH _ _ _ _ _ _ _ from ⟨_, [(37, tabObj #[rawInt 47, rawInt 4, .ref c]), (c, oc)], F1, fun q hq => N1 q ?_, fun P => hret _ _ _ _ (.inr ⟨c, oc, vc, tc, rfl, dc1, dc2, Nat.ne_of_gt (by omega)⟩) P⟩)
    rcases List.mem_cons.mp hq with rfl | hq
    · k_mem
    · rw [List.mem_singleton.mp hq]; k_mem
end
section
open PySem PySem.W PyProof.Rows
theorem freshH7 : (1 : Nat) = 1 := by
  (first | walk1 | rfl)
  w_top off
end
section
open PySem PySem.W PyProof.Rows
set_option maxRecDepth 100000 in
set_option maxHeartbeats 8000000 in
theorem d2i_hit : ∀ (w : World) (p : Program) (loose : List Str) (mean : ExcName → Option Value) (mg mb : Str → Option Value) (dp un : Nat) (gd : Option (List Code)) (fr : Option (List Env)) (h₀ : Heap) (s : Shared) (Q E : Value → Shared → Prop) (c : Addr) (oc : Obj) (vc : Array Value) (tc : Tok) (Dg : Addr) (cD : Nat) (vs : List Value) (ns : List Int) (n : Int) (tn : Tok),
    St h₀ s.heap [(37, tabObj #[rawInt 47, rawInt 4, .ref c]), (c, oc)] → oc.data = .fields vc → vc[1]? = some (.str q42 tc) → c ≠ 37 → s.heap.get? Dg = some (listOf vs.toArray cD) → Dg ≠ 37 → Dg ≠ c → IntsAre vs ns → ns.length ≤ 64 → (∀ e ∈ ns, 0 ≤ e) → val n.toNat ns ≤ 1099511627776 → CodeHd h₀ 41 37 → (Mine.hd.heap_39 w.params).In h₀ → Top p loose mean mg mb h₀ → dp + 100 < recursionLimit → un + 1000 < cLine → 0 < n → n < 30 →
    (∀ t h' tk', Post s.heap h' [(37, tabObj #[rawInt 47, rawInt 4, .ref c]), (c, oc)] [(37, tabObj #[rawInt 47, rawInt 4, .ref c]), (c, oc)] → Q (.int (val n.toNat ns) t) { s with heap := h', toks := tk' }) →
    wpAny (model PySem.Challenge.rw_gv0003_01.row.prog w) (top0 dp un gd fr) (call (.ref 42) [.ref Dg, .int n tn]) Q E s := by
  k_fill
  intro w p loose mean mg mb dp un gd fr h₀ s Q E c oc vc tc Dg cD vs ns n tn S dc1 dc2 hc37 hDg hD37 hDc hi hlen hnn hv C X T hdp hun hn hn2 hret
  k_dflt (refine' enterC ?k4 ?k3 ?k5 ?k6 ?k7 ?k8 ?k9 ?kB ?kD ?_ ?c2 ?c3 ?c4; (case k3 => k_asm); (case k4 => k_asm); (case k5 => k_asm); (case k6 => k_is); (case k7 => k_is); (case k8 => ktr_room); (case k9 => exact BindsTo.of_eq rfl); (case kB => exact rfl); (case kD => decide +kernel); (case c2 => exact rfl); (case c3 => exact rfl); (case c4 => exact rfl); k_whole; intro g' L' h' tk' cells' F' N' Y' X' T' kS' kG' l1; (try k_lt l1); k_cells Y'; (try simp only [List.cons_append, List.nil_append] at N'); (try dsimp only); (try k_fold))
  have C' := C.keeps kS'
  have hlen2 := hi.length
  have hgD : g'.get? Dg = some (listOf vs.toArray cD) := kG' _ _ hDg (by simp [hD37, hDc])
  have jD : g'.IsList Dg vs.toArray := ⟨_, hgD, rfl, _, rfl⟩
  k_steps
  · rename_i oI0 oN oA dI0 dN0 dA0 f ct dc hD tkD lF hE oI F1 N1 dI ha
    refine' d2i_in ?hK ?hA ?hN dI hn hn2 hi ?x1 (read_bound hn hnn hv) ns.length g' _ _ _ _ _ _ _ 0 ns.length _ _ X' T' (St.of F1 N1 (fun _ h => nomatch h)) ?hf ?hc ?gA ?gN ?gI ?gD ?a1 ?a2 ?a3 ?a4 ?a6 ?a7 ?last
    case hK => k_is
    case hf => exact (N1 _ (by k_mem)).1
    case hA => exact dA0
    case hN => exact dN0
    case x1 => omega
    case hc => exact codeRec_news N1 (by k_mem) dc1 dc2
    case gA => exact News.get N1 (by k_mem)
    case gN => exact News.get N1 (by k_mem)
    case gI => exact News.get N1 (by k_mem)
    case gD => exact F1.keep _ _ hgD
    case a1 => omega
    case a2 => omega
    case a3 => omega
    case a4 => omega
    case a6 => (dsimp only [top0]; omega)
    case a7 => (dsimp only [top0]; omega)
    case last =>
      intro t1 h1 tk1 P1
      obtain ⟨F2, N2, _⟩ := P1.back (rest := [(37, tabObj #[rawInt 47, rawInt 4, .ref c]), (c, oc)]) F1 N1 (fun q hq => by
        rcases List.mem_cons.mp hq with rfl | hq
        · k_mem
        · rw [List.mem_singleton.mp hq]; k_mem) (fun q hq => nomatch hq) Off.nilr
      clear F1 N1
      rw [List.nil_append] at N2
      dsimp only at F2 N2 ⊢
      k_steps
      refine (show LeaveH _ _ _ _ _ _ _ from ⟨_, _, F2, N2, fun P => ?_⟩)
      rw [read_all hn ha]
      exact hret _ _ _ P
  · rename_i oI0 oN oA dI0 dN0 dA0 f ct dc hD tkD lF hE oI F1 N1 dI ha
    have e0 : ns = [] := List.length_eq_zero_iff.mp (by omega)
    subst e0
    refine (show LeaveH _ _ _ _ _ _ _ from ⟨_, [(37, tabObj #[rawInt 47, rawInt 4, .ref c]), (c, oc)], F1, fun q hq => N1 q ?_, fun P => hret _ _ _ P⟩)
    rcases List.mem_cons.mp hq with rfl | hq
    · k_mem
    · rw [List.mem_singleton.mp hq]; k_mem
/-- _digits2int, with its table empty or filled -/
theorem d2i : ∀ (w : World) (p : Program) (loose : List Str) (mean : ExcName → Option Value) (mg mb : Str → Option Value) (dp un : Nat) (gd : Option (List Code)) (fr : Option (List Env)) (h₀ : Heap) (s : Shared) (Q E : Value → Shared → Prop) (t2 : List (Addr × Obj)) (Dg : Addr) (cD : Nat) (vs : List Value) (ns : List Int) (n : Int) (tn : Tok),
    St h₀ s.heap t2 → Tab1 37 47 4 q42 t2 → s.heap.get? Dg = some (listOf vs.toArray cD) → (∀ q ∈ t2, q.1 ≠ Dg) → IntsAre vs ns → ns.length ≤ 64 → (∀ e ∈ ns, 0 ≤ e) → val n.toNat ns ≤ 1099511627776 → CodeHd h₀ 41 37 → (Mine.hd.heap_39 w.params).In h₀ → Top p loose mean mg mb h₀ → dp + 100 < recursionLimit → un + 1000 < cLine → 0 < n → n < 30 →
    (∀ t t2' h' tk', Tab1 37 47 4 q42 t2' → Post s.heap h' t2 t2' → Q (.int (val n.toNat ns) t) { s with heap := h', toks := tk' }) →
    wpAny (model PySem.Challenge.rw_gv0003_01.row.prog w) (top0 dp un gd fr) (call (.ref 42) [.ref Dg, .int n tn]) Q E s := by
  intro w p loose mean mg mb dp un gd fr h₀ s Q E t2 Dg cD vs ns n tn S ht hDg hoff hi hlen hnn hv C X T hdp hun hn hn2 hret
  rcases ht with rfl | ⟨c, oc, vc, tc, rfl, d1, d2, d3⟩
  · exact d2i_miss w p loose mean mg mb dp un gd fr h₀ s Q E Dg cD vs ns n tn S hDg (hoff _ (.head _)).symm hi hlen hnn hv C X T hdp hun hn hn2 hret
  · exact d2i_hit w p loose mean mg mb dp un gd fr h₀ s Q E c oc vc tc Dg cD vs ns n tn S d1 d2 d3 hDg (hoff _ (.head _)).symm (hoff _ (.tail _ (.head _))).symm hi hlen hnn hv C X T hdp hun hn hn2 fun t h' tk' => hret t _ h' tk' (.inr ⟨c, oc, vc, tc, rfl, d1, d2, d3⟩)
end
section
open PySem PySem.W PyProof.Rows PySem.Calls
set_option maxRecDepth 100000
section
variable {prog : Program} {w : World} {A : Around} {E : Value → Shared → Prop} {s : Shared} {env : Env} {h₀ : Heap} {x : Str} {body : List Stmt} {Q : Flow → Shared → Prop}
/-- a turn's end, under a name that no line of the walk takes -/
def TurnH (h₀ : Heap) (L : Addr) (s₁ : Shared) (I : Addr) (it : Obj) (R : (Str → Option Value) → List (Addr × Obj) → Prop) (Q : Flow → Shared → Prop) (f : Flow) (s₂ : Shared) : Prop := UnrPost h₀ L s₁ I it R Q f s₂
theorem TurnH.next {L I : Addr} {it : Obj} {R : (Str → Option Value) → List (Addr × Obj) → Prop} {s₁ : Shared} {h' : Heap} {tk : Nat} {m' : Str → Option Value} {all : List (Addr × Obj)} (F : Fr h₀ L h' m') (N : News h₀ L h' all) (news' : List (Addr × Obj))
    (hI : (I, it) ∈ all) (sub : ∀ p ∈ news', p ∈ all) (off : ∀ p ∈ news', p.1 ≠ I) (r : R m' news') : TurnH h₀ L s₁ I it R Q .next { s₁ with heap := h', toks := tk } :=
  UnrEnd.intro F N news' (fun p hp => by
    rcases List.mem_cons.mp hp with rfl | hp
    · exact hI
    · exact sub p hp) off r
theorem TurnH.cont {L I : Addr} {it : Obj} {R : (Str → Option Value) → List (Addr × Obj) → Prop} {s₁ : Shared} {h' : Heap} {tk : Nat} {m' : Str → Option Value} {all : List (Addr × Obj)} (F : Fr h₀ L h' m') (N : News h₀ L h' all) (news' : List (Addr × Obj))
    (hI : (I, it) ∈ all) (sub : ∀ p ∈ news', p ∈ all) (off : ∀ p ∈ news', p.1 ≠ I) (r : R m' news') : TurnH h₀ L s₁ I it R Q .cont { s₁ with heap := h', toks := tk } :=
  UnrEnd.intro F N news' (fun p hp => by
    rcases List.mem_cons.mp hp with rfl | hp
    · exact hI
    · exact sub p hp) off r
theorem TurnH.next2 {L I : Addr} {it : Obj} {R : (Str → Option Value) → List (Addr × Obj) → Prop} {s₁ : Shared} {h' : Heap} {tk : Nat} {m' : Str → Option Value} {news' : List (Addr × Obj)} (F : Fr h₀ L h' m') (N : News h₀ L h' ((I, it) :: news'))
    (off : ∀ p ∈ news', p.1 ≠ I) (r : R m' news') : TurnH h₀ L s₁ I it R Q .next { s₁ with heap := h', toks := tk } := TurnH.next F N news' (.head _) (fun _ hp => .tail _ hp) off r
theorem TurnH.brk {L I : Addr} {it : Obj} {R : (Str → Option Value) → List (Addr × Obj) → Prop} {s₁ s₂ : Shared} (h : Q .next s₂) : TurnH h₀ L s₁ I it R Q .brk s₂ := h
theorem TurnH.ret {L I : Addr} {it : Obj} {R : (Str → Option Value) → List (Addr × Obj) → Prop} {s₁ s₂ : Shared} {v : Value} (h : Q (.ret v) s₂) : TurnH h₀ L s₁ I it R Q (.ret v) s₂ := h
theorem UnrPost.mono {L I : Addr} {it : Obj} {R R' : (Str → Option Value) → List (Addr × Obj) → Prop} {s₁ s₂ : Shared} {f : Flow} (hR : ∀ m n, R m n → R' m n) (h : TurnH h₀ L s₁ I it R Q f s₂) : UnrPost h₀ L s₁ I it R' Q f s₂ := by
  have go : UnrEnd h₀ L s₁ I it R s₂ → UnrEnd h₀ L s₁ I it R' s₂ := fun ⟨h', tk, m', n', e, F, N, o, r⟩ => ⟨h', tk, m', n', e, F, N, o, hR _ _ r⟩
  cases f with
  | next => exact go h
  | cont => exact go h
  | brk => exact h
  | ret v => exact h

theorem rev_ind {I : Addr} {lp : Addr × Obj} (Inv : List Value → (Str → Option Value) → List (Addr × Obj) → Prop)
    (base : ∀ m news, Inv [] m news → ∀ h tk, Fr h₀ env.locals h m → News h₀ env.locals h news → Q .next { s with heap := h, toks := tk })
    (step : ∀ v r m news, Inv (v :: r) m news → ∀ (it : Obj) h tk, it.cls = .type "list_reverseiterator" → Fr h₀ env.locals h (fun y => if y = x then some v else m y) → News h₀ env.locals h ((I, it) :: news) →
      wpAny (model prog w) A (execs body env) (TurnH h₀ env.locals { s with heap := h, toks := tk } I it (fun m' n' => lp ∈ n' ∧ Inv r m' n') Q) E { s with heap := h, toks := tk }) :
    ∀ l m news, Inv l m news → RevRest prog w A E h₀ env x body Q s I lp l m news
  | [], m, news, i => base m news i
  | v :: r, m, news, i => fun it h tk hc F N => wpAny_mono (step v r m news i it h tk hc F N) (fun _ _ h => UnrPost.mono (fun m' n' h => ⟨h.1, rev_ind Inv base step r m' n' h.2⟩) h) fun _ _ h => h

theorem list_ind {I : Addr} {lp : Addr × Obj} (Inv : List Value → (Str → Option Value) → List (Addr × Obj) → Prop)
    (base : ∀ m news, Inv [] m news → ∀ h tk, Fr h₀ env.locals h m → News h₀ env.locals h news → Q .next { s with heap := h, toks := tk })
    (step : ∀ v r m news, Inv (v :: r) m news → ∀ (it : Obj) h tk, it.cls = .type "list_iterator" → Fr h₀ env.locals h (fun y => if y = x then some v else m y) → News h₀ env.locals h ((I, it) :: news) →
      wpAny (model prog w) A (execs body env) (TurnH h₀ env.locals { s with heap := h, toks := tk } I it (fun m' n' => lp ∈ n' ∧ Inv r m' n') Q) E { s with heap := h, toks := tk }) :
    ∀ l m news, Inv l m news → ListRest prog w A E h₀ env x body Q s I lp l m news
  | [], m, news, i => base m news i
  | v :: r, m, news, i => fun it h tk hc F N => wpAny_mono (step v r m news i it h tk hc F N) (fun _ _ h => UnrPost.mono (fun m' n' h => ⟨h.1, list_ind Inv base step r m' n' h.2⟩) h) fun _ _ h => h

theorem range_ind {I : Addr} {a : Int} {n : Nat} (Inv : Nat → (Str → Option Value) → List (Addr × Obj) → Prop)
    (base : ∀ i m news, Inv i m news → i = n → ∀ h tk, Fr h₀ env.locals h m → News h₀ env.locals h news → Q .next { s with heap := h, toks := tk })
    (step : ∀ i m news, Inv i m news → i < n → ∀ (t : Tok) (it : Obj) h tk, it.cls = .type "range_iterator" → Fr h₀ env.locals h (fun y => if y = x then some (.int (a + (i : Int)) t) else m y) → News h₀ env.locals h ((I, it) :: news) →
      wpAny (model prog w) A (execs body env) (TurnH h₀ env.locals { s with heap := h, toks := tk } I it (Inv (i + 1)) Q) E { s with heap := h, toks := tk }) :
    ∀ k i m news, i + k = n → Inv i m news → RangeRest prog w A E h₀ env x body Q s I a n k i m news := by
  intro k
  induction k with
  | zero => intro i m news e j; exact RangeRest.zero (base i m news j (by omega))
  | succ k ih =>
    intro i m news e j
    refine RangeRest.succ fun t h tk F N => ?_
    have hs := step i m news j (by omega) t (itR (a + ((i + 1 : Nat) : Int)) ((n : Int) - ((i + 1 : Nat) : Int))) h tk rfl F N
    refine wpAny_mono hs (fun f s₂ hh => ?_) fun _ _ h => h
    refine UnrPost.mono (R := Inv (i + 1)) ?_ hh
    intro m' n' h
    exact ih (i + 1) m' n' (by omega) h

/-- a turn of a while, under a name that no line of the walk takes -/
def WhlH (R : Shared → Prop) (Q : Flow → Shared → Prop) (f : Flow) (s : Shared) : Prop :=
  match f with
  | .next => R s
  | .cont => R s
  | .brk => Q .next s
  | .ret v => Q (.ret v) s
theorem whl_ind {test : PySem.Expr} {orelse : List Stmt} (hE : PassesOwn (model prog w) A env E) (Inv : Nat → Shared → Prop)
    (turn : ∀ k s, Inv k s → wpAny (model prog w) A (isTrue test env (eval test env)) (fun b s₂ => WhlIf b (wpAny (model prog w) A (execs body env) (WhlH (fun s' => ∃ j, j < k ∧ Inv j s') Q) E s₂) (wpAny (model prog w) A (execs orelse env) Q E s₂)) E s) :
    ∀ k s, Inv k s → WhlRest prog w A E env test body orelse Q 0 s := by
  intro k
  induction k using Nat.strongRecOn with
  | ind k ih =>
    intro s hs
    have ht := turn k s hs
    refine (show WhlRest prog w A E env test body orelse Q (0 + 1) s from whl_turn hE (wpAny_mono ht (fun b s₂ h₂ => ?_) fun _ _ h => h))
    cases b with
    | false => exact h₂
    | true =>
      refine wpAny_mono (show wpAny (model prog w) A (execs body env) (WhlH (fun s' => ∃ j, j < k ∧ Inv j s') Q) E s₂ from h₂) (fun f s₃ h₃ => ?_) fun _ _ h => h
      cases f with
      | next => obtain ⟨j, hj, hi⟩ := h₃; exact ih j hj s₃ hi
      | cont => obtain ⟨j, hj, hi⟩ := h₃; exact ih j hj s₃ hi
      | brk => exact h₃
      | ret v => exact h₃
theorem newsC {h₀ h : Heap} {L : Addr} {e : Addr × Obj} {all l : List (Addr × Obj)} (N : News h₀ L h all) (hm : e ∈ all) (N2 : News h₀ L h l) : News h₀ L h (e :: l) := fun p hp =>
  (List.mem_cons.mp hp).elim (fun q => q ▸ N e hm) (N2 p)
theorem newsS {h₀ h : Heap} {L : Addr} {all l : List (Addr × Obj)} (N : News h₀ L h all) (sub : ∀ q ∈ l, q ∈ all) : News h₀ L h l := fun p hp => N p (sub p hp)
/-- a goal that the walk leaves alone -/
def Held (P : Prop) : Prop := P
theorem Held.out {P : Prop} (h : Held P) : P := h
theorem offI_of {I : Addr} {it : Obj} : ∀ {l : List (Addr × Obj)}, (∀ p ∈ l, p.1 ≠ I) → OffI I it l
  | [], _ => True.intro
  | p :: _, h => ⟨.inl (h p (.head _)), offI_of fun q hq => h q (.tail _ hq)⟩
theorem allLt_ne {I : Addr} {l : List (Addr × Obj)} (h : AllLt I l) : ∀ p ∈ l, p.1 ≠ I := tailNe h (Nat.le_refl _)
end
end
section
open PySem PySem.W PyProof.Rows
theorem freshH8 : (1 : Nat) = 1 := by
  (first | walk1 | rfl)
  w_top off
end
section
open PySem PySem.W PyProof.Rows
/-- both tables, apart -/
structure Tabs (t1 t2 : List (Addr × Obj)) : Prop where
  a : Tab1 30 32 4 q35 t1
  b : Tab1 37 47 4 q42 t2
  off : Off t1 t2
theorem bits_bound {y : Int} (h0 : 0 < y) (h : y < 1048576) : 0 < (Builtin.Int.intBits y : Int) ∧ (Builtin.Int.intBits y : Int) < 30 := by
  unfold Builtin.Int.intBits
  rw [if_neg (by simp; omega)]
  have : y.natAbs.log2 < 20 := (Nat.log2_lt (by omega)).mpr (by omega)
  omega
theorem shl_bound {r : Int} {k : Nat} (h0 : 0 ≤ r) (h1 : r < 1048576) (hk : k < 30) : 0 ≤ r * 2 ^ k ∧ r * 2 ^ k < 1125899906842624 := by
  have e : (2 : Int) ^ k = ((2 ^ k : Nat) : Int) := by push_cast; rfl
  have p : 2 ^ k ≤ 536870912 := Nat.le_trans (Nat.pow_le_pow_right (by decide) (show k ≤ 29 by omega)) (by decide)
  have q : (2 : Int) ^ k ≤ 536870912 := by rw [e]; exact Int.ofNat_le.mpr p
  have p0 := pow2_pos k
  refine ⟨Int.mul_nonneg h0 (Int.le_of_lt p0), ?_⟩
  have := Int.mul_le_mul (show r ≤ 1048576 by omega) q (Int.le_of_lt p0) (by decide)
  omega
theorem divs_inv {n b : Int} (hb : 0 < b) : ∀ (R P qs : List Int) (r : Int), val n.toNat P.reverse = b * val n.toNat qs.reverse + r → 0 ≤ r → r < b →
    val n.toNat (P ++ R).reverse = b * val n.toNat (divs n b R r qs).1.reverse + (divs n b R r qs).2 ∧ 0 ≤ (divs n b R r qs).2 ∧ (divs n b R r qs).2 < b
  | [], P, qs, r, h, h0, h1 => by rw [List.append_nil]; exact ⟨h, h0, h1⟩
  | d :: R, P, qs, r, h, h0, h1 => by
    have e : P ++ d :: R = (P ++ [d]) ++ R := by simp
    rw [e, divs]
    refine divs_inv hb R (P ++ [d]) _ _ ?_ (Int.fmod_nonneg_of_pos _ hb) (Int.fmod_lt_of_pos _ hb)
    rw [List.reverse_append, List.reverse_append]
    simp only [List.reverse_cons, List.reverse_nil, List.nil_append, List.cons_append, val]
    rw [h]
    have q := Int.mul_fdiv_add_fmod (r * 2 ^ n.toNat + d) b
    generalize (r * 2 ^ n.toNat + d).fdiv b = a1 at *
    generalize (r * 2 ^ n.toNat + d).fmod b = a2 at *
    rw [Int.mul_add, Int.mul_add, Int.mul_comm (2 ^ n.toNat) r, ← Int.mul_assoc b (2 ^ n.toNat), Int.mul_comm b (2 ^ n.toNat), Int.mul_assoc (2 ^ n.toNat) b]
    omega
theorem fdiv_is {x y q r : Int} (h : x = y * q + r) (h0 : 0 ≤ r) (h1 : r < y) : x.fdiv y = q ∧ x.fmod y = r := by
  have hy : 0 < y := by omega
  rw [Int.fdiv_eq_ediv_of_nonneg _ (Int.le_of_lt hy), Int.fmod_eq_emod_of_nonneg _ (Int.le_of_lt hy)]
  exact (Int.ediv_emod_unique hy).mpr ⟨by omega, h0, h1⟩
theorem appNe {l r : List (Addr × Obj)} {d : Addr} (h1 : ∀ p ∈ l, p.1 ≠ d) (h2 : ∀ p ∈ r, p.1 ≠ d) : ∀ p ∈ l ++ r, p.1 ≠ d := fun p hp =>
  (List.mem_append.mp hp).elim (h1 p) (h2 p)
inductive DmpI (x : Int) (y : Int) (ty : Tok) (dA : List Int) (vA : List Value) (A : Addr) (Lq : Addr) (t1' : List (Addr × Obj)) (t2 : List (Addr × Obj)) (rem : List Value) (m : Str → Option Value) (news : List (Addr × Obj)) : Prop
  | mk (remN qs : List Int) (vq : List Value) (cq : Nat) (r : Int) (tr tn' : Tok) : IntsAre rem remN → IntsAre vq qs → news = (Lq, listOf vq.toArray cq) :: (A, listOf vA.toArray 0) :: (t1' ++ t2) → m (Str.ofString "b") = some (.int y ty) → m (Str.ofString "n") = some (.int (Builtin.Int.intBits y) tn') → m (Str.ofString "q_digits") = some (.ref Lq) → m (Str.ofString "r") = some (.int r tr) → divs (Builtin.Int.intBits y) y remN r qs = divs (Builtin.Int.intBits y) y dA.reverse 0 [] → 0 ≤ r → r < y → (∀ e ∈ remN, 0 ≤ e ∧ e ≤ x) → qs.length + remN.length = dA.length → (∀ e ∈ qs, 0 ≤ e) → DmpI x y ty dA vA A Lq t1' t2 rem m news
local macro_rules | `(tactic| walk_at "eval Name") => `(tactic| (k_here; k_dflt (refine' nameX_L ?F ?v ?_ ?a ?b; (case F => k_asm); (case a => rfl); (case b => rfl); (case v => first | exact rfl | assumption | (simp (decide := true) only [↓reduceIte]; first | exact rfl | assumption)); k_whole)))
set_option maxRecDepth 100000 in
set_option maxHeartbeats 8000000 in
theorem dmp : ∀ (w : World) (p : Program) (loose : List Str) (mean : ExcName → Option Value) (mg mb : Str → Option Value) (dp un : Nat) (gd : Option (List Code)) (fr : Option (List Env)) (h₀ : Heap) (s : Shared) (Q E : Value → Shared → Prop) (t1 t2 : List (Addr × Obj)) (x y : Int) (tx ty : Tok),
    St h₀ s.heap (t1 ++ t2) → Tabs t1 t2 → CodeHd h₀ 34 30 → CodeHd h₀ 41 37 → (Mine.hd.heap_39 w.params).In h₀ → Top p loose mean mg mb h₀ → dp + 150 < recursionLimit → un + 2000 < cLine → 0 ≤ x → x < 1048576 → 0 < y → y < 1048576 →
    (∀ D u1 u2 t1' t2' h' tk', Tabs t1' t2' → (∀ q ∈ t1' ++ t2', q.1 ≠ D) → Post s.heap h' (t1 ++ t2) ((D, tupO [.int (x.fdiv y) u1, .int (x.fmod y) u2]) :: (t1' ++ t2')) → Q (.ref D) { s with heap := h', toks := tk' }) →
    wpAny (model PySem.Challenge.rw_gv0003_01.row.prog w) (top0 dp un gd fr) (call (.ref 49) [.int x tx, .int y ty]) Q E s := by
  k_fill
  intro w p loose mean mg mb dp un gd fr h₀ s Q E t1 t2 x y tx ty S ht C1 C2 X T hdp hun hx hx2 hy hy2 hret
  k_dflt (refine' enterP ?k4 ?k3 ?k5 ?k6 ?k7 ?k8 ?k9 ?kB ?_ ?c2 ?c3 ?c4 ?c5; (case k3 => k_asm); (case k4 => k_asm); (case k5 => k_asm); (case k6 => k_is); (case k7 => k_is); (case k8 => ktr_room); (case k9 => exact BindsTo.of_eq rfl); (case c5 => decide); (case kB => exact locs rfl); (case c2 => exact rfl); (case c3 => exact rfl); (case c4 => exact rfl); k_whole; intro g' L' h' F' N' X' T' kS' kG'; (try dsimp only); (try k_fold))
  have C1' := C1.keeps kS'
  have C2' := C2.keeps kS'
  have hb := bits_bound hy hy2
  k_steps
  rename Fr _ _ _ _ => F1
  rename News _ _ _ _ => N1
  k_dflt (refine' i2d w p loose mean mg mb _ _ _ _ g' _ _ _ t1 x _ _ _ (St.of F1 N1 fun _ h => List.mem_append_left _ h) ht.a C1' X' T' ?d1 ?d2 hx (by omega) hb.1 hb.2 ?_)
  case d1 => (dsimp only [top0]; omega)
  case d2 => (dsimp only [top0]; omega)
  intro A vA dA t1' h2 tk2 ht1 iA lA vlA bA nA P1
  obtain ⟨F2, N2, O2⟩ := P1.back (rest := t2) F1 N1 (fun _ h => List.mem_append_right _ h) (fun _ h => List.mem_append_left _ h) ht.off.symm
  clear F1 N1
  rw [List.cons_append] at N2
  dsimp only at F2 N2 ⊢
  k_steps
  rename Fr _ _ _ _ => F3
  rename News _ _ _ _ => N3
  rename_i hv1 Lq hv2 ltq hv3 I hv4 ltI
  refine iter_revUnr (lo := listOf vA.toArray 0) (vs := vA) (n := 0) rfl F3 N3 (offI_of (allLt_ne ltI)) (.tail _ (.head _)) rfl rfl ?_
  refine rev_ind (DmpI x y ty dA vA A Lq t1' t2) ?base ?step _ _ _ ?init
  case init => exact ⟨dA.reverse, [], [], 0, 0, _, _, iA.reverse, .nil, rfl, rfl, rfl, rfl, rfl, rfl, Int.le_refl _, hy, fun e he => bA e (List.mem_reverse.mp he), by simp, fun e he => nomatch he⟩
  case base =>
    rintro m news ⟨remN, qs, vq, cq, r, tr, tn', i1, i2, rfl, mb1, mn1, mq1, mr1, hdv, hr0, hr1, hrem, hln, hqs⟩ h tk F4 N4
    cases i1
    replace F4 : Fr g' L' h _ := F4
    replace N4 : News g' L' h _ := N4
    have ltq1 := ltq.1
    have lqt := allLt_ne ltq.2
    have lvq := i2.length
    k_steps
    dsimp only
    refine kl_reverse (l := vq.reverse) F4 N4 (by simp) (Upd.head (fun q hq => ?_)) (by (simp only [List.length_append, List.length_nil] at hln); simp [sizeLine]; omega) (fun h6 F6 N6 => ?_)
    · rcases List.mem_cons.mp hq with rfl | hq
      · exact Nat.ne_of_lt ltq1
      · exact lqt q hq
    clear F4 N4
    k_steps
    have hdi := divs_inv (n := (Builtin.Int.intBits y : Int)) hy dA.reverse [] [] 0 (by simp [val]) (Int.le_refl _) hy
    rw [← hdv] at hdi
    simp only [List.nil_append, List.reverse_reverse, divs] at hdi
    rw [vlA] at hdi
    have hfd := fdiv_is hdi.1 hr0 hr1
    have hqn : 0 ≤ x.fdiv y := Int.fdiv_nonneg hx (Int.le_of_lt hy)
    have hqx : x.fdiv y ≤ x := by
      rw [Int.fdiv_eq_ediv_of_nonneg _ (Int.le_of_lt hy)]
      exact Int.ediv_le_self _ hx
    have hvq : val (Builtin.Int.intBits y : Int).toNat qs.reverse = x.fdiv y := hfd.1.symm
    k_dflt (refine' d2i w p loose mean mg mb _ _ _ _ g' _ _ _ t2 Lq cq vq.reverse qs.reverse _ _ (St.of F6 N6 fun _ h => .tail _ (.tail _ (List.mem_append_right _ h))) ht.b (N6 _ (.head _)).1 (fun q hq => lqt q (List.mem_append_right _ hq)) i2.reverse ?e1 (fun e he => hqs e (List.mem_reverse.mp he)) ?e2 C2' X' T' ?d1 ?d2 hb.1 hb.2 ?_)
    case e1 => (simp only [List.length_nil, List.length_reverse] at hln ⊢; omega)
    case e2 => omega
    case d1 => (dsimp only [top0]; omega)
    case d2 => (dsimp only [top0]; omega)
    intro u7 t2' h7 tk7 ht2 P7
    obtain ⟨F8, N8, O8⟩ := P7.back (rest := t1') F6 N6 (fun _ h => .tail _ (.tail _ (List.mem_append_left _ h))) (fun _ h => .tail _ (.tail _ (List.mem_append_right _ h))) (fun p hp => O2 p (.tail _ hp))
    clear F6 N6
    dsimp only at F8 N8 ⊢
    k_steps
    rename Fr _ _ _ _ => F9
    rename News _ _ _ _ => N9
    rename_i hw D hw2 ltD
    rw [← hfd.1, ← hfd.2] at N9
    refine (show LeaveH _ _ _ _ _ _ _ from ⟨_, (D, tupO [.int (x.fdiv y) u7, .int (x.fmod y) tr]) :: (t1' ++ t2'), F9, fun q hq => N9 q ?_, fun P => hret _ _ _ _ _ _ _ ⟨ht1, ht2, O8.symm⟩ (fun q hq => Nat.ne_of_lt (ltD q ?_)) P⟩)
    · rcases List.mem_cons.mp hq with rfl | hq
      · exact .head _
      · rcases List.mem_append.mp hq with hq | hq
        · exact .tail _ (List.mem_append_right _ hq)
        · exact .tail _ (List.mem_append_left _ hq)
    · rcases List.mem_append.mp hq with hq | hq
      · exact List.mem_append_right _ hq
      · exact List.mem_append_left _ hq
  case step =>
    rintro v rem m news ⟨remN, qs, vq, cq, r, tr, tn', i1, i2, rfl, mb1, mn1, mq1, mr1, hdv, hr0, hr1, hrem, hln, hqs⟩ it h tk hit F4 N4
    cases i1 with
    | cons d td i1 =>
    rename_i ns
    replace F4 : Fr g' L' h _ := F4
    replace N4 : News g' L' h _ := N4
    have hd0 := hrem d (.head _)
    have hsb := shl_bound (r := r) (k := (Builtin.Int.intBits y : Int).toNat) hr0 (by omega) (by omega)
    have hbb : Builtin.Int.intBits (r * 2 ^ (Builtin.Int.intBits y : Int).toNat + d) ≤ 64 := intBits_le (by omega)
    have ltq1 := ltq.1
    have ltI1 := ltI.1
    have ltI2 := ltI.2.1
    have lqt := allLt_ne ltq.2
    k_steps
    k_dflt (refine' div2 w p loose mean mg mb _ _ _ _ g' _ _ _ [] _ _ _ _ _ _ (St.of F4 N4 (fun _ h => nomatch h)) X' T' ?d1 ?d2 hy ?d3 ?d4 ?_)
    case d1 => (dsimp only [top0]; omega)
    case d2 => (dsimp only [top0]; omega)
    case d3 => omega
    case d4 => omega
    intro D u1 u2 h5 tk5 P5 _
    obtain ⟨F6, N6, O6⟩ := P5.back F4 N4 (fun _ h => h) (fun _ h => nomatch h) Off.nilr
    have hDq : @Ne Nat D Lq := O6 _ (.head _) (Lq, listOf vq.toArray cq) (.tail _ (.head _))
    have hDI : @Ne Nat D I := O6 _ (.head _) (I, it) (.head _)
    clear F4 N4
    rw [List.cons_append, List.nil_append] at N6
    dsimp only at F6 N6 ⊢
    k_steps
    rename Fr _ _ _ _ => F7
    rename News _ _ _ _ => N7
    rw [List.push_toArray] at N7
    refine TurnH.next F7 N7 ((Lq, listOf (vq ++ [Value.int ((r * 2 ^ (Builtin.Int.intBits y : Int).toNat + d).fdiv y) u1]).toArray (cq + 1)) :: (A, listOf vA.toArray 0) :: (t1' ++ t2)) (.tail _ (.head _)) (fun q hq => ?_) (fun q hq => ?_)
      ⟨.tail _ (.head _), ns, qs ++ [(r * 2 ^ (Builtin.Int.intBits y : Int).toNat + d).fdiv y], vq ++ [Value.int ((r * 2 ^ (Builtin.Int.intBits y : Int).toNat + d).fdiv y) u1], _, _, u2, tn', i1, i2.append (.cons _ _ .nil), rfl, by (simp (decide := true) only [↓reduceIte]; assumption), by (simp (decide := true) only [↓reduceIte]; assumption), by (simp (decide := true) only [↓reduceIte]; assumption), rfl, hdv,
        Int.fmod_nonneg_of_pos _ hy, Int.fmod_lt_of_pos _ hy, fun e he => hrem e (.tail _ he), ?_, fun e he => ?_⟩
    · exact .tail _ (.tail _ hq)
    · rcases List.mem_cons.mp hq with rfl | hq
      · exact Nat.ne_of_lt ltI1
      · rcases List.mem_cons.mp hq with rfl | hq
        · exact Nat.ne_of_lt ltI2
        · exact allLt_ne ltI.2.2 q hq
    · simp only [List.length_append, List.length_cons, List.length_nil] at hln ⊢; omega
    · rcases List.mem_append.mp he with he | he
      · exact hqs e he
      · rw [List.mem_singleton.mp he]; exact Int.fdiv_nonneg (by omega) (by omega)
end
section
open PySem PySem.W PyProof.Rows
theorem freshH9 : (1 : Nat) = 1 := by
  (first | walk1 | rfl)
  w_top off
end
section
open PySem PySem.W PyProof.Rows
theorem fdiv_unique {x y q r : Int} (h : x = y * q + r) (h0 : 0 ≤ r) (h1 : r < y) : q = x.fdiv y ∧ r = x.fmod y := by
  have := fdiv_is h h0 h1
  exact ⟨this.1.symm, this.2.symm⟩
theorem bn (x : Int) : Builtin.bitNot x = -x - 1 := by unfold Builtin.bitNot; omega
theorem idm_neg {x y : Int} (hy : 0 < y) : Builtin.bitNot ((Builtin.bitNot x).fdiv y) = x.fdiv y ∧ y + Builtin.bitNot ((Builtin.bitNot x).fmod y) = x.fmod y := by
  rw [bn, bn, bn]
  have a := Int.mul_fdiv_add_fmod (-x - 1) y
  have b := Int.fmod_nonneg_of_pos (-x - 1) hy
  have c := Int.fmod_lt_of_pos (-x - 1) hy
  generalize (-x - 1).fdiv y = q at *
  generalize (-x - 1).fmod y = r at *
  refine fdiv_unique ?_ (by omega) (by omega)
  rw [Int.mul_sub, Int.mul_neg]
  omega
theorem idm_nn (x y : Int) : (-x).fdiv (-y) = x.fdiv y ∧ -((-x).fmod (-y)) = x.fmod y := by
  have e := Int.neg_fdiv_neg x y
  refine ⟨e, ?_⟩
  have a := Int.mul_fdiv_add_fmod (-x) (-y)
  have b := Int.mul_fdiv_add_fmod x y
  rw [e, Int.neg_mul] at a
  omega
theorem allLt_mem {I : Addr} {l : List (Addr × Obj)} (h : AllLt I l) : ∀ p ∈ l, @LT.lt Nat _ p.1 I := by
  induction l with
  | nil => intro p hp; cases hp
  | cons e r ih =>
    intro p hp
    rcases List.mem_cons.mp hp with rfl | hp
    · exact h.1
    · exact ih h.2 p hp
theorem newsHead {h₀ h : Heap} {L : Addr} {e : Addr × Obj} {l r : List (Addr × Obj)} (N : News h₀ L h (e :: l)) (sub : ∀ q ∈ r, q ∈ l) : News h₀ L h (e :: r) := fun p hp =>
  N p ((List.mem_cons.mp hp).elim (fun h => h ▸ .head _) fun h => .tail _ (sub p h))
section
set_option maxRecDepth 100000 in
set_option maxHeartbeats 8000000 in
theorem idm0 : ∀ (w : World) (p : Program) (loose : List Str) (mean : ExcName → Option Value) (mg mb : Str → Option Value) (dp un : Nat) (gd : Option (List Code)) (fr : Option (List Env)) (h₀ : Heap) (s : Shared) (Q E : Value → Shared → Prop) (t1 t2 : List (Addr × Obj)) (x y : Int) (tx ty : Tok),
    St h₀ s.heap (t1 ++ t2) → Tabs t1 t2 → CodeHd h₀ 34 30 → CodeHd h₀ 41 37 → (Mine.hd.heap_39 w.params).In h₀ → Top p loose mean mg mb h₀ → dp + 160 < recursionLimit → un + 2100 < cLine → 0 ≤ x → x < 1048576 → 0 < y → y < 1048576 →
    (∀ D u1 u2 t1' t2' h' tk', Tabs t1' t2' → (∀ q ∈ t1' ++ t2', q.1 ≠ D) → Post s.heap h' (t1 ++ t2) ((D, tupO [.int (x.fdiv y) u1, .int (x.fmod y) u2]) :: (t1' ++ t2')) → Q (.ref D) { s with heap := h', toks := tk' }) →
    wpAny (model PySem.Challenge.rw_gv0003_01.row.prog w) (top0 dp un gd fr) (call (.ref 56) [.int x tx, .int y ty]) Q E s := by
  k_fill
  intro w p loose mean mg mb dp un gd fr h₀ s Q E t1 t2 x y tx ty S ht C1 C2 X T hdp hun hx hx2 hy hy2 hret
  have hy0 : y ≠ 0 := by omega
  k_dflt (refine' enterP ?k4 ?k3 ?k5 ?k6 ?k7 ?k8 ?k9 ?kB ?_ ?c2 ?c3 ?c4 ?c5; (case k3 => k_asm); (case k4 => k_asm); (case k5 => k_asm); (case k6 => k_is); (case k7 => k_is); (case k8 => ktr_room); (case k9 => exact BindsTo.of_eq rfl); (case c5 => decide); (case kB => exact locs rfl); (case c2 => exact rfl); (case c3 => exact rfl); (case c4 => exact rfl); k_whole; intro g' L' h' F' N' X' T' kS' kG'; (try dsimp only); (try k_fold))
  have C1' := C1.keeps kS'
  have C2' := C2.keeps kS'
  k_steps
  · exfalso; omega
  rename Fr _ _ _ _ => F1
  rename News _ _ _ _ => N1
  k_dflt (refine' dmp w p loose mean mg mb _ _ _ _ g' _ _ _ t1 t2 _ _ _ _ (St.of F1 N1 fun _ h => h) ht C1' C2' X' T' ?d1 ?d2 hx hx2 hy hy2 ?_)
  case d1 => (dsimp only [top0]; omega)
  case d2 => (dsimp only [top0]; omega)
  intro D u1 u2 t1' t2' h2 tk2 ht2 hne P1
  obtain ⟨F2, N2, _⟩ := P1.back (rest := []) F1 N1 (fun _ h => nomatch h) (fun _ h => h) Off.nil
  clear F1 N1
  rw [List.append_nil] at N2
  dsimp only at F2 N2 ⊢
  k_steps
  exact ⟨_, _, F2, N2, fun P => hret _ _ _ _ _ _ _ ht2 hne P⟩
set_option maxRecDepth 100000 in
set_option maxHeartbeats 8000000 in
theorem idm1 : ∀ (w : World) (p : Program) (loose : List Str) (mean : ExcName → Option Value) (mg mb : Str → Option Value) (dp un : Nat) (gd : Option (List Code)) (fr : Option (List Env)) (h₀ : Heap) (s : Shared) (Q E : Value → Shared → Prop) (t1 t2 : List (Addr × Obj)) (x y : Int) (tx ty : Tok),
    St h₀ s.heap (t1 ++ t2) → Tabs t1 t2 → CodeHd h₀ 34 30 → CodeHd h₀ 41 37 → (Mine.hd.heap_39 w.params).In h₀ → Top p loose mean mg mb h₀ → dp + 170 < recursionLimit → un + 2200 < cLine → -1048576 ≤ x → x < 1048576 → 0 < y → y < 1048576 →
    (∀ D u1 u2 t1' t2' h' tk', Tabs t1' t2' → (∀ q ∈ t1' ++ t2', q.1 ≠ D) → Post s.heap h' (t1 ++ t2) ((D, tupO [.int (x.fdiv y) u1, .int (x.fmod y) u2]) :: (t1' ++ t2')) → Q (.ref D) { s with heap := h', toks := tk' }) →
    wpAny (model PySem.Challenge.rw_gv0003_01.row.prog w) (top0 dp un gd fr) (call (.ref 56) [.int x tx, .int y ty]) Q E s := by
  k_fill
  intro w p loose mean mg mb dp un gd fr h₀ s Q E t1 t2 x y tx ty S ht C1 C2 X T hdp hun hx hx2 hy hy2 hret
  by_cases hxx : 0 ≤ x
  · exact idm0 w p loose mean mg mb dp un gd fr h₀ s Q E t1 t2 x y tx ty S ht C1 C2 X T (by omega) (by omega) hxx hx2 hy hy2 hret
  k_dflt (refine' enterP ?k4 ?k3 ?k5 ?k6 ?k7 ?k8 ?k9 ?kB ?_ ?c2 ?c3 ?c4 ?c5; (case k3 => k_asm); (case k4 => k_asm); (case k5 => k_asm); (case k6 => k_is); (case k7 => k_is); (case k8 => ktr_room); (case k9 => exact BindsTo.of_eq rfl); (case c5 => decide); (case kB => exact locs rfl); (case c2 => exact rfl); (case c3 => exact rfl); (case c4 => exact rfl); k_whole; intro g' L' h' F' N' X' T' kS' kG'; (try dsimp only); (try k_fold))
  have C1' := C1.keeps kS'
  have C2' := C2.keeps kS'
  k_steps
  · exfalso; omega
  rename Fr _ _ _ _ => F1
  rename News _ _ _ _ => N1
  have hbn := bn x
  k_dflt (refine' idm0 w p loose mean mg mb _ _ _ _ g' _ _ _ t1 t2 _ _ _ _ (St.of F1 N1 fun _ h => h) ht C1' C2' X' T' ?d1 ?d2 ?x1 ?x2 hy hy2 ?_)
  case d1 => (dsimp only [top0]; omega)
  case d2 => (dsimp only [top0]; omega)
  case x1 => omega
  case x2 => omega
  intro D u1 u2 t1' t2' h2 tk2 ht2 hne P1
  obtain ⟨F2, N2, _⟩ := P1.back (rest := []) F1 N1 (fun _ h => nomatch h) (fun _ h => h) Off.nil
  clear F1 N1
  rw [List.append_nil] at N2
  dsimp only at F2 N2 ⊢
  k_steps
  rename Fr _ _ _ _ => F3
  rename News _ _ _ _ => N3
  rename_i hw D2 hw2 ltD
  rw [(idm_neg (x := x) hy).1, (idm_neg (x := x) hy).2] at N3
  exact (show LeaveH _ _ _ _ _ _ _ from ⟨_, _, F3, newsHead (r := t1' ++ t2') N3 (fun q hq => .tail _ hq), fun P => hret _ _ _ _ _ _ _ ht2 (fun q hq => Nat.ne_of_lt (allLt_mem ltD.2 q hq)) P⟩)
set_option maxRecDepth 100000 in
set_option maxHeartbeats 8000000 in
theorem idm : ∀ (w : World) (p : Program) (loose : List Str) (mean : ExcName → Option Value) (mg mb : Str → Option Value) (dp un : Nat) (gd : Option (List Code)) (fr : Option (List Env)) (h₀ : Heap) (s : Shared) (Q E : Value → Shared → Prop) (t1 t2 : List (Addr × Obj)) (x y : Int) (tx ty : Tok),
    St h₀ s.heap (t1 ++ t2) → Tabs t1 t2 → CodeHd h₀ 34 30 → CodeHd h₀ 41 37 → (Mine.hd.heap_39 w.params).In h₀ → Top p loose mean mg mb h₀ → dp + 180 < recursionLimit → un + 2300 < cLine → -1048576 < x → x < 1048576 → y ≠ 0 → -1048576 < y → y < 1048576 →
    (∀ D u1 u2 t1' t2' h' tk', Tabs t1' t2' → (∀ q ∈ t1' ++ t2', q.1 ≠ D) → Post s.heap h' (t1 ++ t2) ((D, tupO [.int (x.fdiv y) u1, .int (x.fmod y) u2]) :: (t1' ++ t2')) → Q (.ref D) { s with heap := h', toks := tk' }) →
    wpAny (model PySem.Challenge.rw_gv0003_01.row.prog w) (top0 dp un gd fr) (call (.ref 56) [.int x tx, .int y ty]) Q E s := by
  k_fill
  intro w p loose mean mg mb dp un gd fr h₀ s Q E t1 t2 x y tx ty S ht C1 C2 X T hdp hun hx hx2 hy0 hy1 hy2 hret
  by_cases hyy : 0 < y
  · exact idm1 w p loose mean mg mb dp un gd fr h₀ s Q E t1 t2 x y tx ty S ht C1 C2 X T (by omega) (by omega) (by omega) hx2 hyy hy2 hret
  have hy3 : y < 0 := by omega
  k_dflt (refine' enterP ?k4 ?k3 ?k5 ?k6 ?k7 ?k8 ?k9 ?kB ?_ ?c2 ?c3 ?c4 ?c5; (case k3 => k_asm); (case k4 => k_asm); (case k5 => k_asm); (case k6 => k_is); (case k7 => k_is); (case k8 => ktr_room); (case k9 => exact BindsTo.of_eq rfl); (case c5 => decide); (case kB => exact locs rfl); (case c2 => exact rfl); (case c3 => exact rfl); (case c4 => exact rfl); k_whole; intro g' L' h' F' N' X' T' kS' kG'; (try dsimp only); (try k_fold))
  have C1' := C1.keeps kS'
  have C2' := C2.keeps kS'
  k_steps
  · exfalso; omega
  rename Fr _ _ _ _ => F1
  rename News _ _ _ _ => N1
  k_dflt (refine' idm1 w p loose mean mg mb _ _ _ _ g' _ _ _ t1 t2 _ _ _ _ (St.of F1 N1 fun _ h => h) ht C1' C2' X' T' ?d1 ?d2 ?x1 ?x2 ?x3 ?x4 ?_)
  case d1 => (dsimp only [top0]; omega)
  case d2 => (dsimp only [top0]; omega)
  case x1 => omega
  case x2 => omega
  case x3 => omega
  case x4 => omega
  intro D u1 u2 t1' t2' h2 tk2 ht2 hne P1
  obtain ⟨F2, N2, _⟩ := P1.back (rest := []) F1 N1 (fun _ h => nomatch h) (fun _ h => h) Off.nil
  clear F1 N1
  rw [List.append_nil] at N2
  dsimp only at F2 N2 ⊢
  k_steps
  rename Fr _ _ _ _ => F3
  rename News _ _ _ _ => N3
  rename_i hw D2 hw2 ltD
  rw [(idm_nn x y).1, (idm_nn x y).2] at N3
  exact (show LeaveH _ _ _ _ _ _ _ from ⟨_, _, F3, newsHead (r := t1' ++ t2') N3 (fun q hq => .tail _ hq), fun P => hret _ _ _ _ _ _ _ ht2 (fun q hq => Nat.ne_of_lt (allLt_mem ltD.2 q hq)) P⟩)
end
end
section
open PySem PySem.W PyProof.Rows
theorem freshL1 : (1 : Nat) = 1 := by
  (first | walk1 | rfl)
  w_top off
end
section
open PySem PySem.W PyProof.Rows
theorem tup_kept {h g : Heap} {P : Addr} {its : Array Value} {tb : List (Addr × Obj)} (x : IsTup h P its) (off : ∀ q ∈ tb, q.1 ≠ P) (k : ∀ b o, h.get? b = some o → b ∉ tb.map (·.1) → g.get? b = some o) : IsTup g P its := by
  obtain ⟨o, ho, r⟩ := x
  exact ⟨o, k _ _ ho (fun q => by
    obtain ⟨t, ht, e⟩ := List.mem_map.mp q
    exact off t ht e), r⟩
theorem fdiv_abs {x g B : Int} (hg : 0 < g) (h1 : -B ≤ x) (h2 : x ≤ B) : -B ≤ x.fdiv g ∧ x.fdiv g ≤ B := by
  rw [Int.fdiv_eq_ediv_of_nonneg _ (Int.le_of_lt hg)]
  have a := Int.mul_ediv_add_emod x g
  have b := Int.emod_nonneg x (Int.ne_of_gt hg)
  have c := Int.emod_lt_of_pos x hg
  by_cases hx : 0 ≤ x
  · have := Int.ediv_nonneg hx (Int.le_of_lt hg)
    have := Int.ediv_le_self g hx
    omega
  · have h3 : x / g < 0 := Int.ediv_neg_of_neg_of_pos (by omega) hg
    refine ⟨?_, by omega⟩
    by_cases h4 : -B ≤ x / g
    · exact h4
    · have := Int.mul_le_mul_of_nonneg_right (show (1 : Int) ≤ g by omega) (show 0 ≤ -(x / g) - 1 by omega)
      have e : g * (-(x / g) - 1) = -(g * (x / g)) - g := by rw [Int.mul_sub, Int.mul_neg, Int.mul_one]
      omega
theorem mul_abs {a b B C : Int} (h1 : -B ≤ a) (h2 : a ≤ B) (h3 : -C ≤ b) (h4 : b ≤ C) : -(B * C) ≤ a * b ∧ a * b ≤ B * C := by
  have hB : 0 ≤ B := by omega
  have hC : 0 ≤ C := by omega
  have n1 : a.natAbs ≤ B.natAbs := by omega
  have n2 : b.natAbs ≤ C.natAbs := by omega
  have n3 := Nat.mul_le_mul n1 n2
  rw [← Int.natAbs_mul, ← Int.natAbs_mul] at n3
  have := Int.mul_nonneg hB hC
  omega
section
set_option maxRecDepth 100000 in
set_option maxHeartbeats 8000000 in
theorem led : ∀ (w : World) (p : Program) (loose : List Str) (mean : ExcName → Option Value) (mg mb : Str → Option Value) (dp un : Nat) (gd : Option (List Code)) (fr : Option (List Env)) (h₀ : Heap) (s : Shared) (Q E : Value → Shared → Prop) (t1 t2 : List (Addr × Obj)) (P M : Addr) (px py g sh hi : Int) (tp tq tg ts th : Tok),
    St h₀ s.heap (t1 ++ t2) → Tabs t1 t2 → CodeHd h₀ 34 30 → CodeHd h₀ 41 37 → (Mine.hd.heap_39 w.params).In h₀ → Top p loose mean mg mb h₀ → dp + 200 < recursionLimit → un + 2500 < cLine →
    IsTup s.heap P #[.int px tp, .int py tq] → IsTup s.heap M #[.int g tg, .int sh ts, .int hi th] → (∀ q ∈ t1 ++ t2, q.1 ≠ P) → (∀ q ∈ t1 ++ t2, q.1 ≠ M) →
    -100 ≤ px → px ≤ 100 → -100 ≤ py → py ≤ 100 → 0 < g → g ≤ 100 → -3000 ≤ sh → sh ≤ 3000 → 0 < hi → hi ≤ 1000 →
    (∀ D t1' t2' u1 u2 h' tk', Tabs t1' t2' → (∀ q ∈ t1' ++ t2', q.1 ≠ D) → Post s.heap h' (t1 ++ t2) ((D, tupO [.int (px.fmod g) u1, .int ((py - px.fdiv g * sh).fmod hi) u2]) :: (t1' ++ t2')) → Q (.ref D) { s with heap := h', toks := tk' }) →
    wpAny (model PySem.Challenge.rw_gv0003_01.row.prog w) (top0 dp un gd fr) (call (.ref 88) [.ref P, .ref M]) Q E s := by
  k_fill
  intro w p loose mean mg mb dp un gd fr h₀ s Q E t1 t2 P M px py g sh hi tp tq tg ts th S ht C1 C2 X T hdp hun hP hM hPo hMo a1 a2 a3 a4 a5 a6 a7 a8 a9 a10 hret
  k_dflt (refine' enterP ?k4 ?k3 ?k5 ?k6 ?k7 ?k8 ?k9 ?kB ?_ ?c2 ?c3 ?c4 ?c5; (case k3 => k_asm); (case k4 => k_asm); (case k5 => k_asm); (case k6 => k_is); (case k7 => k_is); (case k8 => ktr_room); (case k9 => exact BindsTo.of_eq rfl); (case c5 => decide); (case kB => exact locs rfl); (case c2 => exact rfl); (case c3 => exact rfl); (case c4 => exact rfl); k_whole; intro g' L' h' F' N' X' T' kS' kG'; (try dsimp only); (try k_fold))
  have C1' := C1.keeps kS'
  have C2' := C2.keeps kS'
  have jP := tup_kept hP hPo kG'
  have jM := tup_kept hM hMo kG'
  k_steps
  rename Fr _ _ _ _ => F1
  rename News _ _ _ _ => N1
  k_dflt (refine' idm w p loose mean mg mb _ _ _ _ g' _ _ _ t1 t2 _ _ _ _ (St.of F1 N1 fun _ h => h) ht C1' C2' X' T' ?d1 ?d2 ?x1 ?x2 ?x3 ?x4 ?x5 ?_)
  case d1 => (dsimp only [top0]; omega)
  case d2 => (dsimp only [top0]; omega)
  case x1 => omega
  case x2 => omega
  case x3 => omega
  case x4 => omega
  case x5 => omega
  intro D u1 u2 t1' t2' h2 tk2 ht2 hne P1
  obtain ⟨F2, N2, _⟩ := P1.back (rest := []) F1 N1 (fun _ h => nomatch h) (fun _ h => h) Off.nil
  clear F1 N1
  rw [List.append_nil] at N2
  dsimp only at F2 N2 ⊢
  have hq := fdiv_abs (x := px) (B := 100) a5 (by omega) (by omega)
  have hp := mul_abs (B := 100) (C := 3000) hq.1 hq.2 a7 a8
  k_steps
  rename Fr _ _ _ _ => F3
  rename News _ _ _ _ => N3
  k_dflt (refine' idm w p loose mean mg mb _ _ _ _ g' _ _ _ t1' t2' _ _ _ _ (St.of F3 N3 fun _ h => .tail _ h) ht2 C1' C2' X' T' ?d1 ?d2 ?x1 ?x2 ?x3 ?x4 ?x5 ?_)
  case d1 => (dsimp only [top0]; omega)
  case d2 => (dsimp only [top0]; omega)
  case x1 => omega
  case x2 => omega
  case x3 => omega
  case x4 => omega
  case x5 => omega
  intro D3 u3 u4 t1'' t2'' h4 tk4 ht4 hne4 P4
  obtain ⟨F5, N5, _⟩ := P4.back (rest := []) F3 N3 (fun _ h => nomatch h) (fun _ h => .tail _ h) Off.nil
  clear F3 N3
  rw [List.append_nil] at N5
  dsimp only at F5 N5 ⊢
  k_steps
  rename Fr _ _ _ _ => F7
  rename News _ _ _ _ => N7
  rename_i hw D2 hw2 ltD
  exact (show LeaveH _ _ _ _ _ _ _ from ⟨_, _, F7, newsHead (r := t1'' ++ t2'') N7 (fun q hq => .tail _ hq), fun P => hret _ _ _ _ _ _ _ ht4 (fun q hq => Nat.ne_of_lt (allLt_mem ltD.2 q hq)) P⟩)
end
end
section
open PySem PySem.W PyProof.Rows
local macro_rules | `(tactic| walk_at "eval Name") => `(tactic| (k_here; k_dflt (refine' nameX_L ?F ?v ?_ ?a ?b; (case F => k_asm); (case a => rfl); (case b => rfl); (case v => first | exact rfl | assumption | (simp (decide := true) only [↓reduceIte]; first | exact rfl | assumption)); k_whole)))
section
open PySem PySem.W PyProof.Rows
theorem freshL2 : (1 : Nat) = 1 := by
  (first | walk1 | rfl)
  w_top off
end
section
open PySem PySem.W PyProof.Rows
/-- the steps of _law_made -/
def euc : Nat → Int × Int → Int × Int → (Int × Int) × (Int × Int)
  | 0, a, b => (a, b)
  | k + 1, a, b => if b.1 = 0 then (a, b) else euc k b (a.1 - a.1.fdiv b.1 * b.1, a.2 - a.1.fdiv b.1 * b.2)
theorem euc_stop {k : Nat} {a b : Int × Int} (h : b.1 = 0) : euc k a b = (a, b) := by
  cases k with
  | zero => rfl
  | succ k => rw [euc, if_pos h]
/-- what _law_made gives -/
def mk1 (r : (Int × Int) × (Int × Int)) : Int := if r.1.1 < 0 then 0 - r.1.1 else r.1.1
def mk2 (r : (Int × Int) × (Int × Int)) : Int := if r.1.1 < 0 then 0 - r.1.2 else r.1.2
def mk3 (r : (Int × Int) × (Int × Int)) : Int := if r.2.2 < 0 then -r.2.2 else r.2.2
theorem fdiv_abs' {x g B : Int} (hg : g ≠ 0) (h1 : -B ≤ x) (h2 : x ≤ B) : -B ≤ x.fdiv g ∧ x.fdiv g ≤ B := by
  by_cases h : 0 < g
  · exact fdiv_abs h h1 h2
  · rw [← Int.neg_fdiv_neg]
    exact fdiv_abs (by omega) (by omega) (by omega)
theorem rest_abs {p q : Int} (hq : q ≠ 0) : (p - p.fdiv q * q).natAbs < q.natAbs := by
  have a := Int.mul_fdiv_add_fmod p q
  rw [Int.mul_comm] at a
  by_cases h : 0 < q
  · have := Int.fmod_nonneg_of_pos p h
    have := Int.fmod_lt_of_pos p h
    omega
  · have b := Int.mul_fdiv_add_fmod (-p) (-q)
    have := Int.fmod_nonneg_of_pos (-p) (show 0 < -q by omega)
    have := Int.fmod_lt_of_pos (-p) (show 0 < -q by omega)
    rw [Int.neg_fdiv_neg, Int.neg_mul, Int.mul_comm] at b
    omega
theorem pow5 : ∀ {i : Nat}, i ≤ 4 → (1 : Int) ≤ 5 ^ i ∧ (5 : Int) ^ i ≤ 625
  | 0, _ => by decide
  | 1, _ => by decide
  | 2, _ => by decide
  | 3, _ => by decide
  | 4, _ => by decide
  | n + 5, h => by omega
inductive MadeI (P O : Addr) (x1 x2 y1 y2 : Int) (ta tb tc td : Tok) (I : Addr) (i : Nat) (m : Str → Option Value) (news : List (Addr × Obj)) : Prop
  | mk (A1 A2 : Addr) (p1 p2 q1 q2 : Int) (k1 k2 k3 k4 : Tok) (s1 s2 : List (Addr × Obj)) : news = (A1, tupO [.int p1 k1, .int p2 k2]) :: (A2, tupO [.int q1 k3, .int q2 k4]) :: (P, tupO [.int x1 ta, .int x2 tb]) :: (O, tupO [.int y1 tc, .int y2 td]) :: (s1 ++ s2) → Tabs s1 s2 → (∀ q ∈ s1 ++ s2, q.1 ≠ A1) → (∀ q ∈ s1 ++ s2, q.1 ≠ A2) → (∀ q ∈ s1 ++ s2, q.1 ≠ P) → (∀ q ∈ s1 ++ s2, q.1 ≠ O) → (∀ q ∈ s1 ++ s2, q.1 ≠ I) → A1 ≠ I → A2 ≠ I → m (Str.ofString "one") = some (.ref A1) → m (Str.ofString "other") = some (.ref A2) → i ≤ 4 → p1.natAbs ≤ 4 → q1.natAbs + i ≤ 4 → -(4 * 5 ^ i) ≤ p2 → p2 ≤ 4 * 5 ^ i → -(4 * 5 ^ i) ≤ q2 → q2 ≤ 4 * 5 ^ i → euc (20 - i) (p1, p2) (q1, q2) = euc 20 (x1, x2) (y1, y2) → MadeI P O x1 x2 y1 y2 ta tb tc td I i m news
section
local macro_rules | `(tactic| walk_at "pyIter ref") => `(tactic| ((with_reducible show wpAny _ _ (pyIter (Value.ref _)) (fun it s₂ => LoopAtV _ _ _ _ _ _ _ _ _ it s₂) _ _); refine Held.out ?_))
set_option maxRecDepth 100000 in
set_option maxHeartbeats 8000000 in
theorem made : ∀ (w : World) (p : Program) (loose : List Str) (mean : ExcName → Option Value) (mg mb : Str → Option Value) (dp un : Nat) (gd : Option (List Code)) (fr : Option (List Env)) (h₀ : Heap) (s : Shared) (Q E : Value → Shared → Prop) (t1 t2 : List (Addr × Obj)) (P O : Addr) (x1 x2 y1 y2 : Int) (ta tb tc td : Tok),
    St h₀ s.heap ((P, tupO [.int x1 ta, .int x2 tb]) :: (O, tupO [.int y1 tc, .int y2 td]) :: (t1 ++ t2)) → Tabs t1 t2 → CodeHd h₀ 34 30 → CodeHd h₀ 41 37 → (Mine.hd.heap_39 w.params).In h₀ → Top p loose mean mg mb h₀ → dp + 200 < recursionLimit → un + 2500 < cLine →
    (∀ q ∈ t1 ++ t2, q.1 ≠ P) → (∀ q ∈ t1 ++ t2, q.1 ≠ O) →
    -4 ≤ x1 → x1 ≤ 4 → -4 ≤ x2 → x2 ≤ 4 → -4 ≤ y1 → y1 ≤ 4 → -4 ≤ y2 → y2 ≤ 4 →
    (∀ (D : Addr) (t1' t2' : List (Addr × Obj)) (u1 u2 u3 : Tok) (h' : Heap) (tk' : Nat), Tabs t1' t2' → (∀ q ∈ t1' ++ t2', q.1 ≠ D) →
      Post s.heap h' ((P, tupO [.int x1 ta, .int x2 tb]) :: (O, tupO [.int y1 tc, .int y2 td]) :: (t1 ++ t2))
        ((D, tupO [.int (mk1 (euc 20 (x1, x2) (y1, y2))) u1, .int (mk2 (euc 20 (x1, x2) (y1, y2))) u2, .int (mk3 (euc 20 (x1, x2) (y1, y2))) u3]) :: (P, tupO [.int x1 ta, .int x2 tb]) :: (O, tupO [.int y1 tc, .int y2 td]) :: (t1' ++ t2')) →
      (∀ q ∈ t1' ++ t2', q.1 ≠ P) → (∀ q ∈ t1' ++ t2', q.1 ≠ O) → Q (.ref D) { s with heap := h', toks := tk' }) →
    wpAny (model PySem.Challenge.rw_gv0003_01.row.prog w) (top0 dp un gd fr) (call (.ref 81) [.ref P, .ref O]) Q E s := by
  k_fill
  intro w p loose mean mg mb dp un gd fr h₀ s Q E t1 t2 P O x1 x2 y1 y2 ta tb tc td S ht C1 C2 X T hdp hun hPo hOo b1 b2 b3 b4 b5 b6 b7 b8 hret
  k_dflt (refine' enterP ?k4 ?k3 ?k5 ?k6 ?k7 ?k8 ?k9 ?kB ?_ ?c2 ?c3 ?c4 ?c5; (case k3 => k_asm); (case k4 => k_asm); (case k5 => k_asm); (case k6 => k_is); (case k7 => k_is); (case k8 => ktr_room); (case k9 => exact BindsTo.of_eq rfl); (case c5 => decide); (case kB => exact locs rfl); (case c2 => exact rfl); (case c3 => exact rfl); (case c4 => exact rfl); k_whole; intro g' L' h' F' N' X' T' kS' kG'; (try dsimp only); (try k_fold))
  have C1' := C1.keeps kS'
  have C2' := C2.keeps kS'
  k_steps
  unfold Held
  rename Fr _ _ _ _ => F1
  rename News _ _ _ _ => N1
  rename IsRange _ _ _ _ _ _ _ _ => hR
  have N1' : News g' L' _ ((P, tupO [.int x1 ta, .int x2 tb]) :: (O, tupO [.int y1 tc, .int y2 td]) :: (P, tupO [.int x1 ta, .int x2 tb]) :: (O, tupO [.int y1 tc, .int y2 td]) :: (t1 ++ t2)) := fun p hp => N1 p (by
    rcases List.mem_cons.mp hp with rfl | hp
    · exact .head _
    · rcases List.mem_cons.mp hp with rfl | hp
      · exact .tail _ (.head _)
      · exact hp)
  clear N1
  refine iter_rangeUnr (n := 20) rfl hR (by decide) (by decide) F1 N1' (fun I hI => range_ind (MadeI P O x1 x2 y1 y2 ta tb tc td I) ?base ?step 20 0 _ _ rfl ?init)
  case init => exact ⟨P, O, x1, x2, y1, y2, ta, tb, tc, td, t1, t2, rfl, ht, hPo, hOo, hPo, hOo, fun q hq => Nat.ne_of_lt (hI q (.tail _ (.tail _ (.tail _ (.tail _ hq))))), Nat.ne_of_lt (hI _ (.head _)), Nat.ne_of_lt (hI _ (.tail _ (.head _))), rfl, rfl, by omega, by omega, by omega, by omega, by omega, by omega, by omega, rfl⟩
  case base => 
    rintro i m news ⟨A1, A2, p1, p2, q1, q2, k1, k2, k3, k4, s1, s2, rfl, hT, o1, o2, o3, o4, o5, o6, o7, m1, m2, hi4, c1, c2, c3, c4, c5, c6, he⟩ hi
    omega
  case step =>
    rintro i m news ⟨A1, A2, p1, p2, q1, q2, k1, k2, k3, k4, s1, s2, rfl, hT, o1, o2, o3, o4, o5, o6, o7, m1, m2, hi4, c1, c2, c3, c4, c5, c6, he⟩ hi t it h tk hit F2 N2
    replace F2 : Fr g' L' h _ := F2
    replace N2 : News g' L' h _ := N2
    have h5 := pow5 hi4
    k_steps
    · rename q1 = 0 => hq0
      refine (show TurnH _ _ _ _ _ _ _ _ _ from TurnH.brk ?_)
      have hr : euc 20 (x1, x2) (y1, y2) = ((p1, p2), (q1, q2)) := he.symm.trans (euc_stop hq0)
      rw [hr] at hret
      k_steps
      · rename p1 < 0 => ha
        simp only [mk1, mk2, mk3, if_pos ha] at hret
        rename Fr _ _ _ _ => F7
        rename News _ _ _ _ => N7
        rename_i ltD
        exact (show LeaveH _ _ _ _ _ _ _ from ⟨_, _, F7, newsHead (r := (P, tupO [.int x1 ta, .int x2 tb]) :: (O, tupO [.int y1 tc, .int y2 td]) :: (s1 ++ s2)) N7 (fun q hq => .tail _ (.tail _ (.tail _ (.tail _ hq)))),
          fun P => hret _ _ _ _ _ _ _ _ hT (fun q hq => Nat.ne_of_lt (allLt_mem ltD.2.2.2.2.2.2 q hq)) P o3 o4⟩)
      · rename ¬ p1 < 0 => ha
        simp only [mk1, mk2, mk3, if_neg ha] at hret
        rename Fr _ _ _ _ => F7
        rename News _ _ _ _ => N7
        rename_i ltD
        exact (show LeaveH _ _ _ _ _ _ _ from ⟨_, _, F7, newsHead (r := (P, tupO [.int x1 ta, .int x2 tb]) :: (O, tupO [.int y1 tc, .int y2 td]) :: (s1 ++ s2)) N7 (fun q hq => .tail _ (.tail _ (.tail _ hq))),
          fun P => hret _ _ _ _ _ _ _ _ hT (fun q hq => Nat.ne_of_lt (allLt_mem ltD.2.2.2.2.2 q hq)) P o3 o4⟩)
    · rename q1 ≠ 0 => hq0
      rename Fr _ _ _ _ => F3
      rename News _ _ _ _ => N3
      k_dflt (refine' idm w p loose mean mg mb _ _ _ _ g' _ _ _ s1 s2 _ _ _ _ (St.of F3 N3 fun _ h => .tail _ (.tail _ (.tail _ (.tail _ (.tail _ h))))) hT C1' C2' X' T' ?d1 ?d2 ?x1 ?x2 hq0 ?x4 ?x5 ?_)
      case d1 => (dsimp only [top0]; omega)
      case d2 => (dsimp only [top0]; omega)
      case x1 => omega
      case x2 => omega
      case x4 => omega
      case x5 => omega
      intro D3 u3 u4 s1' s2' h4 tk4 ht4 hne4 P4
      obtain ⟨F5, N5, O5⟩ := P4.back (rest := [(I, it), (A1, tupO [.int p1 k1, .int p2 k2]), (A2, tupO [.int q1 k3, .int q2 k4]), (P, tupO [.int x1 ta, .int x2 tb]), (O, tupO [.int y1 tc, .int y2 td])]) F3 N3
        (fun p hp => List.mem_append_left (s1 ++ s2) hp) (fun _ h => .tail _ (.tail _ (.tail _ (.tail _ (.tail _ h)))))
        (Off.cons (fun q hq => (o5 q hq).symm) (Off.cons (fun q hq => (o1 q hq).symm) (Off.cons (fun q hq => (o2 q hq).symm) (Off.cons (fun q hq => (o3 q hq).symm) (Off.cons (fun q hq => (o4 q hq).symm) Off.nil)))))
      clear F3 N3
      dsimp only at F5 N5 ⊢
      have qb := fdiv_abs' (x := p1) (B := 4) hq0 (by omega) (by omega)
      have pb1 := mul_abs (B := 4) (C := 4) (a := p1.fdiv q1) (b := q1) qb.1 qb.2 (by omega) (by omega)
      have pb2 := mul_abs (B := 4) (C := 4 * 5 ^ i) (a := p1.fdiv q1) (b := q2) qb.1 qb.2 c5 c6
      have rb := rest_abs (p := p1) hq0
      have e5 : (5 : Int) ^ (i + 1) = 5 * 5 ^ i := by rw [Int.pow_succ, Int.mul_comm]
      have N6 : News g' L' h4 ((A1, tupO [.int p1 k1, .int p2 k2]) :: (A2, tupO [.int q1 k3, .int q2 k4]) :: (D3, tupO [.int (p1.fdiv q1) u3, .int (p1.fmod q1) u4]) :: (I, it) :: (P, tupO [.int x1 ta, .int x2 tb]) :: (O, tupO [.int y1 tc, .int y2 td]) :: (s1' ++ s2')) := fun p hp => N5 p (by
        simp only [List.mem_cons, List.mem_append, List.not_mem_nil, or_false] at hp ⊢
        grind)
      clear N5
      k_steps
      rename Fr _ _ _ _ => F7
      rename News _ _ _ _ => N7
      rename_i hw1 hw2 hw3 hw4 Dn hw5 ltN D' hw6 ltD hw7 hw8 hw9
      have hI' : ∀ q ∈ s1' ++ s2', q.1 ≠ I := fun q hq => O5 q (.tail _ hq) (I, it) (.head _)
      have N8 := newsC N7 (.tail _ (.tail _ (.tail _ (.tail _ (.tail _ (.head _)))))) (newsC N7 (.tail _ (.tail _ (.tail _ (.head _)))) (newsC N7 (.tail _ (.head _))
        (newsS (l := (P, tupO [.int x1 ta, .int x2 tb]) :: (O, tupO [.int y1 tc, .int y2 td]) :: (s1' ++ s2')) N7 (fun q hq => .tail _ (.tail _ (.tail _ (.tail _ (.tail _ (.tail _ hq)))))))))
      have hk : 20 - i = (20 - (i + 1)) + 1 := by omega
      rw [hk, euc, if_neg hq0] at he
      refine TurnH.next2 F7 N8 ?off ⟨A2, Dn, q1, q2, p1 - p1.fdiv q1 * q1, p2 - p1.fdiv q1 * q2, _, _, _, _, s1', s2', rfl, ht4, fun q hq => O5 q (.tail _ hq) (A2, _) (.tail _ (.tail _ (.head _))), fun q hq => Nat.ne_of_lt (allLt_mem ltN.2.2.2.2.2.2 q hq),
        fun q hq => O5 q (.tail _ hq) (P, _) (.tail _ (.tail _ (.tail _ (.head _)))), fun q hq => O5 q (.tail _ hq) (O, _) (.tail _ (.tail _ (.tail _ (.tail _ (.head _))))), hI', o7, Nat.ne_of_gt ltN.2.2.2.1, rfl, rfl, by omega, by omega, by omega, by rw [e5]; omega, by rw [e5]; omega, by rw [e5]; omega, by rw [e5]; omega, he⟩
      intro q hq
      rcases List.mem_cons.mp hq with rfl | hq
      · exact o7
      rcases List.mem_cons.mp hq with rfl | hq
      · exact Nat.ne_of_gt ltN.2.2.2.1
      rcases List.mem_cons.mp hq with rfl | hq
      · exact Nat.ne_of_lt (hI _ (.head _))
      rcases List.mem_cons.mp hq with rfl | hq
      · exact Nat.ne_of_lt (hI _ (.tail _ (.head _)))
      · exact hI' q hq
end
end
section
open PySem PySem.W PyProof.Rows
/-- the lattice that two vectors span -/
def InL (a b : Int × Int) (x y : Int) : Prop := ∃ m n : Int, x = m * a.1 + n * b.1 ∧ y = m * a.2 + n * b.2
theorem inL_turn {a b : Int × Int} {q x y : Int} : InL b (a.1 - q * b.1, a.2 - q * b.2) x y ↔ InL a b x y := by
  constructor
  · rintro ⟨m, n, rfl, rfl⟩
    exact ⟨n, m - n * q, by grind, by grind⟩
  · rintro ⟨m, n, rfl, rfl⟩
    exact ⟨n + m * q, m, by grind, by grind⟩
theorem euc_inL : ∀ (k : Nat) (a b : Int × Int) (x y : Int), InL (euc k a b).1 (euc k a b).2 x y ↔ InL a b x y
  | 0, _, _, _, _ => Iff.rfl
  | k + 1, a, b, x, y => by
    rw [euc]
    split
    · exact Iff.rfl
    · rw [euc_inL k]; exact inL_turn
theorem euc_det : ∀ (k : Nat) (a b : Int × Int), ((euc k a b).1.1 * (euc k a b).2.2 - (euc k a b).1.2 * (euc k a b).2.1).natAbs = (a.1 * b.2 - a.2 * b.1).natAbs
  | 0, _, _ => rfl
  | k + 1, a, b => by
    rw [euc]
    split
    · rfl
    · rw [euc_det k]
      dsimp only
      have : b.1 * (a.2 - a.1.fdiv b.1 * b.2) - b.2 * (a.1 - a.1.fdiv b.1 * b.1) = -(a.1 * b.2 - a.2 * b.1) := by grind
      rw [this, Int.natAbs_neg]
theorem euc_end : ∀ (k : Nat) (a b : Int × Int), b.1.natAbs < k → (euc k a b).2.1 = 0
  | 0, _, _, h => absurd h (Nat.not_lt_zero _)
  | k + 1, a, b, h => by
    rw [euc]
    split
    · assumption
    · rename_i hb
      refine euc_end k _ _ ?_
      have := rest_abs (p := a.1) hb
      dsimp only
      omega
theorem euc_first {B : Nat} : ∀ (k : Nat) (a b : Int × Int), a.1.natAbs ≤ B → b.1.natAbs ≤ B → (euc k a b).1.1.natAbs ≤ B
  | 0, _, _, h, _ => h
  | k + 1, a, b, h, h2 => by
    rw [euc]
    split
    · exact h
    · rename_i hb
      refine euc_first k _ _ h2 ?_
      have := rest_abs (p := a.1) hb
      dsimp only
      omega
theorem euc_shift : ∀ (n : Nat) (k : Nat) (a b : Int × Int) (C : Int), a.1.natAbs ≤ 4 → b.1.natAbs ≤ 4 → b.1.natAbs ≤ n → 0 ≤ C → -C ≤ a.2 → a.2 ≤ C → -C ≤ b.2 → b.2 ≤ C →
    -(C * 5 ^ n) ≤ (euc k a b).1.2 ∧ (euc k a b).1.2 ≤ C * 5 ^ n := by
  intro n
  induction n with
  | zero =>
    intro k a b C h1 h2 h3 hC c1 c2 c3 c4
    rw [euc_stop (by omega)]
    rw [Int.pow_zero, Int.mul_one]
    exact ⟨c1, c2⟩
  | succ n ih =>
    intro k a b C h1 h2 h3 hC c1 c2 c3 c4
    have hp : (1 : Int) ≤ 5 ^ (n + 1) := Int.add_one_le_of_lt (Int.pow_pos (by decide))
    have hm := Int.mul_le_mul_of_nonneg_left hp hC
    cases k with
    | zero => rw [euc]; dsimp only; omega
    | succ k =>
      rw [euc]
      split
      · dsimp only; omega
      · rename_i hb
        have hr := rest_abs (p := a.1) hb
        have qb := fdiv_abs' (x := a.1) (B := 4) hb (by omega) (by omega)
        have pb := mul_abs (B := 4) (C := C) (a := a.1.fdiv b.1) (b := b.2) qb.1 qb.2 c3 c4
        have := ih k b (a.1 - a.1.fdiv b.1 * b.1, a.2 - a.1.fdiv b.1 * b.2) (5 * C) h2 (by dsimp only; omega) (by dsimp only; omega) (by omega) (by omega) (by omega) (by dsimp only; omega) (by dsimp only; omega)
        have e : 5 * C * 5 ^ n = C * 5 ^ (n + 1) := by rw [Int.pow_succ]; grind
        rw [e] at this
        exact this
/-- what _law_made's answer is good for -/
structure MadeOk (x1 x2 y1 y2 g sh hi : Int) : Prop where
  g0 : 0 < g
  g4 : g ≤ 4
  h0 : 0 < hi
  h32 : hi ≤ 32
  s1 : -2500 ≤ sh
  s2 : sh ≤ 2500
  cross : g * hi = if x1 * y2 - x2 * y1 < 0 then -(x1 * y2 - x2 * y1) else x1 * y2 - x2 * y1
  span : ∀ x y, InL (g, sh) (0, hi) x y ↔ InL (x1, x2) (y1, y2) x y
theorem made_ok {x1 x2 y1 y2 : Int} (b1 : -4 ≤ x1) (b2 : x1 ≤ 4) (b3 : -4 ≤ x2) (b4 : x2 ≤ 4) (b5 : -4 ≤ y1) (b6 : y1 ≤ 4) (b7 : -4 ≤ y2) (b8 : y2 ≤ 4) (hc : x1 * y2 - x2 * y1 ≠ 0) :
    MadeOk x1 x2 y1 y2 (mk1 (euc 20 (x1, x2) (y1, y2))) (mk2 (euc 20 (x1, x2) (y1, y2))) (mk3 (euc 20 (x1, x2) (y1, y2))) := by
  have h1 := euc_det 20 (x1, x2) (y1, y2)
  have h2 := euc_end 20 (x1, x2) (y1, y2) (by dsimp only; omega)
  have h3 := euc_first (B := 4) 20 (x1, x2) (y1, y2) (by dsimp only; omega) (by dsimp only; omega)
  have h4 := euc_shift 4 20 (x1, x2) (y1, y2) 4 (by dsimp only; omega) (by dsimp only; omega) (by dsimp only; omega) (by omega) b3 b4 b7 b8
  have h5 := euc_inL 20 (x1, x2) (y1, y2)
  generalize euc 20 (x1, x2) (y1, y2) = r at h1 h2 h3 h4 h5 ⊢
  obtain ⟨⟨a, b⟩, c, d⟩ := r
  dsimp only at h1 h2 h3 h4 h5
  subst h2
  rw [Int.mul_zero, Int.sub_zero, Int.natAbs_mul] at h1
  have k1 := mul_abs (B := 4) (C := 4) (a := x1) (b := y2) b1 b2 b7 b8
  have k2 := mul_abs (B := 4) (C := 4) (a := x2) (b := y1) b3 b4 b5 b6
  generalize hX : x1 * y2 - x2 * y1 = X at h1 hc ⊢
  have hX1 : X.natAbs ≤ 32 := by omega
  have ha : a.natAbs ≠ 0 := fun e => by rw [e, Nat.zero_mul] at h1; omega
  have hd : d.natAbs ≠ 0 := fun e => by rw [e, Nat.mul_zero] at h1; omega
  have hdm : d.natAbs ≤ a.natAbs * d.natAbs := Nat.le_mul_of_pos_left _ (by omega)
  have e1 : mk1 ((a, b), (0, d)) = (a.natAbs : Int) := by simp only [mk1]; split <;> omega
  have e3 : mk3 ((a, b), (0, d)) = (d.natAbs : Int) := by simp only [mk3]; split <;> omega
  have e2 : mk2 ((a, b), (0, d)) = if a < 0 then 0 - b else b := by simp only [mk2]
  refine ⟨?_, ?_, ?_, ?_, ?_, ?_, ?_, ?_⟩
  · rw [e1]; omega
  · rw [e1]; omega
  · rw [e3]; omega
  · rw [e3]; omega
  · rw [e2]; split <;> omega
  · rw [e2]; split <;> omega
  · rw [e1, e3, hX, ← Int.natCast_mul, h1]; split <;> omega
  · intro x y
    rw [← h5 x y, e1, e2, e3]
    have sd : ∃ v : Int, (d.natAbs : Int) = v * d ∧ v * v = 1 := by
      by_cases h : d < 0
      · exact ⟨-1, by omega, by decide⟩
      · exact ⟨1, by omega, by decide⟩
    obtain ⟨v, hv, hvv⟩ := sd
    have sa : ∃ u : Int, (a.natAbs : Int) = u * a ∧ u * u = 1 ∧ (if a < 0 then 0 - b else b) = u * b := by
      by_cases h : a < 0
      · exact ⟨-1, by omega, by decide, by rw [if_pos h]; omega⟩
      · exact ⟨1, by omega, by decide, by rw [if_neg h]; omega⟩
    obtain ⟨u, hu, huu, hub⟩ := sa
    rw [hv, hu, hub]
    constructor
    · rintro ⟨m, n, rfl, rfl⟩
      exact ⟨m * u, n * v, by dsimp only; grind, by dsimp only; grind⟩
    · rintro ⟨m, n, rfl, rfl⟩
      exact ⟨m * u, n * v, by dsimp only; grind, by dsimp only; grind⟩
end
section
open PySem PySem.W PyProof.Rows PySem.SeqAt PySem.MeetsSeq PySem.MeetsSeq2 PySem.MeetsSeq3 PySem.SeqRoads2
open PySem.AutoSeq1 (wpAny_loadPart')
/-- the order of pairs -/
def ltP (a b : Int × Int) : Bool := if a.1 = b.1 then decide (a.2 < b.2) else decide (a.1 < b.1)
theorem rc_lt {prog : Program} {w : World} {A : Around} {E : Value → Shared → Prop} {s : Shared} {a b : Int} {t u : Tok} {Q : Value → Shared → Prop} (h : Q (.bool (decide (a < b))) s) :
    wpAny (model prog w) A (richCompare .Lt (.int a t) (.int b u)) Q E s := PyProof.Rows.lt_int (prog := prog) (w := w) h
def RcLtAt (A : Around) (s : Shared) (y x : Value) (b : Bool) : Prop :=
  ∀ (prog : Program) (w : World) (E : Value → Shared → Prop) (Q : Value → Shared → Prop), Q (.bool b) s → wpAny (model prog w) A (richCompare .Lt y x) Q E s
def lexL (e c : Nat → Bool) (z : Bool) : List Nat → Bool
  | [] => z
  | i :: r => if e i then lexL e c z r else c i
theorem tuple_ltAt (l b : Addr) (items items2 : Array Value) (n n2 : Nat) (dd dd2 : Option Addr) (sl sl2 : Array (Option Value)) (e c : Nat → Bool) :
    Meets (Builtin.«tuple.__lt__» ⟨[.ref l, .ref b], []⟩)
      (fun A R s => s.heap.get? l = some { cls := .type "tuple", dict := dd, data := .seq items n, slots := sl } ∧ s.heap.get? b = some { cls := .type "tuple", dict := dd2, data := .seq items2 n2, slots := sl2 } ∧
        (∀ j (h1 : j < items.size) (h2 : j < items2.size), EqAt A.in1 s items[j] items2[j] (e j)) ∧ (∀ j (h1 : j < items.size) (h2 : j < items2.size), RcLtAt A.in1 s items[j] items2[j] (c j)) ∧
        R (.ok (.ret (.bool (lexL e c (decide (items.size < items2.size)) (List.range (min items.size items2.size)))))) s) :=
  .of_wp fun prog w A R s h => by
    obtain ⟨hp, g, d, tk, os⟩ := s; obtain ⟨hl, hb, he, hc, h⟩ := h
    have f2 := AutoSeq1.sub_tuple_tuple
    have hZ : (items.toList.zip items2.toList).length = min items.size items2.size := by simp
    wp_walk using wpAny_loadPart' hl, wpAny_loadPart' hb, wpAny_forIn_list _ (fun rest b s' => b.1 = none ∧ s' = ⟨hp, g, d, tk, os⟩ ∧ ∃ i, rest = (items.toList.zip items2.toList).drop i ∧
      R (.ok (.ret (.bool (lexL e c (decide (items.size < items2.size)) ((List.range (min items.size items2.size)).drop i))))) ⟨hp, g, d, tk, os⟩) _
    case turn =>
      rintro ⟨y, x⟩ rest b s' ⟨hb', rfl, i, hz, hR⟩
      have hlt : i < (items.toList.zip items2.toList).length := by
        rcases Nat.lt_or_ge i (items.toList.zip items2.toList).length with h' | h'
        · exact h'
        · rw [List.drop_of_length_le h'] at hz; cases hz
      have hm : i < min items.size items2.size := hZ ▸ hlt
      have h1 : i < items.size := Nat.lt_of_lt_of_le hm (Nat.min_le_left _ _)
      have h2 : i < items2.size := Nat.lt_of_lt_of_le hm (Nat.min_le_right _ _)
      rw [List.drop_eq_getElem_cons hlt] at hz
      injection hz with hyx hrest
      have hy : y = items[i] := by have := congrArg Prod.fst hyx; simpa using this
      have hx : x = items2[i] := by have := congrArg Prod.snd hyx; simpa using this
      subst hy hx
      have hd : (List.range (min items.size items2.size)).drop i = i :: (List.range (min items.size items2.size)).drop (i + 1) := by simp [List.drop_eq_getElem_cons, hm]
      rw [hd, lexL] at hR
      refine wpAny_bind (he i h1 h2 prog w _ _ ?_)
      cases hy : e i with
      | true =>
        rw [hy] at hR
        wp_walk
        exact ⟨rfl, rfl, i + 1, hrest, by simpa using hR⟩
      | false =>
        rw [hy] at hR
        simp only [Bool.not_false, if_true]
        refine wpAny_bind (wpAny_rule ?_)
        refine wpAny_bind (hc i h1 h2 prog w _ _ ?_)
        wp_walk
        exact ⟨_, rfl, by simpa using hR⟩
    case fin =>
      rintro ⟨b1, b2⟩ s' ⟨hb', rfl, i, hz, hR⟩
      simp only at hb'
      subst hb'
      have hge : min items.size items2.size ≤ i := by
        rcases Nat.lt_or_ge i (items.toList.zip items2.toList).length with h' | h'
        · rw [List.drop_eq_getElem_cons h'] at hz; cases hz
        · exact hZ ▸ h'
      rw [List.drop_of_length_le (by simpa using hge)] at hR
      wp_walk
      exact ⟨_, rfl, by simpa [Builtin.Tuple.tupleCompareSizes, lexL] using hR⟩
    case h =>
      exact ⟨rfl, rfl, 0, rfl, by simpa using h⟩

abbrev prA (a1 a2 : Int) (ta tb : Tok) : Array Value := #[.int a1 ta, .int a2 tb]
section
variable {prog : Program} {w : World} {A : Around} {E : Value → Shared → Prop} {s : Shared} {l b : Addr} {a1 a2 b1 b2 : Int} {ta tb tc td : Tok}
theorem pair_items {A : Around} {s : Shared} : ∀ j (h1 : j < (prA a1 a2 ta tb).size) (h2 : j < (prA b1 b2 tc td).size), EqAt A s (prA a1 a2 ta tb)[j] (prA b1 b2 tc td)[j] (if j = 0 then a1 == b1 else a2 == b2)
  | 0, _, _ => EqAt.int_int _ _ _ _
  | 1, _, _ => EqAt.int_int _ _ _ _
theorem pair_ltitems {A : Around} {s : Shared} : ∀ j (h1 : j < (prA a1 a2 ta tb).size) (h2 : j < (prA b1 b2 tc td).size), RcLtAt A s (prA a1 a2 ta tb)[j] (prA b1 b2 tc td)[j] (if j = 0 then decide (a1 < b1) else decide (a2 < b2))
  | 0, _, _ => fun _ _ _ _ h => rc_lt h
  | 1, _, _ => fun _ _ _ _ h => rc_lt h
theorem lt_pair {Q : Value → Shared → Prop} (hl : s.heap.IsTuple l (prA a1 a2 ta tb)) (hb : s.heap.IsTuple b (prA b1 b2 tc td)) (hu : A.units < cLine) (h : Q (.bool (ltP (a1, a2) (b1, b2))) s) :
    wpAny (model prog w) A (compareOp .Lt (.ref l) (.ref b)) Q E s := by
  obtain ⟨⟨cls, dd, data, sl⟩, ho, hc, n, hd⟩ := id hl
  obtain ⟨⟨cls2, dd2, data2, sl2⟩, ho2, hc2, n2, hd2⟩ := id hb
  simp only at hc hd hc2 hd2
  subst hc hd hc2 hd2
  have e : lexL (fun j => if j = 0 then a1 == b1 else a2 == b2) (fun j => if j = 0 then decide (a1 < b1) else decide (a2 < b2)) (decide ((prA a1 a2 ta tb).size < (prA b1 b2 tc td).size)) (List.range (min (prA a1 a2 ta tb).size (prA b1 b2 tc td).size)) = ltP (a1, a2) (b1, b2) := by
    show lexL _ _ false [0, 1] = _
    simp only [lexL, ltP, if_true, Nat.one_ne_zero, if_false]
    by_cases h1 : a1 = b1
    · simp only [h1, beq_self_eq_true, if_true]
      by_cases h2 : a2 = b2
      · simp [h2]
      · simp [h2]
    · simp [h1]
  rw [← e] at h
  exact richCompare_meets_room (op := .Lt) ⟨_, ho, rfl⟩ ⟨_, ho2, rfl⟩ F.slot_tuple_lt F.entry_tuple_lt (F.args_tuple_lt_2 _ _) (tuple_ltAt l b _ _ n n2 dd dd2 sl sl2 _ _)
    ⟨ho, ho2, pair_items, pair_ltitems, show Value.bool _ ≠ Value.notImplemented ∧ Q (.bool _) s from ⟨(fun x => nomatch x), h⟩⟩ hu
theorem pair_all : ((List.range (min (prA a1 a2 ta tb).size (prA b1 b2 tc td).size)).all (fun j => if j = 0 then a1 == b1 else a2 == b2) && (prA a1 a2 ta tb).size == (prA b1 b2 tc td).size) = decide ((a1, a2) = (b1, b2)) := by
  show (([0, 1].all fun j => if j = 0 then a1 == b1 else a2 == b2) && true) = _
  simp only [List.all_cons, List.all_nil, if_true, Nat.one_ne_zero, if_false, Bool.and_true, Prod.mk.injEq, Bool.decide_and]
  rfl
theorem eqAt_pair (hl : s.heap.IsTuple l (prA a1 a2 ta tb)) (hb : s.heap.IsTuple b (prA b1 b2 tc td)) (hu : A.units < cLine) : EqAt A s (.ref l) (.ref b) (decide ((a1, a2) = (b1, b2))) := by
  by_cases h : l = b
  · subst h
    obtain ⟨o, ho, _, n, hd⟩ := hl
    obtain ⟨o2, ho2, _, n2, hd2⟩ := hb
    rw [ho] at ho2; cases ho2
    rw [hd] at hd2
    have e : prA a1 a2 ta tb = prA b1 b2 tc td := by injection hd2
    have e2 : (a1, a2) = (b1, b2) := by
      have := congrArg Array.toList e
      simp only [List.cons.injEq, Value.int.injEq, and_true] at this
      rw [this.1.1, this.2.1]
    rw [decide_eq_true e2]
    exact EqAt.same _
  · rw [← pair_all (ta := ta) (tb := tb) (tc := tc) (td := td)]
    exact EqAt.of_refs h (RcAt.tuples hl hb hu pair_items)
theorem eq_pair {Q : Value → Shared → Prop} (hl : s.heap.IsTuple l (prA a1 a2 ta tb)) (hb : s.heap.IsTuple b (prA b1 b2 tc td)) (hu : A.units < cLine) (h : Q (.bool (decide ((a1, a2) = (b1, b2)))) s) :
    wpAny (model prog w) A (compareOp .Eq (.ref l) (.ref b)) Q E s := by
  rw [← pair_all (ta := ta) (tb := tb) (tc := tc) (td := td)] at h
  exact RcAt.tuples hl hb hu pair_items prog w E Q h
theorem ne_pair {Q : Value → Shared → Prop} (hl : s.heap.IsTuple l (prA a1 a2 ta tb)) (hb : s.heap.IsTuple b (prA b1 b2 tc td)) (hu : A.units < cLine) (h : Q (.bool (!decide ((a1, a2) = (b1, b2)))) s) :
    wpAny (model prog w) A (compareOp .NotEq (.ref l) (.ref b)) Q E s := by
  rw [← pair_all (ta := ta) (tb := tb) (tc := tc) (td := td)] at h
  exact RcNeAt.tuples hl hb hu pair_items prog w E Q h
end
end
section
open PySem PySem.W PyProof.Rows
theorem freshB1 : (1 : Nat) = 1 := by
  (first | walk1 | rfl)
  w_top off
end
section
open PySem PySem.W PyProof.Rows
/-- v is a pair of ints -/
def PtAt (h : Heap) (v : Value) (p : Int × Int) : Prop := ∃ a ta tb, v = .ref a ∧ IsTup h a (prA p.1 p.2 ta tb)
def PtsAt (h : Heap) : List Value → List (Int × Int) → Prop
  | [], [] => True
  | v :: vs, p :: ps => PtAt h v p ∧ PtsAt h vs ps
  | _, _ => False
theorem PtAt.keeps {h h' : Heap} {v : Value} {p : Int × Int} (x : PtAt h v p) (k : ∀ b o, h.get? b = some o → h'.get? b = some o) : PtAt h' v p :=
  let ⟨a, ta, tb, e, i⟩ := x; ⟨a, ta, tb, e, IsTup.keeps i k⟩
theorem PtsAt.keeps {h h' : Heap} (k : ∀ b o, h.get? b = some o → h'.get? b = some o) : ∀ {vs : List Value} {ps : List (Int × Int)}, PtsAt h vs ps → PtsAt h' vs ps
  | [], [], _ => True.intro
  | _ :: _, _ :: _, x => ⟨x.1.keeps k, PtsAt.keeps k x.2⟩
theorem PtsAt.len {h : Heap} : ∀ {vs : List Value} {ps : List (Int × Int)}, PtsAt h vs ps → vs.length = ps.length
  | [], [], _ => rfl
  | _ :: _, _ :: _, x => by rw [List.length_cons, List.length_cons, PtsAt.len x.2]
theorem PtsAt.get {h : Heap} : ∀ {vs : List Value} {ps : List (Int × Int)}, PtsAt h vs ps → ∀ i : Nat, i < ps.length → ∃ v, vs[i]? = some v ∧ PtAt h v (ps.getD i (0, 0))
  | [], [], _, i, hi => by simp at hi
  | v :: _, p :: _, x, 0, _ => ⟨v, rfl, x.1⟩
  | _ :: _, _ :: _, x, i + 1, hi => by
    obtain ⟨v, e, q⟩ := PtsAt.get x.2 i (by simpa using hi)
    exact ⟨v, by simpa using e, by simpa using q⟩

/-- the search of bisect_left -/
def bis (ps : List (Int × Int)) (x : Int × Int) : Nat → Int → Int → Int
  | 0, lo, _ => lo
  | k + 1, lo, hi => if lo < hi then (if ltP (ps.getD ((lo + hi).fdiv 2).toNat (0, 0)) x then bis ps x k ((lo + hi).fdiv 2 + 1) hi else bis ps x k lo ((lo + hi).fdiv 2)) else lo
theorem bis_stop {ps : List (Int × Int)} {x : Int × Int} {k : Nat} {lo hi : Int} (h : ¬ lo < hi) : bis ps x k lo hi = lo := by
  cases k with
  | zero => rfl
  | succ k => rw [bis, if_neg h]
theorem isListF {h₀ h : Heap} {L D : Addr} {m : Str → Option Value} {its : Array Value} (F : Fr h₀ L h m) (j : h₀.IsList D its) : h.IsList D its := j.at fun o e => F.keep _ _ e
theorem len_H {prog : Program} {w : World} {A : Around} {E : Value → Shared → Prop} {s : Shared} {D : Addr} {vs : List Value} {n : Nat} {Q : Value → Shared → Prop} (hl : s.heap.IsList D vs.toArray) (hs : vs.length = n) (hf : n < 1000000) (h : Q (.int (n : Nat) (s.toks + 1)) { s with toks := s.toks + 1 + 1 }) :
    wpAny (model prog w) A (call (.builtin "len") [.ref D]) Q E s := by
  refine Calls.call_len_list hl (by rw [List.size_toArray]; omega) ?_
  rw [List.size_toArray, hs]; exact h
theorem item_H {prog : Program} {w : World} {A : Around} {E : Value → Shared → Prop} {s : Shared} {value slice : Expr} {l : Addr} {vs : List Value} {k : Int} {u : Tok} {v : Value} {Q : Value → Shared → Prop}
    (hl : s.heap.IsList l vs.toArray) (h0 : 0 ≤ k) (hhi : k < 1000000) (hx : vs[k.toNat]? = some v) (h : Q v s)
    (hs : subscripted slice false (.ref l) (.int k u) = operate [.ref l, .int k u] (getItem (.ref l) (.int k u)) := by with_unfolding_all rfl) :
    wpAny (model prog w) A (subscriptTail value slice (.ref l) (.int k u)) Q E s :=
  tail_any hl.typeIs slot_list_getitem.lookup (wpAny_getItem_list hl h0 (by omega) (by simpa using hx) h) hs
theorem tupF {h₀ h : Heap} {L D : Addr} {m : Str → Option Value} {its : Array Value} (F : Fr h₀ L h m) (j : IsTup h₀ D its) : h.IsTuple D its := IsTup.keeps j F.keep
inductive BisI (ps : List (Int × Int)) (x1 x2 : Int) (Lo Xa : Addr) (s : Shared) (g' : Heap) (L' : Addr) (k : Nat) (s' : Shared) : Prop
  | mk (h : Heap) (tk : Nat) (m : Str → Option Value) (lo hi : Int) (t1 t2 : Tok) : s' = { s with heap := h, toks := tk } → Fr g' L' h m → News g' L' h [] → m (Str.ofString "a") = some (.ref Lo) → m (Str.ofString "x") = some (.ref Xa) → m (Str.ofString "lo") = some (.int lo t1) → m (Str.ofString "hi") = some (.int hi t2) → m (Str.ofString "key") = some .none → 0 ≤ lo → lo ≤ hi → hi ≤ (ps.length : Int) → hi - lo ≤ (k : Int) → bis ps (x1, x2) k lo hi = bis ps (x1, x2) ps.length 0 ps.length → BisI ps x1 x2 Lo Xa s g' L' k s'
section
local macro_rules | `(tactic| walk_at "subscriptTail") => `(tactic| (k_here; (with_reducible show wpAny _ _ (subscriptTail _ _ (Value.ref _) (Value.int _ _)) _ _ _); k_dflt (refine' item_H (isListF (by assumption) (by assumption)) (by omega) (by omega) (by assumption) ?_ ?q; (case q => with_unfolding_all rfl))))
local macro_rules | `(tactic| walk_at "compareOp Lt ref ref") => `(tactic| (k_here; k_dflt (refine' lt_pair (tupF (by assumption) (by assumption)) (tupF (by assumption) (by assumption)) ?hu ?_; (case hu => (dsimp only [top0, Around.deeper]; omega)))))
local macro_rules | `(tactic| walk_at "exec While Compare cons nil") => `(tactic| (refine Held.out ?_))
local macro_rules | `(tactic| walk_at "call builtin:len") => `(tactic| (k_here; (with_reducible show wpAny _ _ (call (Value.builtin "len") [Value.ref _]) _ _ _); k_dflt (refine len_H (isListF (by assumption) (by assumption)) (by assumption) (by omega) ?_)))
set_option maxRecDepth 100000 in
set_option maxHeartbeats 8000000 in
theorem bisect0 : ∀ (w : World) (p : Program) (loose : List Str) (mean : ExcName → Option Value) (mg mb : Str → Option Value) (dp un : Nat) (gd : Option (List Code)) (fr : Option (List Env)) (h₀ : Heap) (s : Shared) (Q E : Value → Shared → Prop) (Lo Xa : Addr) (vs : List Value) (ps : List (Int × Int)) (x1 x2 : Int) (ta tb : Tok),
    St h₀ s.heap [] → (Mine.hd.heap_39 w.params).In h₀ → Top p loose mean mg mb h₀ → dp + 50 < recursionLimit → un + 200 < cLine →
    s.heap.IsList Lo vs.toArray → PtsAt s.heap vs ps → ps.length < 1000 → IsTup s.heap Xa (prA x1 x2 ta tb) →
    (∀ t h' tk', Post s.heap h' [] [] → Q (.int (bis ps (x1, x2) ps.length 0 ps.length) t) { s with heap := h', toks := tk' }) →
    wpAny (model PySem.Challenge.rw_gv0003_01.row.prog w) (top0 dp un gd fr) (call (.ref 74) [.ref Lo, .ref Xa]) Q E s := by
  k_fill
  intro w p loose mean mg mb dp un gd fr h₀ s Q E Lo Xa vs ps x1 x2 ta tb S X T hdp hun hL hP hlen hX hret
  k_dflt (refine' enterP ?k4 ?k3 ?k5 ?k6 ?k7 ?k8 ?k9 ?kB ?_ ?c2 ?c3 ?c4 ?c5; (case k3 => k_asm); (case k4 => k_asm); (case k5 => k_asm); (case k6 => k_is); (case k7 => k_is); (case k8 => ktr_room); (case k9 => (refine' kp_binds ?kx ?ke; (case kx => exact Frag.In.keeps X S.keep); (case ke => exact fun _ => rfl))); (case c5 => decide); (case kB => exact locs rfl); (case c2 => exact rfl); (case c3 => exact rfl); (case c4 => exact rfl); k_whole; intro g' L' h' F' N' X' T' kS' kG'; (try dsimp only); (try k_fold))
  have kA : ∀ b o, s.heap.get? b = some o → g'.get? b = some o := fun b o e => kG' b o e (by simp)
  have jL : g'.IsList Lo vs.toArray := hL.at fun o e => kA _ _ e
  have jP := hP.keeps kA
  have jX := IsTup.keeps hX kA
  have hvl := hP.len
  have hlen2 : ps.length < 1000000 := by omega
  k_steps
  unfold Held
  rename Fr _ _ _ _ => F1
  rename News _ _ _ _ => N1
  refine whl_start 0 (whl_ind (by first | passes_own | with_unfolding_all passes_own) (BisI ps x1 x2 Lo Xa s g' L') ?turn ps.length _ ?init)
  case init => exact ⟨_, _, _, 0, ps.length, _, _, rfl, F1, N1, rfl, rfl, rfl, rfl, rfl, by omega, by omega, by omega, by omega, rfl⟩
  case turn =>
    rintro k _ ⟨h, tk, m, lo, hi, t1, t2, rfl, F2, N2, ma, mx, mlo, mhi, mk, c1, c2, c3, c4, hb⟩
    clear F1 N1
    k_steps
    by_cases hlt : lo < hi
    · refine WhlIf.yes (decide_eq_true hlt) ?_
      obtain ⟨j, rfl⟩ : ∃ j, k = j + 1 := ⟨k - 1, by omega⟩
      have hm : (lo + hi).fdiv 2 = (lo + hi) / 2 := Int.fdiv_eq_ediv_of_nonneg _ (by decide)
      rw [bis, if_pos hlt] at hb
      obtain ⟨v, hv, qa, tq1, tq2, rfl, jq⟩ := jP.get ((lo + hi).fdiv 2).toNat (by omega)
      k_steps
      · rename ltP _ _ = true => ha
        rw [if_pos ha] at hb
        rename Fr _ _ _ _ => F3
        rename News _ _ _ _ => N3
        exact (show WhlH _ _ _ _ from ⟨j, Nat.lt_succ_self _, _, _, _, (lo + hi).fdiv 2 + 1, hi, _, t2, rfl, F3, N3, (by (simp (decide := true) only [↓reduceIte]; assumption)), (by (simp (decide := true) only [↓reduceIte]; assumption)), rfl, (by (simp (decide := true) only [↓reduceIte]; assumption)), (by (simp (decide := true) only [↓reduceIte]; assumption)), by omega, by omega, by omega, by omega, hb⟩)
      · rename ltP _ _ = false => ha
        rw [if_neg (Bool.eq_false_iff.mp ha)] at hb
        rename Fr _ _ _ _ => F3
        rename News _ _ _ _ => N3
        exact (show WhlH _ _ _ _ from ⟨j, Nat.lt_succ_self _, _, _, _, lo, (lo + hi).fdiv 2, t1, _, rfl, F3, N3, (by (simp (decide := true) only [↓reduceIte]; assumption)), (by (simp (decide := true) only [↓reduceIte]; assumption)), (by (simp (decide := true) only [↓reduceIte]; assumption)), rfl, (by (simp (decide := true) only [↓reduceIte]; assumption)), by omega, by omega, by omega, by omega, hb⟩)
    · refine WhlIf.no (decide_eq_false hlt) ?_
      k_steps
      rw [bis_stop hlt] at hb
      subst hb
      exact (show LeaveH _ _ _ _ _ _ _ from ⟨_, _, F2, N2, fun P => hret _ _ _ P⟩)
set_option maxRecDepth 100000 in
set_option maxHeartbeats 8000000 in
theorem bisect4 : ∀ (w : World) (p : Program) (loose : List Str) (mean : ExcName → Option Value) (mg mb : Str → Option Value) (dp un : Nat) (gd : Option (List Code)) (fr : Option (List Env)) (h₀ : Heap) (s : Shared) (Q E : Value → Shared → Prop) (Lo Xa : Addr) (vs : List Value) (ps : List (Int × Int)) (x1 x2 : Int) (ta tb tl : Tok),
    St h₀ s.heap [] → (Mine.hd.heap_39 w.params).In h₀ → Top p loose mean mg mb h₀ → dp + 50 < recursionLimit → un + 200 < cLine →
    s.heap.IsList Lo vs.toArray → PtsAt s.heap vs ps → ps.length < 1000 → IsTup s.heap Xa (prA x1 x2 ta tb) →
    (∀ t h' tk', Post s.heap h' [] [] → Q (.int (bis ps (x1, x2) ps.length 0 ps.length) t) { s with heap := h', toks := tk' }) →
    wpAny (model PySem.Challenge.rw_gv0003_01.row.prog w) (top0 dp un gd fr) (call (.ref 74) [.ref Lo, .ref Xa, .int 0 tl, .none]) Q E s := by
  k_fill
  intro w p loose mean mg mb dp un gd fr h₀ s Q E Lo Xa vs ps x1 x2 ta tb tl S X T hdp hun hL hP hlen hX hret
  k_dflt (refine' enterP ?k4 ?k3 ?k5 ?k6 ?k7 ?k8 ?k9 ?kB ?_ ?c2 ?c3 ?c4 ?c5; (case k3 => k_asm); (case k4 => k_asm); (case k5 => k_asm); (case k6 => k_is); (case k7 => k_is); (case k8 => ktr_room); (case k9 => (refine' kp_binds ?kx ?ke; (case kx => exact Frag.In.keeps X S.keep); (case ke => exact fun _ => rfl))); (case c5 => decide); (case kB => exact locs rfl); (case c2 => exact rfl); (case c3 => exact rfl); (case c4 => exact rfl); k_whole; intro g' L' h' F' N' X' T' kS' kG'; (try dsimp only); (try k_fold))
  have kA : ∀ b o, s.heap.get? b = some o → g'.get? b = some o := fun b o e => kG' b o e (by simp)
  have jL : g'.IsList Lo vs.toArray := hL.at fun o e => kA _ _ e
  have jP := hP.keeps kA
  have jX := IsTup.keeps hX kA
  have hvl := hP.len
  have hlen2 : ps.length < 1000000 := by omega
  k_steps
  unfold Held
  rename Fr _ _ _ _ => F1
  rename News _ _ _ _ => N1
  refine whl_start 0 (whl_ind (by first | passes_own | with_unfolding_all passes_own) (BisI ps x1 x2 Lo Xa s g' L') ?turn ps.length _ ?init)
  case init => exact ⟨_, _, _, 0, ps.length, _, _, rfl, F1, N1, rfl, rfl, rfl, rfl, rfl, by omega, by omega, by omega, by omega, rfl⟩
  case turn =>
    rintro k _ ⟨h, tk, m, lo, hi, t1, t2, rfl, F2, N2, ma, mx, mlo, mhi, mk, c1, c2, c3, c4, hb⟩
    clear F1 N1
    k_steps
    by_cases hlt : lo < hi
    · refine WhlIf.yes (decide_eq_true hlt) ?_
      obtain ⟨j, rfl⟩ : ∃ j, k = j + 1 := ⟨k - 1, by omega⟩
      have hm : (lo + hi).fdiv 2 = (lo + hi) / 2 := Int.fdiv_eq_ediv_of_nonneg _ (by decide)
      rw [bis, if_pos hlt] at hb
      obtain ⟨v, hv, qa, tq1, tq2, rfl, jq⟩ := jP.get ((lo + hi).fdiv 2).toNat (by omega)
      k_steps
      · rename ltP _ _ = true => ha
        rw [if_pos ha] at hb
        rename Fr _ _ _ _ => F3
        rename News _ _ _ _ => N3
        exact (show WhlH _ _ _ _ from ⟨j, Nat.lt_succ_self _, _, _, _, (lo + hi).fdiv 2 + 1, hi, _, t2, rfl, F3, N3, (by (simp (decide := true) only [↓reduceIte]; assumption)), (by (simp (decide := true) only [↓reduceIte]; assumption)), rfl, (by (simp (decide := true) only [↓reduceIte]; assumption)), (by (simp (decide := true) only [↓reduceIte]; assumption)), by omega, by omega, by omega, by omega, hb⟩)
      · rename ltP _ _ = false => ha
        rw [if_neg (Bool.eq_false_iff.mp ha)] at hb
        rename Fr _ _ _ _ => F3
        rename News _ _ _ _ => N3
        exact (show WhlH _ _ _ _ from ⟨j, Nat.lt_succ_self _, _, _, _, lo, (lo + hi).fdiv 2, t1, _, rfl, F3, N3, (by (simp (decide := true) only [↓reduceIte]; assumption)), (by (simp (decide := true) only [↓reduceIte]; assumption)), (by (simp (decide := true) only [↓reduceIte]; assumption)), rfl, (by (simp (decide := true) only [↓reduceIte]; assumption)), by omega, by omega, by omega, by omega, hb⟩)
    · refine WhlIf.no (decide_eq_false hlt) ?_
      k_steps
      rw [bis_stop hlt] at hb
      subst hb
      exact (show LeaveH _ _ _ _ _ _ _ from ⟨_, _, F2, N2, fun P => hret _ _ _ P⟩)
end
end
section
open PySem PySem.W PyProof.Rows
theorem freshB2 : (1 : Nat) = 1 := by
  (first | walk1 | rfl)
  w_top off
end
section
open PySem PySem.W PyProof.Rows
theorem tup_off {h : Heap} {Lo a : Addr} {its its2 : Array Value} {n : Nat} (hL : h.get? Lo = some (listOf its n)) (x : IsTup h a its2) : a ≠ Lo := fun e => by
  obtain ⟨o, ho, hc, _⟩ := x
  rw [e, hL] at ho; cases ho
  exact absurd (show Value.type "list" = Value.type "tuple" from hc) (by decide)
theorem istup_off {h g : Heap} {Lo a : Addr} {its its2 : Array Value} {n : Nat} (hL : h.get? Lo = some (listOf its n)) (k : ∀ b o, h.get? b = some o → b ≠ Lo → g.get? b = some o) (x : IsTup h a its2) : IsTup g a its2 := by
  have hn := tup_off hL x
  obtain ⟨o, ho, r⟩ := x
  exact ⟨o, k _ _ ho hn, r⟩
theorem PtAt.off {h g : Heap} {Lo : Addr} {its : Array Value} {n : Nat} (hL : h.get? Lo = some (listOf its n)) (k : ∀ b o, h.get? b = some o → b ≠ Lo → g.get? b = some o) {v : Value} {p : Int × Int} (x : PtAt h v p) : PtAt g v p :=
  let ⟨a, ta, tb, e, i⟩ := x; ⟨a, ta, tb, e, istup_off hL k i⟩
theorem PtsAt.off {h g : Heap} {Lo : Addr} {its : Array Value} {n : Nat} (hL : h.get? Lo = some (listOf its n)) (k : ∀ b o, h.get? b = some o → b ≠ Lo → g.get? b = some o) : ∀ {vs : List Value} {ps : List (Int × Int)}, PtsAt h vs ps → PtsAt g vs ps
  | [], [], _ => True.intro
  | _ :: _, _ :: _, x => ⟨x.1.off hL k, PtsAt.off hL k x.2⟩
theorem bis_range (ps : List (Int × Int)) (x : Int × Int) : ∀ (k : Nat) (lo hi : Int), lo ≤ hi → lo ≤ bis ps x k lo hi ∧ bis ps x k lo hi ≤ hi
  | 0, lo, hi, h => ⟨Int.le_refl _, h⟩
  | k + 1, lo, hi, h => by
    rw [bis]
    have hm : (lo + hi).fdiv 2 = (lo + hi) / 2 := Int.fdiv_eq_ediv_of_nonneg _ (by decide)
    split
    · split
      · have := bis_range ps x k ((lo + hi).fdiv 2 + 1) hi (by omega); omega
      · have := bis_range ps x k lo ((lo + hi).fdiv 2) (by omega); omega
    · omega
section
set_option maxRecDepth 100000 in
set_option maxHeartbeats 8000000 in
theorem insort : ∀ (w : World) (p : Program) (loose : List Str) (mean : ExcName → Option Value) (mg mb : Str → Option Value) (dp un : Nat) (gd : Option (List Code)) (fr : Option (List Env)) (h₀ : Heap) (s : Shared) (Q E : Value → Shared → Prop) (Lo Xa : Addr) (vs : List Value) (c : Nat) (ps : List (Int × Int)) (x1 x2 : Int) (ta tb : Tok),
    St h₀ s.heap [(Lo, listOf vs.toArray c)] → (Mine.hd.heap_39 w.params).In h₀ → Top p loose mean mg mb h₀ → dp + 60 < recursionLimit → un + 300 < cLine →
    PtsAt s.heap vs ps → ps.length < 1000 → IsTup s.heap Xa (prA x1 x2 ta tb) →
    (∀ h' tk', Post s.heap h' [(Lo, listOf vs.toArray c)] [(Lo, listOf (kl_ins vs (bis ps (x1, x2) ps.length 0 ps.length) (.ref Xa)).toArray (c + 1))] → Q .none { s with heap := h', toks := tk' }) →
    wpAny (model PySem.Challenge.rw_gv0003_01.row.prog w) (top0 dp un gd fr) (call (.ref 65) [.ref Lo, .ref Xa]) Q E s := by
  k_fill
  intro w p loose mean mg mb dp un gd fr h₀ s Q E Lo Xa vs c ps x1 x2 ta tb S X T hdp hun hP hlen hX hret
  k_dflt (refine' enterP ?k4 ?k3 ?k5 ?k6 ?k7 ?k8 ?k9 ?kB ?_ ?c2 ?c3 ?c4 ?c5; (case k3 => k_asm); (case k4 => k_asm); (case k5 => k_asm); (case k6 => k_is); (case k7 => k_is); (case k8 => ktr_room); (case k9 => (refine' kp_binds ?kx ?ke; (case kx => exact Frag.In.keeps X S.keep); (case ke => exact fun _ => rfl))); (case c5 => decide); (case kB => exact locs rfl); (case c2 => exact rfl); (case c3 => exact rfl); (case c4 => exact rfl); k_whole; intro g' L' h' F' N' X' T' kS' kG'; (try dsimp only); (try k_fold))
  have hgL := (S.tab _ (.head _)).1
  have kA : ∀ b o, s.heap.get? b = some o → b ≠ Lo → g'.get? b = some o := fun b o e hn => kG' b o e (by simpa using hn)
  have jP := hP.off hgL kA
  have jX := istup_off hgL kA hX
  have hvl := hP.len
  k_steps
  rename Fr _ _ _ _ => F1
  rename News _ _ _ _ => N1
  k_dflt (refine' bisect4 w p loose mean mg mb _ _ _ _ g' _ _ _ Lo Xa vs ps x1 x2 _ _ _ (St.of F1 N1 (fun _ h => nomatch h)) X' T' ?d1 ?d2 (News.isList N1 (.head _)) (jP.keeps F1.keep) hlen (IsTup.keeps jX F1.keep) ?_)
  case d1 => (dsimp only [top0]; omega)
  case d2 => (dsimp only [top0]; omega)
  intro t3 h3 tk3 P3
  obtain ⟨F2, N2, _⟩ := P3.back F1 N1 (fun _ h => h) (fun _ h => nomatch h) Off.nilr
  clear F1 N1
  rw [List.nil_append] at N2
  dsimp only at F2 N2 ⊢
  have hbr := bis_range ps (x1, x2) ps.length 0 ps.length (by omega)
  k_steps
  rename Fr _ _ _ _ => F3
  rename News _ _ _ _ => N3
  refine kl_insert (l := kl_ins vs (bis ps (x1, x2) ps.length 0 ps.length) (.ref Xa)) F3 N3 ?f rfl (Upd.head (fun _ h => nomatch h)) ?z (fun h6 F6 N6 => ?_)
  case f => (simp only [Builtin.List.listFitsIndex, Bool.and_eq_true, decide_eq_true_eq]; omega)
  case z => (show vs.length ≤ sizeLine; rw [sizeLine_eq]; omega)
  clear F3 N3
  k_steps
  exact (show LeaveH _ _ _ _ _ _ _ from ⟨_, _, F6, N6, fun P => hret _ _ P⟩)
end
end
section
open PySem PySem.W PyProof.Rows
theorem ltP_irr (a : Int × Int) : ltP a a = false := by simp [ltP]
theorem ltP_iff {a b : Int × Int} : ltP a b = true ↔ a.1 < b.1 ∨ (a.1 = b.1 ∧ a.2 < b.2) := by
  unfold ltP
  split
  · rename_i h; rw [decide_eq_true_iff]; omega
  · rename_i h; rw [decide_eq_true_iff]; omega
theorem ltP_trans {a b c : Int × Int} (h : ltP a b = true) (h2 : ltP b c = true) : ltP a c = true := by
  rw [ltP_iff] at *; omega
theorem ltP_tri (a b : Int × Int) : ltP a b = true ∨ a = b ∨ ltP b a = true := by
  obtain ⟨a1, a2⟩ := a
  obtain ⟨b1, b2⟩ := b
  simp only [ltP_iff, Prod.mk.injEq]; omega
/-- strictly rising -/
def Rise (ps : List (Int × Int)) : Prop := ps.Pairwise (fun a b => ltP a b = true)
theorem Rise.get {ps : List (Int × Int)} (h : Rise ps) {i j : Nat} (hij : i < j) (hj : j < ps.length) : ltP (ps.getD i (0, 0)) (ps.getD j (0, 0)) = true := by
  have hi : i < ps.length := by omega
  have := List.pairwise_iff_getElem.mp h i j hi hj hij
  simpa [List.getD_eq_getElem?_getD, hi, hj] using this
theorem bis_spec {ps : List (Int × Int)} {x : Int × Int} (hr : Rise ps) : ∀ (k : Nat) (lo hi : Int), hi - lo ≤ k → 0 ≤ lo → lo ≤ hi → hi ≤ ps.length →
    (∀ i : Nat, (i : Int) < lo → ltP (ps.getD i (0, 0)) x = true) → (∀ i : Nat, hi ≤ (i : Int) → i < ps.length → ltP (ps.getD i (0, 0)) x = false) →
    (∀ i : Nat, (i : Int) < bis ps x k lo hi → ltP (ps.getD i (0, 0)) x = true) ∧ (∀ i : Nat, bis ps x k lo hi ≤ (i : Int) → i < ps.length → ltP (ps.getD i (0, 0)) x = false) := by
  intro k
  induction k with
  | zero =>
    intro lo hi h0 h1 h2 h3 ha hb
    have : lo = hi := by omega
    subst this
    exact ⟨ha, hb⟩
  | succ k ih =>
    intro lo hi h0 h1 h2 h3 ha hb
    by_cases hlt : lo < hi
    · rw [bis, if_pos hlt]
      have hm : (lo + hi).fdiv 2 = (lo + hi) / 2 := Int.fdiv_eq_ediv_of_nonneg _ (by decide)
      by_cases hc : ltP (ps.getD ((lo + hi).fdiv 2).toNat (0, 0)) x = true
      · rw [if_pos hc]
        refine ih _ _ (by omega) (by omega) (by omega) h3 (fun i hi' => ?_) hb
        by_cases e : i = ((lo + hi).fdiv 2).toNat
        · rw [e]; exact hc
        · exact ltP_trans (hr.get (show i < ((lo + hi).fdiv 2).toNat by omega) (by omega)) hc
      · rw [if_neg hc]
        refine ih _ _ (by omega) (by omega) (by omega) (by omega) ha (fun i hi' hl => ?_)
        by_cases e : i = ((lo + hi).fdiv 2).toNat
        · rw [e]; exact Bool.eq_false_iff.mpr hc
        · refine Bool.eq_false_iff.mpr fun q => hc ?_
          exact ltP_trans (hr.get (show ((lo + hi).fdiv 2).toNat < i by omega) hl) q
    · rw [bis_stop hlt]
      have : lo = hi := by omega
      subst this
      exact ⟨ha, hb⟩
/-- where bisect_left puts a point -/
def plc (ps : List (Int × Int)) (x : Int × Int) : Int := bis ps x ps.length 0 ps.length
theorem plc_range (ps : List (Int × Int)) (x : Int × Int) : 0 ≤ plc ps x ∧ plc ps x ≤ ps.length := bis_range ps x ps.length 0 ps.length (by omega)
theorem plc_spec {ps : List (Int × Int)} (x : Int × Int) (hr : Rise ps) :
    (∀ i : Nat, (i : Int) < plc ps x → ltP (ps.getD i (0, 0)) x = true) ∧ (∀ i : Nat, plc ps x ≤ (i : Int) → i < ps.length → ltP (ps.getD i (0, 0)) x = false) :=
  bis_spec hr ps.length 0 ps.length (by omega) (by omega) (by omega) (by omega) (fun i h => by omega) (fun i h h2 => by omega)
/-- put in at its place -/
def insP (ps : List (Int × Int)) (x : Int × Int) : List (Int × Int) := ps.take (plc ps x).toNat ++ x :: ps.drop (plc ps x).toNat
theorem getD_of_mem {ps : List (Int × Int)} {a : Int × Int} (h : a ∈ ps) : ∃ i, i < ps.length ∧ ps.getD i (0, 0) = a := by
  obtain ⟨i, hi, e⟩ := List.mem_iff_getElem.mp h
  exact ⟨i, hi, by simpa [List.getD_eq_getElem?_getD, hi] using e⟩
theorem insP_rise {ps : List (Int × Int)} {x : Int × Int} (hr : Rise ps) (hn : x ∉ ps) : Rise (insP ps x) := by
  obtain ⟨h1, h2⟩ := plc_spec x hr
  have hrg := plc_range ps x
  unfold Rise insP
  rw [List.pairwise_append]
  refine ⟨hr.sublist (List.take_sublist _ _), ?_, ?_⟩
  · rw [List.pairwise_cons]
    refine ⟨fun a ha => ?_, hr.sublist (List.drop_sublist _ _)⟩
    obtain ⟨i, hi, e⟩ := List.mem_iff_getElem.mp ha
    rw [List.length_drop] at hi
    rw [List.getElem_drop] at e
    have hl : (plc ps x).toNat + i < ps.length := by omega
    have h3 := h2 ((plc ps x).toNat + i) (by omega) hl
    rw [show ps.getD ((plc ps x).toNat + i) (0, 0) = a by simpa [List.getD_eq_getElem?_getD, hl] using e] at h3
    rcases ltP_tri x a with q | q | q
    · exact q
    · exact absurd (q ▸ List.mem_of_mem_drop ha) hn
    · rw [q] at h3; cases h3
  · intro a ha b hb
    have hax : ltP a x = true := by
      obtain ⟨i, hi, e⟩ := List.mem_iff_getElem.mp ha
      rw [List.length_take] at hi
      rw [List.getElem_take] at e
      have hl : i < ps.length := by omega
      have h3 := h1 i (by omega)
      rw [show ps.getD i (0, 0) = a by simpa [List.getD_eq_getElem?_getD, hl] using e] at h3
      exact h3
    rcases List.mem_cons.mp hb with rfl | hb
    · exact hax
    · obtain ⟨i, hi, e⟩ := List.mem_iff_getElem.mp hb
      rw [List.length_drop] at hi
      rw [List.getElem_drop] at e
      have hl : (plc ps x).toNat + i < ps.length := by omega
      have h3 := h2 ((plc ps x).toNat + i) (by omega) hl
      rw [show ps.getD ((plc ps x).toNat + i) (0, 0) = b by simpa [List.getD_eq_getElem?_getD, hl] using e] at h3
      rcases ltP_tri x b with q | q | q
      · exact ltP_trans hax q
      · exact absurd (q ▸ List.mem_of_mem_drop hb) hn
      · rw [q] at h3; cases h3
theorem insP_mem {ps : List (Int × Int)} {x a : Int × Int} : a ∈ insP ps x ↔ a = x ∨ a ∈ ps := by
  unfold insP
  rw [List.mem_append, List.mem_cons]
  conv => rhs; rw [← List.take_append_drop (plc ps x).toNat ps, List.mem_append]
  grind
theorem insP_len {ps : List (Int × Int)} {x : Int × Int} : (insP ps x).length = ps.length + 1 := by
  have := plc_range ps x
  unfold insP
  rw [List.length_append, List.length_cons, List.length_take, List.length_drop]; omega
theorem plc_new {ps : List (Int × Int)} {x : Int × Int} (hr : Rise ps) (h : plc ps x = ps.length ∨ ps.getD (plc ps x).toNat (0, 0) ≠ x) : x ∉ ps := fun hm => by
  obtain ⟨h1, h2⟩ := plc_spec x hr
  have hrg := plc_range ps x
  obtain ⟨i, hi, e⟩ := getD_of_mem hm
  by_cases c1 : (i : Int) < plc ps x
  · have := h1 i c1
    rw [e, ltP_irr] at this; cases this
  · rcases h with h | h
    · omega
    · by_cases c2 : i = (plc ps x).toNat
      · rw [← c2] at h; exact h e
      · have h3 := h2 (plc ps x).toNat (by omega) (by omega)
        have h4 := hr.get (show (plc ps x).toNat < i by omega) hi
        rw [e, h3] at h4; cases h4
theorem plc_old {ps : List (Int × Int)} {x : Int × Int} (h1 : plc ps x ≠ ps.length) (h : ps.getD (plc ps x).toNat (0, 0) = x) : x ∈ ps := by
  have hrg := plc_range ps x
  have hl : (plc ps x).toNat < ps.length := by omega
  rw [← h]
  simp [List.getD_eq_getElem?_getD, hl]
/-- two rising lists of the same points are one -/
theorem rise_ext : ∀ {l r : List (Int × Int)}, Rise l → Rise r → (∀ a, a ∈ l ↔ a ∈ r) → l = r
  | [], [], _, _, _ => rfl
  | [], b :: r, _, _, h => absurd ((h b).mpr (.head _)) (fun q => nomatch q)
  | a :: l, [], _, _, h => absurd ((h a).mp (.head _)) (fun q => nomatch q)
  | a :: l, b :: r, hl, hr, h => by
    obtain ⟨ha, hl'⟩ := List.pairwise_cons.mp hl
    obtain ⟨hb, hr'⟩ := List.pairwise_cons.mp hr
    have e : a = b := by
      rcases List.mem_cons.mp ((h a).mp (.head _)) with q | q
      · exact q
      · rcases List.mem_cons.mp ((h b).mpr (.head _)) with q2 | q2
        · exact q2.symm
        · have := ltP_trans (ha b q2) (hb a q)
          rw [ltP_irr] at this; cases this
    subst e
    refine congrArg _ (rise_ext hl' hr' fun c => ?_)
    constructor
    · intro hc
      rcases List.mem_cons.mp ((h c).mp (.tail _ hc)) with q | q
      · subst q
        have := ha _ hc
        rw [ltP_irr] at this; cases this
      · exact q
    · intro hc
      rcases List.mem_cons.mp ((h c).mpr (.tail _ hc)) with q | q
      · subst q
        have := hb _ hc
        rw [ltP_irr] at this; cases this
      · exact q
/-- the list's items stand on the ledger as tuples -/
def PtsIn (l : List (Addr × Obj)) : List Value → List (Int × Int) → Prop
  | [], [] => True
  | v :: vs, p :: ps => (∃ a ta tb, v = .ref a ∧ (a, tupO [.int p.1 ta, .int p.2 tb]) ∈ l) ∧ PtsIn l vs ps
  | _, _ => False
theorem PtsIn.mono {l l' : List (Addr × Obj)} (k : ∀ p ∈ l, p ∈ l') : ∀ {vs : List Value} {ps : List (Int × Int)}, PtsIn l vs ps → PtsIn l' vs ps
  | [], [], _ => True.intro
  | _ :: _, _ :: _, ⟨⟨a, ta, tb, e, hm⟩, x⟩ => ⟨⟨a, ta, tb, e, k _ hm⟩, PtsIn.mono k x⟩
theorem PtsIn.len {l : List (Addr × Obj)} : ∀ {vs : List Value} {ps : List (Int × Int)}, PtsIn l vs ps → vs.length = ps.length
  | [], [], _ => rfl
  | _ :: _, _ :: _, x => congrArg (· + 1) (PtsIn.len x.2)
theorem PtsIn.at {l : List (Addr × Obj)} {h₀ h : Heap} {L : Addr} (N : News h₀ L h l) : ∀ {vs : List Value} {ps : List (Int × Int)}, PtsIn l vs ps → PtsAt h vs ps
  | [], [], _ => True.intro
  | _ :: _, _ :: _, ⟨⟨a, ta, tb, e, hm⟩, x⟩ => ⟨⟨a, ta, tb, e, News.isTup N hm⟩, PtsIn.at N x⟩
theorem PtsIn.get {l : List (Addr × Obj)} : ∀ {vs : List Value} {ps : List (Int × Int)}, PtsIn l vs ps → ∀ i : Nat, i < ps.length → ∃ a ta tb, vs[i]? = some (.ref a) ∧ (a, tupO [.int (ps.getD i (0, 0)).1 ta, .int (ps.getD i (0, 0)).2 tb]) ∈ l
  | [], [], _, i, h => absurd h (Nat.not_lt_zero _)
  | _ :: _, _ :: _, ⟨⟨a, ta, tb, e, hm⟩, _⟩, 0, _ => ⟨a, ta, tb, by rw [e]; rfl, hm⟩
  | v :: vs, p :: ps, x, i + 1, h => by
    obtain ⟨a, ta, tb, e, hm⟩ := PtsIn.get x.2 i (by simpa using h)
    exact ⟨a, ta, tb, by simpa using e, by simpa using hm⟩
theorem PtsIn.take {l : List (Addr × Obj)} : ∀ {vs : List Value} {ps : List (Int × Int)}, PtsIn l vs ps → ∀ n : Nat, PtsIn l (vs.take n) (ps.take n)
  | [], [], _, n => by rw [List.take_nil, List.take_nil]; exact True.intro
  | _ :: _, _ :: _, _, 0 => True.intro
  | _ :: _, _ :: _, x, n + 1 => ⟨x.1, PtsIn.take x.2 n⟩
theorem PtsIn.drop {l : List (Addr × Obj)} : ∀ {vs : List Value} {ps : List (Int × Int)}, PtsIn l vs ps → ∀ n : Nat, PtsIn l (vs.drop n) (ps.drop n)
  | [], [], _, n => by rw [List.drop_nil, List.drop_nil]; exact True.intro
  | _ :: _, _ :: _, x, 0 => x
  | _ :: _, _ :: _, x, n + 1 => PtsIn.drop x.2 n
theorem PtsIn.app {l : List (Addr × Obj)} : ∀ {vs ws : List Value} {ps qs : List (Int × Int)}, PtsIn l vs ps → PtsIn l ws qs → PtsIn l (vs ++ ws) (ps ++ qs)
  | [], _, [], _, _, y => y
  | _ :: _, _, _ :: _, _, x, y => ⟨x.1, PtsIn.app x.2 y⟩
theorem PtsIn.ins {l : List (Addr × Obj)} {vs : List Value} {ps : List (Int × Int)} {D : Addr} {x : Int × Int} {ta tb : Tok} (h : PtsIn l vs ps) (hm : (D, tupO [.int x.1 ta, .int x.2 tb]) ∈ l) : PtsIn l (kl_ins vs (plc ps x) (.ref D)) (insP ps x) := by
  have hr := plc_range ps x
  have hl := h.len
  have e : (if plc ps x < 0 then (plc ps x + (vs.length : Int)).toNat else min (plc ps x).toNat vs.length) = (plc ps x).toNat := by rw [if_neg (by omega)]; omega
  unfold kl_ins insP
  rw [e]
  exact (h.take _).app ⟨⟨D, ta, tb, rfl, hm⟩, h.drop _⟩
end
section
open PySem PySem.W PyProof.Rows
theorem freshS9 : (1 : Nat) = 1 := by
  (first | walk1 | rfl)
  w_top off
end
section
open PySem PySem.W PyProof.Rows
/-- what _law_led computes -/
def ledP (g sh hi x y : Int) : Int × Int := (x.fmod g, (y - x.fdiv g * sh).fmod hi)
/-- the ledger of the double loop -/
structure Led9 (RR : List (Addr × Obj)) (Lo M : Addr) (mo : Obj) (vs : List Value) (c : Nat) (ps : List (Int × Int)) (PL t1 t2 : List (Addr × Obj)) : Prop where
  tabs : Tabs t1 t2
  oT : Off ((Lo, listOf vs.toArray c) :: (M, mo) :: (PL ++ RR)) (t1 ++ t2)
  oL : ∀ q ∈ (M, mo) :: (PL ++ RR), q.1 ≠ Lo
  oR : ∀ q ∈ RR, ∀ p ∈ (M, mo) :: PL, q.1 ≠ p.1
  pts : PtsIn PL vs ps
def led9 (RR : List (Addr × Obj)) (Lo M : Addr) (mo : Obj) (vs : List Value) (c : Nat) (PL t1 t2 : List (Addr × Obj)) : List (Addr × Obj) :=
  (Lo, listOf vs.toArray c) :: (M, mo) :: (PL ++ RR ++ (t1 ++ t2))
theorem Led9.ins {RR : List (Addr × Obj)} {Lo M D : Addr} {mo : Obj} {vs : List Value} {c : Nat} {ps : List (Int × Int)} {PL t1 t2 : List (Addr × Obj)} {pt : Int × Int} {u1 u2 : Tok} (h : Led9 RR Lo M mo vs c ps PL t1 t2)
    (hD : ∀ q ∈ (Lo, listOf vs.toArray c) :: (M, mo) :: (PL ++ RR), D ≠ q.1) (hT : ∀ q ∈ t1 ++ t2, q.1 ≠ D) :
    Led9 RR Lo M mo (kl_ins vs (plc ps pt) (.ref D)) (c + 1) (insP ps pt) ((D, tupO [.int pt.1 u1, .int pt.2 u2]) :: PL) t1 t2 := by
  refine ⟨h.tabs, fun p hp q hq => ?_, fun q hq => ?_, fun q hq p hp => ?_, (h.pts.mono fun _ hp => .tail _ hp).ins (.head _)⟩
  · rcases List.mem_cons.mp hp with rfl | hp
    · exact h.oT (Lo, listOf vs.toArray c) (.head _) q hq
    rcases List.mem_cons.mp hp with rfl | hp
    · exact h.oT (M, mo) (.tail _ (.head _)) q hq
    rcases List.mem_cons.mp hp with rfl | hp
    · exact (hT q hq).symm
    · exact h.oT p (.tail _ (.tail _ hp)) q hq
  · rcases List.mem_cons.mp hq with rfl | hq
    · exact h.oL (M, mo) (.head _)
    rcases List.mem_cons.mp hq with rfl | hq
    · exact hD (Lo, listOf vs.toArray c) (.head _)
    · exact h.oL q (.tail _ hq)
  · rcases List.mem_cons.mp hp with rfl | hp
    · exact h.oR q hq (M, mo) (.head _)
    rcases List.mem_cons.mp hp with rfl | hp
    · exact (hD q (.tail _ (.tail _ (List.mem_append_right _ hq)))).symm
    · exact h.oR q hq p (.tail _ hp)
theorem led9_ins {h₀ h : Heap} {L : Addr} {RR : List (Addr × Obj)} {Lo M D : Addr} {mo od : Obj} {vs : List Value} {c : Nat} {PL t1 t2 TN : List (Addr × Obj)} (e : TN = PL ++ RR ++ (t1 ++ t2))
    (N : News h₀ L h ([(Lo, listOf vs.toArray c)] ++ (D, od) :: (M, mo) :: TN)) : News h₀ L h (led9 RR Lo M mo vs c ((D, od) :: PL) t1 t2) := fun q hq => N q (by
  subst e
  unfold led9 at hq
  simp only [List.mem_cons, List.mem_append, List.not_mem_nil, or_false] at hq ⊢
  grind)
theorem led9_same {h₀ h : Heap} {L : Addr} {RR : List (Addr × Obj)} {Lo M : Addr} {mo : Obj} {vs : List Value} {c : Nat} {PL t1 t2 TN news : List (Addr × Obj)} (e : TN = PL ++ RR ++ (t1 ++ t2))
    (N : News h₀ L h news) (h1 : (Lo, listOf vs.toArray c) ∈ news) (h2 : (M, mo) ∈ news) (h3 : ∀ q ∈ TN, q ∈ news) : News h₀ L h (led9 RR Lo M mo vs c PL t1 t2) := fun q hq => N q (by
  subst e
  unfold led9 at hq
  rcases List.mem_cons.mp hq with rfl | hq
  · exact h1
  rcases List.mem_cons.mp hq with rfl | hq
  · exact h2
  exact h3 q hq)
theorem Led9.offLo {RR : List (Addr × Obj)} {Lo M D : Addr} {mo od : Obj} {vs : List Value} {c : Nat} {ps : List (Int × Int)} {PL t1 t2 TN : List (Addr × Obj)} (h : Led9 RR Lo M mo vs c ps PL t1 t2) (e : TN = PL ++ RR ++ (t1 ++ t2))
    (hD : D ≠ Lo) : Off ((D, od) :: (M, mo) :: TN) [(Lo, listOf vs.toArray c)] := fun p hp q hq => by
  subst e
  rcases List.mem_cons.mp hq with rfl | hq
  · rcases List.mem_cons.mp hp with rfl | hp
    · exact hD
    rcases List.mem_cons.mp hp with rfl | hp
    · exact h.oL (M, mo) (.head _)
    rcases List.mem_append.mp hp with hp | hp
    · exact h.oL p (.tail _ hp)
    · exact (h.oT (Lo, listOf vs.toArray c) (.head _) p hp).symm
  · nomatch hq
section
theorem len_N {prog : Program} {w : World} {A : Around} {E : Value → Shared → Prop} {s : Shared} {h₀ : Heap} {L D : Addr} {news : List (Addr × Obj)} {vs : List Value} {c n : Nat} {Q : Value → Shared → Prop} (N : News h₀ L s.heap news) (hm : (D, listOf vs.toArray c) ∈ news) (hs : vs.length = n) (hf : n < 1000000)
    (h : Q (.int (n : Nat) (s.toks + 1)) { s with toks := s.toks + 1 + 1 }) : wpAny (model prog w) A (call (.builtin "len") [.ref D]) Q E s := len_H (News.isList N hm) hs hf h
theorem item_N {prog : Program} {w : World} {A : Around} {E : Value → Shared → Prop} {s : Shared} {h₀ : Heap} {L : Addr} {news : List (Addr × Obj)} {value slice : Expr} {l : Addr} {vs : List Value} {c : Nat} {k : Int} {u : Tok} {v : Value} {Q : Value → Shared → Prop}
    (N : News h₀ L s.heap news) (hm : (l, listOf vs.toArray c) ∈ news) (h0 : 0 ≤ k) (hhi : k < 1000000) (hx : vs[k.toNat]? = some v) (h : Q v s)
    (hs : subscripted slice false (.ref l) (.int k u) = operate [.ref l, .int k u] (getItem (.ref l) (.int k u)) := by with_unfolding_all rfl) :
    wpAny (model prog w) A (subscriptTail value slice (.ref l) (.int k u)) Q E s := item_H (News.isList N hm) h0 hhi hx h hs
local macro_rules | `(tactic| walk_at "subscriptTail") => `(tactic| (k_here; (with_reducible show wpAny _ _ (subscriptTail _ _ (Value.ref _) (Value.int _ _)) _ _ _); k_dflt (refine' item_N (by assumption) (by k_mem) (by omega) (by omega) (by assumption) ?_ ?q; (case q => with_unfolding_all rfl))))
local macro_rules | `(tactic| walk_at "call builtin:len") => `(tactic| (k_here; (with_reducible show wpAny _ _ (call (Value.builtin "len") [Value.ref _]) _ _ _); k_dflt (refine len_N (by assumption) (by k_mem) (by assumption) (by omega) ?_)))
local macro_rules | `(tactic| walk_at "compareOp NotEq ref ref") => `(tactic| (k_here; k_dflt (refine' ne_pair (News.isTup (by assumption) (by k_mem)) (News.isTup (by assumption) (by k_mem)) ?hu ?_; (case hu => (dsimp only [top0, Around.deeper]; omega)))))
set_option maxRecDepth 100000 in
set_option maxHeartbeats 8000000 in
theorem turn9 {w : World} {p : Program} {loose : List Str} {mean : ExcName → Option Value} {mg mb : Str → Option Value}
    {oc0 : Value} {od0 : Option Addr} {nm0 q0 : Str} {prm0 : Arguments} {st1 st2 st3 st4 st5 st6 st7 st8 : Stmt} {tx ix ty iy : Expr} {body ey ex rest : List Stmt} {py px : Pos}
    {sc0 : Scope} {dV kV doc0 pm0 : Value} {an0 : Option Addr} {cdv0 ct0 cd : Value} {fa : Addr} {osl0 : Array (Option Value)}
    {L Lo M : Addr} {m : Str → Option Value} {g sh hi x y : Int} {v1 v2 v3 xt yt : Tok} {vs : List Value} {c : Nat} {ps : List (Int × Int)} {RR PL t1 t2 : List (Addr × Obj)}
    {dp un : Nat} {gd : Option (List Code)} {fr : Option (List Env)} {h₀ : Heap} {s : Shared} {Q : Flow → Shared → Prop} {E : Value → Shared → Prop} :
    (Mine.hd.heap_39 w.params).lookup 93 = some ⟨oc0, od0, .func (fnOf nm0 q0 prm0 (st1 :: st2 :: st3 :: st4 :: st5 :: st6 :: st7 :: st8 :: .For tx ix [.For ty iy body ey py] ex px :: rest) sc0 dV kV doc0 pm0 an0 cdv0 ct0), osl0⟩ →
    (Mine.hd.heap_39 w.params).In h₀ → Top p loose mean mg mb h₀ → CodeHd h₀ 34 30 → CodeHd h₀ 41 37 → Fr h₀ L s.heap m →
    Led9 RR Lo M (tupO [.int g v1, .int sh v2, .int hi v3]) vs c ps PL t1 t2 → News h₀ L s.heap (led9 RR Lo M (tupO [.int g v1, .int sh v2, .int hi v3]) vs c PL t1 t2) →
    m (Str.ofString "order") = some (.ref Lo) → m (Str.ofString "made") = some (.ref M) → m (Str.ofString "x") = some (.int x xt) → m (Str.ofString "y") = some (.int y yt) →
    -4 ≤ x → x ≤ 4 → -4 ≤ y → y ≤ 4 → 0 < g → g ≤ 4 → 0 < hi → hi ≤ 32 → -2500 ≤ sh → sh ≤ 2500 → ps.length < 900 →
    dp + 300 < recursionLimit → un + 4000 < cLine →
    (∀ h' tk' m' t1' t2' vs' c' ps' PL', Fr h₀ L h' m' → Led9 RR Lo M (tupO [.int g v1, .int sh v2, .int hi v3]) vs' c' ps' PL' t1' t2' → News h₀ L h' (led9 RR Lo M (tupO [.int g v1, .int sh v2, .int hi v3]) vs' c' PL' t1' t2') →
      (∀ z, z ≠ Str.ofString "point" → z ≠ Str.ofString "place" → m' z = m z) →
      ps' = (if plc ps (ledP g sh hi x y) = ps.length ∨ ps.getD (plc ps (ledP g sh hi x y)).toNat (0, 0) ≠ ledP g sh hi x y then insP ps (ledP g sh hi x y) else ps) → Q .next { s with heap := h', toks := tk' }) →
    wpAny (model PySem.Challenge.rw_gv0003_01.row.prog w) (top0 dp un gd fr) (execs body (envOfC q0 sc0 L fa cd)) Q E s := by
  k_fill
  intro hK X T C1 C2 F D9 N mo mm mx my a1 a2 a3 a4 a5 a6 a7 a8 a9 a10 hlen hdp hun hret
  refine' lookFn 8 hK ?kk ?_
  case kk => k_is
  intro eq es e
  subst eq es
  dsimp only [List.drop] at e
  cases e
  clear hK
  obtain ⟨TT, hTT⟩ : ∃ TT, TT = PL ++ RR ++ (t1 ++ t2) := ⟨_, rfl⟩
  have N1 : News h₀ L s.heap ((Lo, listOf vs.toArray c) :: (M, tupO [.int g v1, .int sh v2, .int hi v3]) :: TT) := hTT ▸ N
  clear N
  k_steps
  rename Fr _ _ _ _ => F2
  rename News _ _ _ _ => N2
  k_dflt (refine' led w p loose mean mg mb _ _ _ _ h₀ _ _ _ t1 t2 _ M x y g sh hi xt yt v1 v2 v3 (St.of F2 N2 ?sub) D9.tabs C1 C2 X T ?d1 ?d2 (News.isTup N2 (.head _)) (News.isTup N2 (.tail _ (.tail _ (.head _)))) ?oP ?oM ?x1 ?x2 ?x3 ?x4 a5 ?x6 ?x7 ?x8 a7 ?x10 ?_)
  case sub => exact fun q hq => .tail _ (.tail _ (.tail _ (hTT ▸ List.mem_append_right _ hq)))
  case d1 => omega
  case d2 => omega
  case oP =>
    rename_i l1
    exact fun q hq => Nat.ne_of_lt (allLt_mem l1.2.2 q (hTT ▸ List.mem_append_right _ hq))
  case oM => exact fun q hq => (D9.oT (M, _) (.tail _ (.head _)) q hq).symm
  case x1 => omega
  case x2 => omega
  case x3 => omega
  case x4 => omega
  case x6 => omega
  case x7 => omega
  case x8 => omega
  case x10 => omega
  intro D t1' t2' u1 u2 h3 tk3 ht3 hne3 P3
  obtain ⟨F3, N3, O3⟩ := P3.back (rest := (Lo, listOf vs.toArray c) :: (M, tupO [.int g v1, .int sh v2, .int hi v3]) :: (PL ++ RR)) F2 N2 (fun q hq => .tail _ (by
      subst hTT
      rw [← List.cons_append, ← List.cons_append]
      exact List.mem_append_left _ hq)) (fun q hq => .tail _ (.tail _ (.tail _ (hTT ▸ List.mem_append_right _ hq)))) D9.oT
  clear F2 N2 P3
  obtain ⟨TN, hTN⟩ : ∃ TN, TN = PL ++ RR ++ (t1' ++ t2') := ⟨_, rfl⟩
  have N4 : News h₀ L h3 ((D, tupO [.int (x.fmod g) u1, .int ((y - x.fdiv g * sh).fmod hi) u2]) :: (Lo, listOf vs.toArray c) :: (M, tupO [.int g v1, .int sh v2, .int hi v3]) :: TN) := fun q hq => N3 q (by
    subst hTN
    simp only [List.mem_cons, List.mem_append] at hq ⊢
    grind)
  clear N3
  have D9' : Led9 RR Lo M (tupO [.int g v1, .int sh v2, .int hi v3]) vs c ps PL t1' t2' := ⟨ht3, fun q hq r hr => (O3 r (.tail _ hr) q hq).symm, D9.oL, D9.oR, D9.pts⟩
  have hDo := fun q hq => O3 (D, tupO [.int (x.fmod g) u1, .int ((y - x.fdiv g * sh).fmod hi) u2]) (.head _) q hq
  clear O3 D9
  dsimp only at F3 N4 ⊢
  have hP4 : PtsAt h3 vs ps := PtsIn.at (newsS N4 (l := PL) fun q hq => by
    subst hTN
    exact .tail _ (.tail _ (.tail _ (List.mem_append_left _ (List.mem_append_left _ hq))))) D9'.pts
  k_steps
  rename Fr _ _ _ _ => F5
  rename News _ _ _ _ => N5
  have hP5 : PtsAt _ vs ps := PtsIn.at (newsS N5 (l := PL) fun q hq => by
    subst hTN
    exact .tail _ (.tail _ (.tail _ (List.mem_append_left _ (List.mem_append_left _ hq))))) D9'.pts
  k_dflt (refine' bisect0 w p loose mean mg mb _ _ _ _ h₀ _ _ _ Lo D vs ps (x.fmod g) ((y - x.fdiv g * sh).fmod hi) u1 u2 (St.of F5 N5 (fun _ h => nomatch h)) X T ?d1 ?d2 (News.isList N5 (.tail _ (.head _))) hP5 ?d3 (News.isTup N5 (.head _)) ?_)
  case d1 => omega
  case d2 => omega
  case d3 => omega
  intro t6 h6 tk6 P6
  obtain ⟨F6, N6, _⟩ := P6.back (rest := (D, tupO [.int (x.fmod g) u1, .int ((y - x.fdiv g * sh).fmod hi) u2]) :: (Lo, listOf vs.toArray c) :: (M, tupO [.int g v1, .int sh v2, .int hi v3]) :: TN) F5 N5 (fun _ h => h) (fun _ h => nomatch h) Off.nilr
  clear F5 N5 P6 hP5 hP4
  rw [List.nil_append] at N6
  dsimp only at F6 N6 ⊢
  have hbr := plc_range ps (ledP g sh hi x y)
  have epl : bis ps (x.fmod g, (y - x.fdiv g * sh).fmod hi) ps.length 0 ps.length = plc ps (ledP g sh hi x y) := rfl
  rw [epl]
  have hvl := D9'.pts.len
  by_cases hpl : plc ps (ledP g sh hi x y) = ps.length
  · k_steps
    · rename Fr _ _ _ _ => F8
      rename News _ _ _ _ => N8
      k_dflt (refine' insort w p loose mean mg mb _ _ _ _ h₀ _ _ _ Lo D vs c ps (x.fmod g) ((y - x.fdiv g * sh).fmod hi) u1 u2 (St.of F8 N8 ?sub) X T ?d1 ?d2 (PtsIn.at (newsS N8 (l := PL) ?pl) D9'.pts) ?d3 (News.isTup N8 (List.Mem.head _)) ?_)
      case sub => exact fun q hq => List.mem_singleton.mp hq ▸ (List.Mem.tail _ (List.Mem.head _))
      case d1 => omega
      case d2 => omega
      case pl =>
       intro q hq
       subst hTN
       have hq2 := List.mem_append_left (t1' ++ t2') (List.mem_append_left RR hq)
       exact (List.Mem.tail _ (List.Mem.tail _ (List.Mem.tail _ hq2)))
      case d3 => omega
      intro h9 tk9 P9
      obtain ⟨F9, N9, _⟩ := P9.back (rest := (D, tupO [.int (x.fmod g) u1, .int ((y - x.fdiv g * sh).fmod hi) u2]) :: (M, tupO [.int g v1, .int sh v2, .int hi v3]) :: TN) F8 N8 (by
       intro q hq
       rcases List.mem_cons.mp hq with rfl | hq
       · exact (List.Mem.head _)
       rcases List.mem_cons.mp hq with rfl | hq
       · exact (List.Mem.tail _ (List.Mem.tail _ (List.Mem.head _)))
       exact (List.Mem.tail _ (List.Mem.tail _ (List.Mem.tail _ hq)))) (fun q hq => List.mem_singleton.mp hq ▸ (List.Mem.tail _ (List.Mem.head _))) (D9'.offLo hTN (hDo (Lo, listOf vs.toArray c) (.head _)))
      clear F8 N8
      dsimp only at F9 N9 ⊢
      k_steps
      exact (show Q .next _ from hret _ _ _ _ _ _ _ _ _ F9 (D9'.ins (pt := ledP g sh hi x y) hDo hne3) (led9_ins hTN N9) (fun z z1 z2 => by simp only [if_neg z1, if_neg z2]) (by rw [if_pos (.inl hpl)]))
    · exfalso
      omega
  · obtain ⟨qa, qt, qu, hv, hq⟩ := D9'.pts.get (plc ps (ledP g sh hi x y)).toNat (by omega)
    have N7 := newsC N6 (show _ ∈ _ from .tail _ (.tail _ (.tail _ (by subst hTN; exact List.mem_append_left _ (List.mem_append_left _ hq))))) N6
    clear N6
    k_steps
    · exfalso
      omega
    · rename (_, _) = (_, _) => heq
      rename Fr _ _ _ _ => F8
      rename News _ _ _ _ => N8
      have heq2 : ps.getD (plc ps (ledP g sh hi x y)).toNat (0, 0) = ledP g sh hi x y := heq
      exact (show Q .next _ from hret _ _ _ _ _ _ _ _ _ F8 D9' (led9_same hTN N8 (.tail _ (.tail _ (.head _))) (.tail _ (.tail _ (.tail _ (.head _)))) (fun q hq => .tail _ (.tail _ (.tail _ (.tail _ hq))))) (fun z z1 z2 => by simp only [if_neg z1, if_neg z2])
        (by rw [if_neg]; rintro (q | q); exact hpl q; exact q heq2))
    · rename (_, _) ≠ (_, _) => heq
      have heq2 : ps.getD (plc ps (ledP g sh hi x y)).toNat (0, 0) ≠ ledP g sh hi x y := heq
      rename Fr _ _ _ _ => F8
      rename News _ _ _ _ => N8
      k_dflt (refine' insort w p loose mean mg mb _ _ _ _ h₀ _ _ _ Lo D vs c ps (x.fmod g) ((y - x.fdiv g * sh).fmod hi) u1 u2 (St.of F8 N8 ?sub) X T ?d1 ?d2 (PtsIn.at (newsS N8 (l := PL) ?pl) D9'.pts) ?d3 (News.isTup N8 (List.Mem.tail _ (List.Mem.head _))) ?_)
      case sub => exact fun q hq => List.mem_singleton.mp hq ▸ (List.Mem.tail _ (List.Mem.tail _ (List.Mem.head _)))
      case d1 => omega
      case d2 => omega
      case pl =>
       intro q hq
       subst hTN
       have hq2 := List.mem_append_left (t1' ++ t2') (List.mem_append_left RR hq)
       exact (List.Mem.tail _ (List.Mem.tail _ (List.Mem.tail _ (List.Mem.tail _ hq2))))
      case d3 => omega
      intro h9 tk9 P9
      obtain ⟨F9, N9, _⟩ := P9.back (rest := (D, tupO [.int (x.fmod g) u1, .int ((y - x.fdiv g * sh).fmod hi) u2]) :: (M, tupO [.int g v1, .int sh v2, .int hi v3]) :: TN) F8 N8 (by
       intro q hq
       rcases List.mem_cons.mp hq with rfl | hq
       · exact (List.Mem.tail _ (List.Mem.head _))
       rcases List.mem_cons.mp hq with rfl | hq
       · exact (List.Mem.tail _ (List.Mem.tail _ (List.Mem.tail _ (List.Mem.head _))))
       exact (List.Mem.tail _ (List.Mem.tail _ (List.Mem.tail _ (List.Mem.tail _ hq))))) (fun q hq => List.mem_singleton.mp hq ▸ (List.Mem.tail _ (List.Mem.tail _ (List.Mem.head _)))) (D9'.offLo hTN (hDo (Lo, listOf vs.toArray c) (.head _)))
      clear F8 N8
      dsimp only at F9 N9 ⊢
      k_steps
      exact (show Q .next _ from hret _ _ _ _ _ _ _ _ _ F9 (D9'.ins (pt := ledP g sh hi x y) hDo hne3) (led9_ins hTN N9) (fun z z1 z2 => by simp only [if_neg z1, if_neg z2]) (by rw [if_pos (.inr heq2)]))
end
end
section
open PySem PySem.W PyProof.Rows
theorem freshS10 : (1 : Nat) = 1 := by
  (first | walk1 | rfl)
  w_top off
end
section
open PySem PySem.W PyProof.Rows
/-- what the double loop has gathered: all points of the box whose number is below n -/
structure Got (g sh hi : Int) (n : Int) (ps : List (Int × Int)) : Prop where
  rise : Rise ps
  len : (ps.length : Int) ≤ n
  from_ : ∀ q ∈ ps, ∃ x y : Int, -4 ≤ x ∧ x ≤ 4 ∧ -4 ≤ y ∧ y ≤ 4 ∧ q = ledP g sh hi x y
  all : ∀ x y : Int, -4 ≤ x → x ≤ 4 → -4 ≤ y → y ≤ 4 → (x + 4) * 9 + (y + 4) < n → ledP g sh hi x y ∈ ps
theorem Got.turn {g sh hi x y n : Int} {ps ps' : List (Int × Int)} (h : Got g sh hi n ps) (hn : n = (x + 4) * 9 + (y + 4)) (a1 : -4 ≤ x) (a2 : x ≤ 4) (a3 : -4 ≤ y) (a4 : y ≤ 4)
    (e : ps' = (if plc ps (ledP g sh hi x y) = ps.length ∨ ps.getD (plc ps (ledP g sh hi x y)).toNat (0, 0) ≠ ledP g sh hi x y then insP ps (ledP g sh hi x y) else ps)) : Got g sh hi (n + 1) ps' := by
  have hlast : ∀ u v : Int, -4 ≤ u → u ≤ 4 → -4 ≤ v → v ≤ 4 → (u + 4) * 9 + (v + 4) < n + 1 → (u + 4) * 9 + (v + 4) < n ∨ (u = x ∧ v = y) := by
    intro u v; omega
  split at e
  · rename_i hc
    subst e
    have hx := plc_new h.rise hc
    refine ⟨insP_rise h.rise hx, by rw [insP_len]; have := h.len; omega, fun q hq => ?_, fun u v b1 b2 b3 b4 hb => ?_⟩
    · rcases insP_mem.mp hq with rfl | hq
      · exact ⟨x, y, a1, a2, a3, a4, rfl⟩
      · exact h.from_ q hq
    · rcases hlast u v b1 b2 b3 b4 hb with q | ⟨rfl, rfl⟩
      · exact insP_mem.mpr (.inr (h.all u v b1 b2 b3 b4 q))
      · exact insP_mem.mpr (.inl rfl)
  · rename_i hc
    subst e
    refine ⟨h.rise, by have := h.len; omega, h.from_, fun u v b1 b2 b3 b4 hb => ?_⟩
    rcases hlast u v b1 b2 b3 b4 hb with q | ⟨rfl, rfl⟩
    · exact h.all u v b1 b2 b3 b4 q
    · exact plc_old (fun q => hc (.inl q)) (Classical.byContradiction fun q => hc (.inr q))
theorem led9_cons {RR : List (Addr × Obj)} {Lo M I : Addr} {mo it : Obj} {vs : List Value} {c : Nat} {PL t1 t2 : List (Addr × Obj)} (q : Addr × Obj) : q ∈ led9 ((I, it) :: RR) Lo M mo vs c PL t1 t2 ↔ q ∈ (I, it) :: led9 RR Lo M mo vs c PL t1 t2 := by
  unfold led9
  simp only [List.mem_cons, List.mem_append]
  grind
theorem Led9.cons {RR : List (Addr × Obj)} {Lo M I : Addr} {mo it : Obj} {vs : List Value} {c : Nat} {ps : List (Int × Int)} {PL t1 t2 : List (Addr × Obj)} (h : Led9 RR Lo M mo vs c ps PL t1 t2)
    (o : ∀ q ∈ led9 RR Lo M mo vs c PL t1 t2, q.1 ≠ I) : Led9 ((I, it) :: RR) Lo M mo vs c ps PL t1 t2 := by
  have o' : ∀ q, (q = (Lo, listOf vs.toArray c) ∨ q = (M, mo) ∨ (q ∈ PL ∨ q ∈ RR) ∨ q ∈ t1 ++ t2) → q.1 ≠ I := fun q hq => o q (by
    unfold led9
    rw [List.mem_cons, List.mem_cons, List.mem_append, List.mem_append (s := PL)]; exact hq)
  refine ⟨h.tabs, fun p hp q hq => ?_, fun q hq => ?_, fun q hq p hp => ?_, h.pts⟩
  · have hp' : p = (I, it) ∨ p ∈ (Lo, listOf vs.toArray c) :: (M, mo) :: (PL ++ RR) := by
      simp only [List.mem_cons, List.mem_append] at hp ⊢
      grind
    rcases hp' with rfl | hp'
    · exact (o' q (.inr (.inr (.inr hq)))).symm
    · exact h.oT p hp' q hq
  · have hq' : q = (I, it) ∨ q ∈ (M, mo) :: (PL ++ RR) := by
      simp only [List.mem_cons, List.mem_append] at hq ⊢
      grind
    rcases hq' with rfl | hq'
    · exact (o' _ (.inl rfl)).symm
    · exact h.oL q hq'
  · rcases List.mem_cons.mp hq with rfl | hq
    · rcases List.mem_cons.mp hp with rfl | hp
      · exact (o' _ (.inr (.inl rfl))).symm
      · exact (o' p (.inr (.inr (.inl (.inl hp))))).symm
    · exact h.oR q hq p hp
theorem Led9.uncons {RR : List (Addr × Obj)} {Lo M I : Addr} {mo it : Obj} {vs : List Value} {c : Nat} {ps : List (Int × Int)} {PL t1 t2 : List (Addr × Obj)} (h : Led9 ((I, it) :: RR) Lo M mo vs c ps PL t1 t2) :
    Led9 RR Lo M mo vs c ps PL t1 t2 :=
  ⟨h.tabs, fun p hp q hq => h.oT p (by
    simp only [List.mem_cons, List.mem_append] at hp ⊢
    grind) q hq, fun q hq => h.oL q (by
    simp only [List.mem_cons, List.mem_append] at hq ⊢
    grind), fun q hq p hp => h.oR q (.tail _ hq) p hp, h.pts⟩
theorem Led9.offI {RR : List (Addr × Obj)} {Lo M I : Addr} {mo it : Obj} {vs : List Value} {c : Nat} {ps : List (Int × Int)} {PL t1 t2 : List (Addr × Obj)} (h : Led9 ((I, it) :: RR) Lo M mo vs c ps PL t1 t2)
    (hR : ∀ q ∈ RR, q.1 ≠ I) : ∀ q ∈ led9 RR Lo M mo vs c PL t1 t2, q.1 ≠ I := fun q hq => by
  have hq' : q = (Lo, listOf vs.toArray c) ∨ q = (M, mo) ∨ q ∈ PL ∨ q ∈ RR ∨ q ∈ t1 ++ t2 := by
    unfold led9 at hq
    simp only [List.mem_cons, List.mem_append] at hq ⊢
    grind
  rcases hq' with rfl | rfl | hq' | hq' | hq'
  · exact (h.oL (I, it) (.tail _ (List.mem_append_right _ (.head _)))).symm
  · exact (h.oR (I, it) (.head _) (M, mo) (.head _)).symm
  · exact (h.oR (I, it) (.head _) q (.tail _ hq')).symm
  · exact hR q hq'
  · exact (h.oT (I, it) (.tail _ (.tail _ (List.mem_append_right _ (.head _)))) q hq').symm
theorem led9_RR {RR : List (Addr × Obj)} {Lo M : Addr} {mo : Obj} {vs : List Value} {c : Nat} {PL t1 t2 : List (Addr × Obj)} {q : Addr × Obj} (h : q ∈ RR) : q ∈ led9 RR Lo M mo vs c PL t1 t2 := by
  unfold led9
  exact .tail _ (.tail _ (List.mem_append_left _ (List.mem_append_right _ h)))
inductive RowI (RR : List (Addr × Obj)) (Lo M : Addr) (g sh hi : Int) (v1 v2 v3 : Tok) (m : Str → Option Value) (I : Addr) (i : Nat) (m1 : Str → Option Value) (news : List (Addr × Obj)) : Prop
  | mk (vs1 : List Value) (c1 : Nat) (ps1 : List (Int × Int)) (PL1 s1 s2 : List (Addr × Obj)) : news = led9 RR Lo M (tupO [.int g v1, .int sh v2, .int hi v3]) vs1 c1 PL1 s1 s2 →
    Led9 RR Lo M (tupO [.int g v1, .int sh v2, .int hi v3]) vs1 c1 ps1 PL1 s1 s2 → (∀ q ∈ news, q.1 ≠ I) →
    (∀ z, z ≠ Str.ofString "point" → z ≠ Str.ofString "place" → z ≠ Str.ofString "x" → z ≠ Str.ofString "y" → m1 z = m z) → Got g sh hi (9 * i) ps1 → RowI RR Lo M g sh hi v1 v2 v3 m I i m1 news
inductive ColI (RR : List (Addr × Obj)) (Lo M : Addr) (g sh hi : Int) (v1 v2 v3 : Tok) (m : Str → Option Value) (J : Addr) (i : Nat) (t : Tok) (j : Nat) (m2 : Str → Option Value) (news : List (Addr × Obj)) : Prop
  | mk (vs2 : List Value) (c2 : Nat) (ps2 : List (Int × Int)) (PL2 r1 r2 : List (Addr × Obj)) : news = led9 RR Lo M (tupO [.int g v1, .int sh v2, .int hi v3]) vs2 c2 PL2 r1 r2 →
    Led9 RR Lo M (tupO [.int g v1, .int sh v2, .int hi v3]) vs2 c2 ps2 PL2 r1 r2 → (∀ q ∈ news, q.1 ≠ J) → m2 (Str.ofString "x") = some (.int (0 - 4 + (i : Int)) t) →
    (∀ z, z ≠ Str.ofString "point" → z ≠ Str.ofString "place" → z ≠ Str.ofString "x" → z ≠ Str.ofString "y" → m2 z = m z) → Got g sh hi (9 * i + j) ps2 → ColI RR Lo M g sh hi v1 v2 v3 m J i t j m2 news
section
local macro_rules | `(tactic| walk_at "pyIter ref") => `(tactic| ((with_reducible show wpAny _ _ (pyIter (Value.ref _)) (fun it s₂ => LoopAtV _ _ _ _ _ _ _ _ _ it s₂) _ _); refine Held.out ?_))
set_option maxRecDepth 100000 in
set_option maxHeartbeats 8000000 in
theorem loop9 {w : World} {p : Program} {loose : List Str} {mean : ExcName → Option Value} {mg mb : Str → Option Value}
    {oc0 : Value} {od0 : Option Addr} {nm0 q0 : Str} {prm0 : Arguments} {st1 st2 st3 st4 st5 st6 st7 st8 stF : Stmt} {rest : List Stmt}
    {sc0 : Scope} {dV kV doc0 pm0 : Value} {an0 : Option Addr} {cdv0 ct0 cd : Value} {fa : Addr} {osl0 : Array (Option Value)}
    {L Lo M : Addr} {m : Str → Option Value} {g sh hi : Int} {v1 v2 v3 : Tok} {vs : List Value} {c : Nat} {ps : List (Int × Int)} {RR PL t1 t2 : List (Addr × Obj)}
    {dp un : Nat} {gd : Option (List Code)} {fr : Option (List Env)} {h₀ : Heap} {s : Shared} {Q : Flow → Shared → Prop} {E : Value → Shared → Prop} :
    (Mine.hd.heap_39 w.params).lookup 93 = some ⟨oc0, od0, .func (fnOf nm0 q0 prm0 (st1 :: st2 :: st3 :: st4 :: st5 :: st6 :: st7 :: st8 :: stF :: rest) sc0 dV kV doc0 pm0 an0 cdv0 ct0), osl0⟩ →
    (Mine.hd.heap_39 w.params).In h₀ → Top p loose mean mg mb h₀ → CodeHd h₀ 34 30 → CodeHd h₀ 41 37 → Fr h₀ L s.heap m →
    Led9 RR Lo M (tupO [.int g v1, .int sh v2, .int hi v3]) vs c ps PL t1 t2 → News h₀ L s.heap (led9 RR Lo M (tupO [.int g v1, .int sh v2, .int hi v3]) vs c PL t1 t2) →
    Got g sh hi 0 ps → m (Str.ofString "order") = some (.ref Lo) → m (Str.ofString "made") = some (.ref M) →
    0 < g → g ≤ 4 → 0 < hi → hi ≤ 32 → -2500 ≤ sh → sh ≤ 2500 →
    dp + 300 < recursionLimit → un + 4000 < cLine → PassesOwn (model PySem.Challenge.rw_gv0003_01.row.prog w) (top0 dp un gd fr) (envOfC q0 sc0 L fa cd) E →
    (∀ h' tk' m' t1' t2' vs' c' ps' PL', Fr h₀ L h' m' → Led9 RR Lo M (tupO [.int g v1, .int sh v2, .int hi v3]) vs' c' ps' PL' t1' t2' → News h₀ L h' (led9 RR Lo M (tupO [.int g v1, .int sh v2, .int hi v3]) vs' c' PL' t1' t2') →
      (∀ z, z ≠ Str.ofString "point" → z ≠ Str.ofString "place" → z ≠ Str.ofString "x" → z ≠ Str.ofString "y" → m' z = m z) → Got g sh hi 81 ps' → Q .next { s with heap := h', toks := tk' }) →
    wpAny (model PySem.Challenge.rw_gv0003_01.row.prog w) (top0 dp un gd fr) (exec stF (envOfC q0 sc0 L fa cd)) Q E s := by
  k_fill
  intro hK X T C1 C2 F D9 N G9 mo mm a5 a6 a7 a8 a9 a10 hdp hun hE hret
  refine' lookFn 8 hK ?kk ?_
  case kk => k_is
  intro eq es e
  subst eq es
  dsimp only [List.drop] at e
  cases e
  clear hK
  obtain ⟨TT, hTT⟩ : ∃ TT, TT = led9 RR Lo M (tupO [.int g v1, .int sh v2, .int hi v3]) vs c PL t1 t2 := ⟨_, rfl⟩
  rw [← hTT] at N
  k_steps
  unfold Held
  rename Fr _ _ _ _ => F1
  rename News _ _ _ _ => N1
  rename IsRange _ _ _ _ _ _ _ _ => hR
  refine iter_rangeUnr (n := 9) rfl hR (by decide) (by decide) F1 N1 (fun I hI => range_ind (RowI RR Lo M g sh hi v1 v2 v3 m I) ?base ?step 9 0 _ _ rfl ?init)
  case init => exact ⟨vs, c, ps, PL, t1, t2, hTT, D9, fun q hq => Nat.ne_of_lt (hI q hq), fun z _ _ _ _ => rfl, G9⟩
  case base =>
    rintro i m1 news ⟨vs1, c1, ps1, PL1, s1, s2, rfl, D1, _, hm1, G1⟩ rfl h tk F2 N2
    k_steps
    exact (show Q .next _ from hret _ _ _ _ _ _ _ _ _ F2 D1 N2 hm1 G1)
  case step =>
    rintro i m1 news ⟨vs1, c1, ps1, PL1, s1, s2, rfl, D1, oI, hm1, G1⟩ hi9 t it h tk hit F2 N2
    replace F2 : Fr h₀ L h _ := F2
    replace N2 : News h₀ L h _ := N2
    clear F1 N1 hTT
    obtain ⟨TU, hTU⟩ : ∃ TU, TU = led9 RR Lo M (tupO [.int g v1, .int sh v2, .int hi v3]) vs1 c1 PL1 s1 s2 := ⟨_, rfl⟩
    rw [← hTU] at N2
    k_steps
    unfold Held
    rename Fr _ _ _ _ => F3
    rename News _ _ _ _ => N3
    rename IsRange _ _ _ _ _ _ _ _ => hR2
    have hIR : ∀ q ∈ RR, q.1 ≠ I := fun q hq => oI q (led9_RR hq)
    have D2 : Led9 ((I, it) :: RR) Lo M (tupO [.int g v1, .int sh v2, .int hi v3]) vs1 c1 ps1 PL1 s1 s2 := D1.cons oI
    have N4 : News h₀ L _ (led9 ((I, it) :: RR) Lo M (tupO [.int g v1, .int sh v2, .int hi v3]) vs1 c1 PL1 s1 s2) := newsS N3 fun q hq => by
      rw [hTU]; exact (led9_cons q).mp hq
    refine iter_rangeUnr (n := 9) rfl hR2 (by decide) (by decide) F3 N4 (fun J hJ => range_ind (ColI ((I, it) :: RR) Lo M g sh hi v1 v2 v3 m J i t) ?base ?step 9 0 _ _ rfl ?init)
    case init =>
      refine ⟨vs1, c1, ps1, PL1, s1, s2, rfl, D2, fun q hq => Nat.ne_of_lt (hJ q hq), rfl, fun z z1 z2 z3 z4 => ?_, by simpa using G1⟩
      rw [if_neg z3]
      exact hm1 z z1 z2 z3 z4
    case base =>
      rintro j m2 news ⟨vs2, c2, ps2, PL2, r1, r2, rfl, D3, _, _, hm2, G2⟩ rfl h5 tk5 F5 N5
      k_steps
      exact (show TurnH _ _ _ _ _ _ _ _ _ from TurnH.next F5 N5 (led9 RR Lo M (tupO [.int g v1, .int sh v2, .int hi v3]) vs2 c2 PL2 r1 r2) (led9_RR (.head _)) (fun q hq => (led9_cons q).mpr (.tail _ hq)) (D3.offI hIR)
        ⟨vs2, c2, ps2, PL2, r1, r2, rfl, D3.uncons, D3.offI hIR, hm2, by
          have e : (9 * ((i + 1 : Nat) : Int)) = 9 * (i : Int) + ((9 : Nat) : Int) := by omega
          rw [e]; exact G2⟩)
    case step =>
      rintro j m2 news ⟨vs2, c2, ps2, PL2, r1, r2, rfl, D3, oJ, hx2, hm2, G2⟩ hj9 t5 it5 h5 tk5 hit5 F5 N5
      replace F5 : Fr h₀ L h5 _ := F5
      replace N5 : News h₀ L h5 _ := N5
      have D4 : Led9 ((J, it5) :: (I, it) :: RR) Lo M (tupO [.int g v1, .int sh v2, .int hi v3]) vs2 c2 ps2 PL2 r1 r2 := D3.cons oJ
      have hJR : ∀ q ∈ (I, it) :: RR, q.1 ≠ J := fun q hq => oJ q (led9_RR hq)
      have hlen := G2.len
      refine turn9 (s := { s with heap := h5, toks := tk5 }) (by k_is) X T C1 C2 F5 D4 (newsS N5 fun q hq => (led9_cons q).mp hq) (x := 0 - 4 + (i : Int)) (y := 0 - 4 + (j : Int)) ?mo ?mm hx2 rfl (by omega) (by omega) (by omega) (by omega) a5 a6 a7 a8 a9 a10 (by omega) (by omega) (by omega) ?_
      case mo => exact (hm2 (Str.ofString "order") (by decide) (by decide) (by decide) (by decide)).trans mo
      case mm => exact (hm2 (Str.ofString "made") (by decide) (by decide) (by decide) (by decide)).trans mm
      intro h6 tk6 m6 w1 w2 vs6 c6 ps6 PL6 F6 D6 N6 hm6 he6
      refine (show TurnH _ _ _ _ _ _ _ _ _ from TurnH.next F6 N6 (led9 ((I, it) :: RR) Lo M (tupO [.int g v1, .int sh v2, .int hi v3]) vs6 c6 PL6 w1 w2) (led9_RR (.head _)) (fun q hq => (led9_cons q).mpr (.tail _ hq)) (D6.offI hJR)
        ⟨vs6, c6, ps6, PL6, w1, w2, rfl, D6.uncons, D6.offI hJR, ?_, fun z z1 z2 z3 z4 => ?_, ?_⟩)
      · rw [hm6 _ (by decide) (by decide)]; exact hx2
      · rw [hm6 z z1 z2, if_neg z4]; exact hm2 z z1 z2 z3 z4
      · have G3 := G2.turn (x := 0 - 4 + (i : Int)) (y := 0 - 4 + (j : Int)) (by omega) (by omega) (by omega) (by omega) (by omega) he6
        have e : 9 * (i : Int) + ((j + 1 : Nat) : Int) = 9 * (i : Int) + (j : Int) + 1 := by omega
        rw [e]; exact G3
end
end
section
open PySem PySem.W PyProof.Rows PySem.Calls
set_option maxRecDepth 100000
section
variable {prog : Program} {w : World} {A : Around} {E : Value → Shared → Prop} {R : Result → Shared → Prop} {s : Shared}
/-- a comprehension with two clauses, neither with a test -/
abbrev lc2 (elt t0 i0 t1 i1 : Expr) (scope : Scope) (pos : Pos) : Expr := .ListComp elt [⟨t0, i0, [], 0⟩, ⟨t1, i1, [], 0⟩] scope pos
theorem compTurn_two0 (elt t0 i0 t1 i1 : Expr) (scope : Scope) (pos : Pos) (it acc : Value) (env : Env) :
    compTurn (lc2 elt t0 i0 t1 i1 scope pos) 0 it acc env = (standAt i0.pos >>= fun _ => pyNext it >>= fun r => match r with
      | none => pure (.done .next)
      | some v => letOwnedTupleGo t0 it v >>= fun _ => assign t0 env v >>= fun _ =>
        (eval i1 env >>= fun x => standAt i1.pos >>= fun _ => foldedSetIterable i1 env x >>= fun x => holding [x] (pyIter x) >>= fun it2 =>
          runOwn (.compStart (lc2 elt t0 i0 t1 i1 scope pos) 1 it2 acc env) env >>= fun _ =>
          again (.compLoop (lc2 elt t0 i0 t1 i1 scope pos) 0 it acc env))) := by rfl
theorem compTurn_two1 (elt t0 i0 t1 i1 : Expr) (scope : Scope) (pos : Pos) (it acc : Value) (env : Env) :
    compTurn (lc2 elt t0 i0 t1 i1 scope pos) 1 it acc env = (standAt i1.pos >>= fun _ => pyNext it >>= fun r => match r with
      | none => pure (.done .next)
      | some v => letOwnedTupleGo t1 it v >>= fun _ => assign t1 env v >>= fun _ =>
        (eval elt env >>= fun x => call (.builtin "list.append") [acc, x] >>= fun _ => pure ()) >>= fun _ =>
          again (.compLoop (lc2 elt t0 i0 t1 i1 scope pos) 1 it acc env)) := by rfl
theorem compLoop_two0 {elt t0 i0 t1 i1 : Expr} {scope : Scope} {pos : Pos} {it acc : Value} {env : Env} (I : Nat → Shared → Prop)
    (turn : ∀ n s, I n s → wpAny (model prog w) A (pyNext it) (fun r s₁ => match r with
      | none => R (.ok .next) s₁
      | some v => wpAny (model prog w) A (assign t0 env v) (fun _ s₂ => wpAny (model prog w) A (eval i1 env) (fun x s₃ => wpAny (model prog w) A (pyIter x) (fun it2 s₄ =>
          codeAny (model prog w) A (.compStart (lc2 elt t0 i0 t1 i1 scope pos) 1 it2 acc env) (fun r s' => match r with | .ok _ => ∃ m, m < n ∧ I m s' | .error e => cameBackBy (model prog w) A env (notedBy (model prog w) A env fun e s' => R (.error e) s') e s') s₄)
          (notedBy (model prog w) A env fun e s' => R (.error e) s') s₃)
          (notedBy (model prog w) A env fun e s' => R (.error e) s') s₂) (notedBy (model prog w) A env fun e s' => R (.error e) s') s₁) (notedBy (model prog w) A env fun e s' => R (.error e) s') s)
    (n : Nat) (h : I n s) (ht : ∀ v, letOwnedTupleGo t0 it v = pure () := by intro _; rfl) (hs : ∀ x, foldedSetIterable i1 env x = pure x := by intro _; rfl) :
    codeAny (model prog w) A (.compLoop (lc2 elt t0 i0 t1 i1 scope pos) 0 it acc env) R s := by
  refine codeAny_loop rfl I (fun n s hI => ?_) n h
  show wpAny _ A ((compTurn (lc2 elt t0 i0 t1 i1 scope pos) 0 it acc env).onRaise (fun x => do noteFrame x env; theTreesLotGoes x)) _ _ s
  refine wpAny_noted ?_
  rw [compTurn_two0]
  refine wpAny_bind (wpAny_standAt (wpAny_bind (wpAny_mono (turn n s hI) (fun r s₁ h₁ => ?_) fun _ _ h' => h')))
  cases r with
  | none => exact wpAny_pure h₁
  | some v =>
    refine wpAny_bind (wpAny_of_eq (ht v) ?_)
    refine wpAny_bind (wpAny_mono h₁ (fun _ s₂ h₂ => wpAny_bind (wpAny_mono h₂ (fun x s₃ h₃ => wpAny_bind (wpAny_standAt (wpAny_bind (wpAny_of_eq (hs x) (wpAny_bind (wpAny_holding
      (wpAny_mono h₃ (fun it2 s₄ h₄ => wpAny_bind (wpAny_runOwn (codeAny_mono h₄ fun r s' hr => ?_))) fun _ _ h' => h'))))))) fun _ _ h' => h')) fun _ _ h' => h')
    cases r with
    | ok f => exact wpAny_pure ⟨rfl, hr⟩
    | error e => exact hr
theorem compLoop_two1 {elt t0 i0 t1 i1 : Expr} {scope : Scope} {pos : Pos} {it acc : Value} {env : Env} (I : Nat → Shared → Prop)
    (turn : ∀ n s, I n s → wpAny (model prog w) A (pyNext it) (fun r s₁ => match r with
      | none => R (.ok .next) s₁
      | some v => wpAny (model prog w) A (assign t1 env v) (fun _ s₂ => wpAny (model prog w) A (eval elt env) (fun x s₃ =>
          wpAny (model prog w) A (call (.builtin "list.append") [acc, x]) (fun _ s₄ => ∃ m, m < n ∧ I m s₄) (notedBy (model prog w) A env fun e s' => R (.error e) s') s₃)
          (notedBy (model prog w) A env fun e s' => R (.error e) s') s₂) (notedBy (model prog w) A env fun e s' => R (.error e) s') s₁) (notedBy (model prog w) A env fun e s' => R (.error e) s') s)
    (n : Nat) (h : I n s) (ht : ∀ v, letOwnedTupleGo t1 it v = pure () := by intro _; rfl) :
    codeAny (model prog w) A (.compLoop (lc2 elt t0 i0 t1 i1 scope pos) 1 it acc env) R s := by
  refine codeAny_loop rfl I (fun n s hI => ?_) n h
  show wpAny _ A ((compTurn (lc2 elt t0 i0 t1 i1 scope pos) 1 it acc env).onRaise (fun x => do noteFrame x env; theTreesLotGoes x)) _ _ s
  refine wpAny_noted ?_
  rw [compTurn_two1]
  refine wpAny_bind (wpAny_standAt (wpAny_bind (wpAny_mono (turn n s hI) (fun r s₁ h₁ => ?_) fun _ _ h' => h')))
  cases r with
  | none => exact wpAny_pure h₁
  | some v =>
    refine wpAny_bind (wpAny_of_eq (ht v) ?_)
    exact wpAny_bind (wpAny_mono h₁ (fun _ s₂ h₂ => wpAny_bind (wpAny_bind (wpAny_mono h₂ (fun x s₃ h₃ => wpAny_bind (wpAny_mono h₃
      (fun _ s₄ h₄ => wpAny_pure (wpAny_pure ⟨rfl, h₄⟩)) fun _ _ h' => h')) fun _ _ h' => h'))) fun _ _ h' => h')
theorem compStart_two1 {elt t0 i0 t1 i1 : Expr} {scope : Scope} {pos : Pos} {it acc : Value} {env : Env}
    (h0 : codeAny (model prog w) A (.compLoop (lc2 elt t0 i0 t1 i1 scope pos) 1 it acc env) R s)
    (h : wpAny (model prog w) A (pyIter it) (fun it' s' => codeAny (model prog w) A (.compLoop (lc2 elt t0 i0 t1 i1 scope pos) 1 it' acc env) R s')
      (notedBy (model prog w) A env fun x s' => R (.error x) s') s) :
    codeAny (model prog w) A (.compStart (lc2 elt t0 i0 t1 i1 scope pos) 1 it acc env) R s := by
  refine codeAny_of_tree ?_
  show wpAny _ _ ((compStart (lc2 elt t0 i0 t1 i1 scope pos) 1 it acc env).onRaise (fun x => do noteFrame x env; standAt theWindowsPlace)) _ _ s
  refine wpAny_notedAt ?_
  unfold compStart
  show wpAny _ _ (ask >>= _) _ _ s
  refine wpAny_bind (wpAny_askSetting (wpAny_ite ?_))
  split
  · first
      | exact wpAny_bind (wpAny_pure (wpAny_pure (And.intro rfl h0)))
      | exact wpAny_pure (And.intro rfl h0)
  · first
      | exact wpAny_bind (wpAny_rule (wpAny_bind (wpAny_standAt (wpAny_bind (wpAny_mono h (fun it' s' h' => wpAny_pure (And.intro rfl h')) fun _ _ x => x)))))
      | (refine wpAny_bind (wpAny_rule ?_); show wpAny _ _ (standAt i1.pos >>= _) _ _ s; exact wpAny_bind (wpAny_standAt (wpAny_bind (wpAny_mono h (fun it' s' h' => wpAny_pure (And.intro rfl h')) fun _ _ x => x))))
end
end
section
open PySem PySem.W PyProof.Rows PySem.Calls PyProof.Rows.LCg
set_option maxRecDepth 100000
/-- a row of the table up to its column j -/
def rowP (i : Nat) : Nat → List (Int × Int)
  | 0 => []
  | j + 1 => rowP i j ++ [((i : Int), (j : Int))]
/-- the rows before i -/
def rowsP (n : Nat) : Nat → List (Int × Int)
  | 0 => []
  | i + 1 => rowsP n i ++ rowP i n
theorem rowP_len (i : Nat) : ∀ j, (rowP i j).length = j
  | 0 => rfl
  | j + 1 => by rw [rowP, List.length_append, rowP_len i j]; rfl
theorem rowsP_len (n : Nat) : ∀ i, (rowsP n i).length = i * n
  | 0 => by rw [rowsP, Nat.zero_mul]; rfl
  | i + 1 => by rw [rowsP, List.length_append, rowsP_len n i, rowP_len, Nat.succ_mul]
/-- a range has been made; nothing else moved -/
def RangeOut (s : Shared) (n : Nat) (xv : Value) (s₁ : Shared) : Prop :=
  ∃ r t u v h' tk', xv = .ref r ∧ s₁ = { s with heap := h', toks := tk' } ∧ (∀ b o, s.heap.get? b = some o → h'.get? b = some o) ∧ IsRange h' r 0 n 1 t u v
/-- a tuple of two ints has been made; nothing else moved -/
def PairOut (s : Shared) (a b : Int) (ta tb : Tok) (xv : Value) (s₁ : Shared) : Prop :=
  ∃ T h' tk', xv = .ref T ∧ s₁ = { s with heap := h', toks := tk' } ∧ (∀ b o, s.heap.get? b = some o → h'.get? b = some o) ∧ s.heap.get? T = none ∧ h'.get? T = some (tupO [.int a ta, .int b tb])
section
variable {prog : Program} {w : World} {A : Around} {E : Value → Shared → Prop} {s : Shared} {h₀ : Heap} {L : Addr} {m : Str → Option Value} {env : Env}
theorem range_small (n : Nat) (hn : n < 1000) : Builtin.Range.small 0 n 1 = true ∧ Builtin.Range.rangeSize 0 n 1 = ((n : Nat) : Int) := by
  have e : Builtin.Range.rangeSize 0 n 1 = ((n : Nat) : Int) := by
    simp only [Builtin.Range.rangeSize]
    rw [if_pos (by decide)]
    split
    · rw [Int.ediv_one]; omega
    · omega
  refine ⟨?_, e⟩
  have f : ∀ z : Int, 0 ≤ z → z ≤ 1000 → Builtin.Range.rangeFitsLong z = true := fun z h1 h2 => by
    simp only [Builtin.Range.rangeFitsLong, Bool.and_eq_true, decide_eq_true_eq]
    omega
  simp only [Builtin.Range.small, e]
  simp only [f 0 (by omega) (by omega), f 1 (by omega) (by omega), f n (by omega) (by omega), Int.zero_add, Int.add_zero, Bool.and_true, Bool.true_and, Bool.or_true, Int.mul_one, Int.zero_sub, Int.sub_zero]
  simp only [Bool.and_eq_true, Bool.or_eq_true, decide_eq_true_eq]
  simp
  exact .inr (f n (by omega) (by omega))
/-- all but the three objects of the comprehension stand -/
def KeepBut (I0 C D : Addr) (h g : Heap) : Prop := ∀ b o, b ≠ I0 → b ≠ C → b ≠ D → h.get? b = some o → g.get? b = some o
theorem comp2_in {elt i0 i1 : Expr} {x y : Str} {px py : Pos} {scope : Scope} {cl : List (Str × Addr)} {pos : Pos} {R : Result → Shared → Prop} {n1 i : Nat} {B : List (Addr × Obj)}
    {I0 I1 C D : Addr} {h₂ g : Heap} {tk : Nat} {it0 : Obj} {ti : Tok} {ys : List Value} {PL : List (Addr × Obj)} {m' : Str → Option Value}
    (hh : A.handled = none) (hkind : scope.kind = .function) (hy : scope.names.lookup y = some .local) (hxy : x ≠ y) (hsz : (i + 1) * n1 < 1000000)
    (n10 : I1 ≠ I0) (n1C : I1 ≠ C) (n1D : I1 ≠ D) (n0C : I0 ≠ C) (n0D : I0 ≠ D) (nCD : C ≠ D) (nCL : C ≠ L) (hC₀ : h₀.get? C = none) (oBC : ∀ q ∈ B, q.1 ≠ C)
    (fI1 : h₂.get? I1 = none) (fI0 : h₂.get? I0 ≠ none) (fC : h₂.get? C ≠ none) (fD : h₂.get? D ≠ none)
    (FN : ∀ g, KeepBut I0 C D h₂ g → Fr h₀ L g m ∧ News h₀ L g B)
    (he : ∀ oC m₂ g tk (i j : Int) (ti tj : Tok) (E' : Value → Shared → Prop), NsObj oC m₂ → m₂ x = some (.int i ti) → m₂ y = some (.int j tj) → Fr h₀ L g m → News h₀ L g ((C, oC) :: B) →
      wpAny (model prog w) A (eval elt (compEnvC scope cl C env)) (PairOut { s with heap := g, toks := tk } i j ti tj) E' { s with heap := g, toks := tk })
    (hit : IsRangeIter g I1 0 n1 1) (hI0 : g.get? I0 = some it0) (hn : g.Ns C m') (hmx : m' x = some (.int i ti)) (hD : g.get? D = some (lst ys)) (hP : PtsIn PL ys (rowsP n1 i))
    (hPL : ∀ p ∈ PL, g.get? p.1 = some p.2 ∧ h₂.get? p.1 = none ∧ p.1 ≠ I1) (hK : KeepBut I0 C D h₂ g)
    (out : ∀ g' tk' ys' PL' m'', g'.get? I0 = some it0 → g'.Ns C m'' → g'.get? D = some (lst ys') → PtsIn PL' ys' (rowsP n1 (i + 1)) → (∀ p ∈ PL', g'.get? p.1 = some p.2 ∧ h₂.get? p.1 = none) → KeepBut I0 C D h₂ g' → R (.ok .next) { s with heap := g', toks := tk' }) :
    codeAny (model prog w) A (.compLoop (lc2 elt (.Name x px) i0 (.Name y py) i1 scope pos) 1 (.ref I1) (.ref D) (compEnvC scope cl C env)) R { s with heap := g, toks := tk } := by
  have W := range_walks (prog := prog) (w := w) (A := A) (I := I1) hh 0 n1
  refine compLoop_two1 (fun k s' => ∃ g tk j ys PL m', s' = { s with heap := g, toks := tk } ∧ j ≤ n1 ∧ k = n1 + 1 - j ∧ IsRangeIter g I1 (0 + ((j : Nat) : Int) * 1) ((n1 : Int) - (j : Nat)) 1 ∧ g.get? I0 = some it0 ∧ g.Ns C m' ∧ m' x = some (.int i ti) ∧
    g.get? D = some (lst ys) ∧ PtsIn PL ys (rowsP n1 i ++ rowP i j) ∧ (∀ p ∈ PL, g.get? p.1 = some p.2 ∧ h₂.get? p.1 = none ∧ p.1 ≠ I1) ∧ KeepBut I0 C D h₂ g) ?_ (n1 + 1)
    ⟨g, tk, 0, ys, PL, m', rfl, Nat.zero_le _, rfl, by simpa using hit, hI0, hn, hmx, hD, by rw [rowP, List.append_nil]; exact hP, hPL, hK⟩
  clear hit hI0 hn hmx hD hP hPL hK
  rintro k s' ⟨g, tk, j, ys, PL, m', rfl, hj, rfl, hit, hI0, hn, hmx, hD, hP, hPL, hK⟩
  by_cases hlt : j < n1
  · refine W.item j _ _ _ hlt hit fun v g1 tk1 hPv hit1 k1 => ?_
    obtain ⟨tj, rfl⟩ := hPv
    have k1' : ∀ b o, b ≠ I1 → g.get? b = some o → g1.get? b = some o := fun b o hb e => k1 b o (by simpa using hb) e
    refine wpAny_assign_Name (wpAny_storeName_local (lookup_relabel_local hy) (hn.at' fun o e => k1' _ o (Ne.symm n1C) e) (fun g2 hn2 hs2 => ?_) (by simp [compEnvC, relabel, hkind]))
    have hs2 : Heap.SameBut C g1 g2 := hs2
    have hn2 : g2.Ns C _ := hn2
    have k2' : ∀ b o, b ≠ I1 → b ≠ C → g.get? b = some o → g2.get? b = some o := fun b o hb hc e => hs2.extBut b o hc (k1' b o hb e)
    have hit2 : IsRangeIter g2 I1 (0 + ((j + 1 : Nat) : Int) * 1) ((n1 : Int) - ((j + 1 : Nat) : Int)) 1 := W.frame _ _ _ hit1 fun b hb o e => hs2.extBut b o (by rw [List.mem_singleton.mp hb]; exact n1C) e
    have K2 : KeepBut I0 C D h₂ g2 := fun b o b1 b2 b3 e => k2' b o (fun q => by rw [q, fI1] at e; cases e) b2 (hK b o b1 b2 b3 e)
    obtain ⟨F2, N2⟩ := FN g2 K2
    obtain ⟨oC, heC, hoC⟩ := ns_obj hn2
    have hI02 := k2' I0 it0 (Ne.symm n10) n0C hI0
    have hD2 := k2' D _ (Ne.symm n1D) (Ne.symm nCD) hD
    rw [Int.zero_add] at hoC
    refine wpAny_mono (he oC _ g2 _ i j ti tj _ hoC (by rw [if_neg hxy]; exact hmx) (by simp) F2 (fun q hq => ?_)) (fun yv s4 h4 => ?_) fun _ _ e => e
    · rcases List.mem_cons.mp hq with rfl | hq
      · exact ⟨heC, nCL, hC₀⟩
      · exact N2 q hq
    obtain ⟨T, g3, tk3, rfl, rfl, k3, hTn, hT⟩ := h4
    dsimp only at k3 hTn hT ⊢
    have nT0 : T ≠ I0 := fun q => by rw [q, hI02] at hTn; cases hTn
    have nTC : T ≠ C := fun q => by rw [q, heC] at hTn; cases hTn
    have nTD : T ≠ D := fun q => by rw [q, hD2] at hTn; cases hTn
    have nT1 : T ≠ I1 := fun q => by
      have z : g2.get? I1 = some _ := hit2
      rw [q, z] at hTn; cases hTn
    have hT2 : h₂.get? T = none := by
      cases e : h₂.get? T with
      | none => rfl
      | some o => rw [K2 T o nT0 nTC nTD e] at hTn; cases hTn
    have hlen : ys.length = i * n1 + j := by rw [hP.len, List.length_append, rowsP_len, rowP_len]
    have hsz2 : ys.toArray.size ≤ sizeLine := by
      rw [List.size_toArray, hlen, sizeLine_eq]
      rw [Nat.succ_mul] at hsz
      omega
    refine append_at (hsz := hsz2) (k3 _ _ hD2) fun g4 hs4 hD4 => ?_
    have k4 : ∀ b o, b ≠ I1 → b ≠ C → b ≠ D → g.get? b = some o → g4.get? b = some o := fun b o b1 b2 b3 e => hs4.extBut b o b3 (k3 b o (k2' b o b1 b2 e))
    refine ⟨n1 + 1 - (j + 1), by omega, g4, tk3, j + 1, ys ++ [.ref T], (T, tupO [.int i ti, .int j tj]) :: PL, _, rfl, hlt, rfl, ?_, hs4.extBut _ _ n0D (k3 _ _ hI02), ((hn2.keeps k3).sameBut hs4 nCD), (by rw [if_neg hxy]; exact hmx),
      hD4.trans (congrArg some (lst_snoc ys (.ref T))), ?_, ?_, fun b o b1 b2 b3 e => hs4.extBut b o b3 (k3 b o (K2 b o b1 b2 b3 e))⟩
    · exact W.frame _ _ _ hit2 fun b hb o e => hs4.extBut b o (by rw [List.mem_singleton.mp hb]; exact n1D) (k3 b o e)
    · rw [rowP, ← List.append_assoc]
      exact (hP.mono fun _ hp => .tail _ hp).app ⟨⟨T, ti, tj, rfl, .head _⟩, True.intro⟩
    · intro p hp
      rcases List.mem_cons.mp hp with rfl | hp
      · exact ⟨hs4.extBut _ _ nTD hT, hT2, nT1⟩
      · obtain ⟨a, b, c⟩ := hPL p hp
        exact ⟨k4 _ _ c (fun q => fC (q ▸ b)) (fun q => fD (q ▸ b)) a, b, c⟩
  · obtain rfl : j = n1 := Nat.le_antisymm hj (Nat.not_lt.mp hlt)
    refine W.done _ _ _ hit fun g1 tk1 k1 => ?_
    have k1' : ∀ b o, b ≠ I1 → g.get? b = some o → g1.get? b = some o := fun b o hb e => k1 b o (by simpa using hb) e
    exact out g1 tk1 ys PL m' (k1' _ _ (Ne.symm n10) hI0) (hn.at' fun o e => k1' _ o (Ne.symm n1C) e) (k1' _ _ (Ne.symm n1D) hD) hP (fun p hp => ⟨k1' _ _ (hPL p hp).2.2 (hPL p hp).1, (hPL p hp).2.1⟩)
      (fun b o b1 b2 b3 e => k1' b o (fun q => by rw [q, fI1] at e; cases e) (hK b o b1 b2 b3 e))
end
end
section
open PySem PySem.W PyProof.Rows PySem.Calls PyProof.Rows.LCg
set_option maxRecDepth 100000
/-- the outer loop's state -/
def C2I (s : Shared) (n0 n1 : Nat) (I0 C D : Addr) (h₂ : Heap) (k : Nat) (s' : Shared) : Prop :=
  ∃ g tk i ys PL m', s' = { s with heap := g, toks := tk } ∧ i ≤ n0 ∧ k = n0 + 1 - i ∧ IsRangeIter g I0 (0 + ((i : Nat) : Int) * 1) ((n0 : Int) - (i : Nat)) 1 ∧ g.Ns C m' ∧
    g.get? D = some (lst ys) ∧ PtsIn PL ys (rowsP n1 i) ∧ (∀ p ∈ PL, g.get? p.1 = some p.2 ∧ h₂.get? p.1 = none) ∧ KeepBut I0 C D h₂ g
section
variable {prog : Program} {w : World} {A : Around} {E : Value → Shared → Prop} {s : Shared} {h₀ : Heap} {L : Addr} {m : Str → Option Value} {env : Env}
theorem comp2_out {elt i0 i1 : Expr} {x y : Str} {px py : Pos} {scope : Scope} {cl : List (Str × Addr)} {pos : Pos} {R : Result → Shared → Prop} {n0 n1 : Nat} {B : List (Addr × Obj)}
    {I0 C D : Addr} {h₂ : Heap} {tk : Nat} {m0 : Str → Option Value}
    (hh : A.handled = none) (hkind : scope.kind = .function) (hx : scope.names.lookup x = some .local) (hy : scope.names.lookup y = some .local) (hxy : x ≠ y) (hn0 : n0 < 1000) (hn1 : n1 < 1000)
    (n0C : I0 ≠ C) (n0D : I0 ≠ D) (nCD : C ≠ D) (nCL : C ≠ L) (hC₀ : h₀.get? C = none) (oBC : ∀ q ∈ B, q.1 ≠ C)
    (FN : ∀ g, KeepBut I0 C D h₂ g → Fr h₀ L g m ∧ News h₀ L g B)
    (hi : ∀ oC m₂ g tk (E' : Value → Shared → Prop), NsObj oC m₂ → Fr h₀ L g m → News h₀ L g ((C, oC) :: B) →
      wpAny (model prog w) A (eval i1 (compEnvC scope cl C env)) (RangeOut { s with heap := g, toks := tk } n1) E' { s with heap := g, toks := tk })
    (he : ∀ oC m₂ g tk (i j : Int) (ti tj : Tok) (E' : Value → Shared → Prop), NsObj oC m₂ → m₂ x = some (.int i ti) → m₂ y = some (.int j tj) → Fr h₀ L g m → News h₀ L g ((C, oC) :: B) →
      wpAny (model prog w) A (eval elt (compEnvC scope cl C env)) (PairOut { s with heap := g, toks := tk } i j ti tj) E' { s with heap := g, toks := tk })
    (hit : IsRangeIter h₂ I0 0 n0 1) (hn : h₂.Ns C m0) (hD : h₂.get? D = some (lst []))
    (out : ∀ g' tk' ys' PL' m'', g'.Ns C m'' → g'.get? D = some (lst ys') → PtsIn PL' ys' (rowsP n1 n0) → (∀ p ∈ PL', g'.get? p.1 = some p.2 ∧ h₂.get? p.1 = none) → KeepBut I0 C D h₂ g' → R (.ok .next) { s with heap := g', toks := tk' })
    (hs1 : ∀ x, foldedSetIterable i1 (compEnvC scope cl C env) x = pure x := by intro _; rfl) :
    codeAny (model prog w) A (.compLoop (lc2 elt (.Name x px) i0 (.Name y py) i1 scope pos) 0 (.ref I0) (.ref D) (compEnvC scope cl C env)) R { s with heap := h₂, toks := tk } := by
  have W := range_walks (prog := prog) (w := w) (A := A) (I := I0) hh 0 n0
  obtain ⟨hsm1, hrs1⟩ := range_small n1 hn1
  have fI0 : h₂.get? I0 ≠ none := fun q => by
    have z : h₂.get? I0 = some _ := hit
    rw [q] at z; cases z
  have fC : h₂.get? C ≠ none := fun q => by
    obtain ⟨o, _, _, e, _⟩ := hn
    rw [q] at e; cases e
  have fD : h₂.get? D ≠ none := fun q => by rw [q] at hD; cases hD
  refine compLoop_two0 (hs := hs1) (C2I s n0 n1 I0 C D h₂) ?_ (n0 + 1)
    ⟨h₂, tk, 0, [], [], m0, rfl, Nat.zero_le _, rfl, by simpa using hit, hn, hD, True.intro, (fun _ h => nomatch h), fun b o _ _ _ e => e⟩
  rintro k s' ⟨g, tk, i, ys, PL, m', rfl, hi0, rfl, hit, hn, hD, hP, hPL, hK⟩
  by_cases hlt : i < n0
  · refine W.item i _ _ _ hlt hit fun v g1 tk1 hPv hit1 k1 => ?_
    obtain ⟨ti, rfl⟩ := hPv
    have k1' : ∀ b o, b ≠ I0 → g.get? b = some o → g1.get? b = some o := fun b o hb e => k1 b o (by simpa using hb) e
    refine wpAny_assign_Name (wpAny_storeName_local (lookup_relabel_local hx) (hn.at' fun o e => k1' _ o (Ne.symm n0C) e) (fun g2 hn2 hs2 => ?_) (by simp [compEnvC, relabel, hkind]))
    have hs2 : Heap.SameBut C g1 g2 := hs2
    have hn2 : g2.Ns C _ := hn2
    have k2' : ∀ b o, b ≠ I0 → b ≠ C → g.get? b = some o → g2.get? b = some o := fun b o hb hc e => hs2.extBut b o hc (k1' b o hb e)
    have hit2 : IsRangeIter g2 I0 (0 + ((i + 1 : Nat) : Int) * 1) ((n0 : Int) - ((i + 1 : Nat) : Int)) 1 := W.frame _ _ _ hit1 fun b hb o e => hs2.extBut b o (by rw [List.mem_singleton.mp hb]; exact n0C) e
    have K2 : KeepBut I0 C D h₂ g2 := fun b o b1 b2 b3 e => k2' b o b1 b2 (hK b o b1 b2 b3 e)
    obtain ⟨F2, N2⟩ := FN g2 K2
    obtain ⟨oC, heC, hoC⟩ := ns_obj hn2
    have hD2 := k2' D _ (Ne.symm n0D) (Ne.symm nCD) hD
    rw [Int.zero_add] at hn2
    refine wpAny_mono (hi oC _ g2 _ _ hoC F2 (fun q hq => ?_)) (fun xv s3 h3 => ?_) fun _ _ e => e
    · rcases List.mem_cons.mp hq with rfl | hq
      · exact ⟨heC, nCL, hC₀⟩
      · exact N2 q hq
    obtain ⟨r, t, u, v, g3, tk3, rfl, rfl, k3, hr⟩ := h3
    dsimp only at k3 hr ⊢
    refine wpAny_pyIter_range hr hsm1 ?_
    dsimp only
    rw [hrs1]
    have up : ∀ b o, g3.get? b = some o → (g3.push { cls := .type "range_iterator", data := .fields #[rawInt 0, rawInt (n1 : Int), rawInt 1] }).get? b = some o := fun _ _ e => Heap.get?_push_of_some _ e
    have hit4 : IsRangeIter (g3.push { cls := .type "range_iterator", data := .fields #[rawInt 0, rawInt (n1 : Int), rawInt 1] }) g3.objs.size 0 n1 1 := Heap.get?_push_size _ rfl
    have ltI : ∀ b o, g2.get? b = some o → g3.objs.size ≠ b := fun b o e => Nat.ne_of_gt (Heap.lt_size (k3 b o e))
    have hI02 : ∃ it0, g2.get? I0 = some it0 := ⟨_, hit2⟩
    obtain ⟨it0, hI02⟩ := hI02
    have f1 : h₂.get? g3.objs.size = none := by
      cases e : h₂.get? g3.objs.size with
      | none => rfl
      | some o => exact absurd rfl (ltI _ o (K2 _ o (ltI _ _ hI02) (ltI _ _ heC) (ltI _ _ hD2) e))
    have hsz : (i + 1) * n1 < 1000000 := by
      have := Nat.mul_le_mul (show i + 1 ≤ 999 by omega) (show n1 ≤ 999 by omega)
      omega
    have go : ∀ tk4, codeAny (model prog w) A (.compLoop (lc2 elt (.Name x px) i0 (.Name y py) i1 scope pos) 1 (.ref g3.objs.size) (.ref D) (compEnvC scope cl C env))
        (fun r s' => match r with
          | .ok _ => ∃ m_1, m_1 < n0 + 1 - i ∧ C2I s n0 n1 I0 C D h₂ m_1 s'
          | .error e => cameBackBy (model prog w) A (compEnvC scope cl C env) (notedBy (model prog w) A (compEnvC scope cl C env) fun e s' => R (.error e) s') e s')
        { s with heap := g3.push { cls := .type "range_iterator", data := .fields #[rawInt 0, rawInt (n1 : Int), rawInt 1] }, toks := tk4 } := fun tk4 =>
      comp2_in (it0 := it0) (ti := ti) (i := i) (PL := PL) (ys := ys) hh hkind hy hxy hsz (ltI _ _ hI02) (ltI _ _ heC) (ltI _ _ hD2) n0C n0D nCD nCL hC₀ oBC f1 fI0 fC fD FN he hit4 (up _ _ (k3 _ _ hI02)) ((hn2.keeps k3).keeps up) (by simp) (up _ _ (k3 _ _ hD2)) hP
        (fun p hp => by
          obtain ⟨a, b⟩ := hPL p hp
          have z := k2' _ _ (fun q => fI0 (q ▸ b)) (fun q => fC (q ▸ b)) a
          exact ⟨up _ _ (k3 _ _ z), b, (ltI _ _ z).symm⟩)
        (fun b o b1 b2 b3 e => up _ _ (k3 _ _ (K2 b o b1 b2 b3 e)))
        (fun g' tk' ys' PL' m'' c1 c2 c3 c4 c5 c6 => ⟨n0 + 1 - (i + 1), by omega, g', tk', i + 1, ys', PL', m'', rfl, hlt, rfl, by
          have z : g2.get? I0 = some _ := hit2
          rw [hI02] at z; cases z
          exact c1, c2, c3, c4, c5, c6⟩)
    exact compStart_two1 (go _) (wpAny_pyIter_rangeiter hit4 (go _))
  · obtain rfl : i = n0 := Nat.le_antisymm hi0 (Nat.not_lt.mp hlt)
    refine W.done _ _ _ hit fun g1 tk1 k1 => ?_
    have k1' : ∀ b o, b ≠ I0 → g.get? b = some o → g1.get? b = some o := fun b o hb e => k1 b o (by simpa using hb) e
    exact out g1 tk1 ys PL m' (hn.at' fun o e => k1' _ o (Ne.symm n0C) e) (k1' _ _ (Ne.symm n0D) hD) hP (fun p hp => ⟨k1' _ _ (fun q => fI0 (q ▸ (hPL p hp).2)) (hPL p hp).1, (hPL p hp).2⟩)
      (fun b o b1 b2 b3 e => k1' b o b1 (hK b o b1 b2 b3 e))
end
end
section
open PySem PySem.W PyProof.Rows PySem.Calls PyProof.Rows.LCg
set_option maxRecDepth 100000
section
variable {prog : Program} {w : World} {A : Around} {E : Value → Shared → Prop} {s : Shared} {h₀ : Heap} {L : Addr} {m : Str → Option Value} {env : Env}
theorem comp2 {elt i0 i1 : Expr} {x y : Str} {px py : Pos} {scope : Scope} {cl : List (Str × Addr)} {pos : Pos} {Q : Value → Shared → Prop} {n0 n1 : Nat} {B : List (Addr × Obj)}
    (F₀ : Fr h₀ L s.heap m) (N₀ : News h₀ L s.heap B) (hh : A.handled = none) (hn0 : n0 < 1000) (hn1 : n1 < 1000)
    (hclos : closureFor scope env = pure cl) (hcell : ∀ y ∈ scope.names, y.2 ≠ .cell) (hkind : scope.kind = .function)
    (hnames : ∀ y ∈ scope.names, y.2 = .local → scope.names.lookup y.1 = some .local) (hx : scope.names.lookup x = some .local) (hy : scope.names.lookup y = some .local) (hxy : x ≠ y)
    (h : wpAny (model prog w) A (eval i0 env) (RangeOut s n0) E s)
    (hi : ∀ C oC m₂ g tk (E' : Value → Shared → Prop), NsObj oC m₂ → Fr h₀ L g m → News h₀ L g ((C, oC) :: B) → (∀ q ∈ B, q.1 ≠ C) → wpAny (model prog w) A (eval i1 (compEnvC scope cl C env)) (RangeOut { s with heap := g, toks := tk } n1) E' { s with heap := g, toks := tk })
    (he : ∀ C oC m₂ g tk (i j : Int) (ti tj : Tok) (E' : Value → Shared → Prop), NsObj oC m₂ → m₂ x = some (.int i ti) → m₂ y = some (.int j tj) → Fr h₀ L g m → News h₀ L g ((C, oC) :: B) → (∀ q ∈ B, q.1 ≠ C) →
      wpAny (model prog w) A (eval elt (compEnvC scope cl C env)) (PairOut { s with heap := g, toks := tk } i j ti tj) E' { s with heap := g, toks := tk })
    (hQ : ∀ D PL ys g tk, Fr h₀ L g m → News h₀ L g ((D, lst ys) :: (PL ++ B)) → PtsIn PL ys (rowsP n1 n0) → (∀ p ∈ PL, p.1 ≠ D) → (∀ q ∈ B, q.1 ≠ D ∧ ∀ p ∈ PL, q.1 ≠ p.1) → Q (.ref D) { s with heap := g, toks := tk })
    (hs0 : ∀ x, foldedSetIterable i0 env x = pure x := by intro _; rfl) (hs1 : ∀ C, ∀ x, foldedSetIterable i1 (compEnvC scope cl C env) x = pure x := by intro _ _; rfl) :
    wpAny (model prog w) A (eval (lc2 elt (.Name x px) i0 (.Name y py) i1 scope pos) env) Q E s := by
  rw [show eval (lc2 elt (.Name x px) i0 (.Name y py) i1 scope pos) env = comprehension (lc2 elt (.Name x px) i0 (.Name y py) i1 scope pos) scope env (firstIterPos [⟨.Name x px, i0, [], 0⟩, ⟨.Name y py, i1, [], 0⟩] pos) (newList []) false (eval i0 env) from rfl]
  refine wpAny_comprehension_free (use := none) rfl hs0 hclos hkind hnames (wpAny_mono h (fun xv s₁ h₁ => ?_) fun _ _ e => e)
  obtain ⟨r, t, u, v, h1, tk1, rfl, rfl, k1, hr⟩ := h₁
  obtain ⟨hsm0, hrs0⟩ := range_small n0 hn0
  refine wpAny_pyIter_range hr hsm0 ?_
  refine wpAny_newObj_type (wpAny_newFunctionEnv hcell (by intro y hy; simp at hy) (fun h₂ hns₂ hsb₂ => ?_) hkind)
  dsimp only at hns₂ hsb₂ ⊢
  rw [hrs0] at hns₂ hsb₂ ⊢
  have F1 := F₀.keeps k1
  have N1 := N₀.grown k1
  clear F₀ N₀
  have eD : (h1.push { cls := Value.type "range_iterator", data := Data.fields #[rawInt 0, rawInt (n0 : Int), rawInt 1] }).objs.size = h1.objs.size + 1 := Heap.size_push ..
  generalize hH1 : h1.push { cls := Value.type "range_iterator", data := Data.fields #[rawInt 0, rawInt (n0 : Int), rawInt 1] } = H1 at hns₂ hsb₂ eD ⊢
  have eC : (H1.push { cls := Value.type "list", data := Data.seq ([] : List Value).toArray }).objs.size = H1.objs.size + 1 := Heap.size_push ..
  generalize hH2 : H1.push { cls := Value.type "list", data := Data.seq ([] : List Value).toArray } = H2 at hns₂ hsb₂ eC ⊢
  have old1 : ∀ b o, h1.get? b = some o → H1.get? b = some o := fun b o e => hH1 ▸ Heap.get?_push_of_some _ e
  have old2 : ∀ b o, H1.get? b = some o → H2.get? b = some o := fun b o e => hH2 ▸ Heap.get?_push_of_some _ e
  have old3 : ∀ b o, b < H2.objs.size → H2.get? b = some o → h₂.get? b = some o := fun b o hb e => hsb₂.extBut b o (Nat.ne_of_lt hb) (Heap.get?_push_of_some _ e)
  have nI : H1.get? h1.objs.size = some { cls := Value.type "range_iterator", data := Data.fields #[rawInt 0, rawInt (n0 : Int), rawInt 1] } := hH1 ▸ Heap.get?_push_size _ rfl
  have nD : H2.get? H1.objs.size = some (lst []) := hH2 ▸ Heap.get?_push_size _ rfl
  have old : ∀ b o, h1.get? b = some o → h₂.get? b = some o := fun b o e => old3 b o (by have : @LT.lt Nat _ b h1.objs.size := Heap.lt_size e; omega) (old2 b o (old1 b o e))
  have hit : IsRangeIter h₂ h1.objs.size 0 n0 1 := old3 _ _ (by omega) (old2 _ _ nI)
  have hD : h₂.get? H1.objs.size = some (lst []) := old3 _ _ (by omega) nD
  have fresh₀ : ∀ a, h1.objs.size ≤ a → h₀.get? a = none := fun a ha => Heap.get?_none_of_le (Nat.le_trans (Nat.le_of_lt (Nat.lt_of_le_of_lt F1.above F1.ns.lt)) ha)
  have hL : @LT.lt Nat _ L h1.objs.size := F1.ns.lt
  have offB : ∀ q ∈ B, @LT.lt Nat _ q.1 h1.objs.size := fun q hq => Heap.lt_size (N1 q hq).1
  have FN : ∀ g, KeepBut h1.objs.size H2.objs.size H1.objs.size h₂ g → Fr h₀ L g m ∧ News h₀ L g B := fun g hk => by
    have up : ∀ b o, @LT.lt Nat _ b h1.objs.size → h1.get? b = some o → g.get? b = some o := fun b o hb e => hk b o (Nat.ne_of_lt hb) (Nat.ne_of_lt (by omega)) (Nat.ne_of_lt (by omega)) (old b o e)
    exact ⟨F1.keeps fun b o e => up b o (Heap.lt_size e) e, N1.grown fun b o e => up b o (Heap.lt_size e) e⟩
  have ne1 : h1.objs.size ≠ H2.objs.size := by omega
  have ne2 : h1.objs.size ≠ H1.objs.size := by omega
  have ne3 : H2.objs.size ≠ H1.objs.size := by omega
  have ne4 : H2.objs.size ≠ L := by omega
  have oBC : ∀ q ∈ B, q.1 ≠ H2.objs.size := fun q hq => Nat.ne_of_lt (by have := offB q hq; omega)
  have go : ∀ tk, codeAny (model prog w) A (.compLoop (lc2 elt (.Name x px) i0 (.Name y py) i1 scope pos) 0 (.ref h1.objs.size) (.ref H1.objs.size) (compEnvC scope cl H2.objs.size env))
      (compPost (model prog w) A E none Q (.ref H1.objs.size) H2.objs.size) { s with heap := h₂, toks := tk } := fun tk =>
    comp2_out hh hkind hx hy hxy hn0 hn1 ne1 ne2 ne3 ne4 (fresh₀ _ (by omega)) oBC FN
      (fun oC m₂ g tk E' a b c => hi _ oC m₂ g tk E' a b c oBC) (fun oC m₂ g tk i j ti tj E' a b c d e => he _ oC m₂ g tk i j ti tj E' a b c d e oBC) hit hns₂ hD
      (fun g' tk' ys' PL' m'' c1 c2 c3 c4 c5 => ⟨m'', c1, fun h'' hs'' => by
        have hs'' : Heap.SameBut H2.objs.size g' h'' := hs''
        have K : KeepBut h1.objs.size H2.objs.size H1.objs.size h₂ h'' := fun b o b1 b2 b3 e => hs''.extBut b o b2 (c5 b o b1 b2 b3 e)
        obtain ⟨FF, NN⟩ := FN h'' K
        have fC : ∃ o, h₂.get? H2.objs.size = some o := by
          obtain ⟨o, _, _, e, _⟩ := hns₂
          exact ⟨o, e⟩
        have pn : ∀ p ∈ PL', p.1 ≠ H2.objs.size ∧ p.1 ≠ H1.objs.size ∧ ∀ b o, h1.get? b = some o → b ≠ p.1 := fun p hp => by
          have z := (c4 p hp).2
          refine ⟨fun q => ?_, fun q => ?_, fun b o e q => ?_⟩
          · obtain ⟨o, e⟩ := fC
            rw [q, e] at z; cases z
          · rw [q, hD] at z; cases z
          · rw [← q, old b o e] at z; cases z
        have hLL : ∃ o, h1.get? L = some o := by
          obtain ⟨o, _, _, e, _⟩ := F1.ns
          exact ⟨o, e⟩
        refine hQ _ PL' ys' h'' tk' FF (fun p hp => ?_) c3 (fun p hp => (pn p hp).2.1) (fun q hq => ⟨Nat.ne_of_lt (by have := offB q hq; omega), fun p hp => (pn p hp).2.2 _ _ (N1 q hq).1⟩)
        rcases List.mem_cons.mp hp with rfl | hp
        · exact ⟨hs''.extBut _ _ (Ne.symm ne3) c2, Nat.ne_of_gt (by omega), fresh₀ _ (by omega)⟩
        rcases List.mem_append.mp hp with hp | hp
        · obtain ⟨a1, a2, a3⟩ := pn p hp
          refine ⟨hs''.extBut _ _ a1 (c4 p hp).1, ?_, ?_⟩
          · obtain ⟨o, e⟩ := hLL
            exact (a3 _ _ e).symm
          · cases e : h₀.get? p.1 with
            | none => rfl
            | some o => exact absurd rfl (a3 _ _ (F1.keep _ _ e))
        · exact NN p hp⟩) (hs1 _)
  exact codeAny_compStart_list (go _) (wpAny_pyIter_rangeiter hit (go _))
end
end
section
open PySem PySem.W PyProof.Rows
theorem freshS11 : (1 : Nat) = 1 := by
  (first | walk1 | rfl)
  w_top off
end
section
open PySem PySem.W PyProof.Rows
section
local macro_rules | `(tactic| walk_at "eval ListComp") => `(tactic| (refine Held.out ?_))
set_option maxRecDepth 100000 in
set_option maxHeartbeats 8000000 in
theorem s11 {w : World} {p : Program} {loose : List Str} {mean : ExcName → Option Value} {mg mb : Str → Option Value}
    {oc0 : Value} {od0 : Option Addr} {nm0 q0 : Str} {prm0 : Arguments} {st1 st2 st3 st4 st5 st6 st7 st8 stF stW : Stmt} {rest : List Stmt}
    {sc0 : Scope} {dV kV doc0 pm0 : Value} {an0 : Option Addr} {cdv0 ct0 cd : Value} {fa : Addr} {osl0 : Array (Option Value)}
    {L : Addr} {m : Str → Option Value} {ng nh : Nat} {v1 v3 : Tok} {oW oH : Obj} {TT : List (Addr × Obj)}
    {dp un : Nat} {gd : Option (List Code)} {fr : Option (List Env)} {h₀ : Heap} {s : Shared} {Q : Flow → Shared → Prop} {E : Value → Shared → Prop} :
    (Mine.hd.heap_39 w.params).lookup 93 = some ⟨oc0, od0, .func (fnOf nm0 q0 prm0 (st1 :: st2 :: st3 :: st4 :: st5 :: st6 :: st7 :: st8 :: stF :: stW :: rest) sc0 dV kV doc0 pm0 an0 cdv0 ct0), osl0⟩ →
    (Mine.hd.heap_39 w.params).In h₀ → Top p loose mean mg mb h₀ → Fr h₀ L s.heap m → News h₀ L s.heap ((L + 1 + 1 + 1, oW) :: (L + 1 + 1, oH) :: TT) → oW.data = .cell none → oH.data = .cell (some (.int (nh : Int) v3)) → (∀ q ∈ TT, q.1 ≠ L + 1 + 1 + 1) →
    m (Str.ofString "goes") = some (.int (ng : Int) v1) → ng ≤ 4 → nh ≤ 32 →
    dp + 300 < recursionLimit → un + 4000 < cLine → PassesOwn (model PySem.Challenge.rw_gv0003_01.row.prog w) (top0 dp un gd fr) (envOfC q0 sc0 L fa cd) E →
    (∀ h' tk' Dw PW ws oW', Fr h₀ L h' m → News h₀ L h' ((Dw, LCg.lst ws) :: (PW ++ (L + 1 + 1 + 1, oW') :: (L + 1 + 1, oH) :: TT)) → oW'.data = .cell (some (.ref Dw)) → PtsIn PW ws (rowsP nh ng) → (∀ p ∈ PW, p.1 ≠ Dw) →
      (∀ q ∈ (L + 1 + 1 + 1, oW') :: (L + 1 + 1, oH) :: TT, q.1 ≠ Dw ∧ ∀ p ∈ PW, q.1 ≠ p.1) → Q .next { s with heap := h', toks := tk' }) →
    wpAny (model PySem.Challenge.rw_gv0003_01.row.prog w) (top0 dp un gd fr) (exec stW (envOfC q0 sc0 L fa cd)) Q E s := by
  k_fill
  intro hK X T F N hW hH oT mg' hng hnh hdp hun hE hret
  refine' lookFn 9 hK ?kk ?_
  case kk => k_is
  intro eq es e
  subst eq es
  dsimp only [List.drop] at e
  cases e
  clear hK
  k_steps
  unfold Held
  rename Fr _ _ _ _ => F1
  rename News _ _ _ _ => N1
  refine comp2 (h₀ := h₀) (L := L) (m := m) (n0 := ng) (n1 := nh) (B := (L + 1 + 1 + 1, oW) :: (L + 1 + 1, oH) :: TT) F1 N1 rfl (by omega) (by omega) (by rfl) (by decide) (by rfl) (by decide) (by rfl) (by rfl) (by decide) ?h ?hi ?he ?hQ
  case h =>
    k_steps
    exact ⟨_, _, _, _, _, _, rfl, rfl, by assumption, by assumption⟩
  case hi =>
    intro C oC m₂ g tk E' hoC F2 N2 oB
    k_steps
    exact ⟨_, _, _, _, _, _, rfl, rfl, by assumption, by assumption⟩
  case he =>
    intro C oC m₂ g tk i j ti tj E' hoC hx hy F2 N2 oB
    refine wpAny_Tuple ?_
    k_steps
    refine ⟨g.objs.size, _, _, rfl, rfl, fun b o e => Heap.get?_push_of_some _ e, ?_, Heap.get?_push_size _ rfl⟩
    cases e : g.get? g.objs.size with
    | none => rfl
    | some o => exact absurd (Heap.lt_size e) (Nat.lt_irrefl _)
  case hQ =>
    intro D PL ys g tk F2 N2 hp o1 o2
    obtain ⟨TU, hTU⟩ : ∃ TU, TU = (D, LCg.lst ys) :: (PL ++ (L + 1 + 1, oH) :: TT) := ⟨_, rfl⟩
    have N3 : News h₀ L g ((L + 1 + 1 + 1, oW) :: TU) := fun q hq => N2 q (by
      subst hTU
      simp only [List.mem_cons, List.mem_append] at hq ⊢
      grind)
    have oU : ∀ q ∈ TU, q.1 ≠ L + 1 + 1 + 1 := fun q hq => by
      subst hTU
      rcases List.mem_cons.mp hq with rfl | hq
      · exact (o2 (L + 1 + 1 + 1, oW) (.head _)).1.symm
      rcases List.mem_append.mp hq with hq | hq
      · exact ((o2 (L + 1 + 1 + 1, oW) (.head _)).2 q hq).symm
      rcases List.mem_cons.mp hq with rfl | hq
      · exact (Nat.ne_of_lt (Nat.lt_succ_self (L + 1 + 1)) : @Ne Nat _ _)
      · exact oT q hq
    clear N2 F1 N1
    k_steps
    rename Fr _ _ _ _ => F4
    rename News _ _ _ _ => N4
    rename Obj => oW'
    rename _ = Data.cell (some (Value.ref D)) => hW'
    exact (show Q .next _ from hret _ _ D PL ys oW' F4 (fun q hq => N4 q (by
      subst hTU
      simp only [List.mem_cons, List.mem_append] at hq ⊢
      grind)) hW' hp o1 (fun q hq => by
      rcases List.mem_cons.mp hq with rfl | hq
      · exact o2 (L + 1 + 1 + 1, oW) (.head _)
      · exact o2 q (.tail _ hq)))
end
end
section
open PySem PySem.W PyProof.Rows PySem.Calls
set_option maxRecDepth 100000
set_option maxHeartbeats 4000000
theorem zip_self : ∀ (vs : List Value), vs.length < 2 → (vs.toArray.zip vs.toArray).map (·.2) = vs.toArray
  | [], _ => by simp
  | [_], _ => by simp
  | _ :: _ :: _, h => by simp at h; omega
section
variable {cmp : Nat → Nat → (Bool → Shared → Prop) → Shared → Prop} {s : Shared}
theorem asc_wp {n : Nat} {p : Array Nat} {Q : Nat → Shared → Prop} (hcmp : ∀ i, 1 ≤ i → i < n → ∀ C : Bool → Shared → Prop, C false s → cmp (p.getD i 0) (p.getD (i - 1) 0) C s) : ∀ f k, 1 ≤ k → k + f = n → Q n s → (kas_asc p f k).kasWp cmp Q s
  | 0, k, _, e, h => by
    have : k = n := by omega
    subst this; exact h
  | f + 1, k, hk, e, h => hcmp k hk (by omega) _ (by
    simp only [Bool.false_eq_true, if_false]
    exact asc_wp hcmp f (k + 1) (by omega) (by omega) h)
theorem sort_asc {n : Nat} {Q : Array Nat → Shared → Prop} (h2 : 2 ≤ n) (hcmp : ∀ i, 1 ≤ i → i < n → ∀ C : Bool → Shared → Prop, C false s → cmp i (i - 1) C s) (hQ : Q (List.toArray (List.range n)) s) : (kas_sort n).kasWp cmp Q s := by
  have eg : ∀ i, i < n → (List.toArray (List.range n)).getD i 0 = i := fun i hi => by simp [Array.getD, hi]
  unfold kas_sort
  rw [KasT.kasWp_bind]
  unfold kas_count
  rw [KasT.kasWp_bind]
  refine asc_wp (n := n) (fun i h1 hi C hC => ?_) (n - 1) 1 (by omega) (by omega) ?_
  · rw [eg i hi, eg (i - 1) (by omega)]
    exact hcmp i h1 hi C hC
  · simp only [beq_self_eq_true, if_true]
    show (if n < n then _ else _ : KasT (Array Nat)).kasWp cmp Q s
    rw [if_neg (Nat.lt_irrefl n)]
    exact hQ
end
section
variable {prog : Program} {w : World} {A : Around} {E : Value → Shared → Prop} {s : Shared} {h₀ : Heap} {L l : Addr} {m : Str → Option Value} {news : List (Addr × Obj)} {vs : List Value} {Q : Value → Shared → Prop}
theorem list_sort_short {a : Addr} {n : Nat} {P : PySem.Fin → Shared → Prop} (ho : s.heap.get? a = some (seqObj "list" vs.toArray n)) (h2 : vs.length < 2)
    (h : P (.done (.ret .none)) { s with heap := sortedHeap s.heap a vs vs.toArray }) : wpAny (model prog w) A (Builtin.«list.sort» ⟨[.ref a], []⟩) P E s := by
  rw [list_sort_plain]
  have ha : a < s.heap.objs.size := Heap.lt_size ho
  refine wpAny_bind (listItems_at ho rfl ?_)
  refine wpAny_bind (listUpdate_at ho rfl ?_ (by rw [List.size_toArray, sizeLine_eq]; omega) (Nat.zero_le _))
  obtain ⟨e1, ho1⟩ : ∃ e1, (s.heap.update a (Obj.mapSeq fun _ => #[])).get? a = some (seqObj "list" #[] e1) := ⟨_, get?_update_seq ho (fun _ => #[])⟩
  refine wpAny_bind (seqEpoch_at ho1 rfl ?_)
  refine wpAny_bind (wpAny_newTuple ?_ (by show vs.length ≤ _; rw [sizeLine_eq]; omega))
  refine wpAny_bind (wpAny_newList ?_ (Nat.zero_le _))
  refine wpAny_holding ?_
  have ho6 : (((s.heap.update a (Obj.mapSeq fun _ => #[])).push (seqObj "tuple" vs.toArray 0)).push (seqObj "list" #[] 0)).get? a = some (seqObj "list" #[] e1) := by
    rw [Heap.get?_push_ne _ _ _ (by rw [size_push', Heap.size_update]; exact Nat.ne_of_lt (Nat.lt_succ_of_lt ha)), Heap.get?_push_ne _ _ _ (by rw [Heap.size_update]; exact Nat.ne_of_lt ha)]
    exact ho1
  show wpAny (model prog w) A _ P E { s with heap := ((s.heap.update a (Obj.mapSeq fun _ => #[])).push (seqObj "tuple" vs.toArray 0)).push (seqObj "list" #[] 0) }
  dsimp only
  have h2' : vs.toArray.size < 2 := by rw [List.size_toArray]; exact h2
  rw [if_pos h2', if_pos h2']
  refine wpAny_bind (wpAny_pure ?_)
  rw [StateT.run_pure]
  refine wpAny_bind (wpAny_pure ?_)
  dsimp only
  have eo : (arrOf (SortSt.mk' general' (vs.toArray.zip vs.toArray) #[] 7 none)).map (·.2) = vs.toArray := by
    exact zip_self vs h2
  rw [eo]
  refine wpAny_bind (seqEpoch_at ho6 rfl ?_)
  refine wpAny_bind (listUpdate_at ho6 rfl ?_ (Nat.zero_le _) (by rw [List.size_toArray, sizeLine_eq]; omega))
  simp only [bne_self_eq_false, Bool.false_eq_true, if_false]
  exact wpAny_pure h
theorem sorted_short (F : Fr h₀ L s.heap m) (N : News h₀ L s.heap news) (hl : s.heap.IsList l vs.toArray) (h2 : vs.length < 2)
    (h : ∀ D c h', Fr h₀ L h' m → News h₀ L h' ((D, listOf vs.toArray c) :: news) → (∀ q ∈ news, q.1 < D) → Q (.ref D) { s with heap := h' }) :
    wpAny (model prog w) A (call (.builtin "sorted") [.ref l]) Q E s := by
  refine Calls.call_function_entry kind_sorted plain_sorted entry_sorted (args_sorted1 _) ?_
  unfold Builtin.«sorted»
  refine wpAny_bind (m := checkCount "sorted" 1 1 _) (wpAny_pure ?_)
  refine wpAny_bind (collect_list hl ?_ (by rw [sizeLine_eq]; omega))
  refine wpAny_bind (wpAny_newList ?_ (by rw [sizeLine_eq]; omega))
  have hsz : ((s.heap.push (seqObj "list" #[] 0)).update s.heap.objs.size (Obj.mapSeq (· ++ vs.toArray))).objs.size = s.heap.objs.size + 1 := by
    rw [Heap.size_update, size_push']
  have hoL : (((s.heap.push (seqObj "list" #[] 0)).update s.heap.objs.size (Obj.mapSeq (· ++ vs.toArray))).push (seqObj "list" vs.toArray 0)).get? (s.heap.objs.size + 1) = some (seqObj "list" vs.toArray 0) := by
    rw [← hsz]; exact Heap.get?_push_size _ rfl
  show wpAny _ _ _ _ _ { s with heap := ((s.heap.push (seqObj "list" #[] 0)).update s.heap.objs.size (Obj.mapSeq (· ++ vs.toArray))).push (seqObj "list" vs.toArray 0) }
  rw [hsz]
  obtain ⟨e, he⟩ := sortedAll_at s.heap vs vs.toArray
  refine wpAny_bind (wpAny_holding (wpAny_call_entry slot_list_sort ⟨_, hoL, rfl⟩ entry_list_sort (list_sort_short hoL h2 ⟨_, rfl, ?_⟩) (args_list_sort _)))
  exact wpAny_pure ⟨_, rfl, h _ e _ (F.kept fun _ _ => sortedAll_old) (N.kept_cons F (fun _ _ => sortedAll_old) (Nat.le_succ _) he) fun p hp => Nat.lt_succ_of_lt (Heap.lt_size (N p hp).1)⟩
theorem PtsIn.firsts {h : Heap} {nl : List (Addr × Obj)} (N : News h₀ L h nl) : ∀ {vs : List Value} {ps : List (Int × Int)}, PtsIn nl vs ps → ∃ fs, KatTups h vs fs ∧ fs.length = ps.length ∧ ∀ v ∈ fs, ∃ i t, v = .int i t
  | [], [], _ => ⟨[], KatTups.nil, rfl, fun _ h => nomatch h⟩
  | _ :: _, p :: _, ⟨⟨a, ta, tb, e, hm⟩, x⟩ => by
    obtain ⟨fs, k, hlen, hi⟩ := PtsIn.firsts N x
    subst e
    refine ⟨.int p.1 ta :: fs, KatTups.cons (xs := #[.int p.1 ta, .int p.2 tb]) (N _ hm).1 rfl rfl rfl k, congrArg (· + 1) hlen, fun v hv => ?_⟩
    rcases List.mem_cons.mp hv with rfl | hv
    · exact ⟨_, _, rfl⟩
    · exact hi v hv
theorem lt_tups {x y : Addr} {a b : Int × Int} {ta tb tc td : Tok} {C : Bool → Shared → Prop} {E' : Value → Shared → Prop} (hx : s.heap.get? x = some (tupO [.int a.1 ta, .int a.2 tb])) (hy : s.heap.get? y = some (tupO [.int b.1 tc, .int b.2 td])) (h : C (ltP a b) s) :
    wpAny (model prog w) A (keyLt' (tuples' true) (.ref x) (.ref y)) C E' s := by
  refine kat_lt hx rfl hy rfl ?_
  show KatLex prog w A true (decide (2 < 2)) C [(.int a.1 ta, .int b.1 tc), (.int a.2 tb, .int b.2 td)] 0 s
  refine kat_cons (wpAny_eqBool_int ?_)
  unfold ltP at h
  by_cases h1 : a.1 = b.1
  · rw [show (a.1 == b.1) = true from beq_iff_eq.mpr h1]
    rw [if_pos h1] at h
    refine kat_yes (kat_cons (wpAny_eqBool_int ?_))
    by_cases h2 : a.2 = b.2
    · rw [show (a.2 == b.2) = true from beq_iff_eq.mpr h2]
      refine kat_yes (kat_nil ?_)
      rw [decide_eq_false (by omega)] at h
      exact h
    · rw [show (a.2 == b.2) = false from beq_eq_false_iff_ne.mpr h2]
      refine kat_no (kat_one _ _ ?_)
      exact rc_lt h
  · rw [show (a.1 == b.1) = false from beq_eq_false_iff_ne.mpr h1]
    rw [if_neg h1] at h
    refine kat_no (oneLt_int h)
theorem sorted_rise {ps : List (Int × Int)} (F : Fr h₀ L s.heap m) (N : News h₀ L s.heap news) (hl : s.heap.IsList l vs.toArray) (hP : PtsIn news vs ps) (hr : Rise ps) (h64 : ps.length < 64)
    (h : ∀ D c h', Fr h₀ L h' m → News h₀ L h' ((D, listOf vs.toArray c) :: news) → (∀ q ∈ news, q.1 < D) → Q (.ref D) { s with heap := h' }) :
    wpAny (model prog w) A (call (.builtin "sorted") [.ref l]) Q E s := by
  have hlen := hP.len
  by_cases h2 : vs.length < 2
  · exact sorted_short F N hl h2 h
  · refine kat_sorted F N hl (by omega) (by omega) fun D e1 h' F' N' lt => ?_
    have N'' : News h₀ L h' news := fun p hp => N' p (.tail _ hp)
    obtain ⟨fs, ht, hfl, hi⟩ := hP.firsts N''
    refine kat_kind (s := { s with heap := h' }) (T := .type "int") ht (by omega) (fun v hv => ?_) rfl ?_
    · obtain ⟨i, t, rfl⟩ := hi v hv
      exact .now
    · refine sort_asc (by omega) (fun i h1 hi C hC => ?_) ?_
      · obtain ⟨a, ta, tb, ea, ma⟩ := hP.get i (by omega)
        obtain ⟨b, tc, td, eb, mb⟩ := hP.get (i - 1) (by omega)
        show wpAny (model prog w) A.in1.in1 (keyLt' (tuples' true) (vs.getD i Value.none) (vs.getD (i - 1) Value.none)) C _ _
        rw [show vs.getD i Value.none = .ref a by rw [List.getD_eq_getElem?_getD, ea]; rfl, show vs.getD (i - 1) Value.none = .ref b by rw [List.getD_eq_getElem?_getD, eb]; rfl]
        refine lt_tups (s := { s with heap := h' }) (N'' _ ma).1 (N'' _ mb).1 ?_
        have hlt := hr.get (show i - 1 < i by omega) (by omega)
        have hf : ltP (ps.getD i (0, 0)) (ps.getD (i - 1) (0, 0)) = false := by
          cases q : ltP (ps.getD i (0, 0)) (ps.getD (i - 1) (0, 0)) with
          | false => rfl
          | true => exact absurd (ltP_trans hlt q) (by rw [ltP_irr]; decide)
        rw [hf]
        exact hC
      · have eo : (List.toArray (List.range vs.length)).toList.map (fun i => vs.getD i Value.none) = vs := by
          refine List.ext_getElem (by simp) fun i h1 h2 => ?_
          simp at h1
          simp [h1]
        rw [eo]
        exact KasFin.intro F' N' (.head fun p hp => Nat.ne_of_lt (lt p hp)) fun h'' c F2 N2 => h D c h'' F2 N2 lt
end
end
section
open PySem PySem.W PyProof.Rows
theorem freshS13 : (1 : Nat) = 1 := by
  (first | walk1 | rfl)
  w_top off
end
section
open PySem PySem.W PyProof.Rows PySem.SeqAt PySem.MeetsSeq PySem.MeetsSeq2 PySem.MeetsSeq3 PySem.SeqRoads2
section
variable {prog : Program} {w : World} {A : Around} {E : Value → Shared → Prop} {s : Shared} {h₀ : Heap} {L : Addr} {news : List (Addr × Obj)} {Q : Value → Shared → Prop}
theorem PtAt.one {h : Heap} {v : Value} {p q : Int × Int} (x : PtAt h v p) (y : PtAt h v q) : p = q := by
  obtain ⟨a, ta, tb, e, o, ho, _, n, hd⟩ := x
  obtain ⟨a2, tc, td, e2, o2, ho2, _, n2, hd2⟩ := y
  subst e
  cases e2
  rw [ho] at ho2
  cases ho2
  rw [hd] at hd2
  have e3 : prA p.1 p.2 ta tb = prA q.1 q.2 tc td := by injection hd2
  have := congrArg Array.toList e3
  simp only [List.cons.injEq, Value.int.injEq, and_true] at this
  exact Prod.ext this.1.1 this.2.1
theorem PtAt.eqAt {v u : Value} {p q : Int × Int} (x : PtAt s.heap v p) (y : PtAt s.heap u q) (hu : A.units < cLine) : EqAt A s v u (decide (p = q)) := by
  obtain ⟨a, ta, tb, rfl, i⟩ := x
  obtain ⟨b, tc, td, rfl, j⟩ := y
  exact eqAt_pair i j hu
theorem PtsAt.mem {h : Heap} : ∀ {vs : List Value} {ps : List (Int × Int)}, PtsAt h vs ps → ∀ v ∈ vs, ∃ p ∈ ps, PtAt h v p
  | [], [], _, _, h => nomatch h
  | _ :: _, p :: _, x, v, hv => by
    rcases List.mem_cons.mp hv with rfl | hv
    · exact ⟨p, .head _, x.1⟩
    · obtain ⟨q, hq, z⟩ := PtsAt.mem x.2 v hv
      exact ⟨q, .tail _ hq, z⟩
theorem PtsAt.mem2 {h : Heap} : ∀ {vs : List Value} {ps : List (Int × Int)}, PtsAt h vs ps → ∀ p ∈ ps, ∃ v ∈ vs, PtAt h v p
  | [], [], _, _, h => nomatch h
  | v :: _, _ :: _, x, p, hp => by
    rcases List.mem_cons.mp hp with rfl | hp
    · exact ⟨v, .head _, x.1⟩
    · obtain ⟨q, hq, z⟩ := PtsAt.mem2 x.2 p hp
      exact ⟨q, .tail _ hq, z⟩
open Classical in
/-- a point of the list is in it -/
theorem notin_pts {l : Addr} {ws : List Value} {qs : List (Int × Int)} {v : Value} {p : Int × Int} (hl : s.heap.IsList l ws.toArray) (hP : PtsAt s.heap ws qs) (hv : PtAt s.heap v p) (hm : p ∈ qs) (hu : A.units + 1 < cLine) (h : Q (.bool false) s) :
    wpAny (model prog w) A (compareOp .NotIn v (.ref l)) Q E s := by
  refine notIn_listAt (fun y => decide (∃ q, PtAt s.heap y q ∧ q = p)) hl (fun y hy => ?_) ?_
  · obtain ⟨q, _, hq⟩ := hP.mem y (by simpa using hy)
    have e : decide (∃ q, PtAt s.heap y q ∧ q = p) = decide (q = p) := by
      by_cases h1 : q = p
      · rw [decide_eq_true h1, decide_eq_true]; exact ⟨q, hq, h1⟩
      · rw [decide_eq_false h1, decide_eq_false]
        rintro ⟨q2, hq2, e2⟩
        exact h1 ((hq.one hq2).trans e2)
    rw [e]
    exact PtAt.eqAt hq hv (show A.units + 1 < cLine from hu)
  · have e : ws.toArray.any (fun y => decide (∃ q, PtAt s.heap y q ∧ q = p)) = true := by
      obtain ⟨y, hy, hq⟩ := hP.mem2 p hm
      rw [List.any_toArray, List.any_eq_true]
      exact ⟨y, hy, decide_eq_true ⟨p, hq, rfl⟩⟩
    rw [e]
    exact h
/-- two lists of the same items -/
theorem ne_items {l b : Addr} {its its2 : Array Value} (e : its = its2) (hl : s.heap.IsList l its) (hb : s.heap.IsList b its2) (hu : A.units < cLine) (h : Q (.bool false) s) :
    wpAny (model prog w) A (compareOp .NotEq (.ref l) (.ref b)) Q E s := by
  subst e
  refine RcNeAt.lists hl hb rfl hu (e := fun _ => true) (fun j h1 h2 => EqAt.same _) prog w E Q ?_
  have z : (List.range its.size).all (fun _ => true) = true := by simp
  rw [z]
  exact h
/-- two lists of the same points -/
theorem ne_pts {l b : Addr} {vs ws : List Value} {ps : List (Int × Int)} (hl : s.heap.IsList l vs.toArray) (hb : s.heap.IsList b ws.toArray) (hP : PtsAt s.heap vs ps) (hW : PtsAt s.heap ws ps) (hu : A.units + 1 < cLine) (h : Q (.bool false) s) :
    wpAny (model prog w) A (compareOp .NotEq (.ref l) (.ref b)) Q E s := by
  have e1 := hP.len
  have e2 := hW.len
  refine RcNeAt.lists hl hb (by simp [e1, e2]) (show A.units < cLine by omega) (e := fun _ => true) (fun j h1 h2 => ?_) prog w E Q ?_
  · simp only [List.size_toArray] at h1 h2
    obtain ⟨v, ev, hv⟩ := hP.get j (by omega)
    obtain ⟨u, eu, hu2⟩ := hW.get j (by omega)
    have z := PtAt.eqAt (A := A.in1) hv hu2 (show A.units + 1 < cLine from hu)
    rw [decide_eq_true rfl] at z
    rw [List.getElem?_eq_getElem h1] at ev
    rw [List.getElem?_eq_getElem h2] at eu
    cases ev
    cases eu
    simpa using z
  · have z : (List.range vs.toArray.size).all (fun _ => true) = true := by simp
    rw [z]
    exact h
end
open PyProof.Rows.LCg in
theorem restT_none {prog : Program} {w : World} {A : Around} {s : Shared} {h₀ : Heap} {L : Addr} {m : Str → Option Value} {env : Env} {ct elt : Expr} {x : Str} {scope : Scope} {cl : List (Str × Addr)} {S : List (Addr × Obj) → Prop} {P : Nat → Value → Prop} {Fin : List Value → List (Addr × Obj) → Prop} {news : List (Addr × Obj)}
    (fin : Fin [] news)
    (turn : ∀ (G : Value → Shared → Prop) (Y : Shared → Prop) (i : Nat) (v : Value) (I : Addr) (oI : Obj) (C : Addr) (oC : Obj) (D : Addr) (m₂ : Str → Option Value) (h : Heap) (tk : Nat) (E' : Value → Shared → Prop), P i v → NsObj oC m₂ → m₂ x = some v → Fr h₀ L h m → News h₀ L h ((I, oI) :: (C, oC) :: (D, lst []) :: news) → Off3 I C D news →
      ((@Ne Nat I C) ∧ (@Ne Nat I D) ∧ (@Ne Nat C D)) → (∀ s', CompEnd h₀ L m { s with heap := h, toks := tk } I oI C oC D (lst []) S (fun _ news' => news' = news) Value.none s' → Y s') →
      wpAny (model prog w) A (isTrue ct (compEnvC scope cl C env) (eval ct (compEnvC scope cl C env))) (fun ok s' => if ok = true then wpAny (model prog w) A (eval elt (compEnvC scope cl C env)) G E' s' else Y s') E' { s with heap := h, toks := tk }) :
    ∀ k i, LCt.CompRestT prog w A h₀ L m env ct elt x scope cl s S P Fin k i [] news
  | 0, _ => LCt.CompRestT.zero fin
  | k + 1, i => LCt.CompRestT.succ fun v I oI C oC D m₂ h tk E' hP hC hx F N off ne => turn _ _ i v I oI C oC D m₂ h tk E' hP hC hx F N off ne (fun s' ⟨h', tk', news', e, F', N', o, hS, hn⟩ => ⟨h', tk', news', e, F', N', o, hS, hn ▸ restT_none fin turn k (i + 1)⟩)
section
local macro_rules | `(tactic| walk_at "CompSrcT") => `(tactic| (refine Held.out ?_))
set_option maxRecDepth 100000 in
set_option maxHeartbeats 8000000 in
theorem s13 {w : World} {p : Program} {loose : List Str} {mean : ExcName → Option Value} {mg mb : Str → Option Value}
    {oc0 : Value} {od0 : Option Addr} {nm0 q0 : Str} {prm0 : Arguments} {st1 st2 st3 st4 st5 st6 st7 st8 stF stW stT : Stmt} {rest : List Stmt}
    {sc0 : Scope} {dV kV doc0 pm0 : Value} {an0 : Option Addr} {cdv0 ct0 cd : Value} {fa : Addr} {osl0 : Array (Option Value)}
    {L Lo Dw : Addr} {m : Str → Option Value} {vs ws : List Value} {c : Nat} {ps qs : List (Int × Int)} {oW : Obj} {TT : List (Addr × Obj)}
    {dp un : Nat} {gd : Option (List Code)} {fr : Option (List Env)} {h₀ : Heap} {s : Shared} {Q : Flow → Shared → Prop} {E : Value → Shared → Prop} :
    (Mine.hd.heap_39 w.params).lookup 93 = some ⟨oc0, od0, .func (fnOf nm0 q0 prm0 (st1 :: st2 :: st3 :: st4 :: st5 :: st6 :: st7 :: st8 :: stF :: stW :: stT :: rest) sc0 dV kV doc0 pm0 an0 cdv0 ct0), osl0⟩ →
    (Mine.hd.heap_39 w.params).In h₀ → Top p loose mean mg mb h₀ → Fr h₀ L s.heap m → News h₀ L s.heap ((Lo, listOf vs.toArray c) :: (Dw, LCg.lst ws) :: (L + 1 + 1 + 1, oW) :: TT) → oW.data = .cell (some (.ref Dw)) →
    m (Str.ofString "order") = some (.ref Lo) → PtsIn TT vs ps → PtsIn TT ws qs → (∀ q ∈ ps, q ∈ qs) → Rise ps → ps.length < 64 →
    dp + 300 < recursionLimit → un + 4000 < cLine → PassesOwn (model PySem.Challenge.rw_gv0003_01.row.prog w) (top0 dp un gd fr) (envOfC q0 sc0 L fa cd) E →
    (∀ h' tk', Fr h₀ L h' m → News h₀ L h' ((Lo, listOf vs.toArray c) :: (Dw, LCg.lst ws) :: (L + 1 + 1 + 1, oW) :: TT) → Q .next { s with heap := h', toks := tk' }) →
    wpAny (model PySem.Challenge.rw_gv0003_01.row.prog w) (top0 dp un gd fr) (exec stT (envOfC q0 sc0 L fa cd)) Q E s := by
  k_fill
  intro hK X T F N hW mo hP hWs hsub hr h64 hdp hun hE hret
  refine' lookFn 10 hK ?kk ?_
  case kk => k_is
  intro eq es e
  subst eq es
  dsimp only [List.drop] at e
  cases e
  clear hK
  have hvl := hP.len
  k_steps
  unfold Held
  rename Fr _ _ _ _ => F1
  rename News _ _ _ _ => N1
  refine LCt.CompSrcT.ledger (by rfl) F1 N1 (by k_mem) (by rw [List.size_toArray, sizeLine_eq]; omega) ?_
  intro g'
  refine restT_none ?fin ?turn _ 0
  case turn =>
    intro G Y i v I oI C oC D m₂ h tk E' hPv hC hx F2 N2 off ne hY
    k_steps
    have hi : i < vs.length := by
      rcases Nat.lt_or_ge i vs.length with q | q
      · exact q
      · rw [Array.getElem?_eq_none (by simpa using q)] at hPv; cases hPv
    obtain ⟨a, ta, tb, ea, ma⟩ := hP.get i (by omega)
    have ev : v = .ref a := by
      rw [List.getElem?_toArray, ea] at hPv
      exact (Option.some.inj hPv).symm
    have NT : News h₀ L h TT := newsS N2 fun q hq => .tail _ (.tail _ (.tail _ (.tail _ (.tail _ (.tail _ hq)))))
    have hlt : i < ps.length := by omega
    refine notin_pts (News.isList N2 (.tail _ (.tail _ (.tail _ (.tail _ (.head _)))))) (hWs.at NT) (p := ps.getD i (0, 0)) ⟨a, ta, tb, ev, News.isTup NT ma⟩ (hsub _ ?hm) (by dsimp only [top0]; omega) ?_
    case hm =>
      rw [List.getD_eq_getElem?_getD, List.getElem?_eq_getElem hlt]
      exact List.getElem_mem hlt
    clear F1 N1
    k_steps
    exact hY _ (LCg.CompEnd.intro F2 N2 _ (fun _ h => h) off (.inr ⟨_, .head _, rfl, _, rfl⟩) rfl)
  case fin =>
    k_steps
    rename Fr _ _ _ _ => F3
    rename News _ _ _ _ => N3
    refine sorted_rise F3 N3 (News.isList N3 (.tail _ (.tail _ (.head _)))) (hP.mono fun q hq => .tail _ (.tail _ (.tail _ (.tail _ (.tail _ hq))))) hr h64 fun D c' h4 F4 N4 lt => ?_
    refine ne_items rfl (News.isList N4 (.tail _ (.tail _ (.tail _ (.head _))))) (News.isList N4 (.head _)) (by dsimp only [top0]; omega) ?_
    clear F3 N3
    k_steps
    exact (show Q .next _ from hret _ _ F4 (newsS N4 fun q hq => .tail _ (.tail _ (.tail _ hq))))
end
end
section
open PySem PySem.W PyProof.Rows
theorem freshS14 : (1 : Nat) = 1 := by
  (first | walk1 | rfl)
  w_top off
end
section
open PySem PySem.W PyProof.Rows PySem.SeqAt PySem.MeetsSeq PySem.MeetsSeq2 PySem.MeetsSeq3 PySem.SeqRoads2
section
local macro_rules | `(tactic| walk_at "compareOp NotEq ref ref") => `(tactic| (refine Held.out ?_))
set_option maxRecDepth 100000 in
set_option maxHeartbeats 8000000 in
theorem s14 {w : World} {p : Program} {loose : List Str} {mean : ExcName → Option Value} {mg mb : Str → Option Value}
    {oc0 : Value} {od0 : Option Addr} {nm0 q0 : Str} {prm0 : Arguments} {st1 st2 st3 st4 st5 st6 st7 st8 stF stW stT stX : Stmt} {rest : List Stmt}
    {sc0 : Scope} {dV kV doc0 pm0 : Value} {an0 : Option Addr} {cdv0 ct0 cd : Value} {fa : Addr} {osl0 : Array (Option Value)}
    {L Lo Dw : Addr} {m : Str → Option Value} {vs ws : List Value} {c : Nat} {ps qs : List (Int × Int)} {oW : Obj} {TT : List (Addr × Obj)} {X0 : Int} {xt : Tok}
    {dp un : Nat} {gd : Option (List Code)} {fr : Option (List Env)} {h₀ : Heap} {s : Shared} {Q : Flow → Shared → Prop} {E : Value → Shared → Prop} :
    (Mine.hd.heap_39 w.params).lookup 93 = some ⟨oc0, od0, .func (fnOf nm0 q0 prm0 (st1 :: st2 :: st3 :: st4 :: st5 :: st6 :: st7 :: st8 :: stF :: stW :: stT :: stX :: rest) sc0 dV kV doc0 pm0 an0 cdv0 ct0), osl0⟩ →
    (Mine.hd.heap_39 w.params).In h₀ → Top p loose mean mg mb h₀ → Fr h₀ L s.heap m → News h₀ L s.heap ((Lo, listOf vs.toArray c) :: (Dw, LCg.lst ws) :: (L + 1 + 1 + 1, oW) :: TT) → oW.data = .cell (some (.ref Dw)) →
    m (Str.ofString "order") = some (.ref Lo) → m (Str.ofString "crosswise") = some (.int X0 xt) → PtsIn TT vs ps → PtsIn TT ws qs → ((if X0 < 0 then -X0 else X0) ≤ 9 → ps = qs) →
    dp + 300 < recursionLimit → un + 4000 < cLine → PassesOwn (model PySem.Challenge.rw_gv0003_01.row.prog w) (top0 dp un gd fr) (envOfC q0 sc0 L fa cd) E →
    (∀ h' tk', Fr h₀ L h' m → News h₀ L h' ((Lo, listOf vs.toArray c) :: (Dw, LCg.lst ws) :: (L + 1 + 1 + 1, oW) :: TT) → Q .next { s with heap := h', toks := tk' }) →
    wpAny (model PySem.Challenge.rw_gv0003_01.row.prog w) (top0 dp un gd fr) (exec stX (envOfC q0 sc0 L fa cd)) Q E s := by
  k_fill
  intro hK X T F N hW mo mc hP hWs hsame hdp hun hE hret
  refine' lookFn 11 hK ?kk ?_
  case kk => k_is
  intro eq es e
  subst eq es
  dsimp only [List.drop] at e
  cases e
  clear hK
  k_steps
  · unfold Held
    rename Fr _ _ _ _ => F1
    rename News _ _ _ _ => N1
    rename _ ≤ (9 : Int) => h9
    have NT := newsS N1 (l := TT) fun q hq => .tail _ (.tail _ (.tail _ hq))
    rw [← hsame h9] at hWs
    refine ne_pts (News.isList N1 (.head _)) (News.isList N1 (.tail _ (.head _))) (hP.at NT) (hWs.at NT) (by dsimp only [top0]; omega) ?_
    clear NT
    k_steps
    rename Fr _ _ _ _ => F2
    rename News _ _ _ _ => N2
    exact (show Q .next _ from hret _ _ F2 N2)
  · rename Fr _ _ _ _ => F2
    rename News _ _ _ _ => N2
    exact (show Q .next _ from hret _ _ F2 N2)
end
end
section
open PySem PySem.W PyProof.Rows
theorem freshS16 : (1 : Nat) = 1 := by
  (first | walk1 | rfl)
  w_top off
end
section
open PySem PySem.W PyProof.Rows PySem.SeqAt PySem.MeetsSeq PySem.MeetsSeq2 PySem.MeetsSeq3 PySem.SeqRoads2
section
local macro_rules | `(tactic| walk_at "compareOp Eq ref ref") => `(tactic| (k_here; k_dflt (refine' eq_pair (News.isTup (by assumption) (by k_mem)) (News.isTup (by assumption) (by k_mem)) ?hu ?_; (case hu => (dsimp only [top0, Around.deeper]; omega)))))
set_option maxRecDepth 100000 in
set_option maxHeartbeats 8000000 in
theorem s16 {w : World} {p : Program} {loose : List Str} {mean : ExcName → Option Value} {mg mb : Str → Option Value}
    {oc0 : Value} {od0 : Option Addr} {nm0 q0 : Str} {prm0 : Arguments} {st1 st2 st3 st4 st5 st6 st7 st8 stF stW stT stX st13 st14 st15 st16 : Stmt} {rest : List Stmt}
    {sc0 : Scope} {dV kV doc0 pm0 : Value} {an0 : Option Addr} {cdv0 ct0 cd : Value} {fa : Addr} {osl0 : Array (Option Value)}
    {L M T3 T4 : Addr} {m : Str → Option Value} {g sh hi a4 a5 a6 a7 : Int} {v1 v2 v3 u4 u5 u6 u7 : Tok} {R0 t1 t2 : List (Addr × Obj)} {same : Bool}
    {dp un : Nat} {gd : Option (List Code)} {fr : Option (List Env)} {h₀ : Heap} {s : Shared} {Q : Flow → Shared → Prop} {E : Value → Shared → Prop} :
    (Mine.hd.heap_39 w.params).lookup 93 = some ⟨oc0, od0, .func (fnOf nm0 q0 prm0 (st1 :: st2 :: st3 :: st4 :: st5 :: st6 :: st7 :: st8 :: stF :: stW :: stT :: stX :: st13 :: st14 :: st15 :: st16 :: rest) sc0 dV kV doc0 pm0 an0 cdv0 ct0), osl0⟩ →
    (Mine.hd.heap_39 w.params).In h₀ → Top p loose mean mg mb h₀ → CodeHd h₀ 34 30 → CodeHd h₀ 41 37 → Tabs t1 t2 → Fr h₀ L s.heap m → News h₀ L s.heap ((M, tupO [.int g v1, .int sh v2, .int hi v3]) :: (T3, tupO [.int a4 u4, .int a5 u5]) :: (T4, tupO [.int a6 u6, .int a7 u7]) :: (R0 ++ (t1 ++ t2))) →
    Off ((M, tupO [.int g v1, .int sh v2, .int hi v3]) :: (T3, tupO [.int a4 u4, .int a5 u5]) :: (T4, tupO [.int a6 u6, .int a7 u7]) :: R0) (t1 ++ t2) →
    m (Str.ofString "made") = some (.ref M) → m (Str.ofString "first") = some (.ref T3) → m (Str.ofString "second") = some (.ref T4) → m (Str.ofString "same") = some (.bool same) →
    0 < g → g ≤ 4 → 0 < hi → hi ≤ 32 → -2500 ≤ sh → sh ≤ 2500 → -4 ≤ a4 → a4 ≤ 4 → -4 ≤ a5 → a5 ≤ 4 → -4 ≤ a6 → a6 ≤ 4 → -4 ≤ a7 → a7 ≤ 4 →
    decide (ledP g sh hi a4 a5 = ledP g sh hi a6 a7) = same →
    dp + 300 < recursionLimit → un + 4000 < cLine → PassesOwn (model PySem.Challenge.rw_gv0003_01.row.prog w) (top0 dp un gd fr) (envOfC q0 sc0 L fa cd) E →
    (∀ h' tk' t1' t2', Tabs t1' t2' → Fr h₀ L h' m → News h₀ L h' ((M, tupO [.int g v1, .int sh v2, .int hi v3]) :: (T3, tupO [.int a4 u4, .int a5 u5]) :: (T4, tupO [.int a6 u6, .int a7 u7]) :: (R0 ++ (t1' ++ t2'))) →
      Off ((M, tupO [.int g v1, .int sh v2, .int hi v3]) :: (T3, tupO [.int a4 u4, .int a5 u5]) :: (T4, tupO [.int a6 u6, .int a7 u7]) :: R0) (t1' ++ t2') → Q .next { s with heap := h', toks := tk' }) →
    wpAny (model PySem.Challenge.rw_gv0003_01.row.prog w) (top0 dp un gd fr) (exec st16 (envOfC q0 sc0 L fa cd)) Q E s := by
  k_fill
  intro hK X T C1 C2 ht F N o mM mF mS mB a5' a6' a7' a8' a9' a10' b4 c4 b5 c5 b6 c6 b7 c7 hsame hdp hun hE hret
  refine' lookFn 15 hK ?kk ?_
  case kk => k_is
  intro eq es e
  subst eq es
  dsimp only [List.drop] at e
  cases e
  clear hK
  obtain ⟨TT, hTT⟩ : ∃ TT, TT = R0 ++ (t1 ++ t2) := ⟨_, rfl⟩
  rw [← hTT] at N
  k_steps
  rename Fr _ _ _ _ => F2
  rename News _ _ _ _ => N2
  k_dflt (refine' led w p loose mean mg mb _ _ _ _ h₀ _ _ _ t1 t2 T3 M a4 a5 g sh hi u4 u5 v1 v2 v3 (St.of F2 N2 ?sub) ht C1 C2 X T ?d1 ?d2 (News.isTup N2 (.tail _ (.head _))) (News.isTup N2 (.head _)) ?oP ?oM ?x1 ?x2 ?x3 ?x4 a5' ?x6 ?x7 ?x8 a7' ?x10 ?_)
  case sub => exact fun q hq => .tail _ (.tail _ (.tail _ (hTT ▸ List.mem_append_right _ hq)))
  case d1 => omega
  case d2 => omega
  case oP => exact fun q hq => (o (T3, _) (.tail _ (.head _)) q hq).symm
  case oM => exact fun q hq => (o (M, _) (.head _) q hq).symm
  case x1 => omega
  case x2 => omega
  case x3 => omega
  case x4 => omega
  case x6 => omega
  case x7 => omega
  case x8 => omega
  case x10 => omega
  intro D t1' t2' w1 w2 h3 tk3 ht3 hne3 P3
  obtain ⟨F3, N3, O3⟩ := P3.back (rest := (M, tupO [.int g v1, .int sh v2, .int hi v3]) :: (T3, tupO [.int a4 u4, .int a5 u5]) :: (T4, tupO [.int a6 u6, .int a7 u7]) :: R0) F2 N2 (fun q hq => by
      subst hTT
      rw [← List.cons_append, ← List.cons_append, ← List.cons_append]
      exact List.mem_append_left _ hq) (fun q hq => .tail _ (.tail _ (.tail _ (hTT ▸ List.mem_append_right _ hq)))) o
  clear F2 N2 P3
  obtain ⟨TN, hTN⟩ : ∃ TN, TN = R0 ++ (t1' ++ t2') := ⟨_, rfl⟩
  have N4 : News h₀ L h3 ((D, tupO [.int (a4.fmod g) w1, .int ((a5 - a4.fdiv g * sh).fmod hi) w2]) :: (M, tupO [.int g v1, .int sh v2, .int hi v3]) :: (T3, tupO [.int a4 u4, .int a5 u5]) :: (T4, tupO [.int a6 u6, .int a7 u7]) :: TN) := fun q hq => N3 q (by
    subst hTN
    simp only [List.mem_cons, List.mem_append] at hq ⊢
    grind)
  clear N3
  have o2 : Off ((M, tupO [.int g v1, .int sh v2, .int hi v3]) :: (T3, tupO [.int a4 u4, .int a5 u5]) :: (T4, tupO [.int a6 u6, .int a7 u7]) :: R0) (t1' ++ t2') := fun q hq r hr => (O3 r (.tail _ hr) q hq).symm
  have hDo := fun q hq => O3 (D, tupO [.int (a4.fmod g) w1, .int ((a5 - a4.fdiv g * sh).fmod hi) w2]) (.head _) q hq
  clear O3 o hTT
  (try dsimp only at F3 N4 ⊢)
  k_steps
  rename Fr _ _ _ _ => F5
  rename News _ _ _ _ => N5
  k_dflt (refine' led w p loose mean mg mb _ _ _ _ h₀ _ _ _ t1' t2' T4 M a6 a7 g sh hi u6 u7 v1 v2 v3 (St.of F5 N5 ?sub) ht3 C1 C2 X T ?d1 ?d2 (News.isTup N5 (.tail _ (.tail _ (.tail _ (.head _))))) (News.isTup N5 (.tail _ (.head _))) ?oP ?oM ?x1 ?x2 ?x3 ?x4 a5' ?x6 ?x7 ?x8 a7' ?x10 ?_)
  case sub => exact fun q hq => .tail _ (.tail _ (.tail _ (.tail _ (hTN ▸ List.mem_append_right _ hq))))
  case d1 => omega
  case d2 => omega
  case oP => exact fun q hq => (o2 (T4, _) (.tail _ (.tail _ (.head _))) q hq).symm
  case oM => exact fun q hq => (o2 (M, _) (.head _) q hq).symm
  case x1 => omega
  case x2 => omega
  case x3 => omega
  case x4 => omega
  case x6 => omega
  case x7 => omega
  case x8 => omega
  case x10 => omega
  intro D2 t1'' t2'' w3 w4 h6 tk6 ht6 hne6 P6
  obtain ⟨F6, N6, O6⟩ := P6.back (rest := (D, tupO [.int (a4.fmod g) w1, .int ((a5 - a4.fdiv g * sh).fmod hi) w2]) :: (M, tupO [.int g v1, .int sh v2, .int hi v3]) :: (T3, tupO [.int a4 u4, .int a5 u5]) :: (T4, tupO [.int a6 u6, .int a7 u7]) :: R0) F5 N5 (fun q hq => by
      subst hTN
      rw [← List.cons_append, ← List.cons_append, ← List.cons_append, ← List.cons_append]
      exact List.mem_append_left _ hq) (fun q hq => .tail _ (.tail _ (.tail _ (.tail _ (hTN ▸ List.mem_append_right _ hq))))) (Off.cons (fun q hq => (hne3 q hq).symm) o2)
  clear F5 N5 P6
  obtain ⟨TM, hTM⟩ : ∃ TM, TM = R0 ++ (t1'' ++ t2'') := ⟨_, rfl⟩
  have N7 : News h₀ L h6 ((D2, tupO [.int (a6.fmod g) w3, .int ((a7 - a6.fdiv g * sh).fmod hi) w4]) :: (D, tupO [.int (a4.fmod g) w1, .int ((a5 - a4.fdiv g * sh).fmod hi) w2]) :: (M, tupO [.int g v1, .int sh v2, .int hi v3]) :: (T3, tupO [.int a4 u4, .int a5 u5]) :: (T4, tupO [.int a6 u6, .int a7 u7]) :: TM) := fun q hq => N6 q (by
    subst hTM
    simp only [List.mem_cons, List.mem_append] at hq ⊢
    grind)
  clear N6
  have o3 : Off ((M, tupO [.int g v1, .int sh v2, .int hi v3]) :: (T3, tupO [.int a4 u4, .int a5 u5]) :: (T4, tupO [.int a6 u6, .int a7 u7]) :: R0) (t1'' ++ t2'') := fun q hq r hr => (O6 r (.tail _ hr) q (.tail _ hq)).symm
  clear O6 o2 hTN
  (try dsimp only at F6 N7 ⊢)
  k_steps
  · exfalso
    rename (_ != _) = true => q
    rw [show decide ((a4.fmod g, (a5 - a4.fdiv g * sh).fmod hi) = (a6.fmod g, (a7 - a6.fdiv g * sh).fmod hi)) = same from hsame] at q
    simp at q
  · exact (show Q .next _ from hret _ _ _ _ ht6 F6 (fun q hq => N7 q (by
      subst hTM
      exact .tail _ (.tail _ hq))) o3)
end
end
section
open PySem PySem.W PyProof.Rows
theorem freshS17 : (1 : Nat) = 1 := by
  (first | walk1 | rfl)
  w_top off
end
section
open PySem PySem.W PyProof.Rows PySem.SeqAt PySem.MeetsSeq PySem.MeetsSeq2 PySem.MeetsSeq3 PySem.SeqRoads2
/-- a call of _law_led from a frame -/
theorem ledN {w : World} {p : Program} {loose : List Str} {mean : ExcName → Option Value} {mg mb : Str → Option Value} {dp un : Nat} {gd : Option (List Code)} {fr : Option (List Env)} {h₀ : Heap} {s : Shared} {Q E : Value → Shared → Prop} {L : Addr} {m : Str → Option Value}
    {rest t1 t2 : List (Addr × Obj)} {P M : Addr} {px py g sh hi : Int} {tp tq tg ts th : Tok} (F : Fr h₀ L s.heap m) (N : News h₀ L s.heap (rest ++ (t1 ++ t2))) (o : Off rest (t1 ++ t2)) (ht : Tabs t1 t2) (C1 : CodeHd h₀ 34 30) (C2 : CodeHd h₀ 41 37)
    (X : (Mine.hd.heap_39 w.params).In h₀) (T : Top p loose mean mg mb h₀) (d1 : dp + 200 < recursionLimit) (d2 : un + 2500 < cLine) (hP : (P, tupO [.int px tp, .int py tq]) ∈ rest) (hM : (M, tupO [.int g tg, .int sh ts, .int hi th]) ∈ rest)
    (a1 : -100 ≤ px) (a2 : px ≤ 100) (a3 : -100 ≤ py) (a4 : py ≤ 100) (a5 : 0 < g) (a6 : g ≤ 100) (a7 : -3000 ≤ sh) (a8 : sh ≤ 3000) (a9 : 0 < hi) (a10 : hi ≤ 1000)
    (k : ∀ D t1' t2' u1 u2 h' tk', Tabs t1' t2' → Fr h₀ L h' m → News h₀ L h' ((D, tupO [.int (ledP g sh hi px py).1 u1, .int (ledP g sh hi px py).2 u2]) :: (rest ++ (t1' ++ t2'))) →
      Off ((D, tupO [.int (ledP g sh hi px py).1 u1, .int (ledP g sh hi px py).2 u2]) :: rest) (t1' ++ t2') → (∀ q ∈ rest, D ≠ q.1) → Q (.ref D) { s with heap := h', toks := tk' }) :
    wpAny (model PySem.Challenge.rw_gv0003_01.row.prog w) (top0 dp un gd fr) (call (.ref 88) [.ref P, .ref M]) Q E s := by
  refine led w p loose mean mg mb dp un gd fr h₀ s Q E t1 t2 P M px py g sh hi tp tq tg ts th (St.of F N fun q hq => List.mem_append_right _ hq) ht C1 C2 X T d1 d2 (News.isTup N (List.mem_append_left _ hP)) (News.isTup N (List.mem_append_left _ hM))
    (fun q hq => (o _ hP q hq).symm) (fun q hq => (o _ hM q hq).symm) a1 a2 a3 a4 a5 a6 a7 a8 a9 a10 fun D t1' t2' u1 u2 h' tk' ht' hne P1 => ?_
  obtain ⟨F3, N3, O3⟩ := P1.back (rest := rest) F N (fun q hq => List.mem_append_left _ hq) (fun q hq => List.mem_append_right _ hq) o
  refine k D t1' t2' u1 u2 h' tk' ht' F3 (fun q hq => N3 q ?_) (Off.cons (fun q hq => (hne q hq).symm) fun q hq r hr => (O3 r (.tail _ hr) q hq).symm) fun q hq => O3 _ (.head _) q hq
  simp only [List.mem_cons, List.mem_append] at hq ⊢
  rcases hq with hq | hq | hq
  · exact .inl (.inl hq)
  · exact .inr hq
  · exact .inl (.inr hq)
inductive StepV (R5 : List (Addr × Obj)) (g sh hi a4 a5 : Int) (v : Value) : Prop
  | mk (Tb : Addr) (b1 b2 : Int) (tb tc : Tok) : v = .ref Tb → (Tb, tupO [.int b1 tb, .int b2 tc]) ∈ R5 → -4 ≤ b1 → b1 ≤ 4 → -4 ≤ b2 → b2 ≤ 4 → ledP g sh hi (a4 + b1) (a5 + b2) = ledP g sh hi a4 a5 → StepV R5 g sh hi a4 a5 v
inductive LoopS (Dl T1 T2 T3 M : Addr) (R5 : List (Addr × Obj)) (g sh hi a4 a5 : Int) (I : Addr) (l : List Value) (m1 : Str → Option Value) (news : List (Addr × Obj)) : Prop
  | mk (s1 s2 : List (Addr × Obj)) : news = (Dl, listOf #[.ref T1, .ref T2] 0) :: (R5 ++ (s1 ++ s2)) → Tabs s1 s2 → Off ((Dl, listOf #[.ref T1, .ref T2] 0) :: R5) (s1 ++ s2) → (∀ q ∈ news, q.1 ≠ I) →
    (∀ v ∈ l, StepV R5 g sh hi a4 a5 v) → m1 (Str.ofString "made") = some (.ref M) → m1 (Str.ofString "first") = some (.ref T3) → LoopS Dl T1 T2 T3 M R5 g sh hi a4 a5 I l m1 news
section
local macro_rules | `(tactic| walk_at "pyIter ref") => `(tactic| ((with_reducible show wpAny _ _ (pyIter (Value.ref _)) (fun it s₂ => LoopAtV _ _ _ _ _ _ _ _ _ it s₂) _ _); refine Held.out ?_))
local macro_rules | `(tactic| walk_at "compareOp NotEq ref ref") => `(tactic| (k_here; k_dflt (refine' ne_pair (News.isTup (by assumption) (by k_mem)) (News.isTup (by assumption) (by k_mem)) ?hu ?_; (case hu => (dsimp only [top0, Around.deeper]; omega)))))
set_option maxRecDepth 100000 in
set_option maxHeartbeats 8000000 in
theorem s17 {w : World} {p : Program} {loose : List Str} {mean : ExcName → Option Value} {mg mb : Str → Option Value}
    {oc0 : Value} {od0 : Option Addr} {nm0 q0 : Str} {prm0 : Arguments} {st1 st2 st3 st4 st5 st6 st7 st8 stF stW stT stX st13 st14 st15 st16 st17 : Stmt} {rest : List Stmt}
    {sc0 : Scope} {dV kV doc0 pm0 : Value} {an0 : Option Addr} {cdv0 ct0 cd : Value} {fa : Addr} {osl0 : Array (Option Value)}
    {L M T1 T2 T3 : Addr} {m : Str → Option Value} {g sh hi a0 a1 a2 a3 a4 a5 : Int} {v1 v2 v3 u0 u1 u2 u3 u4 u5 : Tok} {R0 t1 t2 : List (Addr × Obj)}
    {dp un : Nat} {gd : Option (List Code)} {fr : Option (List Env)} {h₀ : Heap} {s : Shared} {Q : Flow → Shared → Prop} {E : Value → Shared → Prop} :
    (Mine.hd.heap_39 w.params).lookup 93 = some ⟨oc0, od0, .func (fnOf nm0 q0 prm0 (st1 :: st2 :: st3 :: st4 :: st5 :: st6 :: st7 :: st8 :: stF :: stW :: stT :: stX :: st13 :: st14 :: st15 :: st16 :: st17 :: rest) sc0 dV kV doc0 pm0 an0 cdv0 ct0), osl0⟩ →
    (Mine.hd.heap_39 w.params).In h₀ → Top p loose mean mg mb h₀ → CodeHd h₀ 34 30 → CodeHd h₀ 41 37 → Tabs t1 t2 → Fr h₀ L s.heap m →
    News h₀ L s.heap ((M, tupO [.int g v1, .int sh v2, .int hi v3]) :: (T1, tupO [.int a0 u0, .int a1 u1]) :: (T2, tupO [.int a2 u2, .int a3 u3]) :: (T3, tupO [.int a4 u4, .int a5 u5]) :: (R0 ++ (t1 ++ t2))) →
    Off ((M, tupO [.int g v1, .int sh v2, .int hi v3]) :: (T1, tupO [.int a0 u0, .int a1 u1]) :: (T2, tupO [.int a2 u2, .int a3 u3]) :: (T3, tupO [.int a4 u4, .int a5 u5]) :: R0) (t1 ++ t2) →
    m (Str.ofString "made") = some (.ref M) → m (Str.ofString "one") = some (.ref T1) → m (Str.ofString "other") = some (.ref T2) → m (Str.ofString "first") = some (.ref T3) →
    0 < g → g ≤ 4 → 0 < hi → hi ≤ 32 → -2500 ≤ sh → sh ≤ 2500 → -4 ≤ a0 → a0 ≤ 4 → -4 ≤ a1 → a1 ≤ 4 → -4 ≤ a2 → a2 ≤ 4 → -4 ≤ a3 → a3 ≤ 4 → -4 ≤ a4 → a4 ≤ 4 → -4 ≤ a5 → a5 ≤ 4 →
    ledP g sh hi (a4 + a0) (a5 + a1) = ledP g sh hi a4 a5 → ledP g sh hi (a4 + a2) (a5 + a3) = ledP g sh hi a4 a5 →
    dp + 300 < recursionLimit → un + 4000 < cLine → PassesOwn (model PySem.Challenge.rw_gv0003_01.row.prog w) (top0 dp un gd fr) (envOfC q0 sc0 L fa cd) E →
    (∀ h' tk' m' t1' t2', Tabs t1' t2' → Fr h₀ L h' m' → News h₀ L h' ((M, tupO [.int g v1, .int sh v2, .int hi v3]) :: (R0 ++ (t1' ++ t2'))) →
      Off ((M, tupO [.int g v1, .int sh v2, .int hi v3]) :: R0) (t1' ++ t2') → m' (Str.ofString "made") = some (.ref M) → Q .next { s with heap := h', toks := tk' }) →
    wpAny (model PySem.Challenge.rw_gv0003_01.row.prog w) (top0 dp un gd fr) (exec st17 (envOfC q0 sc0 L fa cd)) Q E s := by
  k_fill
  intro hK X T C1 C2 ht F N o mM mO mU mF a5' a6' a7' a8' a9' a10' b0 c0 b1 c1 b2 c2 b3 c3 b4 c4 b5 c5 e1 e2 hdp hun hE hret
  refine' lookFn 16 hK ?kk ?_
  case kk => k_is
  intro eq es e
  subst eq es
  dsimp only [List.drop] at e
  cases e
  clear hK
  obtain ⟨R5, hR5⟩ : ∃ R5, R5 = (M, tupO [.int g v1, .int sh v2, .int hi v3]) :: (T1, tupO [.int a0 u0, .int a1 u1]) :: (T2, tupO [.int a2 u2, .int a3 u3]) :: (T3, tupO [.int a4 u4, .int a5 u5]) :: R0 := ⟨_, rfl⟩
  have N' : News h₀ L s.heap (R5 ++ (t1 ++ t2)) := by
    subst hR5
    exact N
  rw [← hR5] at o
  have mem1 : (M, tupO [.int g v1, .int sh v2, .int hi v3]) ∈ R5 := hR5 ▸ .head _
  have mem2 : (T1, tupO [.int a0 u0, .int a1 u1]) ∈ R5 := hR5 ▸ .tail _ (.head _)
  have mem3 : (T2, tupO [.int a2 u2, .int a3 u3]) ∈ R5 := hR5 ▸ .tail _ (.tail _ (.head _))
  have mem4 : (T3, tupO [.int a4 u4, .int a5 u5]) ∈ R5 := hR5 ▸ .tail _ (.tail _ (.tail _ (.head _)))
  have hsub0 : ∀ q ∈ R0, q ∈ R5 := fun q hq => hR5 ▸ .tail _ (.tail _ (.tail _ (.tail _ hq)))
  clear N hR5
  obtain ⟨TT, hTT⟩ : ∃ TT, TT = R5 ++ (t1 ++ t2) := ⟨_, rfl⟩
  rw [← hTT] at N'
  k_steps
  unfold Held
  rename Fr _ _ _ _ => F1
  rename News _ _ _ _ => N1
  rename_i Dl h1 ltD
  subst hTT
  refine iter_listUnr (lo := listOf #[.ref T1, .ref T2] 0) (vs := [.ref T1, .ref T2]) (n := 0) rfl F1 N1 (.head _) rfl rfl (fun I hI => list_ind (LoopS Dl T1 T2 T3 M R5 g sh hi a4 a5 I) ?base ?step _ _ _ ?init)
  case init =>
    refine ⟨t1, t2, rfl, ht, Off.cons (fun q hq => Nat.ne_of_gt (ltD q (List.mem_append_right _ hq))) o, fun q hq => Nat.ne_of_lt (hI q hq), fun v hv => ?_, mM, mF⟩
    rcases List.mem_cons.mp hv with rfl | hv
    · exact ⟨T1, a0, a1, u0, u1, rfl, mem2, b0, c0, b1, c1, e1⟩
    rcases List.mem_cons.mp hv with rfl | hv
    · exact ⟨T2, a2, a3, u2, u3, rfl, mem3, b2, c2, b3, c3, e2⟩
    · nomatch hv
  case base =>
    rintro m1 news ⟨s1, s2, rfl, hT, hO, oI, hv, hm, hf⟩ h tk F2 N2
    k_steps
    refine (show Q .next _ from hret _ _ _ s1 s2 hT F2 (fun q hq => N2 q (.tail _ ?_)) (fun q hq r hr => ?_) hm)
    · rcases List.mem_cons.mp hq with rfl | hq
      · exact List.mem_append_left _ mem1
      rcases List.mem_append.mp hq with hq | hq
      · exact List.mem_append_left _ (hsub0 q hq)
      · exact List.mem_append_right _ hq
    · rcases List.mem_cons.mp hq with rfl | hq
      · exact hO _ (.tail _ mem1) r hr
      · exact hO _ (.tail _ (hsub0 q hq)) r hr
  case step =>
    rintro v r m1 news ⟨s1, s2, rfl, hT, hO, oI, hv, hm, hf⟩ it h tk hit F2 N2
    replace F2 : Fr h₀ L h _ := F2
    replace N2 : News h₀ L h _ := N2
    obtain ⟨Tb, z1, z2, tb, tc, rfl, hb, y1, y2, y3, y4, hz⟩ := hv v (.head _)
    clear F1 N1
    obtain ⟨TU, hTU⟩ : ∃ TU, TU = (I, it) :: (Dl, listOf #[.ref T1, .ref T2] 0) :: (R5 ++ (s1 ++ s2)) := ⟨_, rfl⟩
    rw [← hTU] at N2
    have N3 := newsC N2 (hTU ▸ .tail _ (.tail _ (List.mem_append_left _ hb)) : (Tb, tupO [.int z1 tb, .int z2 tc]) ∈ TU) (newsC N2 (hTU ▸ .tail _ (.tail _ (List.mem_append_left _ mem1)) : (M, tupO [.int g v1, .int sh v2, .int hi v3]) ∈ TU) (newsC N2 (hTU ▸ .tail _ (.tail _ (List.mem_append_left _ mem4)) : (T3, tupO [.int a4 u4, .int a5 u5]) ∈ TU) N2))
    clear N2
    k_steps
    rename Fr _ _ _ _ => F4
    rename News _ _ _ _ => N4
    rename_i Pn hPn l1
    refine (show ∀ (k1 k2 : Tok), News h₀ L _ ((Pn, tupO [.int (a4 + z1) k1, .int (a5 + z2) k2]) :: (Tb, tupO [.int z1 tb, .int z2 tc]) :: (M, tupO [.int g v1, .int sh v2, .int hi v3]) :: (T3, tupO [.int a4 u4, .int a5 u5]) :: TU) → _ from fun k1 k2 N5 => ?_) _ _ N4
    clear N4
    refine ledN (P := Pn) (M := M) (rest := (Pn, tupO [.int (a4 + z1) k1, .int (a5 + z2) k2]) :: (I, it) :: (Dl, listOf #[.ref T1, .ref T2] 0) :: R5) (t1 := s1) (t2 := s2) F4 (newsS N5 fun q hq => ?sub) ?off hT C1 C2 X T (by omega) (by omega) (.head _) (.tail _ (.tail _ (.tail _ mem1))) (by omega) (by omega) (by omega) (by omega) a5' (by omega) (by omega) (by omega) a7' (by omega) ?_
    case sub =>
      subst hTU
      rcases List.mem_cons.mp hq with rfl | hq
      · exact .head _
      · exact .tail _ (.tail _ (.tail _ (.tail _ hq)))
    case off =>
      refine Off.cons (fun q hq => Nat.ne_of_gt (allLt_mem l1.2.2.2 q ?_)) (Off.cons (fun q hq => (oI q (.tail _ (List.mem_append_right _ hq))).symm) hO)
      subst hTU
      exact .tail _ (.tail _ (List.mem_append_right _ hq))
    intro D r1 r2 w1 w2 h6 tk6 ht6 F6 N6 O6 hD6
    obtain ⟨TV, hTV⟩ : ∃ TV, TV = (I, it) :: (Dl, listOf #[.ref T1, .ref T2] 0) :: (R5 ++ (r1 ++ r2)) := ⟨_, rfl⟩
    have N7 : News h₀ L h6 ((D, tupO [.int (ledP g sh hi (a4 + z1) (a5 + z2)).1 w1, .int (ledP g sh hi (a4 + z1) (a5 + z2)).2 w2]) :: (M, tupO [.int g v1, .int sh v2, .int hi v3]) :: (T3, tupO [.int a4 u4, .int a5 u5]) :: TV) := newsS N6 fun q hq => by
      subst hTV
      rcases List.mem_cons.mp hq with rfl | hq
      · exact .head _
      rcases List.mem_cons.mp hq with rfl | hq
      · exact .tail _ (List.mem_append_left _ (.tail _ (.tail _ (.tail _ mem1))))
      rcases List.mem_cons.mp hq with rfl | hq
      · exact .tail _ (List.mem_append_left _ (.tail _ (.tail _ (.tail _ mem4))))
      · exact .tail _ (.tail _ hq)
    have O7 : Off ((I, it) :: (Dl, listOf #[.ref T1, .ref T2] 0) :: R5) (r1 ++ r2) := fun q hq => O6 q (.tail _ (.tail _ hq))
    have oD7 : ∀ q ∈ r1 ++ r2, D ≠ q.1 := fun q hq => O6 _ (.head _) q hq
    clear N6 F4 N5 O6
    k_steps
    rename Fr _ _ _ _ => F8
    rename News _ _ _ _ => N8
    refine ledN (P := T3) (M := M) (rest := (D, tupO [.int (ledP g sh hi (a4 + z1) (a5 + z2)).1 w1, .int (ledP g sh hi (a4 + z1) (a5 + z2)).2 w2]) :: (I, it) :: (Dl, listOf #[.ref T1, .ref T2] 0) :: R5) (t1 := r1) (t2 := r2) F8 (newsS N8 fun q hq => ?sub2) (Off.cons oD7 O7) ht6 C1 C2 X T (by omega) (by omega) (.tail _ (.tail _ (.tail _ mem4))) (.tail _ (.tail _ (.tail _ mem1))) (by omega) (by omega) (by omega) (by omega) a5' (by omega) (by omega) (by omega) a7' (by omega) ?_
    case sub2 =>
      subst hTV
      rcases List.mem_cons.mp hq with rfl | hq
      · exact .head _
      · exact .tail _ (.tail _ (.tail _ hq))
    intro D2 q1 q2 w3 w4 h9 tk9 ht9 F9 N9 O9 hD9
    obtain ⟨TX, hTX⟩ : ∃ TX, TX = (I, it) :: (Dl, listOf #[.ref T1, .ref T2] 0) :: (R5 ++ (q1 ++ q2)) := ⟨_, rfl⟩
    have N10 : News h₀ L h9 ((D2, tupO [.int (ledP g sh hi a4 a5).1 w3, .int (ledP g sh hi a4 a5).2 w4]) :: (D, tupO [.int (ledP g sh hi (a4 + z1) (a5 + z2)).1 w1, .int (ledP g sh hi (a4 + z1) (a5 + z2)).2 w2]) :: TX) := newsS N9 fun q hq => by
      subst hTX
      exact hq
    have O10 : Off ((I, it) :: (Dl, listOf #[.ref T1, .ref T2] 0) :: R5) (q1 ++ q2) := fun q hq => O9 q (.tail _ (.tail _ hq))
    clear N9 F8 N8 O9 hTV hTU
    k_steps
    · subst hTX
      rename Fr _ _ _ _ => F11
      rename News _ _ _ _ => N11
      refine (show TurnH _ _ _ _ _ _ _ _ _ from TurnH.next F11 N11 ((Dl, listOf #[.ref T1, .ref T2] 0) :: (R5 ++ (q1 ++ q2))) (.tail _ (.tail _ (.head _))) (fun q hq => .tail _ (.tail _ (.tail _ hq))) ?offI ⟨.head _, q1, q2, rfl, ht9, fun q hq => O10 q (.tail _ hq), ?offI, fun u hu => hv u (.tail _ hu), hm, hf⟩)
      intro q hq
      have oI' : ∀ q ∈ (Dl, listOf #[.ref T1, .ref T2] 0) :: R5, q.1 ≠ I := fun q hq => oI q (by
        rcases List.mem_cons.mp hq with rfl | hq
        · exact .head _
        · exact .tail _ (List.mem_append_left _ hq))
      rw [← List.cons_append] at hq
      rcases List.mem_append.mp hq with hq | hq
      · exact oI' q hq
      · exact (O10 (I, it) (.head _) q hq).symm
end
end
section
open PySem PySem.W PyProof.Rows
theorem freshS18 : (1 : Nat) = 1 := by
  (first | walk1 | rfl)
  w_top off
end
section
open PySem PySem.W PyProof.Rows PySem.SeqAt PySem.MeetsSeq PySem.MeetsSeq2 PySem.MeetsSeq3 PySem.SeqRoads2
theorem ledP_zero (g sh hi : Int) : ledP g sh hi 0 0 = (0, 0) := by
  unfold ledP
  rw [Int.zero_fmod, Int.zero_fdiv, Int.zero_mul, Int.sub_zero, Int.zero_fmod]
section
local macro_rules | `(tactic| walk_at "compareOp Eq ref ref") => `(tactic| (k_here; k_dflt (refine' eq_pair (News.isTup (by assumption) (by k_mem)) (News.isTup (by assumption) (by k_mem)) ?hu ?_; (case hu => (dsimp only [top0, Around.deeper]; omega)))))
set_option maxRecDepth 100000 in
set_option maxHeartbeats 8000000 in
theorem s18 {w : World} {p : Program} {loose : List Str} {mean : ExcName → Option Value} {mg mb : Str → Option Value}
    {oc0 : Value} {od0 : Option Addr} {nm0 q0 : Str} {prm0 : Arguments} {st1 st2 st3 st4 st5 st6 st7 st8 stF stW stT stX st13 st14 st15 st16 st17 st18 : Stmt}
    {sc0 : Scope} {dV kV doc0 pm0 : Value} {an0 : Option Addr} {cdv0 ct0 cd : Value} {fa : Addr} {osl0 : Array (Option Value)}
    {L M : Addr} {m : Str → Option Value} {g sh hi : Int} {v1 v2 v3 : Tok} {R0 t1 t2 : List (Addr × Obj)}
    {dp un : Nat} {gd : Option (List Code)} {fr : Option (List Env)} {h₀ : Heap} {s : Shared} {Q : Flow → Shared → Prop} {E : Value → Shared → Prop} :
    (Mine.hd.heap_39 w.params).lookup 93 = some ⟨oc0, od0, .func (fnOf nm0 q0 prm0 (st1 :: st2 :: st3 :: st4 :: st5 :: st6 :: st7 :: st8 :: stF :: stW :: stT :: stX :: st13 :: st14 :: st15 :: st16 :: st17 :: [st18]) sc0 dV kV doc0 pm0 an0 cdv0 ct0), osl0⟩ →
    (Mine.hd.heap_39 w.params).In h₀ → Top p loose mean mg mb h₀ → CodeHd h₀ 34 30 → CodeHd h₀ 41 37 → Tabs t1 t2 → Fr h₀ L s.heap m →
    News h₀ L s.heap ((M, tupO [.int g v1, .int sh v2, .int hi v3]) :: (R0 ++ (t1 ++ t2))) →
    Off ((M, tupO [.int g v1, .int sh v2, .int hi v3]) :: R0) (t1 ++ t2) →
    m (Str.ofString "made") = some (.ref M) → 0 < g → g ≤ 4 → 0 < hi → hi ≤ 32 → -2500 ≤ sh → sh ≤ 2500 →
    dp + 300 < recursionLimit → un + 4000 < cLine → PassesOwn (model PySem.Challenge.rw_gv0003_01.row.prog w) (top0 dp un gd fr) (envOfC q0 sc0 L fa cd) E →
    (∀ h' tk' m' t1' t2', Tabs t1' t2' → Fr h₀ L h' m' → News h₀ L h' (t1' ++ t2') → Q (.ret (.bool true)) { s with heap := h', toks := tk' }) →
    wpAny (model PySem.Challenge.rw_gv0003_01.row.prog w) (top0 dp un gd fr) (exec st18 (envOfC q0 sc0 L fa cd)) Q E s := by
  k_fill
  intro hK X T C1 C2 ht F N o mM a5' a6' a7' a8' a9' a10' hdp hun hE hret
  refine' lookFn 17 hK ?kk ?_
  case kk => k_is
  intro eq es e
  subst eq es
  dsimp only [List.drop] at e
  cases e
  clear hK
  obtain ⟨TT, hTT⟩ : ∃ TT, TT = R0 ++ (t1 ++ t2) := ⟨_, rfl⟩
  rw [← hTT] at N
  k_steps
  rename Fr _ _ _ _ => F4
  rename News _ _ _ _ => N4
  rename_i Pn hPn l1
  refine (show ∀ (k1 k2 : Tok), News h₀ L _ ((Pn, tupO [.int 0 k1, .int 0 k2]) :: (M, tupO [.int g v1, .int sh v2, .int hi v3]) :: TT) → _ from fun k1 k2 N5 => ?_) _ _ N4
  clear N4
  refine ledN (P := Pn) (M := M) (rest := (Pn, tupO [.int 0 k1, .int 0 k2]) :: (M, tupO [.int g v1, .int sh v2, .int hi v3]) :: R0) (t1 := t1) (t2 := t2) F4 (by subst hTT; exact N5) (Off.cons (fun q hq => Nat.ne_of_gt (allLt_mem l1.2 q (hTT ▸ List.mem_append_right _ hq))) o) ht C1 C2 X T (by omega) (by omega) (.head _) (.tail _ (.head _)) (by omega) (by omega) (by omega) (by omega) a5' (by omega) (by omega) (by omega) a7' (by omega) ?_
  intro D r1 r2 w1 w2 h6 tk6 ht6 F6 N6 O6 hD6
  rw [ledP_zero] at N6
  obtain ⟨TV, hTV⟩ : ∃ TV, TV = (M, tupO [.int g v1, .int sh v2, .int hi v3]) :: (R0 ++ (r1 ++ r2)) := ⟨_, rfl⟩
  have N7 : News h₀ L h6 ((D, tupO [.int 0 w1, .int 0 w2]) :: TV) := newsS N6 fun q hq => by
    subst hTV
    rcases List.mem_cons.mp hq with rfl | hq
    · exact .head _
    · exact .tail _ (.tail _ hq)
  clear N6 F4 N5 O6
  k_steps
  subst hTV
  rename Fr _ _ _ _ => F8
  rename News _ _ _ _ => N8
  exact (show Q (.ret (.bool true)) _ from hret _ _ _ r1 r2 ht6 F8 (newsS N8 fun q hq => .tail _ (.tail _ (.tail _ (List.mem_append_right _ hq)))))
end
end
section
open PySem PySem.W PyProof.Rows
theorem freshS15 : (1 : Nat) = 1 := by
  (first | walk1 | rfl)
  w_top off
end
section
open PySem PySem.W PyProof.Rows PySem.SeqAt PySem.MeetsSeq PySem.MeetsSeq2 PySem.MeetsSeq3 PySem.SeqRoads2
theorem same1 {p q r : Prop} [Decidable p] [Decidable r] (h : p ↔ q ∧ r) (hq : q) : decide p = decide r := decide_eq_decide.mpr (h.trans ⟨fun x => x.2, fun x => ⟨hq, x⟩⟩)
theorem same2 {p q r : Prop} [Decidable p] [Decidable q] (h : p ↔ q ∧ r) (hq : ¬ q) : decide p = decide q := decide_eq_decide.mpr (h.trans ⟨fun x => x.1, fun x => absurd x hq⟩)
theorem beq_dec (x : Int) : (x == 0) = decide (x = 0) := by
  by_cases h : x = 0
  · rw [decide_eq_true h]; exact beq_iff_eq.mpr h
  · rw [decide_eq_false h]; exact beq_eq_false_iff_ne.mpr h
section
local macro_rules | `(tactic| walk_at "exec If Compare cons nil") => `(tactic| (refine Held.out ?_))
set_option maxRecDepth 100000 in
set_option maxHeartbeats 8000000 in
theorem s15 {w : World} {p : Program} {loose : List Str} {mean : ExcName → Option Value} {mg mb : Str → Option Value}
    {oc0 : Value} {od0 : Option Addr} {nm0 q0 : Str} {prm0 : Arguments} {st1 st2 st3 st4 st5 st6 st7 st8 stF stW stT stX st13 st14 st15 st16 st17 st18 : Stmt}
    {sc0 : Scope} {dV kV doc0 pm0 : Value} {an0 : Option Addr} {cdv0 ct0 cd : Value} {fa : Addr} {osl0 : Array (Option Value)}
    {L M T1 T2 T3 T4 : Addr} {m : Str → Option Value} {g sh hi a0 a1 a2 a3 a4 a5 a6 a7 X0 : Int} {v1 v2 v3 u0 u1 u2 u3 u4 u5 u6 u7 xt : Tok} {R0 t1 t2 : List (Addr × Obj)}
    {dp un : Nat} {gd : Option (List Code)} {fr : Option (List Env)} {h₀ : Heap} {s : Shared} {Q : Flow → Shared → Prop} {E : Value → Shared → Prop} :
    (Mine.hd.heap_39 w.params).lookup 93 = some ⟨oc0, od0, .func (fnOf nm0 q0 prm0 (st1 :: st2 :: st3 :: st4 :: st5 :: st6 :: st7 :: st8 :: stF :: stW :: stT :: stX :: st13 :: st14 :: st15 :: st16 :: st17 :: [st18]) sc0 dV kV doc0 pm0 an0 cdv0 ct0), osl0⟩ →
    (Mine.hd.heap_39 w.params).In h₀ → Top p loose mean mg mb h₀ → CodeHd h₀ 34 30 → CodeHd h₀ 41 37 → Tabs t1 t2 → Fr h₀ L s.heap m →
    News h₀ L s.heap ((M, tupO [.int g v1, .int sh v2, .int hi v3]) :: (T1, tupO [.int a0 u0, .int a1 u1]) :: (T2, tupO [.int a2 u2, .int a3 u3]) :: (T3, tupO [.int a4 u4, .int a5 u5]) :: (T4, tupO [.int a6 u6, .int a7 u7]) :: (R0 ++ (t1 ++ t2))) →
    Off ((M, tupO [.int g v1, .int sh v2, .int hi v3]) :: (T1, tupO [.int a0 u0, .int a1 u1]) :: (T2, tupO [.int a2 u2, .int a3 u3]) :: (T3, tupO [.int a4 u4, .int a5 u5]) :: (T4, tupO [.int a6 u6, .int a7 u7]) :: R0) (t1 ++ t2) →
    m (Str.ofString "made") = some (.ref M) → m (Str.ofString "one") = some (.ref T1) → m (Str.ofString "other") = some (.ref T2) → m (Str.ofString "first") = some (.ref T3) → m (Str.ofString "second") = some (.ref T4) → m (Str.ofString "crosswise") = some (.int X0 xt) →
    0 < g → g ≤ 4 → 0 < hi → hi ≤ 32 → -2500 ≤ sh → sh ≤ 2500 → -4 ≤ a0 → a0 ≤ 4 → -4 ≤ a1 → a1 ≤ 4 → -4 ≤ a2 → a2 ≤ 4 → -4 ≤ a3 → a3 ≤ 4 → -4 ≤ a4 → a4 ≤ 4 → -4 ≤ a5 → a5 ≤ 4 → -4 ≤ a6 → a6 ≤ 4 → -4 ≤ a7 → a7 ≤ 4 →
    (if X0 < 0 then -X0 else X0) ≠ 0 →
    (ledP g sh hi a4 a5 = ledP g sh hi a6 a7 ↔ ((a4 - a6) * a3 - (a5 - a7) * a2).fmod (if X0 < 0 then -X0 else X0) = 0 ∧ (a0 * (a5 - a7) - a1 * (a4 - a6)).fmod (if X0 < 0 then -X0 else X0) = 0) →
    ledP g sh hi (a4 + a0) (a5 + a1) = ledP g sh hi a4 a5 → ledP g sh hi (a4 + a2) (a5 + a3) = ledP g sh hi a4 a5 →
    dp + 300 < recursionLimit → un + 4000 < cLine → PassesOwn (model PySem.Challenge.rw_gv0003_01.row.prog w) (top0 dp un gd fr) (envOfC q0 sc0 L fa cd) E →
    (∀ h' tk' m' t1' t2', Tabs t1' t2' → Fr h₀ L h' m' → News h₀ L h' (t1' ++ t2') → Q (.ret (.bool true)) { s with heap := h', toks := tk' }) →
    wpAny (model PySem.Challenge.rw_gv0003_01.row.prog w) (top0 dp un gd fr) (execs (st13 :: st14 :: st15 :: st16 :: st17 :: [st18]) (envOfC q0 sc0 L fa cd)) Q E s := by
  k_fill
  intro hK X T C1 C2 ht F N o mM mO mU mF mS mX a5' a6' a7' a8' a9' a10' b0 c0 b1 c1 b2 c2 b3 c3 b4 c4 b5 c5 b6 c6 b7 c7 hX0 hsame e1 e2 hdp hun hE hret
  refine' lookFn 12 hK ?kk ?_
  case kk => k_is
  intro eq es e
  subst eq es
  dsimp only [List.drop] at e
  rw [e]
  clear e hK
  obtain ⟨TT, hTT⟩ : ∃ TT, TT = R0 ++ (t1 ++ t2) := ⟨_, rfl⟩
  rw [← hTT] at N
  have q1 := mul_abs (B := 8) (C := 4) (a := a4 - a6) (b := a3) (by omega) (by omega) b3 c3
  have q2 := mul_abs (B := 8) (C := 4) (a := a5 - a7) (b := a2) (by omega) (by omega) b2 c2
  k_steps
  · unfold Held
    rename Fr _ _ _ _ => F1
    rename News _ _ _ _ => N1
    subst hTT
    refine s16 (M := M) (T3 := T3) (T4 := T4) (g := g) (sh := sh) (hi := hi) (a4 := a4) (a5 := a5) (a6 := a6) (a7 := a7) (v1 := v1) (v2 := v2) (v3 := v3) (u4 := u4) (u5 := u5) (u6 := u6) (u7 := u7) (same := ((a0 * (a5 - a7) - a1 * (a4 - a6)).fmod (if X0 < 0 then -X0 else X0) == 0)) (R0 := (T1, tupO [.int a0 u0, .int a1 u1]) :: (T2, tupO [.int a2 u2, .int a3 u3]) :: R0) (t1 := t1) (t2 := t2) (by k_is) X T C1 C2 ht F1 (newsS N1 fun q hq => ?n16) (fun q hq => o q ?o16) (by (simp (decide := true) only [↓reduceIte]; assumption)) (by (simp (decide := true) only [↓reduceIte]; assumption)) (by (simp (decide := true) only [↓reduceIte]; assumption)) rfl a5' a6' a7' a8' a9' a10' b4 c4 b5 c5 b6 c6 b7 c7 ?hs hdp hun hE ?_
    case n16 =>
      simp only [List.mem_cons, List.mem_append] at hq ⊢
      grind
    case o16 =>
      simp only [List.mem_cons] at hq ⊢
      grind
    case hs =>
      rename _ = (0 : Int) => hz
      exact (same1 hsame hz).trans (beq_dec _).symm
    clear N1 F1
    intro h16 tk16 p1 p2 ht16 F16 N16 o16
    refine wpAny_execs_cons (s17 (M := M) (T1 := T1) (T2 := T2) (T3 := T3) (g := g) (sh := sh) (hi := hi) (a0 := a0) (a1 := a1) (a2 := a2) (a3 := a3) (a4 := a4) (a5 := a5) (v1 := v1) (v2 := v2) (v3 := v3) (u0 := u0) (u1 := u1) (u2 := u2) (u3 := u3) (u4 := u4) (u5 := u5) (s := { s with heap := h16, toks := tk16 }) (R0 := R0) (t1 := p1) (t2 := p2) (by k_is) X T C1 C2 ht16 F16 (newsS N16 fun q hq => ?n17) (fun q hq => o16 q ?o17) (by (simp (decide := true) only [↓reduceIte]; assumption)) (by (simp (decide := true) only [↓reduceIte]; assumption)) (by (simp (decide := true) only [↓reduceIte]; assumption)) (by (simp (decide := true) only [↓reduceIte]; assumption)) a5' a6' a7' a8' a9' a10' b0 c0 b1 c1 b2 c2 b3 c3 b4 c4 b5 c5 e1 e2 hdp hun hE ?_)
    case n17 =>
      simp only [List.mem_cons, List.mem_append] at hq ⊢
      grind
    case o17 =>
      simp only [List.mem_cons] at hq ⊢
      grind
    intro h17 tk17 m17 r1 r2 ht17 F17 N17 o17 mM17
    refine wpAny_execs_cons (s18 (s := { s with heap := h17, toks := tk17 }) (R0 := R0) (t1 := r1) (t2 := r2) (by k_is) X T C1 C2 ht17 F17 N17 o17 mM17 a5' a6' a7' a8' a9' a10' hdp hun hE ?_)
    intro h18 tk18 m18 z1 z2 ht18 F18 N18
    exact hret _ _ _ _ _ ht18 F18 N18
  · unfold Held
    rename Fr _ _ _ _ => F1
    rename News _ _ _ _ => N1
    subst hTT
    refine s16 (M := M) (T3 := T3) (T4 := T4) (g := g) (sh := sh) (hi := hi) (a4 := a4) (a5 := a5) (a6 := a6) (a7 := a7) (v1 := v1) (v2 := v2) (v3 := v3) (u4 := u4) (u5 := u5) (u6 := u6) (u7 := u7) (same := (((a4 - a6) * a3 - (a5 - a7) * a2).fmod (if X0 < 0 then -X0 else X0) == 0)) (R0 := (T1, tupO [.int a0 u0, .int a1 u1]) :: (T2, tupO [.int a2 u2, .int a3 u3]) :: R0) (t1 := t1) (t2 := t2) (by k_is) X T C1 C2 ht F1 (newsS N1 fun q hq => ?n16b) (fun q hq => o q ?o16b) (by (simp (decide := true) only [↓reduceIte]; assumption)) (by (simp (decide := true) only [↓reduceIte]; assumption)) (by (simp (decide := true) only [↓reduceIte]; assumption)) rfl a5' a6' a7' a8' a9' a10' b4 c4 b5 c5 b6 c6 b7 c7 ?hsb hdp hun hE ?_
    case n16b =>
      simp only [List.mem_cons, List.mem_append] at hq ⊢
      grind
    case o16b =>
      simp only [List.mem_cons] at hq ⊢
      grind
    case hsb =>
      rename ¬ _ = (0 : Int) => hz
      exact (same2 hsame hz).trans (beq_dec _).symm
    clear N1 F1
    intro h16 tk16 p1 p2 ht16 F16 N16 o16
    refine wpAny_execs_cons (s17 (M := M) (T1 := T1) (T2 := T2) (T3 := T3) (g := g) (sh := sh) (hi := hi) (a0 := a0) (a1 := a1) (a2 := a2) (a3 := a3) (a4 := a4) (a5 := a5) (v1 := v1) (v2 := v2) (v3 := v3) (u0 := u0) (u1 := u1) (u2 := u2) (u3 := u3) (u4 := u4) (u5 := u5) (s := { s with heap := h16, toks := tk16 }) (R0 := R0) (t1 := p1) (t2 := p2) (by k_is) X T C1 C2 ht16 F16 (newsS N16 fun q hq => ?n17b) (fun q hq => o16 q ?o17b) (by (simp (decide := true) only [↓reduceIte]; assumption)) (by (simp (decide := true) only [↓reduceIte]; assumption)) (by (simp (decide := true) only [↓reduceIte]; assumption)) (by (simp (decide := true) only [↓reduceIte]; assumption)) a5' a6' a7' a8' a9' a10' b0 c0 b1 c1 b2 c2 b3 c3 b4 c4 b5 c5 e1 e2 hdp hun hE ?_)
    case n17b =>
      simp only [List.mem_cons, List.mem_append] at hq ⊢
      grind
    case o17b =>
      simp only [List.mem_cons] at hq ⊢
      grind
    intro h17 tk17 m17 r1 r2 ht17 F17 N17 o17 mM17
    refine wpAny_execs_cons (s18 (s := { s with heap := h17, toks := tk17 }) (R0 := R0) (t1 := r1) (t2 := r2) (by k_is) X T C1 C2 ht17 F17 N17 o17 mM17 a5' a6' a7' a8' a9' a10' hdp hun hE ?_)
    intro h18 tk18 m18 z1 z2 ht18 F18 N18
    exact hret _ _ _ _ _ ht18 F18 N18
end
end
section
open PySem PySem.W PyProof.Rows
theorem rowP_mem (i : Nat) : ∀ (j : Nat) (a : Int × Int), a ∈ rowP i j ↔ a.1 = i ∧ 0 ≤ a.2 ∧ a.2 < j
  | 0, a => by
    rw [rowP]
    constructor
    · intro h; nomatch h
    · rintro ⟨_, h1, h2⟩; exact absurd h2 (by omega)
  | j + 1, a => by
    obtain ⟨u, v⟩ := a
    rw [rowP, List.mem_append, rowP_mem i j, List.mem_singleton, Prod.mk.injEq]
    dsimp only
    omega
theorem rowsP_mem (n : Nat) : ∀ (i : Nat) (a : Int × Int), a ∈ rowsP n i ↔ 0 ≤ a.1 ∧ a.1 < i ∧ 0 ≤ a.2 ∧ a.2 < n
  | 0, a => by
    rw [rowsP]
    constructor
    · intro h; nomatch h
    · rintro ⟨h1, h2, _⟩; exact absurd h2 (by omega)
  | i + 1, a => by
    rw [rowsP, List.mem_append, rowsP_mem n i, rowP_mem]
    omega
theorem rowP_rise (i : Nat) : ∀ j, Rise (rowP i j)
  | 0 => List.Pairwise.nil
  | j + 1 => by
    unfold Rise
    rw [rowP, List.pairwise_append]
    refine ⟨rowP_rise i j, List.pairwise_singleton _ _, fun a ha b hb => ?_⟩
    rw [List.mem_singleton] at hb
    subst hb
    have := (rowP_mem i j a).mp ha
    rw [ltP_iff]
    exact .inr ⟨this.1, this.2.2⟩
theorem rowsP_rise (n : Nat) : ∀ i, Rise (rowsP n i)
  | 0 => List.Pairwise.nil
  | i + 1 => by
    unfold Rise
    rw [rowsP, List.pairwise_append]
    refine ⟨rowsP_rise n i, rowP_rise i n, fun a ha b hb => ?_⟩
    have h1 := (rowsP_mem n i a).mp ha
    have h2 := (rowP_mem i n b).mp hb
    rw [ltP_iff]
    exact .inl (by omega)
/-- a rising list inside a rising list is no longer -/
theorem rise_sub : ∀ {l r : List (Int × Int)}, Rise l → Rise r → (∀ a ∈ l, a ∈ r) → l.length ≤ r.length
  | [], _, _, _, _ => Nat.zero_le _
  | a :: l, [], _, _, h => nomatch h a (.head _)
  | a :: l, b :: r, hl, hr, h => by
    obtain ⟨ha, hl'⟩ := List.pairwise_cons.mp hl
    obtain ⟨hb, hr'⟩ := List.pairwise_cons.mp hr
    refine Nat.succ_le_succ (rise_sub hl' hr' fun c hc => ?_)
    rcases List.mem_cons.mp (h c (.tail _ hc)) with q | q
    · subst q
      have h1 := ha _ hc
      rcases List.mem_cons.mp (h a (.head _)) with q2 | q2
      · rw [q2, ltP_irr] at h1; cases h1
      · have := ltP_trans (hb a q2) h1
        rw [ltP_irr] at this; cases this
    · exact q
theorem ledP_in {g sh hi x y : Int} (g0 : 0 < g) (h0 : 0 < hi) : 0 ≤ (ledP g sh hi x y).1 ∧ (ledP g sh hi x y).1 < g ∧ 0 ≤ (ledP g sh hi x y).2 ∧ (ledP g sh hi x y).2 < hi :=
  ⟨Int.fmod_nonneg_of_pos x g0, Int.fmod_lt_of_pos x g0, Int.fmod_nonneg_of_pos _ h0, Int.fmod_lt_of_pos _ h0⟩
theorem fmod_same {a b m : Int} (hm : 0 < m) : a.fmod m = b.fmod m ↔ ∃ k, a - b = m * k := by
  have h1 := Int.mul_fdiv_add_fmod a m
  have h2 := Int.mul_fdiv_add_fmod b m
  constructor
  · intro e
    refine ⟨a.fdiv m - b.fdiv m, ?_⟩
    rw [Int.mul_sub]; omega
  · rintro ⟨k, e⟩
    have a1 := Int.fmod_nonneg_of_pos a hm
    have a2 := Int.fmod_lt_of_pos a hm
    have b1 := Int.fmod_nonneg_of_pos b hm
    have b2 := Int.fmod_lt_of_pos b hm
    have e2 : m * (k - a.fdiv m + b.fdiv m) = a.fmod m - b.fmod m := by grind
    have e3 : k - a.fdiv m + b.fdiv m = 0 := by
      by_cases z : k - a.fdiv m + b.fdiv m = 0
      · exact z
      · exfalso
        rcases Int.lt_or_gt_of_ne z with q | q
        · have := Int.mul_le_mul_of_nonneg_left (show k - a.fdiv m + b.fdiv m ≤ -1 by omega) (Int.le_of_lt hm)
          rw [Int.mul_neg_one] at this; omega
        · have := Int.mul_le_mul_of_nonneg_left (show 1 ≤ k - a.fdiv m + b.fdiv m by omega) (Int.le_of_lt hm)
          rw [Int.mul_one] at this; omega
    rw [e3, Int.mul_zero] at e2
    omega
theorem fdiv_of {x m k r : Int} (hm : 0 < m) (h0 : 0 ≤ r) (h1 : r < m) (e : x = m * k + r) : x.fdiv m = k ∧ x.fmod m = r := by
  have h2 := Int.mul_fdiv_add_fmod x m
  have a1 := Int.fmod_nonneg_of_pos x hm
  have a2 := Int.fmod_lt_of_pos x hm
  have e2 : m * (k - x.fdiv m) = x.fmod m - r := by grind
  have e3 : k - x.fdiv m = 0 := by
    by_cases z : k - x.fdiv m = 0
    · exact z
    · exfalso
      rcases Int.lt_or_gt_of_ne z with q | q
      · have := Int.mul_le_mul_of_nonneg_left (show k - x.fdiv m ≤ -1 by omega) (Int.le_of_lt hm)
        rw [Int.mul_neg_one] at this; omega
      · have := Int.mul_le_mul_of_nonneg_left (show 1 ≤ k - x.fdiv m by omega) (Int.le_of_lt hm)
        rw [Int.mul_one] at this; omega
  rw [e3, Int.mul_zero] at e2
  omega
/-- two points are led alike just when they part by a vector of the lattice -/
theorem ledP_same {g sh hi x y x' y' : Int} (g0 : 0 < g) (h0 : 0 < hi) : ledP g sh hi x y = ledP g sh hi x' y' ↔ InL (g, sh) (0, hi) (x - x') (y - y') := by
  unfold ledP
  rw [Prod.mk.injEq]
  have hx := Int.mul_fdiv_add_fmod x g
  have hx' := Int.mul_fdiv_add_fmod x' g
  constructor
  · rintro ⟨h1, h2⟩
    obtain ⟨k, hk⟩ := (fmod_same h0).mp h2
    refine ⟨x.fdiv g - x'.fdiv g, k, ?_, ?_⟩
    · dsimp only; grind
    · dsimp only; grind
  · rintro ⟨m, n, h1, h2⟩
    dsimp only at h1 h2
    have ex : x = g * (m + x'.fdiv g) + x'.fmod g := by grind
    obtain ⟨e1, e2⟩ := fdiv_of g0 (Int.fmod_nonneg_of_pos x' g0) (Int.fmod_lt_of_pos x' g0) ex
    refine ⟨e2, (fmod_same h0).mpr ⟨n, ?_⟩⟩
    rw [e1]
    grind
theorem ledP_step {x1 x2 y1 y2 g sh hi : Int} (h : MadeOk x1 x2 y1 y2 g sh hi) (a b : Int) : ledP g sh hi (a + x1) (b + x2) = ledP g sh hi a b ∧ ledP g sh hi (a + y1) (b + y2) = ledP g sh hi a b := by
  constructor
  · rw [ledP_same h.g0 h.h0, h.span]
    exact ⟨1, 0, by dsimp only; omega, by dsimp only; omega⟩
  · rw [ledP_same h.g0 h.h0, h.span]
    exact ⟨0, 1, by dsimp only; omega, by dsimp only; omega⟩
theorem fmod_zero {a m : Int} (hm : 0 < m) : a.fmod m = 0 ↔ ∃ k, a = m * k := by
  have h1 := Int.mul_fdiv_add_fmod a m
  constructor
  · intro e
    exact ⟨a.fdiv m, by omega⟩
  · rintro ⟨k, e⟩
    exact (fdiv_of hm (Int.le_refl 0) hm (show a = m * k + 0 by omega)).2
theorem cramer {x1 x2 y1 y2 dx dy A : Int} (hX : x1 * y2 - x2 * y1 ≠ 0) (hA : A = if x1 * y2 - x2 * y1 < 0 then -(x1 * y2 - x2 * y1) else x1 * y2 - x2 * y1) :
    InL (x1, x2) (y1, y2) dx dy ↔ (dx * y2 - dy * y1).fmod A = 0 ∧ (x1 * dy - x2 * dx).fmod A = 0 := by
  have hA0 : 0 < A := by rw [hA]; split <;> omega
  have hs : ∃ v : Int, A = v * (x1 * y2 - x2 * y1) ∧ v * v = 1 := by
    by_cases h : x1 * y2 - x2 * y1 < 0
    · exact ⟨-1, by rw [hA, if_pos h]; omega, by decide⟩
    · exact ⟨1, by rw [hA, if_neg h]; omega, by decide⟩
  obtain ⟨v, hv, hvv⟩ := hs
  rw [fmod_zero hA0, fmod_zero hA0]
  constructor
  · rintro ⟨m, n, rfl, rfl⟩
    dsimp only
    exact ⟨⟨v * m, by rw [hv]; grind⟩, ⟨v * n, by rw [hv]; grind⟩⟩
  · rintro ⟨⟨k, hk⟩, ⟨l, hl⟩⟩
    refine ⟨v * k, v * l, ?_, ?_⟩
    · refine Int.eq_of_mul_eq_mul_left hX ?_
      dsimp only
      have e1 : (x1 * y2 - x2 * y1) * dx = x1 * (dx * y2 - dy * y1) + y1 * (x1 * dy - x2 * dx) := by grind
      rw [e1, hk, hl, hv]
      grind
    · refine Int.eq_of_mul_eq_mul_left hX ?_
      dsimp only
      have e1 : (x1 * y2 - x2 * y1) * dy = x2 * (dx * y2 - dy * y1) + y2 * (x1 * dy - x2 * dx) := by grind
      rw [e1, hk, hl, hv]
      grind
theorem got_in {g sh hi n : Int} {ps : List (Int × Int)} (G : Got g sh hi n ps) {ng nh : Nat} (eg : g = ng) (eh : hi = nh) (g0 : 0 < g) (h0 : 0 < hi) : ∀ q ∈ ps, q ∈ rowsP nh ng := fun q hq => by
  obtain ⟨x, y, _, _, _, _, rfl⟩ := G.from_ q hq
  rw [rowsP_mem]
  have := ledP_in (sh := sh) (x := x) (y := y) g0 h0
  omega
theorem got_all {g sh hi : Int} {ps : List (Int × Int)} (G : Got g sh hi 81 ps) {ng nh : Nat} (eg : g = ng) (eh : hi = nh) (g0 : 0 < g) (g4 : g ≤ 4) (h0 : 0 < hi) (h9 : g * hi ≤ 9) : ps = rowsP nh ng := by
  have h9' : hi ≤ 9 := by
    have := Int.mul_le_mul_of_nonneg_right (show 1 ≤ g by omega) (Int.le_of_lt h0)
    omega
  refine rise_ext G.rise (rowsP_rise nh ng) fun a => ⟨got_in G eg eh g0 h0 a, fun ha => ?_⟩
  rw [rowsP_mem] at ha
  obtain ⟨u, v⟩ := a
  dsimp only at ha
  have hw : ∃ y : Int, -4 ≤ y ∧ y ≤ 4 ∧ y.fmod hi = v := by
    by_cases c : v ≤ 4
    · exact ⟨v, by omega, c, (fdiv_of h0 (by omega) (by omega) (show v = hi * 0 + v by omega)).2⟩
    · exact ⟨v - hi, by omega, by omega, (fdiv_of h0 (by omega) (by omega) (show v - hi = hi * -1 + v by omega)).2⟩
  obtain ⟨y, y1, y2, hy⟩ := hw
  have e := G.all u y (by omega) (by omega) y1 y2 (by omega)
  obtain ⟨d1, d2⟩ := fdiv_of (x := u) (m := g) (k := 0) (r := u) g0 (by omega) (by omega) (by omega)
  have e2 : ledP g sh hi u y = (u, v) := by
    unfold ledP
    rw [d1, d2, Int.zero_mul, Int.sub_zero, hy]
  rw [e2] at e
  exact e
end
section
open PySem PySem.W PyProof.Rows
set_option maxRecDepth 100000 in
set_option maxHeartbeats 8000000 in
theorem s19 {w : World} {p : Program} {loose : List Str} {mean : ExcName → Option Value} {mg mb : Str → Option Value}
    {oc0 : Value} {od0 : Option Addr} {nm0 q0 : Str} {prm0 : Arguments} {st1 st2 st3 st4 st5 st6 st7 st8 stF stW stT stX st13 st14 st15 st16 st17 st18 : Stmt}
    {sc0 : Scope} {dV kV doc0 pm0 : Value} {an0 : Option Addr} {cdv0 ct0 cd : Value} {fa : Addr} {osl0 : Array (Option Value)}
    {L Lo M T1 T2 T3 T4 : Addr} {m : Str → Option Value} {sh a0 a1 a2 a3 a4 a5 a6 a7 : Int} {ng nh : Nat} {v1 v2 v3 u0 u1 u2 u3 u4 u5 u6 u7 xt gt ht' : Tok} {oW oH : Obj} {vs : List Value} {c : Nat} {ps : List (Int × Int)} {PL t1 t2 : List (Addr × Obj)}
    {dp un : Nat} {gd : Option (List Code)} {fr : Option (List Env)} {h₀ : Heap} {s : Shared} {Q : Flow → Shared → Prop} {E : Value → Shared → Prop}
    (hK : (Mine.hd.heap_39 w.params).lookup 93 = some ⟨oc0, od0, .func (fnOf nm0 q0 prm0 (st1 :: st2 :: st3 :: st4 :: st5 :: st6 :: st7 :: st8 :: stF :: stW :: stT :: stX :: st13 :: st14 :: st15 :: st16 :: st17 :: [st18]) sc0 dV kV doc0 pm0 an0 cdv0 ct0), osl0⟩)
    (X : (Mine.hd.heap_39 w.params).In h₀) (T : Top p loose mean mg mb h₀) (C1 : CodeHd h₀ 34 30) (C2 : CodeHd h₀ 41 37) (F : Fr h₀ L s.heap m)
    (D9 : Led9 [(T1, tupO [.int a0 u0, .int a1 u1]), (T2, tupO [.int a2 u2, .int a3 u3]), (T3, tupO [.int a4 u4, .int a5 u5]), (T4, tupO [.int a6 u6, .int a7 u7]), (L + 1 + 1 + 1, oW), (L + 1 + 1, oH)] Lo M (tupO [.int (ng : Int) v1, .int sh v2, .int (nh : Int) v3]) vs c ps PL t1 t2)
    (N : News h₀ L s.heap (led9 [(T1, tupO [.int a0 u0, .int a1 u1]), (T2, tupO [.int a2 u2, .int a3 u3]), (T3, tupO [.int a4 u4, .int a5 u5]), (T4, tupO [.int a6 u6, .int a7 u7]), (L + 1 + 1 + 1, oW), (L + 1 + 1, oH)] Lo M (tupO [.int (ng : Int) v1, .int sh v2, .int (nh : Int) v3]) vs c PL t1 t2))
    (hW : oW.data = .cell none) (hH : oH.data = .cell (some (.int (nh : Int) ht'))) (n1 : T1 ≠ L + 1 + 1 + 1) (n2 : T2 ≠ L + 1 + 1 + 1) (n3 : T3 ≠ L + 1 + 1 + 1) (n4 : T4 ≠ L + 1 + 1 + 1)
    (mO : m (Str.ofString "order") = some (.ref Lo)) (mM : m (Str.ofString "made") = some (.ref M)) (m1 : m (Str.ofString "one") = some (.ref T1)) (m2 : m (Str.ofString "other") = some (.ref T2)) (m3 : m (Str.ofString "first") = some (.ref T3)) (m4 : m (Str.ofString "second") = some (.ref T4))
    (mX : m (Str.ofString "crosswise") = some (.int (a0 * a3 - a1 * a2) xt)) (mG : m (Str.ofString "goes") = some (.int (ng : Int) gt)) (G : Got ng sh nh 81 ps) (K : MadeOk a0 a1 a2 a3 ng sh nh) (hX : a0 * a3 - a1 * a2 ≠ 0)
    (b0 : -4 ≤ a0) (c0 : a0 ≤ 4) (b1 : -4 ≤ a1) (c1 : a1 ≤ 4) (b2 : -4 ≤ a2) (c2 : a2 ≤ 4) (b3 : -4 ≤ a3) (c3 : a3 ≤ 4) (b4 : -4 ≤ a4) (c4 : a4 ≤ 4) (b5 : -4 ≤ a5) (c5 : a5 ≤ 4) (b6 : -4 ≤ a6) (c6 : a6 ≤ 4) (b7 : -4 ≤ a7) (c7 : a7 ≤ 4)
    (hdp : dp + 300 < recursionLimit) (hun : un + 4000 < cLine) (hE : PassesOwn (model PySem.Challenge.rw_gv0003_01.row.prog w) (top0 dp un gd fr) (envOfC q0 sc0 L fa cd) E)
    (hret : ∀ h' tk' m' t1' t2', Tabs t1' t2' → Fr h₀ L h' m' → News h₀ L h' (t1' ++ t2') → Q (.ret (.bool true)) { s with heap := h', toks := tk' }) :
    wpAny (model PySem.Challenge.rw_gv0003_01.row.prog w) (top0 dp un gd fr) (execs (stW :: stT :: stX :: st13 :: st14 :: st15 :: st16 :: st17 :: [st18]) (envOfC q0 sc0 L fa cd)) Q E s := by
  have g0 := K.g0
  have g4 := K.g4
  have h0 := K.h0
  have h32 := K.h32
  have hcr := K.cross
  obtain ⟨TT, hTT⟩ : ∃ TT, TT = (Lo, listOf vs.toArray c) :: (M, tupO [.int (ng : Int) v1, .int sh v2, .int (nh : Int) v3]) :: (PL ++ [(T1, tupO [.int a0 u0, .int a1 u1]), (T2, tupO [.int a2 u2, .int a3 u3]), (T3, tupO [.int a4 u4, .int a5 u5]), (T4, tupO [.int a6 u6, .int a7 u7])] ++ (t1 ++ t2)) := ⟨_, rfl⟩
  have N1 : News h₀ L s.heap ((L + 1 + 1 + 1, oW) :: (L + 1 + 1, oH) :: TT) := newsS N fun q hq => by
    subst hTT
    unfold led9
    simp only [List.mem_cons, List.mem_append, List.not_mem_nil, or_false] at hq ⊢
    grind
  have oT : ∀ q ∈ TT, q.1 ≠ L + 1 + 1 + 1 := fun q hq => by
    subst hTT
    simp only [List.mem_cons, List.mem_append, List.not_mem_nil, or_false] at hq
    have hw : (L + 1 + 1 + 1, oW) ∈ [(T1, tupO [.int a0 u0, .int a1 u1]), (T2, tupO [.int a2 u2, .int a3 u3]), (T3, tupO [.int a4 u4, .int a5 u5]), (T4, tupO [.int a6 u6, .int a7 u7]), (L + 1 + 1 + 1, oW), (L + 1 + 1, oH)] := .tail _ (.tail _ (.tail _ (.tail _ (.head _))))
    rcases hq with rfl | rfl | (hq | rfl | rfl | rfl | rfl) | hq
    · exact (D9.oL _ (.tail _ (List.mem_append_right _ hw))).symm
    · exact (D9.oR _ hw _ (.head _)).symm
    · exact (D9.oR _ hw q (.tail _ hq)).symm
    · exact n1
    · exact n2
    · exact n3
    · exact n4
    · exact (D9.oT _ (.tail _ (.tail _ (List.mem_append_right _ hw))) q (List.mem_append.mpr hq)).symm
  refine wpAny_execs_cons (s11 (ng := ng) (nh := nh) hK X T F N1 hW hH oT mG (by omega) (by omega) hdp hun hE fun h' tk' Dw PW ws oW' F2 N2 hW' hPW o1 o2 => ?_)
  obtain ⟨TU, hTU⟩ : ∃ TU, TU = PW ++ TT := ⟨_, rfl⟩
  have N3 : News h₀ L h' ((Lo, listOf vs.toArray c) :: (Dw, LCg.lst ws) :: (L + 1 + 1 + 1, oW') :: TU) := newsS N2 fun q hq => by
    subst hTU hTT
    simp only [List.mem_cons, List.mem_append, List.not_mem_nil, or_false] at hq ⊢
    grind
  have hP : PtsIn TU vs ps := D9.pts.mono fun q hq => by
    subst hTU hTT
    exact List.mem_append_right _ (.tail _ (.tail _ (List.mem_append_left _ (List.mem_append_left _ hq))))
  have hQ : PtsIn TU ws (rowsP nh ng) := hPW.mono fun q hq => by
    subst hTU
    exact List.mem_append_left _ hq
  have hin := got_in G rfl rfl g0 h0
  have hlen : ps.length < 64 := by
    have z := rise_sub G.rise (rowsP_rise nh ng) hin
    rw [rowsP_len] at z
    have z2 := Nat.mul_le_mul (show ng ≤ 4 by omega) (show nh ≤ 32 by omega)
    have k1 := mul_abs (B := 4) (C := 4) (a := a0) (b := a3) b0 c0 b3 c3
    have k2 := mul_abs (B := 4) (C := 4) (a := a1) (b := a2) b1 c1 b2 c2
    have k3 : (ng : Int) * nh ≤ 32 := by rw [hcr]; split <;> omega
    have k4 : ng * nh ≤ 32 := by
      have e : ((ng * nh : Nat) : Int) = (ng : Int) * nh := Int.natCast_mul ng nh
      omega
    omega
  refine wpAny_execs_cons (s13 (s := { s with heap := h', toks := tk' }) hK X T F2 N3 hW' mO hP hQ hin G.rise hlen hdp hun hE fun h3 tk3 F3 N4 => ?_)
  refine wpAny_execs_cons (s14 (s := { s with heap := h3, toks := tk3 }) hK X T F3 N4 hW' mO mX hP hQ (fun h9 => got_all G rfl rfl g0 g4 h0 (by rw [hcr]; exact h9)) hdp hun hE fun h5 tk5 F5 N5 => ?_)
  have st := ledP_step K a4 a5
  refine s15 (s := { s with heap := h5, toks := tk5 }) (v1 := v1) (v2 := v2) (v3 := v3) (u0 := u0) (u1 := u1) (u2 := u2) (u3 := u3) (u4 := u4) (u5 := u5) (u6 := u6) (u7 := u7) (R0 := []) (X0 := a0 * a3 - a1 * a2) (t1 := t1) (t2 := t2) hK X T C1 C2 D9.tabs F5 (newsS N5 fun q hq => ?_) (fun q hq => D9.oT q ?_) mM m1 m2 m3 m4 mX g0 g4 h0 h32 K.s1 K.s2 b0 c0 b1 c1 b2 c2 b3 c3 b4 c4 b5 c5 b6 c6 b7 c7 (by split <;> omega) ?_ st.1 st.2 hdp hun hE hret
  · subst hTU hTT
    simp only [List.mem_cons, List.mem_append, List.not_mem_nil, or_false, List.nil_append] at hq ⊢
    grind
  · simp only [List.mem_cons, List.mem_append, List.not_mem_nil, or_false] at hq ⊢
    grind
  · rw [ledP_same g0 h0, K.span]
    exact cramer hX rfl
end
section
open PySem PySem.W PyProof.Rows
set_option maxRecDepth 100000 in
set_option maxHeartbeats 8000000 in
theorem s20 {w : World} {p : Program} {loose : List Str} {mean : ExcName → Option Value} {mg mb : Str → Option Value}
    {oc0 : Value} {od0 : Option Addr} {nm0 q0 : Str} {prm0 : Arguments} {st1 st2 st3 st4 st5 st6 st7 st8 stF stW stT stX st13 st14 st15 st16 st17 st18 : Stmt}
    {sc0 : Scope} {dV kV doc0 pm0 : Value} {an0 : Option Addr} {cdv0 ct0 cd : Value} {fa : Addr} {osl0 : Array (Option Value)}
    {L Lo M T1 T2 T3 T4 : Addr} {m : Str → Option Value} {sh a0 a1 a2 a3 a4 a5 a6 a7 : Int} {ng nh : Nat} {v1 v2 v3 u0 u1 u2 u3 u4 u5 u6 u7 xt gt ht' : Tok} {oW oH : Obj} {t1 t2 : List (Addr × Obj)}
    {dp un : Nat} {gd : Option (List Code)} {fr : Option (List Env)} {h₀ : Heap} {s : Shared} {Q : Flow → Shared → Prop} {E : Value → Shared → Prop}
    (hK : (Mine.hd.heap_39 w.params).lookup 93 = some ⟨oc0, od0, .func (fnOf nm0 q0 prm0 (st1 :: st2 :: st3 :: st4 :: st5 :: st6 :: st7 :: st8 :: stF :: stW :: stT :: stX :: st13 :: st14 :: st15 :: st16 :: st17 :: [st18]) sc0 dV kV doc0 pm0 an0 cdv0 ct0), osl0⟩)
    (X : (Mine.hd.heap_39 w.params).In h₀) (T : Top p loose mean mg mb h₀) (C1 : CodeHd h₀ 34 30) (C2 : CodeHd h₀ 41 37) (ht : Tabs t1 t2) (F : Fr h₀ L s.heap m)
    (N : News h₀ L s.heap ((Lo, listOf #[] 0) :: (M, tupO [.int (ng : Int) v1, .int sh v2, .int (nh : Int) v3]) :: (T1, tupO [.int a0 u0, .int a1 u1]) :: (T2, tupO [.int a2 u2, .int a3 u3]) :: (T3, tupO [.int a4 u4, .int a5 u5]) :: (T4, tupO [.int a6 u6, .int a7 u7]) :: (L + 1 + 1 + 1, oW) :: (L + 1 + 1, oH) :: (t1 ++ t2)))
    (lt : M < Lo ∧ T1 < Lo ∧ T2 < Lo ∧ T3 < Lo ∧ T4 < Lo ∧ L + 1 + 1 + 1 < Lo ∧ L + 1 + 1 < Lo ∧ AllLt Lo (t1 ++ t2))
    (oM : ∀ q ∈ t1 ++ t2, q.1 ≠ M) (oP : ∀ q ∈ t1 ++ t2, q.1 ≠ T1) (oO : ∀ q ∈ t1 ++ t2, q.1 ≠ T2) (q3 : ∀ q ∈ t1 ++ t2, q.1 ≠ T3) (q4 : ∀ q ∈ t1 ++ t2, q.1 ≠ T4) (qW : ∀ q ∈ t1 ++ t2, q.1 ≠ L + 1 + 1 + 1) (qH : ∀ q ∈ t1 ++ t2, q.1 ≠ L + 1 + 1)
    (r3 : M ≠ T3) (r4 : M ≠ T4) (rW : M ≠ L + 1 + 1 + 1) (rH : M ≠ L + 1 + 1)
    (hW : oW.data = .cell none) (hH : oH.data = .cell (some (.int (nh : Int) ht'))) (n1 : T1 ≠ L + 1 + 1 + 1) (n2 : T2 ≠ L + 1 + 1 + 1) (n3 : T3 ≠ L + 1 + 1 + 1) (n4 : T4 ≠ L + 1 + 1 + 1)
    (mO : m (Str.ofString "order") = some (.ref Lo)) (mM : m (Str.ofString "made") = some (.ref M)) (m1 : m (Str.ofString "one") = some (.ref T1)) (m2 : m (Str.ofString "other") = some (.ref T2)) (m3 : m (Str.ofString "first") = some (.ref T3)) (m4 : m (Str.ofString "second") = some (.ref T4))
    (mX : m (Str.ofString "crosswise") = some (.int (a0 * a3 - a1 * a2) xt)) (mG : m (Str.ofString "goes") = some (.int (ng : Int) gt)) (K : MadeOk a0 a1 a2 a3 ng sh nh) (hX : a0 * a3 - a1 * a2 ≠ 0)
    (b0 : -4 ≤ a0) (c0 : a0 ≤ 4) (b1 : -4 ≤ a1) (c1 : a1 ≤ 4) (b2 : -4 ≤ a2) (c2 : a2 ≤ 4) (b3 : -4 ≤ a3) (c3 : a3 ≤ 4) (b4 : -4 ≤ a4) (c4 : a4 ≤ 4) (b5 : -4 ≤ a5) (c5 : a5 ≤ 4) (b6 : -4 ≤ a6) (c6 : a6 ≤ 4) (b7 : -4 ≤ a7) (c7 : a7 ≤ 4)
    (hdp : dp + 300 < recursionLimit) (hun : un + 4000 < cLine) (hE : PassesOwn (model PySem.Challenge.rw_gv0003_01.row.prog w) (top0 dp un gd fr) (envOfC q0 sc0 L fa cd) E)
    (hret : ∀ h' tk' m' t1' t2', Tabs t1' t2' → Fr h₀ L h' m' → News h₀ L h' (t1' ++ t2') → Q (.ret (.bool true)) { s with heap := h', toks := tk' }) :
    wpAny (model PySem.Challenge.rw_gv0003_01.row.prog w) (top0 dp un gd fr) (exec stF (envOfC q0 sc0 L fa cd)) (fun f s' => match f with
      | .next => wpAny (model PySem.Challenge.rw_gv0003_01.row.prog w) (top0 dp un gd fr) (execs (stW :: stT :: stX :: st13 :: st14 :: st15 :: st16 :: st17 :: [st18]) (envOfC q0 sc0 L fa cd)) Q E s'
      | f => Q f s') E s := by
  have g0 := K.g0
  have nM1 : M ≠ T1 := fun e => by
    have z1 := (N _ (.tail _ (.head _))).1
    have z2 := (N _ (.tail _ (.tail _ (.head _)))).1
    dsimp only at z1 z2
    rw [e, z2] at z1
    cases z1
  have nM2 : M ≠ T2 := fun e => by
    have z1 := (N _ (.tail _ (.head _))).1
    have z2 := (N _ (.tail _ (.tail _ (.tail _ (.head _))))).1
    dsimp only at z1 z2
    rw [e, z2] at z1
    cases z1
  have D9 : Led9 [(T1, tupO [.int a0 u0, .int a1 u1]), (T2, tupO [.int a2 u2, .int a3 u3]), (T3, tupO [.int a4 u4, .int a5 u5]), (T4, tupO [.int a6 u6, .int a7 u7]), (L + 1 + 1 + 1, oW), (L + 1 + 1, oH)] Lo M (tupO [.int (ng : Int) v1, .int sh v2, .int (nh : Int) v3]) [] 0 [] [] t1 t2 := by
    refine ⟨ht, fun p hp q hq => ?_, fun q hq => ?_, fun q hq p hp => ?_, True.intro⟩
    · simp only [List.mem_cons, List.mem_append, List.not_mem_nil, or_false, List.nil_append] at hp
      rcases hp with rfl | rfl | rfl | rfl | rfl | rfl | rfl | rfl
      · exact Nat.ne_of_gt (allLt_mem lt.2.2.2.2.2.2.2 q hq)
      · exact (oM q hq).symm
      · exact (oP q hq).symm
      · exact (oO q hq).symm
      · exact (q3 q hq).symm
      · exact (q4 q hq).symm
      · exact (qW q hq).symm
      · exact (qH q hq).symm
    · simp only [List.mem_cons, List.not_mem_nil, or_false, List.nil_append] at hq
      rcases hq with rfl | rfl | rfl | rfl | rfl | rfl | rfl
      · exact Nat.ne_of_lt lt.1
      · exact Nat.ne_of_lt lt.2.1
      · exact Nat.ne_of_lt lt.2.2.1
      · exact Nat.ne_of_lt lt.2.2.2.1
      · exact Nat.ne_of_lt lt.2.2.2.2.1
      · exact Nat.ne_of_lt lt.2.2.2.2.2.1
      · exact Nat.ne_of_lt lt.2.2.2.2.2.2.1
    · rw [List.mem_singleton] at hp
      subst hp
      simp only [List.mem_cons, List.not_mem_nil, or_false] at hq
      rcases hq with rfl | rfl | rfl | rfl | rfl | rfl
      · exact nM1.symm
      · exact nM2.symm
      · exact r3.symm
      · exact r4.symm
      · exact rW.symm
      · exact rH.symm
  have N9 : News h₀ L s.heap (led9 [(T1, tupO [.int a0 u0, .int a1 u1]), (T2, tupO [.int a2 u2, .int a3 u3]), (T3, tupO [.int a4 u4, .int a5 u5]), (T4, tupO [.int a6 u6, .int a7 u7]), (L + 1 + 1 + 1, oW), (L + 1 + 1, oH)] Lo M (tupO [.int (ng : Int) v1, .int sh v2, .int (nh : Int) v3]) [] 0 [] t1 t2) := newsS N fun q hq => hq
  have G0 : Got ng sh nh 0 [] := ⟨List.Pairwise.nil, Int.le_refl _, (fun _ h => nomatch h), fun x y _ _ _ _ h => by omega⟩
  refine loop9 hK X T C1 C2 F D9 N9 G0 mO mM g0 K.g4 K.h0 K.h32 K.s1 K.s2 hdp hun hE fun h' tk' m' t1' t2' vs' c' ps' PL' F2 D2 N2 hm G2 => ?_
  exact s19 (s := { s with heap := h', toks := tk' }) hK X T C1 C2 F2 D2 N2 hW hH n1 n2 n3 n4 ((hm _ (by decide) (by decide) (by decide) (by decide)).trans mO) ((hm _ (by decide) (by decide) (by decide) (by decide)).trans mM) ((hm _ (by decide) (by decide) (by decide) (by decide)).trans m1)
    ((hm _ (by decide) (by decide) (by decide) (by decide)).trans m2) ((hm _ (by decide) (by decide) (by decide) (by decide)).trans m3) ((hm _ (by decide) (by decide) (by decide) (by decide)).trans m4) ((hm _ (by decide) (by decide) (by decide) (by decide)).trans mX) ((hm _ (by decide) (by decide) (by decide) (by decide)).trans mG)
    G2 K hX b0 c0 b1 c1 b2 c2 b3 c3 b4 c4 b5 c5 b6 c6 b7 c7 hdp hun hE hret
end
section
open PySem PySem.W PyProof.Rows
theorem freshS2 : (1 : Nat) = 1 := by
  (first | walk1 | rfl)
  w_top off
end
section
open PySem PySem.W PyProof.Rows
section
local macro_rules | `(tactic| walk_at "exec For Name Call cons nil") => `(tactic| (refine Held.out ?_))
local macro_rules | `(tactic| walk_at "CompSrc") => `(tactic| (k_here; k_dflt (refine LCg.CompSrc.range (by rfl) (by k_asm) (by k_asm) (by assumption) (by first | decide | rfl) (by first | rfl | decide) (by first | size_fits | exact Nat.le_of_ble_eq_true rfl) ?_; intro g'; lcg_lit)))
theorem compEndT {h₀ : Heap} {L I C D : Addr} {m : Str → Option Value} {s₁ : Shared} {oI oC oD : Obj} {rest : Value → List (Addr × Obj) → Prop} {y : Value} {h' : Heap} {tk : Nat} {p1 p2 : Addr × Obj} {l : List (Addr × Obj)}
    (F : Fr h₀ L h' m) (N : News h₀ L h' (p1 :: p2 :: (I, oI) :: (C, oC) :: (D, oD) :: l)) (off : LCg.Off3 I C D l) (n1 : p1.1 ≠ I) (n2 : p1.1 ≠ C) (n3 : p1.1 ≠ D) (r : rest y (p1 :: l)) :
    LCg.CompEnd h₀ L m s₁ I oI C oC D oD (fun _ => True) rest y { s₁ with heap := h', toks := tk } :=
  LCg.CompEnd.intro F N (p1 :: l) (fun p hp => by
    simp only [List.mem_cons] at hp ⊢
    rcases hp with rfl | rfl | rfl | rfl | hp
    · exact .inr (.inr (.inl rfl))
    · exact .inr (.inr (.inr (.inl rfl)))
    · exact .inr (.inr (.inr (.inr (.inl rfl))))
    · exact .inl rfl
    · exact .inr (.inr (.inr (.inr (.inr hp))))) ⟨⟨n1, n2, n3⟩, off⟩ trivial r
local macro_rules | `(tactic| walk_at "CompEnd") => `(tactic| (refine compEndT (by assumption) (by assumption) (by assumption) (by k_ne) (by k_ne) (by k_ne) ?_))
theorem s2_back {h₀ h h' : Heap} {L D' T1 T2 T3 T4 Dn W H Nn D : Addr} {m : Str → Option Value} {oD o1 o2 o3 o4 oDn oW oH oN o5 : Obj} {t t' : List (Addr × Obj)}
    (P : Post h h' ((T1, o1) :: (T2, o2) :: t) ((D, o5) :: (T1, o1) :: (T2, o2) :: t')) (F : Fr h₀ L h m) (N : News h₀ L h ((D', oD) :: (T4, o4) :: (T3, o3) :: (T2, o2) :: (T1, o1) :: (Dn, oDn) :: (W, oW) :: (H, oH) :: (Nn, oN) :: t))
    (x3 : ∀ q ∈ t, q.1 ≠ T3) (x4 : ∀ q ∈ t, q.1 ≠ T4) (xW : ∀ q ∈ t, q.1 ≠ W) (xH : ∀ q ∈ t, q.1 ≠ H) (n31 : T3 ≠ T1) (n32 : T3 ≠ T2) (n41 : T4 ≠ T1) (n42 : T4 ≠ T2) (nW1 : W ≠ T1) (nW2 : W ≠ T2) (nH1 : H ≠ T1) (nH2 : H ≠ T2) :
    Fr h₀ L h' m ∧ News h₀ L h' ((D, o5) :: (T1, o1) :: (T2, o2) :: (T3, o3) :: (T4, o4) :: (W, oW) :: (H, oH) :: t') ∧ (∀ q ∈ t', q.1 ≠ T3) ∧ (∀ q ∈ t', q.1 ≠ T4) ∧ (∀ q ∈ t', q.1 ≠ W) ∧ (∀ q ∈ t', q.1 ≠ H) ∧ D ≠ T3 ∧ D ≠ T4 ∧ D ≠ W ∧ D ≠ H := by
  obtain ⟨F3, N3, O3⟩ := P.back (rest := [(T3, o3), (T4, o4), (W, oW), (H, oH)]) F N (fun q hq => by
      simp only [List.mem_cons, List.not_mem_nil, or_false] at hq ⊢
      grind) (fun q hq => by
      simp only [List.mem_cons] at hq ⊢
      grind) (fun p hp q hq => by
      simp only [List.mem_cons, List.not_mem_nil, or_false] at hp hq
      rcases hp with rfl | rfl | rfl | rfl <;> rcases hq with rfl | rfl | hq <;> first | assumption | exact (x3 _ hq).symm | exact (x4 _ hq).symm | exact (xW _ hq).symm | exact (xH _ hq).symm)
  refine ⟨F3, fun p hp => N3 p (by
    simp only [List.mem_cons, List.mem_append, List.not_mem_nil, or_false] at hp ⊢
    grind), ?_, ?_, ?_, ?_, ?_, ?_, ?_, ?_⟩
  · exact fun q hq => O3 q (.tail _ (.tail _ (.tail _ hq))) (T3, o3) (.head _)
  · exact fun q hq => O3 q (.tail _ (.tail _ (.tail _ hq))) (T4, o4) (.tail _ (.head _))
  · exact fun q hq => O3 q (.tail _ (.tail _ (.tail _ hq))) (W, oW) (.tail _ (.tail _ (.head _)))
  · exact fun q hq => O3 q (.tail _ (.tail _ (.tail _ hq))) (H, oH) (.tail _ (.tail _ (.tail _ (.head _))))
  · exact O3 (D, o5) (.head _) (T3, o3) (.head _)
  · exact O3 (D, o5) (.head _) (T4, o4) (.tail _ (.head _))
  · exact O3 (D, o5) (.head _) (W, oW) (.tail _ (.tail _ (.head _)))
  · exact O3 (D, o5) (.head _) (H, oH) (.tail _ (.tail _ (.tail _ (.head _))))
set_option maxRecDepth 100000 in
set_option maxHeartbeats 8000000 in
theorem s2 {w : World} {p : Program} {loose : List Str} {mean : ExcName → Option Value} {mg mb : Str → Option Value}
    {oc0 : Value} {od0 : Option Addr} {nm0 q0 : Str} {prm0 : Arguments} {st1 st2 : Stmt} {rest : List Stmt}
    {sc0 : Scope} {dV kV doc0 pm0 : Value} {an0 : Option Addr} {cdv0 ct0 cd : Value} {fa : Addr} {osl0 : Array (Option Value)}
    {L Dn : Addr} {oW oH oN : Obj} {m : Str → Option Value} {a0 a1 a2 a3 a4 a5 a6 a7 : Int} {u0 u1 u2 u3 u4 u5 u6 u7 : Tok} {t1 t2 : List (Addr × Obj)}
    {dp un : Nat} {gd : Option (List Code)} {fr : Option (List Env)} {h₀ : Heap} {s : Shared} {Q : Flow → Shared → Prop} {E : Value → Shared → Prop} :
    (Mine.hd.heap_39 w.params).lookup 93 = some ⟨oc0, od0, .func (fnOf nm0 q0 prm0 (st1 :: st2 :: rest) sc0 dV kV doc0 pm0 an0 cdv0 ct0), osl0⟩ →
    (Mine.hd.heap_39 w.params).In h₀ → Top p loose mean mg mb h₀ → CodeHd h₀ 34 30 → CodeHd h₀ 41 37 → Tabs t1 t2 → Fr h₀ L s.heap m →
    News h₀ L s.heap ((Dn, LCg.lst [.int a0 u0, .int a1 u1, .int a2 u2, .int a3 u3, .int a4 u4, .int a5 u5, .int a6 u6, .int a7 u7]) :: (L + 1 + 1 + 1, oW) :: (L + 1 + 1, oH) :: (L + 1, oN) :: (t1 ++ t2)) →
    oN.data = .cell (some (.ref Dn)) → oH.data = .cell none → oW.data = .cell none →
    (∀ q ∈ t1 ++ t2, q.1 ≠ Dn) → (∀ q ∈ t1 ++ t2, q.1 ≠ L + 1) → (∀ q ∈ t1 ++ t2, q.1 ≠ L + 1 + 1) → (∀ q ∈ t1 ++ t2, q.1 ≠ L + 1 + 1 + 1) → (@Ne Nat (L + 1 + 1 + 1) Dn ∧ @Ne Nat (L + 1 + 1) Dn ∧ @Ne Nat (L + 1) Dn) →
    -4 ≤ a0 → a0 ≤ 4 → -4 ≤ a1 → a1 ≤ 4 → -4 ≤ a2 → a2 ≤ 4 → -4 ≤ a3 → a3 ≤ 4 → -4 ≤ a4 → a4 ≤ 4 → -4 ≤ a5 → a5 ≤ 4 → -4 ≤ a6 → a6 ≤ 4 → -4 ≤ a7 → a7 ≤ 4 →
    dp + 300 < recursionLimit → un + 4000 < cLine → PassesOwn (model PySem.Challenge.rw_gv0003_01.row.prog w) (top0 dp un gd fr) (envOfC q0 sc0 L fa cd) E →
    (∀ h' tk' m' s1 s2, Fr h₀ L h' m' → News h₀ L h' (s1 ++ s2) → Tabs s1 s2 → Q (.ret (.bool true)) { s with heap := h', toks := tk' }) →
    wpAny (model PySem.Challenge.rw_gv0003_01.row.prog w) (top0 dp un gd fr) (exec st2 (envOfC q0 sc0 L fa cd)) (fun f s' => match f with
      | .next => wpAny (model PySem.Challenge.rw_gv0003_01.row.prog w) (top0 dp un gd fr) (execs rest (envOfC q0 sc0 L fa cd)) Q E s'
      | f => Q f s') E s := by
  k_fill
  intro hK X T C1 C2 ht F N hN hH hW o1 o2 o3 o4 o5 b0 c0 b1 c1 b2 c2 b3 c3 b4 c4 b5 c5 b6 c6 b7 c7 hdp hun hE hret
  refine' lookFn 1 hK ?kk ?_
  case kk => k_is
  intro eq es e
  subst eq es
  dsimp only [List.drop] at e
  cases e
  clear hK
  k_steps
  · rename Fr _ _ _ _ => F1
    rename News _ _ _ _ => N1
    exact (show Q (.ret (.bool true)) _ from hret _ _ _ t1 t2 F1 (newsS N1 (fun q hq => .tail _ (.tail _ (.tail _ (.tail _ (.tail _ (.tail _ (.tail _ (.tail _ (.tail _ hq)))))))))) ht)
  · rename Fr _ _ _ _ => F1
    rename News _ _ _ _ => N1
    rename a0 * a3 - a1 * a2 ≠ 0 => hc
    have hm := made_ok b0 c0 b1 c1 b2 c2 b3 c3 hc
    k_dflt (refine' made w p loose mean mg mb _ _ _ _ h₀ _ _ _ t1 t2 _ _ a0 a1 a2 a3 u0 u1 u2 u3 (St.of F1 N1 ?sub) ht C1 C2 X T ?d1 ?d2 ?oo1 ?oo2 b0 c0 b1 c1 b2 c2 b3 c3 ?_)
    case sub =>
      intro q hq
      rcases List.mem_cons.mp hq with rfl | hq
      · exact .tail _ (.tail _ (.tail _ (.tail _ (.head _))))
      rcases List.mem_cons.mp hq with rfl | hq
      · exact .tail _ (.tail _ (.tail _ (.head _)))
      exact .tail _ (.tail _ (.tail _ (.tail _ (.tail _ (.tail _ (.tail _ (.tail _ (.tail _ hq))))))))
    case d1 => omega
    case d2 => omega
    case oo1 => (intro q hq; first | exact Nat.ne_of_lt (allLt_mem (by assumption) q hq) | (repeat (rename _ ∧ _ => hx; first | exact Nat.ne_of_lt (allLt_mem hx.2 q hq) | exact Nat.ne_of_lt (allLt_mem hx.2.2 q hq) | exact Nat.ne_of_lt (allLt_mem hx.2.2.2 q hq) | exact Nat.ne_of_lt (allLt_mem hx.2.2.2.2 q hq) | exact Nat.ne_of_lt (allLt_mem hx.2.2.2.2.2 q hq) | exact Nat.ne_of_lt (allLt_mem hx.2.2.2.2.2.2 q hq) | exact Nat.ne_of_lt (allLt_mem hx.2.2.2.2.2.2.2 q hq) | exact Nat.ne_of_lt (allLt_mem hx.2.2.2.2.2.2.2.2 q hq) | exact Nat.ne_of_lt (allLt_mem hx.2.2.2.2.2.2.2.2.2 q hq) | exact Nat.ne_of_lt (allLt_mem hx.2.2.2.2.2.2.2.2.2.2 q hq) | exact Nat.ne_of_lt (allLt_mem hx.2.2.2.2.2.2.2.2.2.2.2 q hq) | exact Nat.ne_of_lt (allLt_mem hx.2.2.2.2.2.2.2.2.2.2.2.2 q hq) | exact Nat.ne_of_lt (allLt_mem hx.2.2.2.2.2.2.2.2.2.2.2.2.2 q hq) | exact Nat.ne_of_lt (allLt_mem hx.2.2.2.2.2.2.2.2.2.2.2.2.2.2 q hq) | exact Nat.ne_of_lt (allLt_mem hx.2.2.2.2.2.2.2.2.2.2.2.2.2.2.2 q hq) | exact Nat.ne_of_lt (allLt_mem hx.2.2.2.2.2.2.2.2.2.2.2.2.2.2.2.2 q hq) | clear hx)))
    case oo2 => (intro q hq; first | exact Nat.ne_of_lt (allLt_mem (by assumption) q hq) | (repeat (rename _ ∧ _ => hx; first | exact Nat.ne_of_lt (allLt_mem hx.2 q hq) | exact Nat.ne_of_lt (allLt_mem hx.2.2 q hq) | exact Nat.ne_of_lt (allLt_mem hx.2.2.2 q hq) | exact Nat.ne_of_lt (allLt_mem hx.2.2.2.2 q hq) | exact Nat.ne_of_lt (allLt_mem hx.2.2.2.2.2 q hq) | exact Nat.ne_of_lt (allLt_mem hx.2.2.2.2.2.2 q hq) | exact Nat.ne_of_lt (allLt_mem hx.2.2.2.2.2.2.2 q hq) | exact Nat.ne_of_lt (allLt_mem hx.2.2.2.2.2.2.2.2 q hq) | exact Nat.ne_of_lt (allLt_mem hx.2.2.2.2.2.2.2.2.2 q hq) | exact Nat.ne_of_lt (allLt_mem hx.2.2.2.2.2.2.2.2.2.2 q hq) | exact Nat.ne_of_lt (allLt_mem hx.2.2.2.2.2.2.2.2.2.2.2 q hq) | exact Nat.ne_of_lt (allLt_mem hx.2.2.2.2.2.2.2.2.2.2.2.2 q hq) | exact Nat.ne_of_lt (allLt_mem hx.2.2.2.2.2.2.2.2.2.2.2.2.2 q hq) | exact Nat.ne_of_lt (allLt_mem hx.2.2.2.2.2.2.2.2.2.2.2.2.2.2 q hq) | exact Nat.ne_of_lt (allLt_mem hx.2.2.2.2.2.2.2.2.2.2.2.2.2.2.2 q hq) | exact Nat.ne_of_lt (allLt_mem hx.2.2.2.2.2.2.2.2.2.2.2.2.2.2.2.2 q hq) | clear hx)))
    generalize mk1 (euc 20 (a0, a1) (a2, a3)) = g at hm ⊢
    generalize mk2 (euc 20 (a0, a1) (a2, a3)) = sh at hm ⊢
    generalize mk3 (euc 20 (a0, a1) (a2, a3)) = hi at hm ⊢
    intro D t1' t2' v1 v2 v3 h2 tk2 ht2 hne2 P2 oP oO
    have B := s2_back P2 F1 N1 (by (intro q hq; first | exact Nat.ne_of_lt (allLt_mem (by assumption) q hq) | (repeat (rename _ ∧ _ => hx; first | exact Nat.ne_of_lt (allLt_mem hx.2 q hq) | exact Nat.ne_of_lt (allLt_mem hx.2.2 q hq) | exact Nat.ne_of_lt (allLt_mem hx.2.2.2 q hq) | exact Nat.ne_of_lt (allLt_mem hx.2.2.2.2 q hq) | exact Nat.ne_of_lt (allLt_mem hx.2.2.2.2.2 q hq) | exact Nat.ne_of_lt (allLt_mem hx.2.2.2.2.2.2 q hq) | exact Nat.ne_of_lt (allLt_mem hx.2.2.2.2.2.2.2 q hq) | exact Nat.ne_of_lt (allLt_mem hx.2.2.2.2.2.2.2.2 q hq) | exact Nat.ne_of_lt (allLt_mem hx.2.2.2.2.2.2.2.2.2 q hq) | exact Nat.ne_of_lt (allLt_mem hx.2.2.2.2.2.2.2.2.2.2 q hq) | exact Nat.ne_of_lt (allLt_mem hx.2.2.2.2.2.2.2.2.2.2.2 q hq) | exact Nat.ne_of_lt (allLt_mem hx.2.2.2.2.2.2.2.2.2.2.2.2 q hq) | exact Nat.ne_of_lt (allLt_mem hx.2.2.2.2.2.2.2.2.2.2.2.2.2 q hq) | exact Nat.ne_of_lt (allLt_mem hx.2.2.2.2.2.2.2.2.2.2.2.2.2.2 q hq) | exact Nat.ne_of_lt (allLt_mem hx.2.2.2.2.2.2.2.2.2.2.2.2.2.2.2 q hq) | exact Nat.ne_of_lt (allLt_mem hx.2.2.2.2.2.2.2.2.2.2.2.2.2.2.2.2 q hq) | clear hx)))) (by (intro q hq; first | exact Nat.ne_of_lt (allLt_mem (by assumption) q hq) | (repeat (rename _ ∧ _ => hx; first | exact Nat.ne_of_lt (allLt_mem hx.2 q hq) | exact Nat.ne_of_lt (allLt_mem hx.2.2 q hq) | exact Nat.ne_of_lt (allLt_mem hx.2.2.2 q hq) | exact Nat.ne_of_lt (allLt_mem hx.2.2.2.2 q hq) | exact Nat.ne_of_lt (allLt_mem hx.2.2.2.2.2 q hq) | exact Nat.ne_of_lt (allLt_mem hx.2.2.2.2.2.2 q hq) | exact Nat.ne_of_lt (allLt_mem hx.2.2.2.2.2.2.2 q hq) | exact Nat.ne_of_lt (allLt_mem hx.2.2.2.2.2.2.2.2 q hq) | exact Nat.ne_of_lt (allLt_mem hx.2.2.2.2.2.2.2.2.2 q hq) | exact Nat.ne_of_lt (allLt_mem hx.2.2.2.2.2.2.2.2.2.2 q hq) | exact Nat.ne_of_lt (allLt_mem hx.2.2.2.2.2.2.2.2.2.2.2 q hq) | exact Nat.ne_of_lt (allLt_mem hx.2.2.2.2.2.2.2.2.2.2.2.2 q hq) | exact Nat.ne_of_lt (allLt_mem hx.2.2.2.2.2.2.2.2.2.2.2.2.2 q hq) | exact Nat.ne_of_lt (allLt_mem hx.2.2.2.2.2.2.2.2.2.2.2.2.2.2 q hq) | exact Nat.ne_of_lt (allLt_mem hx.2.2.2.2.2.2.2.2.2.2.2.2.2.2.2 q hq) | exact Nat.ne_of_lt (allLt_mem hx.2.2.2.2.2.2.2.2.2.2.2.2.2.2.2.2 q hq) | clear hx)))) o4 o3 (by k_ne) (by k_ne) (by k_ne) (by k_ne) (by k_ne) (by k_ne) (by k_ne) (by k_ne)
    obtain ⟨F3, N3, q3, q4, qW, qH, r3, r4, rW, rH⟩ := B
    clear F1 N1 P2
    obtain ⟨g0, g4, h0, h32, s1, s2, hcr, hsp⟩ := hm
    dsimp only at F3 N3 ⊢
    obtain ⟨ng, rfl⟩ : ∃ n : Nat, g = n := ⟨g.toNat, by omega⟩
    obtain ⟨nh, rfl⟩ : ∃ n : Nat, hi = n := ⟨hi.toNat, by omega⟩
    k_steps
    · exfalso
      rename ¬ _ => q
      exact q hcr
    · unfold Held
      rename Fr _ _ _ _ => F5
      rename News _ _ _ _ => N5
      rename _ = Data.cell (some (Value.int (nh : Int) v3)) => dH
      rename_i Lo hLo ltL tkL
      exact s20 (by k_is) X T C1 C2 ht2 F5 N5 ltL hne2 oP oO q3 q4 qW qH r3 r4 rW rH hW dH (by k_ne) (by k_ne) (by k_ne) (by k_ne) rfl rfl rfl rfl rfl rfl rfl rfl ⟨g0, g4, h0, h32, s1, s2, hcr, hsp⟩ hc b0 c0 b1 c1 b2 c2 b3 c3 b4 c4 b5 c5 b6 c6 b7 c7 hdp hun hE (fun h' tk' m' t1' t2' z1 z2 z3 => hret h' tk' m' t1' t2' z2 z3 z1)
end
end
end
section
open PySem PySem.W PyProof.Rows
theorem uncons1 {ys : List Value} {l : List Int} {n : Nat} {P : Prop} (h : IntsAre ys l) (hn : l.length = n + 1) (hb : ∀ x ∈ l, -4 ≤ x ∧ x ≤ 4)
    (k : ∀ a u ys' l', IntsAre ys' l' → l'.length = n → (∀ x ∈ l', -4 ≤ x ∧ x ≤ 4) → ys = .int a u :: ys' → -4 ≤ a → a ≤ 4 → P) : P := by
  cases h with
  | nil => cases hn
  | cons a u r => exact k _ _ _ _ r (Nat.succ.inj hn) (fun x hx => hb x (.tail _ hx)) rfl (hb _ (.head _)).1 (hb _ (.head _)).2
theorem uncons8 {ys : List Value} {l : List Int} {P : Prop} (h : IntsAre ys l) (hlen : l.length = 8) (hb : ∀ x ∈ l, -4 ≤ x ∧ x ≤ 4)
    (k : ∀ (a0 a1 a2 a3 a4 a5 a6 a7 : Int) (u0 u1 u2 u3 u4 u5 u6 u7 : Tok), ys = [.int a0 u0, .int a1 u1, .int a2 u2, .int a3 u3, .int a4 u4, .int a5 u5, .int a6 u6, .int a7 u7] → -4 ≤ a0 → a0 ≤ 4 → -4 ≤ a1 → a1 ≤ 4 → -4 ≤ a2 → a2 ≤ 4 → -4 ≤ a3 → a3 ≤ 4 → -4 ≤ a4 → a4 ≤ 4 → -4 ≤ a5 → a5 ≤ 4 → -4 ≤ a6 → a6 ≤ 4 → -4 ≤ a7 → a7 ≤ 4 → P) : P := by
  refine uncons1 h hlen hb fun a0 u0 y1 l1 h1 n1 b1 e1 p0 q0 => ?_
  refine uncons1 h1 n1 b1 fun a1 u1 y2 l2 h2 n2 b2 e2 p1 q1 => ?_
  refine uncons1 h2 n2 b2 fun a2 u2 y3 l3 h3 n3 b3 e3 p2 q2 => ?_
  refine uncons1 h3 n3 b3 fun a3 u3 y4 l4 h4 n4 b4 e4 p3 q3 => ?_
  refine uncons1 h4 n4 b4 fun a4 u4 y5 l5 h5 n5 b5 e5 p4 q4 => ?_
  refine uncons1 h5 n5 b5 fun a5 u5 y6 l6 h6 n6 b6 e6 p5 q5 => ?_
  refine uncons1 h6 n6 b6 fun a6 u6 y7 l7 h7 n7 b7 e7 p6 q6 => ?_
  refine uncons1 h7 n7 b7 fun a7 u7 y8 l8 h8 n8 b8 e8 p7 q7 => ?_
  have e9 : y8 = [] := by
    cases h8 with
    | nil => rfl
    | cons _ _ _ => cases n8
  exact k a0 a1 a2 a3 a4 a5 a6 a7 u0 u1 u2 u3 u4 u5 u6 u7 (by rw [e1, e2, e3, e4, e5, e6, e7, e8, e9]) p0 q0 p1 q1 p2 q2 p3 q3 p4 q4 p5 q5 p6 q6 p7 q7
theorem eight {ys : List Value} {ns : List Int} {P : Prop} (h : IntsAre ys (List.map (fun k' => k'.fmod 9 - 4) (List.take 8 (ns ++ (List.replicate 8 [(0 : Int)]).flatten))))
    (k : ∀ (a0 a1 a2 a3 a4 a5 a6 a7 : Int) (u0 u1 u2 u3 u4 u5 u6 u7 : Tok), ys = [.int a0 u0, .int a1 u1, .int a2 u2, .int a3 u3, .int a4 u4, .int a5 u5, .int a6 u6, .int a7 u7] → -4 ≤ a0 → a0 ≤ 4 → -4 ≤ a1 → a1 ≤ 4 → -4 ≤ a2 → a2 ≤ 4 → -4 ≤ a3 → a3 ≤ 4 → -4 ≤ a4 → a4 ≤ 4 → -4 ≤ a5 → a5 ≤ 4 → -4 ≤ a6 → a6 ≤ 4 → -4 ≤ a7 → a7 ≤ 4 → P) : P := by
  generalize hl : List.map (fun k' : Int => k'.fmod 9 - 4) (List.take 8 (ns ++ (List.replicate 8 [(0 : Int)]).flatten)) = l at h
  have hlen : l.length = 8 := by
    rw [← hl]
    simp
  have hb : ∀ x ∈ l, -4 ≤ x ∧ x ≤ 4 := by
    rw [← hl]
    intro x hx
    obtain ⟨k, _, rfl⟩ := List.mem_map.mp hx
    have := Int.fmod_nonneg_of_pos k (show (0 : Int) < 9 by decide)
    have := Int.fmod_lt_of_pos k (show (0 : Int) < 9 by decide)
    omega
  clear hl
  refine uncons8 h hlen hb k
theorem s2w {w : World} {p : Program} {loose : List Str} {mean : ExcName → Option Value} {mg mb : Str → Option Value}
    {oc0 : Value} {od0 : Option Addr} {nm0 q0 : Str} {prm0 : Arguments} {st1 st2 : Stmt} {rest : List Stmt}
    {sc0 : Scope} {dV kV doc0 pm0 : Value} {an0 : Option Addr} {cdv0 ct0 cd : Value} {fa : Addr} {osl0 : Array (Option Value)}
    {L Dn : Addr} {oW oH oN : Obj} {e1 e2 e3 e4 : Addr × Obj} {m : Str → Option Value} {a0 a1 a2 a3 a4 a5 a6 a7 : Int} {u0 u1 u2 u3 u4 u5 u6 u7 : Tok}
    {dp un : Nat} {gd : Option (List Code)} {fr : Option (List Env)} {h₀ : Heap} {s : Shared} {Q : Flow → Shared → Prop} {E : Value → Shared → Prop}
    (hK : (Mine.hd.heap_39 w.params).lookup 93 = some ⟨oc0, od0, .func (fnOf nm0 q0 prm0 (st1 :: st2 :: rest) sc0 dV kV doc0 pm0 an0 cdv0 ct0), osl0⟩)
    (X : (Mine.hd.heap_39 w.params).In h₀) (T : Top p loose mean mg mb h₀) (C1 : CodeHd h₀ 34 30) (C2 : CodeHd h₀ 41 37) (F : Fr h₀ L s.heap m)
    (N : News h₀ L s.heap [(Dn, LCg.lst [.int a0 u0, .int a1 u1, .int a2 u2, .int a3 u3, .int a4 u4, .int a5 u5, .int a6 u6, .int a7 u7]), e1, e2, e3, e4, (L + 1 + 1 + 1, oW), (L + 1 + 1, oH), (L + 1, oN), (37, tabObj #[]), (30, tabObj #[])])
    (hN : oN.data = .cell (some (.ref Dn))) (hH : oH.data = .cell none) (hW : oW.data = .cell none)
    (o1 : e1.1 ≠ Dn ∧ e2.1 ≠ Dn ∧ e3.1 ≠ Dn ∧ e4.1 ≠ Dn ∧ @Ne Nat (L + 1 + 1 + 1) Dn ∧ @Ne Nat (L + 1 + 1) Dn ∧ @Ne Nat (L + 1) Dn ∧ @Ne Nat 37 Dn ∧ @Ne Nat 30 Dn) (l0 : @LT.lt Nat _ 37 L ∧ @LT.lt Nat _ 30 L)
    (b0 : -4 ≤ a0) (c0 : a0 ≤ 4) (b1 : -4 ≤ a1) (c1 : a1 ≤ 4) (b2 : -4 ≤ a2) (c2 : a2 ≤ 4) (b3 : -4 ≤ a3) (c3 : a3 ≤ 4) (b4 : -4 ≤ a4) (c4 : a4 ≤ 4) (b5 : -4 ≤ a5) (c5 : a5 ≤ 4) (b6 : -4 ≤ a6) (c6 : a6 ≤ 4) (b7 : -4 ≤ a7) (c7 : a7 ≤ 4)
    (hdp : dp + 300 < recursionLimit) (hun : un + 4000 < cLine) (hE : PassesOwn (model PySem.Challenge.rw_gv0003_01.row.prog w) (top0 dp un gd fr) (envOfC q0 sc0 L fa cd) E)
    (hret : ∀ h' tk' m' s1 s2, Fr h₀ L h' m' → News h₀ L h' (s1 ++ s2) → Tabs s1 s2 → Q (.ret (.bool true)) { s with heap := h', toks := tk' }) :
    wpAny (model PySem.Challenge.rw_gv0003_01.row.prog w) (top0 dp un gd fr) (exec st2 (envOfC q0 sc0 L fa cd)) (fun f s' => match f with
      | .next => wpAny (model PySem.Challenge.rw_gv0003_01.row.prog w) (top0 dp un gd fr) (execs rest (envOfC q0 sc0 L fa cd)) Q E s'
      | f => Q f s') E s := by
  have two : ∀ (n : Nat), n ≠ 37 → n ≠ 30 → ∀ q ∈ [(30, tabObj #[])] ++ [(37, tabObj #[])], @Ne Nat q.1 n := fun n z1 z2 q hq => by
    simp only [List.cons_append, List.nil_append, List.mem_cons, List.not_mem_nil, or_false] at hq
    rcases hq with rfl | rfl
    · exact z2.symm
    · exact z1.symm
  obtain ⟨_, _, _, _, y1, y2, y3, y4, y5⟩ := o1
  refine s2 (u0 := u0) (u1 := u1) (u2 := u2) (u3 := u3) (u4 := u4) (u5 := u5) (u6 := u6) (u7 := u7) (t1 := [(30, tabObj #[])]) (t2 := [(37, tabObj #[])]) (oW := oW) (oH := oH) (oN := oN) (Dn := Dn) hK X T C1 C2 ⟨.inl rfl, .inl rfl, Off.cons (fun q hq => by rw [List.mem_singleton.mp hq]; exact (by decide : (30 : Nat) ≠ 37)) Off.nil⟩ F (newsS N fun q hq => ?_) hN hH hW (two _ (by omega) (by omega)) (two _ (by omega) (by omega)) (two _ (by omega) (by omega)) (two _ (by omega) (by omega)) ⟨y1, y2, y3⟩
    b0 c0 b1 c1 b2 c2 b3 c3 b4 c4 b5 c5 b6 c6 b7 c7 hdp hun hE hret
  simp only [List.cons_append, List.nil_append, List.mem_cons, List.not_mem_nil, or_false] at hq ⊢
  grind
theorem grown_of {P : Addr} {line col : Nat} {qual : Str} {t news : List (Addr × Obj)} {h₀ h : Heap} {L : Addr} (x : Tab1 P line col qual t) (N : News h₀ L h news) (k : ∀ q ∈ t, q ∈ news) : GrownAt P h := by
  rcases x with rfl | ⟨c, oc, vs, kk, rfl, _⟩
  · exact ⟨_, (N _ (k _ (.head _))).1⟩
  · exact ⟨_, (N _ (k _ (.head _))).1⟩
theorem grown_all {t1 t2 : List (Addr × Obj)} {h₀ h : Heap} {L : Addr} (x : Tabs t1 t2) (N : News h₀ L h (t1 ++ t2)) : GrownAll [(41, 37), (34, 30)] h :=
  ⟨grown_of x.b N (fun _ hq => List.mem_append_right _ hq), grown_of x.a N (fun _ hq => List.mem_append_left _ hq), True.intro⟩
end
section
open PySem PySem.W PyProof.Rows
theorem freshW1 : (1 : Nat) = 1 := by
  (first | walk1 | rfl)
  w_top off
end
section
open PySem PySem.W PyProof.Rows
section
local macro_rules | `(tactic| walk_at "exec Assign cons ListComp") => `(tactic| ((with_reducible show wpAny _ _ (exec (Stmt.Assign [Expr.Tuple _ _ _] _ _) _) _ _ _); refine Held.out ?_))
local macro_rules | `(tactic| walk_at "subscriptTail") => `(tactic| (k_here; (fail_if_success (with_reducible show wpAny _ _ (subscriptTail (PySem.Expr.Name _ _) _ _ _) _ _ _)); k_dflt (refine kba_turn (value' := PySem.Expr.Name (PySem.Str.ofString "_") ⟨0, 0, 0, 0⟩) (fun _ => rfl) ?_)))
set_option maxRecDepth 100000 in
set_option maxHeartbeats 8000000 in
theorem X : PySem.Challenge.rw_gv0003_01.Holds := Mine.hd (by
  k_go0; (all_goals try k_fold); k_steps
  unfold Held
  rename Fr _ _ _ _ => F1
  rename News _ _ _ _ => N1
  rename IntsAre ys _ => hI
  refine eight hI ?_
  intro a0 a1 a2 a3 a4 a5 a6 a7 u0 u1 u2 u3 u4 u5 u6 u7 e8 b0 c0 b1 c1 b2 c2 b3 c3 b4 c4 b5 c5 b6 c6 b7 c7
  subst e8
  k_dflt (refine' s2w ?hK ?X ?T ?C1 ?C2 F1 N1 ?hN ?oH ?oW ?o1 ?l0 b0 c0 b1 c1 b2 c2 b3 c3 b4 c4 b5 c5 b6 c6 b7 c7 ?dp ?un ?hE ?hret)
  case hK => k_is
  case X => assumption
  case T => assumption
  case C1 => assumption
  case C2 => assumption
  case hN => assumption
  case o1 => assumption
  case oH => assumption
  case oW => assumption
  case l0 => assumption
  case dp => first | decide | (show _ < recursionLimit; decide +kernel)
  case un => first | decide | (show _ < cLine; decide +kernel)
  case hE => first | passes_own | with_unfolding_all passes_own
  case hret =>
    intro h' tk' m' s1 s2 F N ht
    refine ⟨?_, grown_all ht N⟩
    wrow_close)
end
end
end
end Mine
theorem PySem.Challenge.cw_gv0003_01_holds : PySem.Challenge.rw_gv0003_01.Holds := by
  exact Mine.X
