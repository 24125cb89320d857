import PyProof.Rows.All
import Wide.All
import OpenK.AllK
import Wide.FinOn
import PyProof.ExcStrAll.ZeroDivisionError
import PyProof.ExcFactsAll.ZeroDivisionError
import PyProof.ExcStrCall
import PySem.Challenge.RW_mq0470_01
set_option Elab.async false

section
open PySem PySem.W PyProof.Rows
namespace Mine
set_option maxRecDepth 100000 in
set_option maxHeartbeats 8000000 in
open_top hd for PySem.Challenge.rw_mq0470_01
end Mine
end

theorem Mine.still : True := by
  w_top off
  exact True.intro

section
open PySem PySem.W PyProof.Rows PySem.Calls
namespace Mine

/-- a call of f on vs from a ledger: what comes back, and the ledger behind it -/
def Meet (w : World) (f : Addr) (k : Nat) (vs : List Value) (news : List (Addr × Obj)) (R : Value → List (Addr × Obj) → Prop) : Prop :=
  ∀ (p : Program) (loose : List Str) (mean : ExcName → Option Value) (mg mb : Str → Option Value) (dp un : Nat) (gd : Option (List Code)) (cn : Str) (cs : Scope) (a : Addr) (ccd : Value) (cl : List (Str × Addr)) (outer : List Env) (A₀ : Around) (base h₀ : Heap) (L : Addr) (m : Str → Option Value) (s : Shared) (Q E : Value → Shared → Prop),
    Below A₀ base outer h₀ → Fr h₀ L s.heap m → (Mine.hd.heap_39 w.params).In h₀ → News h₀ L s.heap news → Top p loose mean mg mb h₀ → CodeHd base 41 37 → CodeHd base 34 30 → cs.kind = .function → dp + k < recursionLimit → un + 8 * k < cLine →
    (∀ r news' h' tk', R r news' → Fr h₀ L h' m → News h₀ L h' news' → Q r { s with heap := h', toks := tk' }) →
    wpAny (model PySem.Challenge.rw_mq0470_01.row.prog w) (ktrTop dp un gd cn cs L a ccd cl outer) (call (.ref f) vs) Q E s

abbrev tupOf (its : Array Value) : Obj := { cls := .type "tuple", data := .seq its }


theorem log2_lt_of {x : Nat} {k : Nat} (h : x < 2 ^ k) (hk : 0 < k) : x.log2 < k := by
  by_cases h0 : x = 0
  · rw [h0]; simpa using hk
  · exact (Nat.log2_lt h0).mpr h

set_option maxRecDepth 100000 in
set_option maxHeartbeats 8000000 in
theorem div2n1n (w : World) (a b n : Int) (ta tb tn : Tok) (news : List (Addr × Obj)) (hb : b ≠ 0) (hb2 : b.natAbs < 2 ^ 400) (h1 : (Builtin.Int.intBits a : Int) - n ≤ 4000) :
    Meet w 21 1 [.int a ta, .int b tb, .int n tn] news (fun r news' => ∃ x t1 t2, r = .ref x ∧ news' = (x, tupOf #[.int (a.fdiv b) t1, .int (a.fmod b) t2]) :: news ∧ ∀ p ∈ news, p.1 < x) := by
  unfold Meet
  k_fill
  intro p loose mean mg mb dp un gd cn cs a' ccd cl outer A₀ base h₀ L m s Q E B F X N T C1 C2 hk hd hu hret
  refine wpAny_call ?_
  k_dflt cell_enter
  k_steps
  rename News _ _ _ _ => N9
  refine divmod_N (by assumption) (by assumption) hb ?_ (Or.inl (PyProof.noPylong_of_log2 (Nat.lt_trans (log2_lt_of hb2 (by decide)) (by decide))))
  intro h1' F1 N1
  have lt : ∀ p ∈ news, p.1 < _ := fun p hp => Heap.lt_size (N9 p hp).1
  k_steps
  exact hret _ _ _ _ ⟨_, _, _, rfl, rfl, lt⟩ (by assumption) (by assumption)
end Mine
end

section
open PySem PySem.W PyProof.Rows PySem.Calls PySem.Spec
namespace Mine

section
variable {prog : Program} {w : World} {A₀ A : Around} {s : Shared} {base h₀ : Heap} {outer : List Env} {L : Addr} {m mg mb : Str → Option Value} {env : Env} {led rest : List (Addr × Obj)} {K : Frag} {p : Program} {loose : List Str} {mean : ExcName → Option Value}
  {R : Result → Shared → Prop} {name qual : Str} {params : Arguments} {body : List Stmt} {scope : Scope} {cl : List (Str × Addr)} {dV kV doc pm cdv ct : Value} {an : Option Addr} {fo : Obj} {f : Addr} {args : Args} {binds : List (Str × Value)}

theorem news_left (N : News h₀ L s.heap (led ++ rest)) : News h₀ L s.heap led := fun q hq => N q (List.mem_append_left _ hq)
theorem news_right (N : News h₀ L s.heap (led ++ rest)) : News h₀ L s.heap rest := fun q hq => N q (List.mem_append_right _ hq)
theorem news_sub {h : Heap} {l l' : List (Addr × Obj)} (N : News h₀ L h l) (hs : ∀ q ∈ l', q ∈ l) : News h₀ L h l' := fun q hq => N q (hs q hq)
/-- what the callee's ground holds is still there behind the call -/
theorem rest_back {g h : Heap} {L' : Addr} {m' : Str → Option Value} (N : News h₀ L g rest) (F : Fr g L' h m') : News h₀ L h rest := fun q hq => ⟨F.keep _ _ (N q hq).1, (N q hq).2⟩
theorem rest_ground (N : News h₀ L s.heap (led ++ rest)) (hdis : ∀ q ∈ rest, ∀ r ∈ led, q.1 ≠ r.1) : News h₀ L (hideAll s.heap (led.map (·.1))) rest := fun q hq =>
  ⟨hideAll_get _ (N q (List.mem_append_right _ hq)).1 (fun h => by
    obtain ⟨r, hr, e⟩ := List.mem_map.mp h
    exact hdis q hq r hr e.symm), (N q (List.mem_append_right _ hq)).2⟩
theorem news_join {h : Heap} {l l' : List (Addr × Obj)} (N : News h₀ L h l) (N' : News h₀ L h l') : News h₀ L h (l ++ l') := fun q hq => (List.mem_append.mp hq).elim (N q) (N' q)

/-- a def is entered; of the ledger only led goes along, the rest lies in the ground -/
theorem enter_plain (B : Below A₀ base outer h₀) (F : Fr h₀ L s.heap m) (N : News h₀ L s.heap (led ++ rest)) (T : Top p loose mean mg mb h₀) (X : K.In h₀) (hA : A.frames = some (env :: outer)) (hf : env.frame = some L) (hke : env.scope.kind = .function)
    (ho : s.heap.get? f = some fo) (hd : fo.data = .func (fnX name qual params body scope cl dV kV doc pm an cdv ct)) (hcd : s.heap.CodeRec cdv qual) (hroom : A.depth < recursionLimit)
    (hbind : BindsTo s (fnX name qual params body scope cl dV kV doc pm an cdv ct) args binds) (hloc : ∀ y ∈ binds, scope.names.lookup y.1 = some .local)
    (hdis : ∀ q ∈ rest, ∀ r ∈ led, q.1 ≠ r.1)
    (h : ∀ g L' h₁, Fr h₀ L g m → Fr g L' h₁ (fun y => binds.reverse.lookup y) → News g L' h₁ led → Below A base (env :: outer) g → K.In g → Top p loose mean mg mb g → News h₀ L g rest → (∀ p ∈ led ++ rest, p.1 < L') →
      wpAny (model prog w) (A.deeper (envX qual scope L' f cdv cl)) (execs body (envX qual scope L' f cdv cl))
        (fun fl s' => LeaveK h₀ L m g R (match fl with | .ret v => v | _ => .none) s')
        (fun e s' => wpAny (model prog w) (A.deeper (envX qual scope L' f cdv cl)) (leaving (envX qual scope L' f cdv cl) e) (fun _ s'' => R (.error e) s'') (fun e' s'' => R (.error e') s'') s')
        { s with heap := h₁, toks := s.toks + binds.length })
    (hcell : ∀ x ∈ scope.names, x.2 ≠ .cell) (hco : scope.isCoroutine = false) (hgen : scope.isGenerator = false) (hk : scope.kind = .function) : codeAny (model prog w) A (.call (.ref f) args) R s := by
  have N₀ := news_left N
  obtain ⟨FG, BG, st, lv⟩ := groundX (R := R) B F N₀ hA hf hke
  refine codeAny_call_def (fd := fnX name qual params body scope cl dV kV doc pm an cdv ct) (body := body) (binds := binds) hroom ho hd (T.nolimit.keeps F.keep) hcd rfl hbind hcell hloc (fun h₁ hns hk₁ => ?_) hco hgen hk
  refine wpAny_mono (h _ s.heap.objs.size h₁ FG ⟨hns, fun b o e => hk₁ b o (of_hideAll _ e), Nat.le_of_eq (hideAll_size _ _)⟩
    (fun q hq => ⟨hk₁ _ _ (N₀ q hq).1, Nat.ne_of_lt (Heap.lt_size (N₀ q hq).1), hideAll_none _ (List.mem_map_of_mem hq)⟩) BG (X.keeps st) (T.keeps st) (rest_ground N hdis) (fun q hq => Heap.lt_size (N q hq).1)) (fun fl s' hl => lv _ _ hl) fun _ _ y => y

/-- the same for a def whose locals are captured -/
theorem enter_cells (B : Below A₀ base outer h₀) (F : Fr h₀ L s.heap m) (N : News h₀ L s.heap (led ++ rest)) (T : Top p loose mean mg mb h₀) (X : K.In h₀) (hA : A.frames = some (env :: outer)) (hf : env.frame = some L) (hke : env.scope.kind = .function)
    (ho : s.heap.get? f = some fo) (hd : fo.data = .func (fnX name qual params body scope [] dV kV doc pm an cdv ct)) (hcd : s.heap.CodeRec cdv qual) (hroom : A.depth < recursionLimit)
    (hbind : BindsTo s (fnX name qual params body scope [] dV kV doc pm an cdv ct) args binds)
    (hkind : (binds.all fun y => scope.names.lookup y.1 == some .local || scope.names.lookup y.1 == some .cell) = true)
    (hnd : ((cellsFrom 0 scope.names []).map (·.1)).Nodup)
    (hdis : ∀ q ∈ rest, ∀ r ∈ led, q.1 ≠ r.1)
    (h : ∀ g L' h₁ tk cells, Fr h₀ L g m → Fr g L' h₁ (bindL (envOfC qual scope L' f cdv).kindOf binds fun _ => none) → News g L' h₁ (cells ++ led) →
      CellsAre (bindC (envOfC qual scope L' f cdv).kindOf binds fun _ => none) (cellsFrom (L' + 1) scope.names []) cells → Below A base (env :: outer) g → K.In g → Top p loose mean mg mb g → News h₀ L g rest → (∀ p ∈ led ++ rest, p.1 < L') →
      wpAny (model prog w) (A.deeper (envOfC qual scope L' f cdv)) (execs body (envOfC qual scope L' f cdv))
        (fun fl s' => LeaveK h₀ L m g R (match fl with | .ret v => v | _ => .none) s')
        (fun e s' => wpAny (model prog w) (A.deeper (envOfC qual scope L' f cdv)) (leaving (envOfC qual scope L' f cdv) e) (fun _ s'' => R (.error e) s'') (fun e' s'' => R (.error e') s'') s')
        { s with heap := h₁, toks := tk })
    (hco : scope.isCoroutine = false) (hgen : scope.isGenerator = false) (hk : scope.kind = .function) : codeAny (model prog w) A (.call (.ref f) args) R s := by
  have N₀ := news_left N
  obtain ⟨FG, BG, st, lv⟩ := groundX (R := R) B F N₀ hA hf hke
  refine codeAny_call_function hroom ho hd hco hgen rfl hcd (hbind _ _ _ _ ?_)
  refine wpAny_newFunctionEnv_cells hk (kindsX hkind _) fun env' he s' x => ?_
  subst he
  refine ⟨(T.nolimit.keeps F.keep).keeps x.toInCall.keep, codeAny_func ?_⟩
  obtain ⟨h₁, tk, rfl, _⟩ := x.done
  have hk₁ := x.toInCall.keep
  obtain ⟨cells, NC, Y⟩ := Cl.news (h₀ := s.heap) (Nat.le_refl _) fun n c hm => ⟨x.cell n c (lookup_of_mem_nodup (cellsFrom_names scope.names 0 (s.heap.objs.size + 1) [] [] rfl ▸ hnd) hm), x.above n c hm⟩
  refine wpAny_mono (h _ s.heap.objs.size h₁ tk cells FG ⟨x.toInCall.ns, fun b o e => hk₁ b o (of_hideAll _ e), Nat.le_of_eq (hideAll_size _ _)⟩ (fun q hq => ?_) Y BG (X.keeps st) (T.keeps st) (rest_ground N hdis) (fun q hq => Heap.lt_size (N q hq).1)) (fun fl s' hl => lv _ _ hl) fun _ _ y => y
  rcases List.mem_append.mp hq with hq | hq
  · refine ⟨(NC q hq).1, (NC q hq).2.1, ?_⟩
    cases e : (hideAll s.heap (led.map (·.1))).get? q.1 with
    | none => rfl
    | some o => have := of_hideAll _ e; rw [(NC q hq).2.2] at this; cases this
  · exact ⟨hk₁ _ _ (N₀ q hq).1, Nat.ne_of_lt (Heap.lt_size (N₀ q hq).1), hideAll_none _ (List.mem_map_of_mem hq)⟩

variable {oc : Value} {od : Option Addr} {osl : Array (Option Value)}
theorem enter_def (B : Below A₀ base outer h₀) (F : Fr h₀ L s.heap m) (X : K.In h₀) (N : News h₀ L s.heap (led ++ rest)) (T : Top p loose mean mg mb h₀) (hA : A.frames = some (env :: outer)) (hf : env.frame = some L) (hke : env.scope.kind = .function)
    (ho : K.lookup f = some ⟨oc, od, .func (fnOf name qual params body scope dV kV doc pm an cdv ct), osl⟩) (hcd : codeIn K cdv qual = true) (hroom : A.depth < recursionLimit)
    (hbind : BindsTo s (fnOf name qual params body scope dV kV doc pm an cdv ct) args binds) (hloc : ∀ y ∈ binds, scope.names.lookup y.1 = some .local)
    (hdis : ∀ q ∈ rest, ∀ r ∈ led, q.1 ≠ r.1)
    (h : ∀ g L' h₁, Fr h₀ L g m → Fr g L' h₁ (fun y => binds.reverse.lookup y) → News g L' h₁ led → Below A base (env :: outer) g → K.In g → Top p loose mean mg mb g → News h₀ L g rest → (∀ p ∈ led ++ rest, p.1 < L') →
      wpAny (model prog w) (A.deeper (envOf qual scope L' f cdv)) (execs body (envOf qual scope L' f cdv))
        (fun fl s' => LeaveK h₀ L m g R (match fl with | .ret v => v | _ => .none) s')
        (fun e s' => wpAny (model prog w) (A.deeper (envOf qual scope L' f cdv)) (leaving (envOf qual scope L' f cdv) e) (fun _ s'' => R (.error e) s'') (fun e' s'' => R (.error e') s'') s')
        { s with heap := h₁, toks := s.toks + binds.length })
    (hco : scope.isCoroutine = false) (hgen : scope.isGenerator = false) (hk : scope.kind = .function)
    (hcell : ∀ x ∈ scope.names, x.2 ≠ .cell) : codeAny (model prog w) A (.call (.ref f) args) R s :=
  enter_plain (cl := []) B F N T X hA hf hke ((X.keeps F.keep) _ _ ho) rfl (codeRec_of (X.keeps F.keep) hcd) hroom hbind hloc hdis h hcell hco hgen hk

theorem enter_defC (B : Below A₀ base outer h₀) (F : Fr h₀ L s.heap m) (X : K.In h₀) (N : News h₀ L s.heap (led ++ rest)) (T : Top p loose mean mg mb h₀) (hA : A.frames = some (env :: outer)) (hf : env.frame = some L) (hke : env.scope.kind = .function)
    (ho : K.lookup f = some ⟨oc, od, .func (fnOf name qual params body scope dV kV doc pm an cdv ct), osl⟩) (hcd : codeIn K cdv qual = true) (hroom : A.depth < recursionLimit)
    (hbind : BindsTo s (fnOf name qual params body scope dV kV doc pm an cdv ct) args binds)
    (hkind : (binds.all fun y => scope.names.lookup y.1 == some .local || scope.names.lookup y.1 == some .cell) = true)
    (hnd : ((cellsFrom 0 scope.names []).map (·.1)).Nodup)
    (hdis : ∀ q ∈ rest, ∀ r ∈ led, q.1 ≠ r.1)
    (h : ∀ g L' h₁ tk cells, Fr h₀ L g m → Fr g L' h₁ (bindL (envOfC qual scope L' f cdv).kindOf binds fun _ => none) → News g L' h₁ (cells ++ led) →
      CellsAre (bindC (envOfC qual scope L' f cdv).kindOf binds fun _ => none) (cellsFrom (L' + 1) scope.names []) cells → Below A base (env :: outer) g → K.In g → Top p loose mean mg mb g → News h₀ L g rest → (∀ p ∈ led ++ rest, p.1 < L') →
      wpAny (model prog w) (A.deeper (envOfC qual scope L' f cdv)) (execs body (envOfC qual scope L' f cdv))
        (fun fl s' => LeaveK h₀ L m g R (match fl with | .ret v => v | _ => .none) s')
        (fun e s' => wpAny (model prog w) (A.deeper (envOfC qual scope L' f cdv)) (leaving (envOfC qual scope L' f cdv) e) (fun _ s'' => R (.error e) s'') (fun e' s'' => R (.error e') s'') s')
        { s with heap := h₁, toks := tk })
    (hco : scope.isCoroutine = false) (hgen : scope.isGenerator = false) (hk : scope.kind = .function) : codeAny (model prog w) A (.call (.ref f) args) R s :=
  enter_cells B F N T X hA hf hke ((X.keeps F.keep) _ _ ho) rfl (codeRec_of (X.keeps F.keep) hcd) hroom hbind hkind hnd hdis h hco hgen hk
end
end Mine
end

section
open PySem PySem.W PyProof.Rows PySem.Calls
namespace Mine

/-- base-B digits, lowest first -/
def digs (B : Int) : Nat → Int → List Int
  | 0, _ => []
  | k + 1, x => x % B :: digs B k (x / B)
/-- the worth of digits, lowest first -/
def und (B : Int) : List Int → Int
  | [] => 0
  | d :: l => d + B * und B l
/-- the worth of digits, highest first -/
def val (B : Int) (l : List Int) : Int := l.foldl (fun acc d => acc * B + d) 0

theorem digs_length (B : Int) : ∀ (k : Nat) (x : Int), (digs B k x).length = k
  | 0, _ => rfl
  | k + 1, x => by rw [digs, List.length_cons, digs_length B k]
theorem pow_pos' {B : Int} (hB : 0 < B) (k : Nat) : 0 < B ^ k := Int.pow_pos hB
theorem mod_div {x B C : Int} (hB : 0 < B) (hC : 0 < C) : (x % (B * C)) / B = (x / B) % C := by
  have hBC : 0 < B * C := Int.mul_pos hB hC
  have h1 := Int.emod_add_mul_ediv x (B * C)
  have h2 : x / (B * C) = x / B / C := (Int.ediv_ediv_of_nonneg (Int.le_of_lt hB)).symm
  have e : x % (B * C) = x - B * (C * (x / B / C)) := by rw [h2, Int.mul_assoc] at h1; omega
  rw [e, show x - B * (C * (x / B / C)) = x + B * (-(C * (x / B / C))) by rw [Int.mul_neg]; omega, Int.add_mul_ediv_left _ _ (by omega : B ≠ 0)]
  have h3 := Int.emod_add_mul_ediv (x / B) C
  omega
theorem digs_append {B : Int} (hB : 0 < B) (k₂ : Nat) : ∀ (k₁ : Nat) (x : Int), digs B (k₁ + k₂) x = digs B k₁ (x % B ^ k₁) ++ digs B k₂ (x / B ^ k₁)
  | 0, x => by simp [digs]
  | k₁ + 1, x => by
    have hp : B ^ (k₁ + 1) = B * B ^ k₁ := by rw [Int.pow_succ, Int.mul_comm]
    rw [show k₁ + 1 + k₂ = (k₁ + k₂) + 1 by omega, digs, digs, digs_append hB k₂ k₁ (x / B), hp, mod_div hB (pow_pos' hB k₁), Int.emod_emod_of_dvd _ (Int.dvd_mul_right _ _), Int.ediv_ediv_of_nonneg (Int.le_of_lt hB)]
    rfl
theorem digs_one {B x : Int} (h0 : 0 ≤ x) (h1 : x < B) : digs B 1 x = [x] := by
  rw [digs, digs, Int.emod_eq_of_lt h0 h1]
theorem und_append (B : Int) (l₂ : List Int) : ∀ l₁ : List Int, und B (l₁ ++ l₂) = und B l₁ + B ^ l₁.length * und B l₂
  | [] => by simp [und]
  | d :: l => by
    rw [List.cons_append, und, und, und_append B l₂ l, List.length_cons, Int.pow_succ, Int.mul_add, Int.mul_comm (B ^ l.length) B, Int.mul_assoc]
    omega
theorem val_snoc (B : Int) (l : List Int) (d : Int) : val B (l ++ [d]) = val B l * B + d := by simp [val]
theorem val_reverse (B : Int) : ∀ l : List Int, val B l.reverse = und B l
  | [] => rfl
  | d :: l => by rw [List.reverse_cons, val_snoc, val_reverse B l, und, Int.mul_comm]; omega
theorem und_reverse (B : Int) (l : List Int) : und B l.reverse = val B l := by
  rw [← val_reverse, List.reverse_reverse]
theorem und_digs {B : Int} (hB : 0 < B) : ∀ (k : Nat) (x : Int), 0 ≤ x → x < B ^ k → und B (digs B k x) = x
  | 0, x, h0, h1 => by simp at h1; simp [digs, und]; omega
  | k + 1, x, h0, h1 => by
    have hx : 0 ≤ x / B := Int.ediv_nonneg h0 (Int.le_of_lt hB)
    have hx2 : x / B < B ^ k := Int.ediv_lt_of_lt_mul hB (by rw [Int.pow_succ] at h1; exact h1)
    rw [digs, und, und_digs hB k _ hx hx2]
    exact Int.emod_add_mul_ediv x B
theorem und_bound {B : Int} (hB : 0 < B) : ∀ l : List Int, (∀ d ∈ l, 0 ≤ d ∧ d < B) → 0 ≤ und B l ∧ und B l < B ^ l.length
  | [], _ => by simp [und]
  | d :: l, h => by
    obtain ⟨i1, i2⟩ := und_bound hB l fun e he => h e (.tail _ he)
    obtain ⟨d1, d2⟩ := h d (.head _)
    have m1 : 0 ≤ B * und B l := Int.mul_nonneg (Int.le_of_lt hB) i1
    have m2 : B * (und B l + 1) ≤ B * B ^ l.length := Int.mul_le_mul_of_nonneg_left (by omega) (Int.le_of_lt hB)
    rw [Int.mul_add, Int.mul_one] at m2
    rw [und, List.length_cons, Int.pow_succ, Int.mul_comm (B ^ l.length) B]
    omega
theorem digs_bound {B : Int} (hB : 0 < B) : ∀ (k : Nat) (x : Int), ∀ d ∈ digs B k x, 0 ≤ d ∧ d < B
  | 0, _, d, h => nomatch h
  | k + 1, x, d, h => by
    rw [digs] at h
    rcases List.mem_cons.mp h with rfl | h
    · exact ⟨Int.emod_nonneg _ (by omega), Int.emod_lt_of_pos _ hB⟩
    · exact digs_bound hB k _ d h
/-- the bits of a product of a power and what lies above it -/
theorem and_high (x k : Nat) : x &&& (x / 2 ^ k * 2 ^ k) = x / 2 ^ k * 2 ^ k := by
  apply Nat.eq_of_testBit_eq
  intro i
  rw [Nat.testBit_and, ← Nat.shiftRight_eq_div_pow, ← Nat.shiftLeft_eq, Nat.testBit_shiftLeft, Nat.testBit_shiftRight]
  by_cases h : k ≤ i
  · rw [show k + (i - k) = i by omega]; simp [h]
  · simp [h]
theorem xor_low {x : Int} (hx : 0 ≤ x) (k : Nat) : Builtin.bitXor x (x / 2 ^ k * 2 ^ k) = x % 2 ^ k := by
  have hp : (0 : Int) < 2 ^ k := Int.pow_pos (by decide)
  have hd : 0 ≤ x / 2 ^ k := Int.ediv_nonneg hx (Int.le_of_lt hp)
  have hm : 0 ≤ x / 2 ^ k * 2 ^ k := Int.mul_nonneg hd (Int.le_of_lt hp)
  have ht : (x / 2 ^ k * 2 ^ k).toNat = x.toNat / 2 ^ k * 2 ^ k := by
    have e : x = ((x.toNat : Nat) : Int) := (Int.toNat_of_nonneg hx).symm
    have e2 : x / 2 ^ k * 2 ^ k = ((x.toNat / 2 ^ k * 2 ^ k : Nat) : Int) := by
      rw [Int.natCast_mul, Int.natCast_ediv, ← e, kbt_cast]
    rw [e2]; rfl
  rw [bitXor_and, bitAnd_pp hx hm, ht, and_high, ← ht, Int.toNat_of_nonneg hm]
  have := Int.emod_add_mul_ediv x (2 ^ k)
  rw [Int.mul_comm] at this
  omega
theorem pow_mul' (n k : Nat) : (2 : Int) ^ (n * k) = (2 ^ n) ^ k := Int.pow_mul ..
theorem bits_le {x : Int} {k : Nat} (h0 : 0 ≤ x) (h : x < 2 ^ k) : Builtin.Int.intBits x ≤ k := by
  unfold Builtin.Int.intBits
  split
  · exact Nat.zero_le _
  · rename_i hx
    have hx' : x.natAbs ≠ 0 := by simpa using hx
    have : x.natAbs < 2 ^ k := by
      have := kbt_cast k
      omega
    have := (Nat.log2_lt hx').mpr this
    omega
theorem lt_bits {x : Int} (h0 : 0 ≤ x) : x < 2 ^ Builtin.Int.intBits x := by
  unfold Builtin.Int.intBits
  split
  · rename_i hx
    have : x = 0 := by simpa using hx
    subst this; decide
  · have h := Nat.lt_log2_self (n := x.natAbs)
    have := kbt_cast (x.natAbs.log2 + 1)
    omega
end Mine
end

section
open PySem PySem.W PyProof.Rows PySem.Calls
namespace Mine

section
variable {w : World} {f : Addr} {k : Nat} {vs : List Value} {led : List (Addr × Obj)} {R : Value → List (Addr × Obj) → Prop} {p : Program} {loose : List Str} {mean : ExcName → Option Value} {mg mb : Str → Option Value} {dp un : Nat} {gd : Option (List Code)} {cn : Str} {cs : Scope} {a : Addr} {ccd : Value} {cl : List (Str × Addr)} {outer : List Env} {A₀ : Around} {base h₀ : Heap} {L : Addr} {m : Str → Option Value} {s : Shared} {Q E : Value → Shared → Prop}
theorem Meet.use (C : Meet w f k vs led R) (B : Below A₀ base outer h₀) (F : Fr h₀ L s.heap m) (X : (Mine.hd.heap_39 w.params).In h₀) (N : News h₀ L s.heap led) (T : Top p loose mean mg mb h₀) (C1 : CodeHd base 41 37) (C2 : CodeHd base 34 30) (hk : cs.kind = .function)
    (hd : dp + k < recursionLimit) (hu : un + 8 * k < cLine)
    (ret : ∀ r led' h' tk', R r led' → Fr h₀ L h' m → News h₀ L h' led' → Q r { s with heap := h', toks := tk' }) :
    wpAny (model PySem.Challenge.rw_mq0470_01.row.prog w) (ktrTop dp un gd cn cs L a ccd cl outer) (call (.ref f) vs) Q E s :=
  C _ _ _ _ _ _ _ _ _ _ _ _ _ _ _ _ _ _ _ _ _ _ B F X N T C1 C2 hk hd hu ret
end

def Hold (P : Prop) : Prop := P
theorem Hold.out {P : Prop} (h : Hold P) : P := h
theorem hold_in {P : Prop} (h : P) : Hold P := h

def nestedDef (i j : Nat) : Option Stmt := match PySem.Challenge.rw_mq0470_01.prog.main.body[i]? with
  | some (.FunctionDef _ _ b _ _ _ _ _ _ _) => b[j]?
  | _ => none
theorem take_set {ns : List Int} {lo : Nat} {x : Int} (h : lo < ns.length) : ns.set lo x = ns.take lo ++ [x] ++ ns.drop (lo + 1) := by
  rw [List.set_eq_take_append_cons_drop, if_pos h]; simp
theorem join_digs {B x : Int} (hB : 0 < B) {lo mid hi : Nat} (h1 : lo ≤ mid) (h2 : mid ≤ hi) (ns : List Int) (h3 : hi ≤ ns.length) :
    (ns.take lo ++ digs B (mid - lo) (x % B ^ (mid - lo)) ++ ns.drop mid).take mid ++ digs B (hi - mid) (x / B ^ (mid - lo)) ++ (ns.take lo ++ digs B (mid - lo) (x % B ^ (mid - lo)) ++ ns.drop mid).drop hi
      = ns.take lo ++ digs B (hi - lo) x ++ ns.drop hi := by
  have e1 : (ns.take lo).length = lo := by rw [List.length_take]; omega
  have e2 := digs_length B (mid - lo) (x % B ^ (mid - lo))
  rw [show hi - lo = (mid - lo) + (hi - mid) by omega, digs_append hB]
  have e3 : (ns.take lo ++ digs B (mid - lo) (x % B ^ (mid - lo))).length = mid := by rw [List.length_append]; omega
  rw [List.take_append_of_le_length (by omega), List.take_of_length_le (by omega), List.drop_append, List.drop_of_length_le (by omega), List.drop_drop]
  rw [e3, show mid + (hi - mid) = hi by omega]
  simp

local macro_rules | `(tactic| walk_at "call ref") => `(tactic| refine Hold.out ?_)
local macro_rules | `(tactic| walk_at "binaryOp RShift int int") => `(tactic| refine Hold.out ?_)
local macro_rules | `(tactic| walk_at "binaryOp LShift int int") => `(tactic| refine Hold.out ?_)
local macro_rules | `(tactic| walk_at "binaryOp BitXor int int") => `(tactic| refine Hold.out ?_)
local macro_rules | `(tactic| walk_at "binaryOp Mult int int") => `(tactic| refine Hold.out ?_)
set_option maxRecDepth 100000 in
set_option maxHeartbeats 8000000 in
theorem inner1 {params : Arguments} {body : List Stmt} {scope : Scope} {pos : Pos} (hs : nestedDef 4 1 = some (.FunctionDef (Str.ofString "inner") params body [] none [] scope none (Str.ofString "inner") pos))
    (w : World) (n : Nat) (tn : Tok) (hn : 1 ≤ n) (hn' : n ≤ 400) (f c' l cN cI cA : Addr) (oc oN oI oA : Obj) (qual : Str) (doc pm ctv : Value) (cvs : Array Value) (ct : Tok)
    (hN : oN.data = .cell (some (.int n tn))) (hI : oI.data = .cell (some (.ref f))) (hA : oA.data = .cell (some (.ref l))) (hoc : oc.data = .fields cvs) (hq : cvs[1]? = some (.str qual ct))
    (e1 : @LT.lt Nat _ cN l) (e2 : @LT.lt Nat _ cI l) (e3 : @LT.lt Nat _ cA l) (e4 : @LT.lt Nat _ l f) (e5 : @Ne Nat c' l) :
    ∀ (k : Nat) (x : Int) (lo hi : Nat) (tx tl th : Tok) (vs : List Value) (ns : List Int) (cnt : Nat) (rest : List (Addr × Obj)), hi - lo ≤ k → lo < hi → hi ≤ ns.length → ns.length ≤ 256 → 0 ≤ x → x < (2 ^ n) ^ (hi - lo) → IntsAre vs ns →
      (∀ q ∈ rest, @Ne Nat q.1 l ∧ @Ne Nat q.1 f ∧ @Ne Nat q.1 cI ∧ @Ne Nat q.1 cA ∧ @Ne Nat q.1 cN ∧ @Ne Nat q.1 c') →
      Meet w f k [.int x tx, .int lo tl, .int hi th] ([(l, listOf vs.toArray cnt), (f, fnMade (Str.ofString "inner") qual params body scope [(Str.ofString "n", cN), (Str.ofString "inner", cI), (Str.ofString "a_digits", cA)] doc pm c' ctv), (cI, oI), (cA, oA), (cN, oN), (c', oc)] ++ rest)
        (fun r led' => r = .none ∧ ∃ vs', IntsAre vs' (ns.take lo ++ digs (2 ^ n) (hi - lo) x ++ ns.drop hi) ∧ led' = [(l, listOf vs'.toArray cnt), (f, fnMade (Str.ofString "inner") qual params body scope [(Str.ofString "n", cN), (Str.ofString "inner", cI), (Str.ofString "a_digits", cA)] doc pm c' ctv), (cI, oI), (cA, oA), (cN, oN), (c', oc)] ++ rest) := by
  cases hs
  intro k
  induction k with
  | zero => intros; omega
  | succ k ih =>
    intro x lo hi tx tl th vs ns cnt rest hk h1 h2 h3 h4 h5 hv hr
    unfold Meet
    k_fill
    intro p loose mean mg mb dp un gd cn cs a' ccd cl outer A₀ base h₀ L m s Q E B F X N T C1 C2 hkk hd hu hret
    refine wpAny_call ?_
    have N1 := news_left N
    k_dflt (refine' enter_plain (K := Mine.hd.heap_39 w.params) B F N T X ?kA ?kF ?kK (N1 (f, _) (.tail _ (.head _))).1 ?kd (codeRec_news N1 (.tail _ (.tail _ (.tail _ (.tail _ (.tail _ (.head _)))))) hoc hq) ?k8 ?k9 ?kB ?kR ?_ ?c5 ?c2 ?c3 ?c4; (case kA => exact rfl); (case kF => exact rfl); (case kK => exact hkk); (case kd => exact rfl); (case k8 => ktr_room); (case k9 => exact BindsTo.of_eq rfl); (case kB => exact locs rfl); (case c5 => decide); (case c2 => exact rfl); (case c3 => exact rfl); (case c4 => exact rfl))
    case kR =>
      intro q hq r hr'
      have := hr q hq
      simp only [List.mem_cons, List.not_mem_nil, or_false] at hr'
      rcases hr' with rfl | rfl | rfl | rfl | rfl | rfl
      · exact this.1
      · exact this.2.1
      · exact this.2.2.1
      · exact this.2.2.2.1
      · exact this.2.2.2.2.1
      · exact this.2.2.2.2.2
    intro g' L' h' FG' F' N' B' X' T' NR l1
    clear N1 N
    (try dsimp only); (try k_fold)
    have hB : (0 : Int) < 2 ^ n := Int.pow_pos (by decide)
    k_steps
    · -- one digit
      rename Fr g' _ _ _ => F9
      rename News h₀ _ _ _ => N9
      rename (lo : Int) + 1 = hi => hlo
      have ehi : hi = lo + 1 := by omega
      refine hret _ _ _ _ ⟨rfl, _, ?_, rfl⟩ (by assumption) (news_join N9 (rest_back NR F9))
      rw [ehi, show lo + 1 - lo = 1 by omega] at h5
      rw [Int.pow_one] at h5
      rw [ehi, show lo + 1 - lo = 1 by omega, digs_one h4 h5, ← take_set (by omega)]
      simpa using ints_set hv lo
    · -- the two halves
      obtain ⟨mid, hmid⟩ : ∃ mid : Nat, mid = (lo + hi) / 2 := ⟨_, rfl⟩
      have em : ((lo : Int) + (hi : Int)).fdiv (2 ^ Int.toNat 1) = (mid : Int) := by
        rw [Int.fdiv_eq_ediv_of_nonneg _ (by decide)]; simp; omega
      refine hold_in (rshift_int (by decide) ?_)
      rw [em]
      k_steps
      have hm1 : lo < mid := by omega
      have hm2 : mid < hi := by omega
      refine hold_in (PyProof.Rows.mul_int ?_ (PySem.IntMulOk.of_right (Nat.le_trans (bits_le (k := 9) (by omega) (by omega)) (by decide))))
      obtain ⟨sh, hsh⟩ : ∃ sh : Nat, sh = n * (mid - lo) := ⟨_, rfl⟩
      have es : ((mid : Int) - (lo : Int)) * (n : Int) = (sh : Int) := by
        rw [hsh, Int.natCast_mul, Int.natCast_sub (by omega), Int.mul_comm]
      have hshb : sh ≤ 400 * 256 := by rw [hsh]; exact Nat.mul_le_mul hn' (by omega)
      have hps : (2 : Int) ^ sh = (2 ^ n) ^ (mid - lo) := by rw [hsh, pow_mul']
      have hp1 : (0 : Int) < (2 ^ n) ^ (mid - lo) := pow_pos' hB _
      have hp2 : (0 : Int) < (2 ^ n) ^ (hi - mid) := pow_pos' hB _
      have hp3 : ((2 : Int) ^ n) ^ (hi - lo) = (2 ^ n) ^ (hi - mid) * (2 ^ n) ^ (mid - lo) := by rw [← Int.pow_add]; congr 1; omega
      rw [es]
      k_steps
      refine hold_in (rshift_int (by omega) ?_)
      have eu : x.fdiv (2 ^ (sh : Int).toNat) = x / (2 ^ n) ^ (mid - lo) := by
        rw [Int.toNat_natCast, hps, Int.fdiv_eq_ediv_of_nonneg _ (Int.le_of_lt hp1)]
      obtain ⟨up, hup⟩ : ∃ up : Int, up = x / (2 ^ n) ^ (mid - lo) := ⟨_, rfl⟩
      have hu0 : 0 ≤ up := by rw [hup]; exact Int.ediv_nonneg h4 (Int.le_of_lt hp1)
      have hu1 : up < (2 ^ n) ^ (hi - mid) := by rw [hup]; exact Int.ediv_lt_of_lt_mul hp1 (by rw [← hp3]; exact h5)
      rw [eu, ← hup]
      k_steps
      have hub : Builtin.Int.intBits up ≤ 400 * 256 := Nat.le_trans (bits_le (k := n * (hi - mid)) hu0 (by rw [pow_mul']; exact hu1)) (Nat.mul_le_mul hn' (by omega))
      refine hold_in (lshift_int (by omega) (by omega) ?_)
      rw [Int.toNat_natCast]
      k_steps
      refine hold_in (xor_int ?_)
      have el : Builtin.bitXor x (up * 2 ^ sh) = x % (2 ^ n) ^ (mid - lo) := by
        rw [hup, ← hps, xor_low h4]
      obtain ⟨lw, hlw⟩ : ∃ lw : Int, lw = x % (2 ^ n) ^ (mid - lo) := ⟨_, rfl⟩
      have hl0 : 0 ≤ lw := by rw [hlw]; exact Int.emod_nonneg _ (by omega)
      have hl1 : lw < (2 ^ n) ^ (mid - lo) := by rw [hlw]; exact Int.emod_lt_of_pos _ hp1
      rw [el, ← hlw]
      k_steps
      refine hold_in ?_
      k_dflt (refine' Meet.use (ih lw lo mid _ _ _ vs ns cnt [] (by omega) hm1 (by omega) h3 hl0 hl1 hv (fun _ h => nomatch h)) ?k1 ?k2 ?k3 ?k4 ?k5 ?k6 ?k7 ?kK ?kd ?ku ?_; (case k1 => k_asm); (case k2 => k_asm); (case k3 => k_asm); (case k4 => k_asm); (case k5 => k_asm); (case k6 => k_asm); (case k7 => k_asm); (case kK => exact rfl); (case kd => ktr_room); (case ku => ktr_units))
      rintro r led' h9 tk9 ⟨rfl, vs1, hv1, rfl⟩ F9 N9
      simp only [List.cons_append, List.nil_append] at N9
      k_sweep
      have hlen : (ns.take lo ++ digs (2 ^ n) (mid - lo) lw ++ ns.drop mid).length = ns.length := by
        rw [List.length_append, List.length_append, digs_length, List.length_take, List.length_drop]; omega
      dsimp only
      k_steps
      refine hold_in ?_
      k_dflt (refine' Meet.use (ih up mid hi _ _ _ vs1 _ cnt [] (by omega) hm2 (by omega) (by omega) hu0 hu1 hv1 (fun _ h => nomatch h)) ?k1 ?k2 ?k3 ?k4 ?k5 ?k6 ?k7 ?kK ?kd ?ku ?_; (case k1 => k_asm); (case k2 => k_asm); (case k3 => k_asm); (case k4 => k_asm); (case k5 => k_asm); (case k6 => k_asm); (case k7 => k_asm); (case kK => exact rfl); (case kd => ktr_room); (case ku => ktr_units))
      rintro r led' h9 tk9 ⟨rfl, vs2, hv2, rfl⟩ F9 N9
      simp only [List.cons_append, List.nil_append] at N9
      k_sweep
      dsimp only
      k_steps
      rename Fr g' _ _ _ => F8
      rename News h₀ _ _ _ => N8
      refine hret _ _ _ _ ⟨rfl, vs2, ?_, rfl⟩ (by assumption) (news_join N8 (rest_back NR F8))
      rw [hup, hlw, join_digs hB (by omega) (by omega) ns h2] at hv2
      exact hv2
end Mine
end

section
open PySem PySem.W PyProof.Rows PySem.Calls
namespace Mine

/-- a code table of a def that makes a def, and the code made for it -/
def tabL (P line col : Nat) : Option (Addr × Obj) → List (Addr × Obj)
  | none => [(P, tabObj #[])]
  | some c => [(P, tabObj #[rawInt line, rawInt col, .ref c.1]), c]
def CodeOk (qual : Str) : Option (Addr × Obj) → Prop
  | none => True
  | some c => ∃ cvs ct, c.2.data = .fields cvs ∧ cvs[1]? = some (.str qual ct)
abbrev qual1 : Str := (Str.ofString "_int2digits" ++ ".<locals>.") ++ Str.ofString "inner"
abbrev qual2 : Str := (Str.ofString "_digits2int" ++ ".<locals>.") ++ Str.ofString "inner"

theorem ints_replicate (t : Tok) (x : Int) : ∀ k : Nat, IntsAre (List.replicate k (.int x t)) (List.replicate k x)
  | 0 => .nil
  | k + 1 => .cons x t (ints_replicate t x k)
theorem flat_replicate {α : Type} (x : α) : ∀ k : Nat, (List.replicate k [x]).flatten = List.replicate k x
  | 0 => rfl
  | k + 1 => by rw [List.replicate_succ, List.flatten_cons, flat_replicate x k]; rfl
/-- how many digits -/
def cnt (a : Int) (n : Nat) : Nat := (Builtin.Int.intBits a + n - 1) / n
theorem cnt_fdiv (a : Int) {n : Nat} (hn : 1 ≤ n) : ((Builtin.Int.intBits a : Int) + (n : Int) - 1).fdiv (n : Int) = (cnt a n : Int) := by
  rw [Int.fdiv_eq_ediv_of_nonneg _ (by omega), cnt, Int.natCast_ediv, Int.natCast_sub (by omega)]; rfl
theorem cnt_le (a : Int) {n : Nat} (hn : 1 ≤ n) : cnt a n ≤ Builtin.Int.intBits a := by
  unfold cnt
  have h : (Builtin.Int.intBits a + n - 1) / n * n ≤ Builtin.Int.intBits a + n - 1 := Nat.div_mul_le_self _ _
  by_cases hz : Builtin.Int.intBits a = 0
  · rw [hz]; simp only [Nat.zero_add]; rw [Nat.div_eq_of_lt (by omega)]; exact Nat.le_refl _
  · apply Nat.div_le_of_le_mul
    have : Builtin.Int.intBits a * 1 ≤ Builtin.Int.intBits a * n := Nat.mul_le_mul_left _ hn
    rw [Nat.mul_comm n]
    obtain ⟨b, hb⟩ : ∃ b, Builtin.Int.intBits a = b + 1 := ⟨_, (Nat.succ_pred hz).symm⟩
    rw [hb, Nat.succ_mul]
    have : b * 1 ≤ b * n := Nat.mul_le_mul_left _ hn
    omega
theorem le_cnt (a : Int) {n : Nat} (hn : 1 ≤ n) : Builtin.Int.intBits a ≤ n * cnt a n := by
  unfold cnt
  have := Nat.div_add_mod (Builtin.Int.intBits a + n - 1) n
  have := Nat.mod_lt (Builtin.Int.intBits a + n - 1) (show 0 < n by omega)
  omega
theorem lt_cnt {a : Int} (ha : 0 ≤ a) {n : Nat} (hn : 1 ≤ n) : a < (2 ^ n) ^ cnt a n := by
  rw [← pow_mul']
  exact Int.lt_of_lt_of_le (lt_bits ha) (by
    have := Nat.pow_le_pow_right (n := 2) (by decide) (le_cnt a hn)
    rw [← kbt_cast, ← kbt_cast]
    exact Int.ofNat_le.mpr this)
theorem cnt_pos {a : Int} (ha : a ≠ 0) {n : Nat} (hn : 1 ≤ n) : 0 < cnt a n := by
  have h := le_cnt a hn
  have : 0 < Builtin.Int.intBits a := by
    unfold Builtin.Int.intBits
    rw [if_neg (by simpa using ha)]
    omega
  rcases Nat.eq_zero_or_pos (cnt a n) with hz | hz
  · rw [hz] at h; omega
  · exact hz

/-- a code is no table -/
theorem code_ne_tab {h₀ h : Heap} {L c P : Addr} {oc : Obj} {ps cvs : Array Value} {qual : Str} {ct : Tok} {led : List (Addr × Obj)} (N : News h₀ L h led) (h1 : (P, tabObj ps) ∈ led) (h2 : (c, oc) ∈ led) (d1 : oc.data = .fields cvs) (d2 : cvs[1]? = some (.str qual ct))
    (hp : ∀ q t, ps[1]? ≠ some (.str q t)) : @Ne Nat c P := fun e => by
  have e1 := (N _ h1).1
  have e2 := (N _ h2).1
  dsimp only at e1 e2
  rw [show c = P from e, e1] at e2
  cases e2
  cases d1
  exact hp _ _ d2

local macro_rules | `(tactic| walk_at "call ref") => `(tactic| refine Hold.out ?_)
local macro_rules | `(tactic| walk_at "binaryOp Mult ref int") => `(tactic| refine Hold.out ?_)
local macro_rules | `(tactic| walk_at "call builtin:len") => `(tactic| refine Hold.out ?_)
local macro_rules | `(tactic| ktr_unf) => `(tactic| skip)
set_option maxRecDepth 100000 in
set_option maxHeartbeats 8000000 in
theorem int2digits (w : World) (a : Int) (n : Nat) (ta tn : Tok) (rest : List (Addr × Obj)) (t : Option (Addr × Obj)) (ht : CodeOk qual1 t) (ha : 0 ≤ a) (hb2 : a < 2 ^ 200) (hn : 1 ≤ n) (hn' : n ≤ 400) (hr : ∀ q ∈ rest, ∀ r ∈ tabL 30 32 4 t, q.1 ≠ r.1) :
    Meet w 35 250 [.int a ta, .int n tn] (tabL 30 32 4 t ++ rest) (fun r led' => ∃ l vs c, r = .ref l ∧ CodeOk qual1 (some c) ∧ IntsAre vs (digs (2 ^ n) (cnt a n) a) ∧
      led' = (l, listOf vs.toArray 0) :: (tabL 30 32 4 (some c) ++ rest) ∧ (∀ q ∈ rest, ∀ r ∈ tabL 30 32 4 (some c), q.1 ≠ r.1) ∧ ∀ q ∈ rest, @LT.lt Nat _ q.1 l) := by
  rcases t with _ | ⟨c, oc⟩
  · unfold tabL
    unfold Meet
    k_fill
    intro p loose mean mg mb dp un gd cn cs a' ccd cl outer A₀ base h₀ L m s Q E B F X N T C1 C2 hk hd hu hret
    refine wpAny_call ?_
    k_dflt (refine' enter_defC (led := [(30, tabObj #[])]) (rest := rest) B F X N T ?kA ?kF ?kK ?k6 ?k7 ?k8 ?k9 ?kB ?kD hr ?_ ?c2 ?c3 ?c4; (case kA => exact rfl); (case kF => exact rfl); (case kK => exact hk); (case k6 => k_is); (case k7 => k_is); (case k8 => ktr_room); (case k9 => exact BindsTo.of_eq rfl); (case kB => exact rfl); (case kD => decide +kernel); (case c2 => exact rfl); (case c3 => exact rfl); (case c4 => exact rfl); k_whole; intro g' L' h' tk' cells' FG' F' N' Y' B' X' T' NR l1; k_cells Y'; (try simp only [List.cons_append, List.nil_append] at N'); (try dsimp only); (try k_fold))
    have l0 : @LT.lt Nat _ 30 L' := l1 (30, tabObj #[]) (List.mem_append_left _ (.head _))
    have lr : ∀ q ∈ rest, @LT.lt Nat _ q.1 L' := fun q hq => l1 q (List.mem_append_right _ hq)
    clear N
    k_steps
    have hcn : cnt a n ≤ 200 := Nat.le_trans (cnt_le a hn) (bits_le ha hb2)
    rename News _ _ _ _ => N9
    rename Fr _ _ _ _ => F9
    k_dflt (refine hold_in (KMa.mul F9 N9 (PySem.IsL.isList (n := 0) (N9 _ (List.Mem.head _)).1) (by rw [cnt_fdiv a hn]; omega) (by rw [cnt_fdiv a hn]; omega) (by rw [cnt_fdiv a hn]; simp; omega) (by rw [cnt_fdiv a hn, Int.toNat_natCast, flat_replicate]) ?_))
    intro l2 h2 F2 N2 l3
    k_lt l3
    k_sweep
    have hi0 := ints_replicate tk' 0 (cnt a n)
    generalize List.replicate (cnt a n) (Value.int 0 tk') = vs0 at N2 hi0
    k_steps
    · rename_i f c' oc cvs ct' ctv dc h1 tkx d1 d2 lc lf h9 oI F8 N8 dI ha0
      simp only [Array.empty_append] at N8
      refine hold_in (len_ints_fit (PySem.IsL.isList (n := 0) (N8 (l2, _) (by k_mem)).1) hi0 (by rw [List.length_replicate]; omega) ?_)
      rw [List.length_replicate]
      k_steps
      refine hold_in ?_
      have hc0 := cnt_pos ha0 hn
      k_dflt (refine' Meet.use (inner1 rfl w n tn hn hn' f c' l2 (L' + 1) (L' + 1 + 1 + 1) (L' + 1 + 1) oc _ oI _ _ _ _ _ cvs _ ?dN dI ?dA d1 d2 (by omega) (by omega) (by omega) (by omega) (by omega) 200 a 0 (cnt a n) _ _ _ vs0 (List.replicate (cnt a n) 0) 0 [(30, tabObj #[rawInt 32, rawInt 4, .ref c'])] (by omega) hc0 (by rw [List.length_replicate]; omega) (by rw [List.length_replicate]; omega) ha (by rw [Nat.sub_zero]; exact lt_cnt ha hn) hi0 ?kR) ?k1 ?k2 ?k3 ?k4 ?k5 ?k6 ?k7 ?kK ?kd ?ku ?_; (case k1 => k_asm); (case k2 => k_asm); (case k3 => k_asm); (case k4 => exact news_sub N8 (by kcj_all)); (case dN => assumption); (case dA => assumption); (case k5 => k_asm); (case k6 => k_asm); (case k7 => k_asm); (case kK => exact rfl); (case kd => ktr_room); (case ku => ktr_units))
      case kR =>
        intro q hq
        rw [List.mem_singleton] at hq
        subst hq
        refine ⟨?_, ?_, ?_, ?_, ?_, ?_⟩ <;> (dsimp only; omega)
      rintro r led' h7 tk7 ⟨rfl, vs1, hv1, rfl⟩ F7 N7
      simp only [List.cons_append, List.nil_append] at N7
      rw [List.take_zero, List.nil_append, Nat.sub_zero, List.drop_of_length_le (by rw [List.length_replicate]; omega), List.append_nil] at hv1
      k_sweep
      dsimp only
      k_steps
      rename Fr g' _ _ _ => F6
      rename News h₀ _ _ _ => N6
      refine hret _ _ _ _ ⟨l2, vs1, (c', oc), rfl, ⟨cvs, _, d1, d2⟩, hv1, rfl, ?_, fun q hq => Nat.lt_trans (lr q hq) (by omega)⟩ (by assumption) (news_join (l := [(l2, _), (30, _), (c', oc)]) (news_sub N6 (by kcj_all)) (rest_back NR F6))
      intro q hq r hr'
      have := lr q hq
      simp only [tabL, List.mem_cons, List.not_mem_nil, or_false] at hr'
      rcases hr' with rfl | rfl
      · exact hr q hq (30, tabObj #[]) (.head _)
      · refine neN ?_; dsimp only; omega
    · rename_i f c' oc cvs ct' ctv dc h1 tkx d1 d2 lc lf h9 oI F8 N8 dI ha0 kF kN kT kX
      simp only [Array.empty_append] at kN
      subst ha0
      refine hret _ _ _ _ ⟨l2, vs0, (c', oc), rfl, ⟨cvs, _, d1, d2⟩, ?_, rfl, ?_, fun q hq => Nat.lt_trans (lr q hq) (by omega)⟩ (by assumption) (news_join (l := [(l2, _), (30, _), (c', oc)]) (news_sub kN (by kcj_all)) (rest_back NR F8))
      · have e0 : cnt 0 n = 0 := Nat.le_zero.mp (cnt_le 0 hn)
        rw [e0] at hi0 ⊢
        exact hi0
      · intro q hq r hr'
        have := lr q hq
        simp only [tabL, List.mem_cons, List.not_mem_nil, or_false] at hr'
        rcases hr' with rfl | rfl
        · exact hr q hq (30, tabObj #[]) (.head _)
        · refine neN ?_; dsimp only; omega
  · obtain ⟨cvs, ct', d1, d2⟩ := ht
    unfold tabL at hr ⊢
    dsimp only at hr d1 ⊢
    unfold Meet
    k_fill
    intro p loose mean mg mb dp un gd cn cs a' ccd cl outer A₀ base h₀ L m s Q E B F X N T C1 C2 hk hd hu hret
    refine wpAny_call ?_
    k_dflt (refine' enter_defC (led := [(30, tabObj #[rawInt 32, rawInt 4, .ref c]), (c, oc)]) (rest := rest) B F X N T ?kA ?kF ?kK ?k6 ?k7 ?k8 ?k9 ?kB ?kD hr ?_ ?c2 ?c3 ?c4; (case kA => exact rfl); (case kF => exact rfl); (case kK => exact hk); (case k6 => k_is); (case k7 => k_is); (case k8 => ktr_room); (case k9 => exact BindsTo.of_eq rfl); (case kB => exact rfl); (case kD => decide +kernel); (case c2 => exact rfl); (case c3 => exact rfl); (case c4 => exact rfl); k_whole; intro g' L' h' tk' cells' FG' F' N' Y' B' X' T' NR l1; k_cells Y'; (try simp only [List.cons_append, List.nil_append] at N'); (try dsimp only); (try k_fold))
    have l0 : @LT.lt Nat _ 30 L' := l1 (30, _) (List.mem_append_left _ (.head _))
    have lc : @LT.lt Nat _ c L' := l1 (c, oc) (List.mem_append_left _ (.tail _ (.head _)))
    have lr : ∀ q ∈ rest, @LT.lt Nat _ q.1 L' := fun q hq => l1 q (List.mem_append_right _ hq)
    have l30 := code_ne_tab N (.head _) (.tail _ (.head _)) d1 d2 (fun q t e => by cases e)
    clear N
    k_steps
    have hcn : cnt a n ≤ 200 := Nat.le_trans (cnt_le a hn) (bits_le ha hb2)
    rename News _ _ _ _ => N9
    rename Fr _ _ _ _ => F9
    k_dflt (refine hold_in (KMa.mul F9 N9 (PySem.IsL.isList (n := 0) (N9 _ (List.Mem.head _)).1) (by rw [cnt_fdiv a hn]; omega) (by rw [cnt_fdiv a hn]; omega) (by rw [cnt_fdiv a hn]; simp; omega) (by rw [cnt_fdiv a hn, Int.toNat_natCast, flat_replicate]) ?_))
    intro l2 h2 F2 N2 l3
    k_lt l3
    k_sweep
    have hi0 := ints_replicate tk' 0 (cnt a n)
    generalize List.replicate (cnt a n) (Value.int 0 tk') = vs0 at N2 hi0
    k_steps
    · rename_i f ctv dc h1 tkx lf h9 oI F8 N8 dI ha0
      refine hold_in (len_ints_fit (PySem.IsL.isList (n := 0) (N8 (l2, _) (by k_mem)).1) hi0 (by rw [List.length_replicate]; omega) ?_)
      rw [List.length_replicate]
      k_steps
      refine hold_in ?_
      have hc0 := cnt_pos ha0 hn
      k_dflt (refine' Meet.use (inner1 rfl w n tn hn hn' f c l2 (L' + 1) (L' + 1 + 1 + 1) (L' + 1 + 1) oc _ oI _ _ _ _ _ cvs _ ?dN dI ?dA d1 d2 (by omega) (by omega) (by omega) (by omega) (by omega) 200 a 0 (cnt a n) _ _ _ vs0 (List.replicate (cnt a n) 0) 0 [(30, tabObj #[rawInt 32, rawInt 4, .ref c])] (by omega) hc0 (by rw [List.length_replicate]; omega) (by rw [List.length_replicate]; omega) ha (by rw [Nat.sub_zero]; exact lt_cnt ha hn) hi0 ?kR) ?k1 ?k2 ?k3 ?k4 ?k5 ?k6 ?k7 ?kK ?kd ?ku ?_; (case k1 => k_asm); (case k2 => k_asm); (case k3 => k_asm); (case k4 => exact news_sub N8 (by kcj_all)); (case dN => assumption); (case dA => assumption); (case k5 => k_asm); (case k6 => k_asm); (case k7 => k_asm); (case kK => exact rfl); (case kd => ktr_room); (case ku => ktr_units))
      case kR =>
        intro q hq
        rw [List.mem_singleton] at hq
        subst hq
        refine ⟨?_, ?_, ?_, ?_, ?_, ?_⟩ <;> (dsimp only; omega)
      rintro r led' h7 tk7 ⟨rfl, vs1, hv1, rfl⟩ F7 N7
      simp only [List.cons_append, List.nil_append] at N7
      rw [List.take_zero, List.nil_append, Nat.sub_zero, List.drop_of_length_le (by rw [List.length_replicate]; omega), List.append_nil] at hv1
      k_sweep
      dsimp only
      k_steps
      rename Fr g' _ _ _ => F6
      rename News h₀ _ _ _ => N6
      refine hret _ _ _ _ ⟨l2, vs1, (c, oc), rfl, ⟨cvs, _, d1, d2⟩, hv1, rfl, ?_, fun q hq => Nat.lt_trans (lr q hq) (by omega)⟩ (by assumption) (news_join (l := [(l2, _), (30, _), (c, oc)]) (news_sub N6 (by kcj_all)) (rest_back NR F6))
      intro q hq r hr'
      have := lr q hq
      simp only [tabL, List.mem_cons, List.not_mem_nil, or_false] at hr'
      rcases hr' with rfl | rfl
      · exact hr q hq (30, _) (.head _)
      · exact hr q hq (c, oc) (.tail _ (.head _))
    · rename_i f ctv dc h1 tkx lf h9 oI F8 N8 dI ha0 kF kN kT kX
      subst ha0
      refine hret _ _ _ _ ⟨l2, vs0, (c, oc), rfl, ⟨cvs, _, d1, d2⟩, ?_, rfl, ?_, fun q hq => Nat.lt_trans (lr q hq) (by omega)⟩ (by assumption) (news_join (l := [(l2, _), (30, _), (c, oc)]) (news_sub kN (by kcj_all)) (rest_back NR F8))
      · have e0 : cnt 0 n = 0 := Nat.le_zero.mp (cnt_le 0 hn)
        rw [e0] at hi0 ⊢
        exact hi0
      · intro q hq r hr'
        have := lr q hq
        simp only [tabL, List.mem_cons, List.not_mem_nil, or_false] at hr'
        rcases hr' with rfl | rfl
        · exact hr q hq (30, _) (.head _)
        · exact hr q hq (c, oc) (.tail _ (.head _))
end Mine
end

section
open PySem PySem.W PyProof.Rows PySem.Calls
namespace Mine

theorem seg_one {ns : List Int} {lo : Nat} (h : lo < ns.length) (B : Int) : und B ((ns.drop lo).take 1) = ns.getD lo 0 := by
  rw [List.getD_eq_getElem?_getD, List.getElem?_eq_getElem h, List.drop_eq_getElem_cons h, List.take_succ_cons, List.take_zero, und, und, Int.mul_zero, Int.add_zero]
  rfl
theorem int_eq {a b : Int} {t : Tok} (h : a = b) : Value.int a t = Value.int b t := by rw [h]
theorem seg_split {B : Int} {ns : List Int} {lo mid hi : Nat} (h1 : lo ≤ mid) (h2 : mid ≤ hi) (h3 : hi ≤ ns.length) :
    und B ((ns.drop mid).take (hi - mid)) * B ^ (mid - lo) + und B ((ns.drop lo).take (mid - lo)) = und B ((ns.drop lo).take (hi - lo)) := by
  have e : (ns.drop lo).take (hi - lo) = (ns.drop lo).take (mid - lo) ++ (ns.drop mid).take (hi - mid) := by
    rw [show hi - lo = (mid - lo) + (hi - mid) by omega, List.take_add, List.drop_drop, show lo + (mid - lo) = mid by omega]
  have el : ((ns.drop lo).take (mid - lo)).length = mid - lo := by rw [List.length_take, List.length_drop]; omega
  rw [e, und_append, el, Int.mul_comm (B ^ (mid - lo))]
  omega

local macro_rules | `(tactic| walk_at "call ref") => `(tactic| refine Hold.out ?_)
local macro_rules | `(tactic| walk_at "binaryOp RShift int int") => `(tactic| refine Hold.out ?_)
local macro_rules | `(tactic| walk_at "binaryOp LShift int int") => `(tactic| refine Hold.out ?_)
local macro_rules | `(tactic| walk_at "binaryOp Mult int int") => `(tactic| refine Hold.out ?_)
set_option maxRecDepth 100000 in
set_option maxHeartbeats 8000000 in
theorem inner2 {params : Arguments} {body : List Stmt} {scope : Scope} {pos : Pos} (hs : nestedDef 5 0 = some (.FunctionDef (Str.ofString "inner") params body [] none [] scope none (Str.ofString "inner") pos))
    (w : World) (n : Nat) (tn : Tok) (hn : 1 ≤ n) (hn' : n ≤ 400) (f c' l cN cI cA : Addr) (oc oN oI oA : Obj) (qual : Str) (doc pm ctv : Value) (cvs : Array Value) (ct : Tok)
    (hN : oN.data = .cell (some (.int n tn))) (hI : oI.data = .cell (some (.ref f))) (hA : oA.data = .cell (some (.ref l))) (hoc : oc.data = .fields cvs) (hq : cvs[1]? = some (.str qual ct))
    (vs : List Value) (ns : List Int) (cnt : Nat) (h3 : ns.length ≤ 256) (hv : IntsAre vs ns) (hds : ∀ d ∈ ns, 0 ≤ d ∧ d < (2 ^ n : Int)) :
    ∀ (k : Nat) (lo hi : Nat) (tl th : Tok) (rest : List (Addr × Obj)), hi - lo ≤ k → lo < hi → hi ≤ ns.length →
      (∀ q ∈ rest, @Ne Nat q.1 l ∧ @Ne Nat q.1 f ∧ @Ne Nat q.1 cI ∧ @Ne Nat q.1 cA ∧ @Ne Nat q.1 cN ∧ @Ne Nat q.1 c') →
      Meet w f k [.int lo tl, .int hi th] ([(l, listOf vs.toArray cnt), (f, fnMade (Str.ofString "inner") qual params body scope [(Str.ofString "n", cN), (Str.ofString "inner", cI), (Str.ofString "digits", cA)] doc pm c' ctv), (cI, oI), (cA, oA), (cN, oN), (c', oc)] ++ rest)
        (fun r led' => (∃ t, r = .int (und (2 ^ n) ((ns.drop lo).take (hi - lo))) t) ∧ led' = [(l, listOf vs.toArray cnt), (f, fnMade (Str.ofString "inner") qual params body scope [(Str.ofString "n", cN), (Str.ofString "inner", cI), (Str.ofString "digits", cA)] doc pm c' ctv), (cI, oI), (cA, oA), (cN, oN), (c', oc)] ++ rest) := by
  cases hs
  intro k
  induction k with
  | zero => intros; omega
  | succ k ih =>
    intro lo hi tl th rest hk h1 h2 hr
    unfold Meet
    k_fill
    intro p loose mean mg mb dp un gd cn cs a' ccd cl outer A₀ base h₀ L m s Q E B F X N T C1 C2 hkk hd hu hret
    refine wpAny_call ?_
    have N1 := news_left N
    k_dflt (refine' enter_plain (K := Mine.hd.heap_39 w.params) B F N T X ?kA ?kF ?kK (N1 (f, _) (.tail _ (.head _))).1 ?kd (codeRec_news N1 (.tail _ (.tail _ (.tail _ (.tail _ (.tail _ (.head _)))))) hoc hq) ?k8 ?k9 ?kB ?kR ?_ ?c5 ?c2 ?c3 ?c4; (case kA => exact rfl); (case kF => exact rfl); (case kK => exact hkk); (case kd => exact rfl); (case k8 => ktr_room); (case k9 => exact BindsTo.of_eq rfl); (case kB => exact locs rfl); (case c5 => decide); (case c2 => exact rfl); (case c3 => exact rfl); (case c4 => exact rfl))
    case kR =>
      intro q hq r hr'
      have := hr q hq
      simp only [List.mem_cons, List.not_mem_nil, or_false] at hr'
      rcases hr' with rfl | rfl | rfl | rfl | rfl | rfl
      · exact this.1
      · exact this.2.1
      · exact this.2.2.1
      · exact this.2.2.2.1
      · exact this.2.2.2.2.1
      · exact this.2.2.2.2.2
    intro g' L' h' FG' F' N' B' X' T' NR l1
    clear N1 N
    (try dsimp only); (try k_fold)
    have hB : (0 : Int) < 2 ^ n := Int.pow_pos (by decide)
    k_steps
    · -- one digit
      rename Fr g' _ _ _ => F9
      rename News h₀ _ _ _ => N9
      rename (lo : Int) + 1 = hi => hlo
      have ehi : hi = lo + 1 := by omega
      refine hret _ _ _ _ ⟨⟨_, int_eq ?_⟩, rfl⟩ (by assumption) (news_join N9 (rest_back NR F9))
      rw [ehi, show lo + 1 - lo = 1 by omega, seg_one (by omega), Int.toNat_natCast]
    · -- the two halves
      obtain ⟨mid, hmid⟩ : ∃ mid : Nat, mid = (lo + hi) / 2 := ⟨_, rfl⟩
      have em : ((lo : Int) + (hi : Int)).fdiv (2 ^ Int.toNat 1) = (mid : Int) := by
        rw [Int.fdiv_eq_ediv_of_nonneg _ (by decide)]; simp; omega
      refine hold_in (rshift_int (by decide) ?_)
      rw [em]
      k_steps
      have hm1 : lo < mid := by omega
      have hm2 : mid < hi := by omega
      refine hold_in (PyProof.Rows.mul_int ?_ (PySem.IntMulOk.of_right (Nat.le_trans (bits_le (k := 9) (by omega) (by omega)) (by decide))))
      obtain ⟨sh, hsh⟩ : ∃ sh : Nat, sh = n * (mid - lo) := ⟨_, rfl⟩
      have es : ((mid : Int) - (lo : Int)) * (n : Int) = (sh : Int) := by
        rw [hsh, Int.natCast_mul, Int.natCast_sub (by omega), Int.mul_comm]
      have hshb : sh ≤ 400 * 256 := by rw [hsh]; exact Nat.mul_le_mul hn' (by omega)
      have hps : (2 : Int) ^ sh = (2 ^ n) ^ (mid - lo) := by rw [hsh, pow_mul']
      rw [es]
      k_steps
      refine hold_in ?_
      k_dflt (refine' Meet.use (ih mid hi _ _ [] (by omega) hm2 h2 (fun _ h => nomatch h)) ?k1 ?k2 ?k3 ?k4 ?k5 ?k6 ?k7 ?kK ?kd ?ku ?_; (case k1 => k_asm); (case k2 => k_asm); (case k3 => k_asm); (case k4 => k_asm); (case k5 => k_asm); (case k6 => k_asm); (case k7 => k_asm); (case kK => exact rfl); (case kd => ktr_room); (case ku => ktr_units))
      rintro r led' h9 tk9 ⟨⟨t1, rfl⟩, rfl⟩ F9 N9
      simp only [List.cons_append, List.nil_append] at N9
      k_sweep
      dsimp only
      k_steps
      have hub : Builtin.Int.intBits (und (2 ^ n) ((ns.drop mid).take (hi - mid))) ≤ 400 * 256 := by
        obtain ⟨b1, b2⟩ := und_bound hB ((ns.drop mid).take (hi - mid)) fun d hd => hds d (List.mem_of_mem_drop (List.mem_of_mem_take hd))
        refine Nat.le_trans (bits_le (k := n * ((ns.drop mid).take (hi - mid)).length) b1 (by rw [pow_mul']; exact b2)) (Nat.mul_le_mul hn' ?_)
        rw [List.length_take, List.length_drop]; omega
      refine hold_in (lshift_int (by omega) (by omega) ?_)
      rw [Int.toNat_natCast]
      k_steps
      refine hold_in ?_
      k_dflt (refine' Meet.use (ih lo mid _ _ [] (by omega) hm1 (by omega) (fun _ h => nomatch h)) ?k1 ?k2 ?k3 ?k4 ?k5 ?k6 ?k7 ?kK ?kd ?ku ?_; (case k1 => k_asm); (case k2 => k_asm); (case k3 => k_asm); (case k4 => k_asm); (case k5 => k_asm); (case k6 => k_asm); (case k7 => k_asm); (case kK => exact rfl); (case kd => ktr_room); (case ku => ktr_units))
      rintro r led' h9 tk9 ⟨⟨t2, rfl⟩, rfl⟩ F9 N9
      simp only [List.cons_append, List.nil_append] at N9
      k_sweep
      dsimp only
      k_steps
      rename Fr g' _ _ _ => F8
      rename News h₀ _ _ _ => N8
      refine hret _ _ _ _ ⟨⟨_, int_eq ?_⟩, rfl⟩ (by assumption) (news_join N8 (rest_back NR F8))
      rw [hps, seg_split (by omega) (by omega) h2]
end Mine
end

section
open PySem PySem.W PyProof.Rows PySem.Calls
namespace Mine

/-- a list is no record of fields -/
theorem list_ne_fields {h₀ h : Heap} {L l P : Addr} {oP : Obj} {ps its : Array Value} {n : Nat} {led : List (Addr × Obj)} (N : News h₀ L h led) (h1 : (P, oP) ∈ led) (h2 : (l, listOf its n) ∈ led) (hp : oP.data = .fields ps) : @Ne Nat l P := fun e => by
  have e1 := (N _ h1).1
  have e2 := (N _ h2).1
  dsimp only at e1 e2
  rw [show l = P from e, e1] at e2
  cases e2
  cases hp

local macro_rules | `(tactic| walk_at "call ref") => `(tactic| refine Hold.out ?_)
local macro_rules | `(tactic| walk_at "call builtin:len") => `(tactic| refine Hold.out ?_)
set_option maxRecDepth 100000 in
set_option maxHeartbeats 8000000 in
theorem digits2int (w : World) (n : Nat) (tn : Tok) (l : Addr) (vs : List Value) (ns : List Int) (vn : Nat) (rest : List (Addr × Obj)) (t : Option (Addr × Obj)) (ht : CodeOk qual2 t) (hn : 1 ≤ n) (hn' : n ≤ 400) (h3 : ns.length ≤ 200) (hv : IntsAre vs ns) (hds : ∀ d ∈ ns, 0 ≤ d ∧ d < (2 ^ n : Int))
    (hr : ∀ q ∈ rest, ∀ r ∈ ((l, listOf vs.toArray vn) :: tabL 37 47 4 t), q.1 ≠ r.1) :
    Meet w 42 250 [.ref l, .int n tn] (((l, listOf vs.toArray vn) :: tabL 37 47 4 t) ++ rest) (fun r led' => ∃ x c, r = .int (und (2 ^ n) ns) x ∧ CodeOk qual2 (some c) ∧
      led' = ((l, listOf vs.toArray vn) :: tabL 37 47 4 (some c)) ++ rest ∧ (∀ q ∈ rest, ∀ r ∈ ((l, listOf vs.toArray vn) :: tabL 37 47 4 (some c)), q.1 ≠ r.1)) := by
  rcases t with _ | ⟨c, oc⟩
  · unfold tabL
    unfold Meet
    k_fill
    intro p loose mean mg mb dp un gd cn cs a' ccd cl outer A₀ base h₀ L m s Q E B F X N T C1 C2 hk hd hu hret
    refine wpAny_call ?_
    k_dflt (refine' enter_defC (led := [(l, listOf vs.toArray vn), (37, tabObj #[])]) (rest := rest) B F X N T ?kA ?kF ?kK ?k6 ?k7 ?k8 ?k9 ?kB ?kD hr ?_ ?c2 ?c3 ?c4; (case kA => exact rfl); (case kF => exact rfl); (case kK => exact hk); (case k6 => k_is); (case k7 => k_is); (case k8 => ktr_room); (case k9 => exact BindsTo.of_eq rfl); (case kB => exact rfl); (case kD => decide +kernel); (case c2 => exact rfl); (case c3 => exact rfl); (case c4 => exact rfl); k_whole; intro g' L' h' tk' cells' FG' F' N' Y' B' X' T' NR l1; k_cells Y'; (try simp only [List.cons_append, List.nil_append] at N'); (try dsimp only); (try k_fold))
    have l0 : @LT.lt Nat _ 37 L' := l1 (37, _) (List.mem_append_left _ (.tail _ (.head _)))
    have ll : @LT.lt Nat _ l L' := l1 (l, _) (List.mem_append_left _ (.head _))
    have lr : ∀ q ∈ rest, @LT.lt Nat _ q.1 L' := fun q hq => l1 q (List.mem_append_right _ hq)
    have l37 := list_ne_fields N (.tail _ (.head _)) (.head _) rfl
    clear N
    k_steps
    · rename_i f c' oc cvs ct' ctv dc h1 tkx d1 d2 lc lf h9 oI F8 N8 dI ha0
      simp only [Array.empty_append] at N8
      refine hold_in (len_ints_fit (PySem.IsL.isList (n := vn) (N8 (l, _) (by k_mem)).1) hv (by omega) ?_)
      k_steps
      refine hold_in ?_
      k_dflt (refine' Meet.use (inner2 rfl w n tn hn hn' f c' l (L' + 1 + 1) (L' + 1 + 1 + 1) (L' + 1) oc _ oI _ _ _ _ _ cvs _ ?dN dI ?dA d1 d2 vs ns vn (by omega) hv hds 200 0 ns.length _ _ [(37, tabObj #[rawInt 47, rawInt 4, .ref c'])] (by omega) ha0 (Nat.le_refl _) ?kR) ?k1 ?k2 ?k3 ?k4 ?k5 ?k6 ?k7 ?kK ?kd ?ku ?_; (case k1 => k_asm); (case k2 => k_asm); (case k3 => k_asm); (case k4 => exact news_sub N8 (by kcj_all)); (case dN => assumption); (case dA => assumption); (case k5 => k_asm); (case k6 => k_asm); (case k7 => k_asm); (case kK => exact rfl); (case kd => ktr_room); (case ku => ktr_units))
      case kR =>
        intro q hq
        rw [List.mem_singleton] at hq
        subst hq
        refine ⟨?_, ?_, ?_, ?_, ?_, ?_⟩ <;> (dsimp only; omega)
      rintro r led' h7 tk7 ⟨⟨t1, rfl⟩, rfl⟩ F7 N7
      simp only [List.cons_append, List.nil_append] at N7
      rw [List.drop_zero, Nat.sub_zero, List.take_length]
      k_sweep
      dsimp only
      k_steps
      rename Fr g' _ _ _ => F6
      rename News h₀ _ _ _ => N6
      refine hret _ _ _ _ ⟨_, (c', oc), rfl, ⟨cvs, _, d1, d2⟩, rfl, ?_⟩ (by assumption) (news_join (l := [(l, _), (37, _), (c', oc)]) (news_sub N6 (by kcj_all)) (rest_back NR F6))
      intro q hq r hr'
      have := lr q hq
      simp only [tabL, List.mem_cons, List.not_mem_nil, or_false] at hr'
      rcases hr' with rfl | rfl | rfl
      · exact hr q hq (l, _) (.head _)
      · exact hr q hq (37, tabObj #[]) (.tail _ (.head _))
      · refine neN ?_; dsimp only; omega
    · rename_i f c' oc cvs ct' ctv dc h1 tkx d1 d2 lc lf h9 oI F8 N8 dI ha0 kF kN kT kX
      simp only [Array.empty_append] at kN
      have e0 : ns = [] := List.length_eq_zero_iff.mp (by omega)
      subst e0
      refine hret _ _ _ _ ⟨_, (c', oc), rfl, ⟨cvs, _, d1, d2⟩, rfl, ?_⟩ (by assumption) (news_join (l := [(l, _), (37, _), (c', oc)]) (news_sub kN (by kcj_all)) (rest_back NR F8))
      · intro q hq r hr'
        have := lr q hq
        simp only [tabL, List.mem_cons, List.not_mem_nil, or_false] at hr'
        rcases hr' with rfl | rfl | rfl
        · exact hr q hq (l, _) (.head _)
        · exact hr q hq (37, tabObj #[]) (.tail _ (.head _))
        · refine neN ?_; dsimp only; omega
  · obtain ⟨cvs, ct', d1, d2⟩ := ht
    unfold tabL at hr ⊢
    dsimp only at hr d1 ⊢
    unfold Meet
    k_fill
    intro p loose mean mg mb dp un gd cn cs a' ccd cl outer A₀ base h₀ L m s Q E B F X N T C1 C2 hk hd hu hret
    refine wpAny_call ?_
    k_dflt (refine' enter_defC (led := [(l, listOf vs.toArray vn), (37, tabObj #[rawInt 47, rawInt 4, .ref c]), (c, oc)]) (rest := rest) B F X N T ?kA ?kF ?kK ?k6 ?k7 ?k8 ?k9 ?kB ?kD hr ?_ ?c2 ?c3 ?c4; (case kA => exact rfl); (case kF => exact rfl); (case kK => exact hk); (case k6 => k_is); (case k7 => k_is); (case k8 => ktr_room); (case k9 => exact BindsTo.of_eq rfl); (case kB => exact rfl); (case kD => decide +kernel); (case c2 => exact rfl); (case c3 => exact rfl); (case c4 => exact rfl); k_whole; intro g' L' h' tk' cells' FG' F' N' Y' B' X' T' NR l1; k_cells Y'; (try simp only [List.cons_append, List.nil_append] at N'); (try dsimp only); (try k_fold))
    have l0 : @LT.lt Nat _ 37 L' := l1 (37, _) (List.mem_append_left _ (.tail _ (.head _)))
    have ll : @LT.lt Nat _ l L' := l1 (l, _) (List.mem_append_left _ (.head _))
    have lr : ∀ q ∈ rest, @LT.lt Nat _ q.1 L' := fun q hq => l1 q (List.mem_append_right _ hq)
    have lc : @LT.lt Nat _ c L' := l1 (c, oc) (List.mem_append_left _ (.tail _ (.tail _ (.head _))))
    have lk := code_ne_tab N (.tail _ (.head _)) (.tail _ (.tail _ (.head _))) d1 d2 (fun q t e => by cases e)
    have ll2 := list_ne_fields N (.tail _ (.tail _ (.head _))) (.head _) d1
    have l37 := list_ne_fields N (.tail _ (.head _)) (.head _) rfl
    clear N
    k_steps
    · rename_i f ctv dc h1 tkx lf h9 oI F8 N8 dI ha0
      refine hold_in (len_ints_fit (PySem.IsL.isList (n := vn) (N8 (l, _) (by k_mem)).1) hv (by omega) ?_)
      k_steps
      refine hold_in ?_
      k_dflt (refine' Meet.use (inner2 rfl w n tn hn hn' f c l (L' + 1 + 1) (L' + 1 + 1 + 1) (L' + 1) oc _ oI _ _ _ _ _ cvs _ ?dN dI ?dA d1 d2 vs ns vn (by omega) hv hds 200 0 ns.length _ _ [(37, tabObj #[rawInt 47, rawInt 4, .ref c])] (by omega) ha0 (Nat.le_refl _) ?kR) ?k1 ?k2 ?k3 ?k4 ?k5 ?k6 ?k7 ?kK ?kd ?ku ?_; (case k1 => k_asm); (case k2 => k_asm); (case k3 => k_asm); (case k4 => exact news_sub N8 (by kcj_all)); (case dN => assumption); (case dA => assumption); (case k5 => k_asm); (case k6 => k_asm); (case k7 => k_asm); (case kK => exact rfl); (case kd => ktr_room); (case ku => ktr_units))
      case kR =>
        intro q hq
        rw [List.mem_singleton] at hq
        subst hq
        refine ⟨?_, ?_, ?_, ?_, ?_, ?_⟩ <;> (dsimp only; omega)
      rintro r led' h7 tk7 ⟨⟨t1, rfl⟩, rfl⟩ F7 N7
      simp only [List.cons_append, List.nil_append] at N7
      rw [List.drop_zero, Nat.sub_zero, List.take_length]
      k_sweep
      dsimp only
      k_steps
      rename Fr g' _ _ _ => F6
      rename News h₀ _ _ _ => N6
      refine hret _ _ _ _ ⟨_, (c, oc), rfl, ⟨cvs, _, d1, d2⟩, rfl, ?_⟩ (by assumption) (news_join (l := [(l, _), (37, _), (c, oc)]) (news_sub N6 (by kcj_all)) (rest_back NR F6))
      intro q hq r hr'
      have := lr q hq
      simp only [tabL, List.mem_cons, List.not_mem_nil, or_false] at hr'
      rcases hr' with rfl | rfl | rfl
      · exact hr q hq (l, _) (.head _)
      · exact hr q hq (37, _) (.tail _ (.head _))
      · exact hr q hq (c, oc) (.tail _ (.tail _ (.head _)))
    · rename_i f ctv dc h1 tkx lf h9 oI F8 N8 dI ha0 kF kN kT kX
      have e0 : ns = [] := List.length_eq_zero_iff.mp (by omega)
      subst e0
      refine hret _ _ _ _ ⟨_, (c, oc), rfl, ⟨cvs, _, d1, d2⟩, rfl, ?_⟩ (by assumption) (news_join (l := [(l, _), (37, _), (c, oc)]) (news_sub kN (by kcj_all)) (rest_back NR F8))
      · intro q hq r hr'
        have := lr q hq
        simp only [tabL, List.mem_cons, List.not_mem_nil, or_false] at hr'
        rcases hr' with rfl | rfl | rfl
        · exact hr q hq (l, _) (.head _)
        · exact hr q hq (37, _) (.tail _ (.head _))
        · exact hr q hq (c, oc) (.tail _ (.tail _ (.head _)))
end Mine
end

section
open PySem PySem.W PyProof.Rows PySem.Calls
namespace Mine

theorem offI_of {I : Addr} {it : Obj} : ∀ {news : List (Addr × Obj)}, (∀ p ∈ news, p.1 ≠ I) → OffI I it news
  | [], _ => trivial
  | p :: _, h => ⟨.inl (h p (.head _)), offI_of fun q hq => h q (.tail _ hq)⟩

section
variable {prog : Program} {w : World} {A : Around} {E : Value → Shared → Prop} {s : Shared} {env : Env} {h₀ : Heap} {L : Addr} {m : Str → Option Value} {x : Str} {body : List Stmt} {Q : Flow → Shared → Prop}
/-- a loop over a reversed list by what holds between its turns -/
theorem revRest_ind {I : Addr} {lp : Addr × Obj} (J : List Value → (Str → Option Value) → List (Addr × Obj) → Prop) :
    ∀ (r pre : List Value) (all : List Value) (m : Str → Option Value) (news : List (Addr × Obj)), pre ++ r = all →
      (∀ pre v r m news, pre ++ v :: r = all → J pre m news → ∀ (it : Obj) h tk, it.cls = .type "list_reverseiterator" → Fr h₀ env.locals h (fun y => if y = x then some v else m y) → News h₀ env.locals h ((I, it) :: news) →
        wpAny (model prog w) A (execs body env) (UnrPost h₀ env.locals { s with heap := h, toks := tk } I it (fun m' n' => lp ∈ n' ∧ J (pre ++ [v]) m' n') Q) E { s with heap := h, toks := tk }) →
      (∀ m news, J all m news → ∀ h tk, Fr h₀ env.locals h m → News h₀ env.locals h news → Q .next { s with heap := h, toks := tk }) →
      J pre m news → RevRest prog w A E h₀ env x body Q s I lp r m news
  | [], pre, all, m, news, e, _, done, hj => by
    rw [List.append_nil] at e
    subst e
    exact RevRest.zero (done m news hj)
  | v :: r, pre, all, m, news, e, turn, done, hj => by
    refine RevRest.succ fun it h tk hc F N => wpAny_mono (turn pre v r m news e hj it h tk hc F N) (fun f s₂ p => ?_) fun _ _ e => e
    have go : UnrEnd h₀ env.locals { s with heap := h, toks := tk } I it (fun m' n' => lp ∈ n' ∧ J (pre ++ [v]) m' n') s₂ → UnrEnd h₀ env.locals { s with heap := h, toks := tk } I it (fun m' n' => lp ∈ n' ∧ RevRest prog w A E h₀ env x body Q s I lp r m' n') s₂ := by
      rintro ⟨h', tk', m', news', e1, F', N', off, hl, hJ⟩
      exact ⟨h', tk', m', news', e1, F', N', off, hl, revRest_ind J r (pre ++ [v]) all m' news' (by rw [← e]; simp) turn done hJ⟩
    cases f with
    | ret v => exact p
    | brk => exact p
    | next => exact go p
    | cont => exact go p
end

theorem ints_reverse : ∀ {vs : List Value} {ns : List Int}, IntsAre vs ns → IntsAre vs.reverse ns.reverse := by
  have app : ∀ {vs ws : List Value} {ns ms : List Int}, IntsAre vs ns → IntsAre ws ms → IntsAre (vs ++ ws) (ns ++ ms) := by
    intro vs ws ns ms h h'
    induction h with
    | nil => exact h'
    | cons n t _ ih => exact .cons n t ih
  intro vs ns h
  induction h with
  | nil => exact .nil
  | cons n t _ ih => rw [List.reverse_cons, List.reverse_cons]; exact app ih (.cons n t .nil)
theorem ints_append : ∀ {vs ws : List Value} {ns ms : List Int}, IntsAre vs ns → IntsAre ws ms → IntsAre (vs ++ ws) (ns ++ ms) := by
  intro vs ws ns ms h h'
  induction h with
  | nil => exact h'
  | cons n t _ ih => exact .cons n t ih
theorem ints_split : ∀ {pre : List Value} {v : Value} {r : List Value} {ns p : List Int}, IntsAre (pre ++ v :: r) ns → IntsAre pre p → ∃ d t q, v = .int d t ∧ ns = p ++ d :: q
  | [], _, _, _, _, .cons d t h, .nil => ⟨d, t, _, rfl, rfl⟩
  | _ :: _, _, _, _, _, .cons x t h, .cons _ _ h' => by
    obtain ⟨d, t', q, e1, e2⟩ := ints_split h h'
    exact ⟨d, t', q, e1, by rw [e2]; rfl⟩
theorem ints_inj : ∀ {vs : List Value} {ns ms : List Int}, IntsAre vs ns → IntsAre vs ms → ns = ms
  | _, _, _, .nil, .nil => rfl
  | _, _, _, .cons n t h, .cons _ _ h' => by rw [ints_inj h h']
theorem map3 {m : Str → Option Value} {x1 x2 x3 : Str} {v1 v2 v3 : Option Value} (h1 : m x1 = v1) (h2 : m x2 = v2) (h3 : m x3 = v3) : m = fun y => if y = x1 then v1 else if y = x2 then v2 else if y = x3 then v3 else m y := by
  funext y
  (repeat' split) <;> simp_all
theorem map5 {m : Str → Option Value} {x1 x2 x3 x4 x5 : Str} {v1 v2 v3 v4 v5 : Option Value} (h1 : m x1 = v1) (h2 : m x2 = v2) (h3 : m x3 = v3) (h4 : m x4 = v4) (h5 : m x5 = v5) : m = fun y => if y = x1 then v1 else if y = x2 then v2 else if y = x3 then v3 else if y = x4 then v4 else if y = x5 then v5 else m y := by
  funext y
  (repeat' split) <;> simp_all
theorem map6 {m : Str → Option Value} {x1 x2 x3 x4 x5 x6 : Str} {v1 v2 v3 v4 v5 v6 : Option Value} (h1 : m x1 = v1) (h2 : m x2 = v2) (h3 : m x3 = v3) (h4 : m x4 = v4) (h5 : m x5 = v5) (h6 : m x6 = v6) : m = fun y => if y = x1 then v1 else if y = x2 then v2 else if y = x3 then v3 else if y = x4 then v4 else if y = x5 then v5 else if y = x6 then v6 else m y := by
  funext y
  (repeat' split) <;> simp_all

/-- one step of the long division -/
theorem long_step {B b v d : Int} (hB : 0 < B) (hb : 0 < b) (hd0 : 0 ≤ d) (hd1 : d < B) :
    (v * B + d) % b = (v % b * B + d) % b ∧ v / b * B + (v % b * B + d) / b = (v * B + d) / b ∧ 0 ≤ (v % b * B + d) / b ∧ (v % b * B + d) / b < B ∧ 0 ≤ v % b * B + d ∧ v % b * B + d < b * B := by
  have h1 := Int.emod_add_mul_ediv v b
  have h2 := Int.emod_nonneg v (show b ≠ 0 by omega)
  have h3 := Int.emod_lt_of_pos v hb
  have e : v * B + d = (v % b * B + d) + b * (v / b * B) := by
    conv => lhs; rw [← h1]
    rw [Int.add_mul, Int.mul_assoc]; omega
  have m1 : 0 ≤ v % b * B := Int.mul_nonneg h2 (Int.le_of_lt hB)
  have m2 : (v % b + 1) * B ≤ b * B := Int.mul_le_mul_of_nonneg_right (by omega) (Int.le_of_lt hB)
  rw [Int.add_mul, Int.one_mul] at m2
  refine ⟨?_, ?_, Int.ediv_nonneg (by omega) (Int.le_of_lt hb), Int.ediv_lt_of_lt_mul hb (by rw [Int.mul_comm B]; omega), by omega, by omega⟩
  · rw [e, Int.add_mul_emod_self_left]
  · rw [e, Int.add_mul_ediv_left _ _ (by omega : b ≠ 0)]; omega

/-- what lies in the ground and what the frame has made are apart -/
theorem ground_apart {h₀ g h : Heap} {L L' : Addr} {rest led : List (Addr × Obj)} (NR : News h₀ L g rest) (N : News g L' h led) : ∀ q ∈ rest, ∀ r ∈ led, q.1 ≠ r.1 := fun q hq r hr e => by
  have e1 := (NR q hq).1
  rw [e, (N r hr).2.2] at e1
  cases e1

/-- the two tables -/
abbrev TT (t1 t2 : Option (Addr × Obj)) : List (Addr × Obj) := tabL 30 32 4 t1 ++ tabL 37 47 4 t2
theorem qual_ne : qual2 ≠ qual1 := by decide +kernel
theorem code_ne_code {h₀ h : Heap} {L c d : Addr} {oc od : Obj} {cvs dvs : Array Value} {qc qd : Str} {ct dt : Tok} {led : List (Addr × Obj)} (N : News h₀ L h led) (h1 : (c, oc) ∈ led) (h2 : (d, od) ∈ led) (c1 : oc.data = .fields cvs) (c2 : cvs[1]? = some (.str qc ct))
    (d1 : od.data = .fields dvs) (d2 : dvs[1]? = some (.str qd dt)) (hq : qc ≠ qd) : @Ne Nat c d := fun e => by
  have e1 := (N _ h1).1
  have e2 := (N _ h2).1
  dsimp only at e1 e2
  rw [show c = d from e, e2] at e1
  cases e1
  rw [c1] at d1
  cases d1
  rw [c2] at d2
  cases d2
  exact hq rfl
theorem tabs_apart {h₀ h : Heap} {L : Addr} {t1 t2 : Option (Addr × Obj)} (N : News h₀ L h (TT t1 t2)) (k1 : CodeOk qual1 t1) (k2 : CodeOk qual2 t2) : ∀ q ∈ tabL 37 47 4 t2, ∀ r ∈ tabL 30 32 4 t1, q.1 ≠ r.1 := by
  have m1 : ∀ r ∈ tabL 30 32 4 t1, r ∈ TT t1 t2 := fun r hr => List.mem_append_left _ hr
  have m2 : ∀ r ∈ tabL 37 47 4 t2, r ∈ TT t1 t2 := fun r hr => List.mem_append_right _ hr
  have no : ∀ (x y : Int) (v : Value) (q : Str) (t : Tok), (#[rawInt x, rawInt y, v] : Array Value)[1]? ≠ some (.str q t) := fun x y v q t e => by cases e
  have no0 : ∀ (q : Str) (t : Tok), (#[] : Array Value)[1]? ≠ some (.str q t) := fun q t e => by cases e
  rcases t1 with _ | ⟨c, oc⟩ <;> rcases t2 with _ | ⟨d, od⟩ <;> intro q hq r hr <;> simp only [tabL, List.mem_cons, List.not_mem_nil, or_false] at hq hr
  · subst hq hr; exact (by decide : (37 : Nat) ≠ 30)
  · obtain ⟨dvs, dt, d1, d2⟩ := k2
    subst hr
    rcases hq with rfl | rfl
    · exact (by decide : (37 : Nat) ≠ 30)
    · exact code_ne_tab N (m1 _ (.head _)) (m2 _ (.tail _ (.head _))) d1 d2 no0
  · obtain ⟨cvs, ct, c1, c2⟩ := k1
    subst hq
    rcases hr with rfl | rfl
    · exact (by decide : (37 : Nat) ≠ 30)
    · exact fun e => code_ne_tab N (m2 _ (.head _)) (m1 _ (.tail _ (.head _))) c1 c2 no0 e.symm
  · obtain ⟨cvs, ct, c1, c2⟩ := k1
    obtain ⟨dvs, dt, d1, d2⟩ := k2
    rcases hq with rfl | rfl <;> rcases hr with rfl | rfl
    · exact (by decide : (37 : Nat) ≠ 30)
    · exact fun e => code_ne_tab N (m2 _ (.head _)) (m1 _ (.tail _ (.head _))) c1 c2 (no _ _ _) e.symm
    · exact code_ne_tab N (m1 _ (.head _)) (m2 _ (.tail _ (.head _))) d1 d2 (no _ _ _)
    · exact code_ne_code N (m2 _ (.tail _ (.head _))) (m1 _ (.tail _ (.head _))) d1 d2 c1 c2 qual_ne

local macro_rules | `(tactic| walk_at "idle 0") => `(tactic| fail)
local macro_rules | `(tactic| walk_at "call ref") => `(tactic| refine Hold.out ?_)
local macro_rules | `(tactic| walk_at "call type:reversed") => `(tactic| refine Hold.out ?_)
local macro_rules | `(tactic| walk_at "pyIter ref") => `(tactic| refine Hold.out ?_)
local macro_rules | `(tactic| walk_at "newList") => `(tactic| refine Hold.out ?_)
local macro_rules | `(tactic| walk_at "binaryOp LShift int int") => `(tactic| refine Hold.out ?_)
local macro_rules | `(tactic| k_all) => `(tactic| assumption)
set_option maxRecDepth 100000 in
set_option maxHeartbeats 8000000 in
theorem divmod_pos (w : World) (a b : Int) (ta tb : Tok) (rest : List (Addr × Obj)) (t1 t2 : Option (Addr × Obj)) (k1 : CodeOk qual1 t1) (k2 : CodeOk qual2 t2) (ha : 0 ≤ a) (ha2 : a < 2 ^ 200) (hb : 0 < b) (hb2 : b < 2 ^ 200) (hr : ∀ q ∈ rest, ∀ r ∈ TT t1 t2, q.1 ≠ r.1) :
    Meet w 49 260 [.int a ta, .int b tb] (TT t1 t2 ++ rest) (fun r led' => ∃ x u1 u2 c1 c2, r = .ref x ∧ CodeOk qual1 (some c1) ∧ CodeOk qual2 (some c2) ∧
      led' = (x, tupOf #[.int (a / b) u1, .int (a % b) u2]) :: (TT (some c1) (some c2) ++ rest) ∧ (∀ q ∈ rest, ∀ r ∈ TT (some c1) (some c2), q.1 ≠ r.1) ∧ ∀ q ∈ rest, @Ne Nat q.1 x) := by
  unfold Meet
  k_fill
  intro p loose mean mg mb dp un gd cn cs a' ccd cl outer A₀ base h₀ L m s Q E B F X N T C1 C2 hk hd hu hret
  refine wpAny_call ?_
  k_dflt (refine' enter_def (led := TT t1 t2) (rest := rest) B F X N T ?kA ?kF ?kK ?k6 ?k7 ?k8 ?k9 ?kB hr ?_ ?c2 ?c3 ?c4 ?c5; (case kA => exact rfl); (case kF => exact rfl); (case kK => exact hk); (case k6 => k_is); (case k7 => k_is); (case k8 => ktr_room); (case k9 => exact BindsTo.of_eq rfl); (case kB => exact locs rfl); (case c2 => exact rfl); (case c3 => exact rfl); (case c4 => exact rfl); (case c5 => decide); k_whole; intro g' L' h' FG' F' N' B' X' T' NR l1; (try dsimp only); (try k_fold))
  have lr : ∀ q ∈ rest, @LT.lt Nat _ q.1 L' := fun q hq => l1 q (List.mem_append_right _ hq)
  have lT : ∀ q ∈ TT t1 t2, @LT.lt Nat _ q.1 L' := fun q hq => l1 q (List.mem_append_left _ hq)
  clear N
  k_steps
  obtain ⟨n, hn⟩ : ∃ n : Nat, n = Builtin.Int.intBits b := ⟨_, rfl⟩
  have hn2 : n ≤ 200 := by rw [hn]; exact bits_le (by omega) hb2
  have hn1 : 1 ≤ n := by
    rw [hn]; unfold Builtin.Int.intBits; rw [if_neg (by simp; omega)]; omega
  have hbB : b < 2 ^ n := by rw [hn]; exact lt_bits (by omega)
  rw [← hn]
  refine hold_in ?_
  rename News _ _ _ _ => N9
  have hap := tabs_apart N9 k1 k2
  k_dflt (refine' Meet.use (int2digits w a n _ _ (tabL 37 47 4 t2) t1 k1 ha ha2 hn1 (by omega) hap) ?k1 ?k2 ?k3 ?k4 ?k5 ?k6 ?k7 ?kK ?kd ?ku ?_; (case k1 => k_asm); (case k2 => k_asm); (case k3 => k_asm); (case k4 => k_asm); (case k5 => k_asm); (case k6 => k_asm); (case k7 => k_asm); (case kK => exact rfl); (case kd => ktr_room); (case ku => ktr_units))
  rintro r led' h9 tk9 ⟨la, vs, c1, rfl, k1', hvs, rfl, hap', lla⟩ F9 N9
  generalize hTL : tabL 30 32 4 (some c1) ++ tabL 37 47 4 t2 = TL at N9
  rw [← hn] at F9
  k_sweep
  dsimp only
  k_steps
  rename Fr _ _ _ _ => F8
  rename News _ _ _ _ => N8
  refine hold_in (newList_K F8 N8 ?_)
  clear F8 N8
  intro lq h8 F8 N8 l8
  have hq1 : @LT.lt Nat _ la lq := l8 (la, _) (.head _)
  have hqT : ∀ q ∈ TL, q.1 ≠ lq := fun q hq => Nat.ne_of_lt (l8 q (.tail _ hq))
  k_steps
  rename Fr _ _ _ _ => F7
  rename News _ _ _ _ => N7
  refine hold_in (krv_reversed F7 N7 (PySem.IsL.isList (n := 0) (N7 (la, _) (by k_mem)).1) ?_)
  clear F7 N7
  intro I h7 F7 N7 l7
  k_steps
  have hB : (0 : Int) < 2 ^ n := Int.pow_pos (by decide)
  have hvr := ints_reverse hvs
  refine hold_in (iter_revUnr (lo := listOf vs.toArray 0) (vs := vs) (n := 0) rfl F7 N7 (offI_of fun p hp => Nat.ne_of_lt (l7 p hp)) (.tail _ (.head _)) rfl rfl ?_)
  refine revRest_ind (fun pre m news => ∃ (mr : Str → Option Value) (ua uq : Option Value) (r : Int) (tr tn : Tok) (qvs : List Value) (qs : List Int) (pn : Nat) (pns : List Int),
      (m = fun y => if y = Str.ofString "a_digit" then ua else if y = Str.ofString "q_digit" then uq else if y = Str.ofString "r" then some (.int r tr) else if y = Str.ofString "q_digits" then some (.ref lq) else if y = Str.ofString "n" then some (.int n tn) else if y = Str.ofString "b" then some (.int b tb) else mr y) ∧
      news = (lq, listOf (List.toArray qvs) pn) :: (la, listOf vs.toArray 0) :: TL ∧ IntsAre pre pns ∧ IntsAre qvs qs ∧ r = val (2 ^ n) pns % b ∧ val (2 ^ n) qs = val (2 ^ n) pns / b ∧ (∀ d ∈ qs, 0 ≤ d ∧ d < (2 ^ n : Int)) ∧ qs.length = pns.length) vs.reverse [] vs.reverse _ _ rfl ?turn ?done ?start
  case start =>
    exact ⟨_, _, _, 0, _, _, [], [], 0, [], map6 rfl rfl rfl rfl rfl rfl, rfl, .nil, .nil, by simp [val], by simp [val], (fun _ h => nomatch h), rfl⟩
  case turn =>
    rintro pre v r m news hsplit ⟨mr, ua, uq, rr, tr, tn, qvs, qs, pn, pns, rfl, rfl, hp, hq, er, eq, hqs, hlen⟩ it h tk hit F6 N6
    rw [← hsplit] at hvr
    obtain ⟨d, td, q, rfl, ens⟩ := ints_split hvr hp
    have hd : 0 ≤ d ∧ d < (2 ^ n : Int) := digs_bound hB _ _ d (by rw [← List.mem_reverse, ens]; exact List.mem_append_right _ (.head _))
    obtain ⟨s1, s2, s3, s4, s5, s6⟩ := long_step (v := val (2 ^ n) pns) hB hb hd.1 hd.2
    rw [← er] at s1 s2 s3 s4 s5 s6
    have hbb : b * 2 ^ n ≤ 2 ^ 400 := by
      have h1 : b * 2 ^ n ≤ 2 ^ 200 * 2 ^ n := Int.mul_le_mul_of_nonneg_right (by omega) (by omega)
      have h2 : (2 : Int) ^ 200 * 2 ^ n ≤ 2 ^ 200 * 2 ^ 200 := Int.mul_le_mul_of_nonneg_left (by
        have := Nat.pow_le_pow_right (n := 2) (by decide) hn2
        rw [← kbt_cast, ← kbt_cast]
        exact Int.ofNat_le.mpr this) (by decide)
      have h3 : (2 : Int) ^ 200 * 2 ^ 200 = 2 ^ 400 := by decide +kernel
      omega
    k_steps
    refine hold_in (lshift_int (by omega) (by
      have : Builtin.Int.intBits rr ≤ 200 := bits_le (by rw [er]; exact Int.emod_nonneg _ (by omega)) (by rw [er]; exact Int.lt_trans (Int.emod_lt_of_pos _ hb) hb2)
      omega) ?_)
    rw [Int.toNat_natCast]
    k_steps
    refine hold_in ?_
    k_dflt (refine' Meet.use (div2n1n w (rr * 2 ^ n + d) b n _ _ _ _ (by omega) (by omega) (by
      have : Builtin.Int.intBits (rr * 2 ^ n + d) ≤ 400 := bits_le s5 (by omega)
      omega)) ?k1 ?k2 ?k3 ?k4 ?k5 ?k6 ?k7 ?kK ?kd ?ku ?_; (case k1 => k_asm); (case k2 => k_asm); (case k3 => k_asm); (case k4 => k_asm); (case k5 => k_asm); (case k6 => k_asm); (case k7 => k_asm); (case kK => exact rfl); (case kd => ktr_room); (case ku => ktr_units))
    rintro r6 led6 h6 tk6 ⟨x6, u1, u2, rfl, rfl, l6⟩ F6 N6
    rw [Int.fdiv_eq_ediv_of_nonneg _ (Int.le_of_lt hb), Int.fmod_eq_emod_of_nonneg _ (Int.le_of_lt hb)] at N6
    k_lt l6
    k_sweep
    dsimp only
    have hpl : pns.length ≤ 200 := by
      have e := congrArg List.length ens
      rw [List.length_reverse, digs_length, List.length_append] at e
      have := Nat.le_trans (cnt_le a hn1) (bits_le ha ha2)
      omega
    have hql : qvs.length = qs.length := hq.length
    have hIq : @LT.lt Nat _ lq I := l7 (lq, _) (.head _)
    have hIa : @LT.lt Nat _ la I := l7 (la, _) (.tail _ (.head _))
    k_steps
    rename Fr _ _ _ _ => F5
    rename News _ _ _ _ => N5
    rw [List.push_toArray] at N5
    refine UnrEnd.intro F5 N5 ((lq, _) :: (la, _) :: TL) (fun p hp => List.mem_cons_of_mem _ hp) ?off ⟨.tail _ (.head _), _, _, _, _, _, _, qvs ++ [_], qs ++ [(rr * 2 ^ n + d) / b], _, pns ++ [d], map6 rfl rfl rfl rfl rfl rfl, rfl, ints_append hp (.cons _ _ .nil), ints_append hq (.cons _ _ .nil), ?e1, ?e2, ?e3, ?e4⟩
    case off =>
      intro p hp
      rcases List.mem_cons.mp hp with rfl | hp
      · exact Nat.ne_of_lt hIq
      · exact Nat.ne_of_lt (l7 p (List.mem_cons_of_mem _ hp))
    case e1 => rw [val_snoc, s1]
    case e2 => rw [val_snoc, val_snoc, eq, s2]
    case e3 =>
      intro e he
      rcases List.mem_append.mp he with he | he
      · exact hqs e he
      · rw [List.mem_singleton] at he; subst he; exact ⟨s3, s4⟩
    case e4 => rw [List.length_append, List.length_append, hlen]; rfl
  case done =>
    rintro m news ⟨mr, ua, uq, rr, tr, tn, qvs, qs, pn, pns, rfl, rfl, hp, hq, er, eq, hqs, hlen⟩ h tk F6 N6
    have epn := ints_inj hp hvr
    have hcn : cnt a n ≤ 200 := Nat.le_trans (cnt_le a hn1) (bits_le ha ha2)
    have hval : val (2 ^ n) pns = a := by rw [epn, val_reverse, und_digs hB _ _ ha (lt_cnt ha hn1)]
    rw [hval] at er eq
    have hpl : pns.length ≤ 200 := by rw [epn, List.length_reverse, digs_length]; exact hcn
    have hql : qvs.length = qs.length := hq.length
    dsimp only
    k_steps
    k_dflt (refine' kl_reverse (l := qvs.reverse) F6 N6 ?e ?U ?z ?_; (case U => k_upd); (case e => simp); (case z => (rw [sizeLine_eq]; simp; omega)))
    clear F6 N6
    intro h5 F5 N5
    dsimp only
    k_steps
    rename Fr _ _ _ _ => F4
    rename News _ _ _ _ => N4
    refine hold_in ?_
    have hds : ∀ d ∈ qs.reverse, 0 ≤ d ∧ d < (2 ^ n : Int) := fun d hd => hqs d (List.mem_reverse.mp hd)
    k_dflt (refine' Meet.use (digits2int w n _ lq qvs.reverse qs.reverse pn (tabL 30 32 4 (some c1)) t2 k2 hn1 (by omega) (by rw [List.length_reverse]; omega) (ints_reverse hq) hds ?kr) ?k1 ?k2 ?k3 ?k4 ?k5 ?k6 ?k7 ?kK ?kd ?ku ?_; (case k1 => k_asm); (case k2 => k_asm); (case k3 => k_asm); (case k5 => k_asm); (case k6 => k_asm); (case k7 => k_asm); (case kK => exact rfl); (case kd => ktr_room); (case ku => ktr_units))
    case k4 =>
      refine news_sub N4 fun q hq => ?_
      rw [← hTL]
      simp only [List.cons_append, List.mem_cons, List.mem_append] at hq ⊢
      rcases hq with h | h | h
      · exact .inl h
      · exact .inr (.inr (.inr h))
      · exact .inr (.inr (.inl h))
    case kr =>
      intro q hq r hr'
      rcases List.mem_cons.mp hr' with rfl | hr'
      · exact hqT q (by rw [← hTL]; exact List.mem_append_left _ hq)
      · exact fun e => hap' r hr' q hq e.symm
    rintro r3 led3 h3 tk3 ⟨u1, c2, rfl, k2', rfl, hr3⟩ F3 N3
    rw [und_reverse, eq]
    dsimp only
    k_steps
    rename Fr g' _ _ _ => F2
    rename News g' _ _ _ => N2
    rename News h₀ _ _ _ => N1
    have hga := ground_apart NR N2
    have sub : ∀ r ∈ TT (some c1) (some c2), r ∈ (lq, listOf qvs.reverse.toArray pn) :: tabL 37 47 4 (some c2) ++ tabL 30 32 4 (some c1) := fun r hr' => by
      rcases List.mem_append.mp hr' with h | h
      · exact List.mem_append_right _ h
      · exact List.mem_append_left _ (.tail _ h)
    refine hret _ _ _ _ ⟨_, u1, tr, c1, c2, rfl, k1', k2', rfl, fun q hq r hr' => hga q hq r (.tail _ (sub r hr')), fun q hq => hga q hq _ (.head _)⟩ (by assumption) (news_join (l := (_, _) :: TT (some c1) (some c2)) ?_ (rest_back NR F2))
    rw [← er]
    intro q hq
    rcases List.mem_cons.mp hq with rfl | hq
    · exact N1 _ (.head _)
    · exact N1 _ (.tail _ (sub q hq))
end Mine
end

section
open PySem PySem.W PyProof.Rows PySem.Calls
namespace Mine

/-- what int_divmod hands back -/
def DmRes (a b : Int) (rest : List (Addr × Obj)) (r : Value) (led' : List (Addr × Obj)) : Prop :=
  ∃ x u1 u2 c1 c2, r = .ref x ∧ CodeOk qual1 (some c1) ∧ CodeOk qual2 (some c2) ∧
    led' = (x, tupOf #[.int (a.fdiv b) u1, .int (a.fmod b) u2]) :: (TT (some c1) (some c2) ++ rest) ∧ (∀ q ∈ rest, ∀ r ∈ TT (some c1) (some c2), q.1 ≠ r.1) ∧ ∀ q ∈ rest, @Ne Nat q.1 x

theorem dm_neg_a {a b : Int} (hb : 0 < b) : Builtin.bitNot ((Builtin.bitNot a).fdiv b) = a.fdiv b ∧ b + Builtin.bitNot ((Builtin.bitNot a).fmod b) = a.fmod b := by
  have e : Builtin.bitNot a = -a - 1 := rfl
  have e2 : ∀ z, Builtin.bitNot z = -z - 1 := fun z => rfl
  rw [e, e2, e2, Int.fdiv_eq_ediv_of_nonneg _ (Int.le_of_lt hb), Int.fmod_eq_emod_of_nonneg _ (Int.le_of_lt hb), Int.fdiv_eq_ediv_of_nonneg _ (Int.le_of_lt hb), Int.fmod_eq_emod_of_nonneg _ (Int.le_of_lt hb)]
  obtain ⟨k1, k2⟩ := kbt_below a hb
  rw [k1, k2]
  omega
theorem dm_neg_b {a b : Int} : (-a).fdiv (-b) = a.fdiv b ∧ -((-a).fmod (-b)) = a.fmod b := by
  constructor
  · exact Int.neg_fdiv_neg ..
  · have h1 := Int.fmod_def (-a) (-b)
    have h2 := Int.fmod_def a b
    rw [Int.neg_fdiv_neg, Int.neg_mul] at h1
    omega

theorem news_drop2 {h₀ h : Heap} {L : Addr} {x y : Addr × Obj} {T : List (Addr × Obj)} (N : News h₀ L h (x :: y :: T)) : News h₀ L h (x :: T) := fun q hq => N q ((List.mem_cons.mp hq).elim (fun e => e ▸ .head _) fun h => .tail _ (.tail _ h))
theorem Meet.more {w : World} {f : Addr} {k k' : Nat} {vs : List Value} {led : List (Addr × Obj)} {R : Value → List (Addr × Obj) → Prop} (C : Meet w f k vs led R) (h : k ≤ k') : Meet w f k' vs led R := by
  unfold Meet at *
  intro p loose mean mg mb dp un gd cn cs a' ccd cl outer A₀ base h₀ L m s Q E B F X N T C1 C2 hk hd hu hret
  exact C p loose mean mg mb dp un gd cn cs a' ccd cl outer A₀ base h₀ L m s Q E B F X N T C1 C2 hk (by omega) (by omega) hret

local macro_rules | `(tactic| walk_at "call ref") => `(tactic| refine Hold.out ?_)
local macro_rules | `(tactic| k_all) => `(tactic| assumption)
set_option maxRecDepth 100000 in
set_option maxHeartbeats 8000000 in
theorem int_divmod_pos (w : World) (a b : Int) (ta tb : Tok) (rest : List (Addr × Obj)) (t1 t2 : Option (Addr × Obj)) (k1 : CodeOk qual1 t1) (k2 : CodeOk qual2 t2) (ha : 0 ≤ a) (ha2 : a < 2 ^ 200) (hb : 0 < b) (hb2 : b < 2 ^ 200) (hr : ∀ q ∈ rest, ∀ r ∈ TT t1 t2, q.1 ≠ r.1) :
    Meet w 56 262 [.int a ta, .int b tb] (TT t1 t2 ++ rest) (DmRes a b rest) := by
  unfold Meet
  k_fill
  intro p loose mean mg mb dp un gd cn cs a' ccd cl outer A₀ base h₀ L m s Q E B F X N T C1 C2 hk hd hu hret
  refine wpAny_call ?_
  k_dflt (refine' enter_def (led := TT t1 t2) (rest := rest) B F X N T ?kA ?kF ?kK ?k6 ?k7 ?k8 ?k9 ?kB hr ?_ ?c2 ?c3 ?c4 ?c5; (case kA => exact rfl); (case kF => exact rfl); (case kK => exact hk); (case k6 => k_is); (case k7 => k_is); (case k8 => ktr_room); (case k9 => exact BindsTo.of_eq rfl); (case kB => exact locs rfl); (case c2 => exact rfl); (case c3 => exact rfl); (case c4 => exact rfl); (case c5 => decide); k_whole; intro g' L' h' FG' F' N' B' X' T' NR l1; (try dsimp only); (try k_fold))
  clear N l1
  have hb0 : b ≠ 0 := by omega
  k_steps
  · exact absurd (by assumption) hb0
  refine hold_in ?_
  have N9 : News g' L' h' (TT t1 t2 ++ []) := by rw [List.append_nil]; exact N'
  k_dflt (refine' Meet.use (divmod_pos w a b _ _ [] t1 t2 k1 k2 ha ha2 hb hb2 (fun _ h => nomatch h)) ?k1 ?k2 ?k3 ?k4 ?k5 ?k6 ?k7 ?kK ?kd ?ku ?_; (case k1 => k_asm); (case k2 => k_asm); (case k3 => k_asm); (case k4 => k_asm); (case k5 => k_asm); (case k6 => k_asm); (case k7 => k_asm); (case kK => exact rfl); (case kd => ktr_room); (case ku => ktr_units))
  clear N9
  rintro r9 led9 h9 tk9 ⟨x, u1, u2, c1, c2, rfl, q1, q2, rfl, _, _⟩ F9 N9
  rw [List.append_nil] at N9
  dsimp only
  k_steps
  rename Fr g' _ _ _ => F2
  rename News g' _ _ _ => N2
  rename News h₀ _ _ _ => N1
  have hga := ground_apart NR N2
  refine hret _ _ _ _ ⟨_, u1, u2, c1, c2, rfl, q1, q2, rfl, fun q hq r hr' => hga q hq r (.tail _ hr'), fun q hq => hga q hq _ (.head _)⟩ (by assumption) (news_join (l := (_, _) :: TT (some c1) (some c2)) ?_ (rest_back NR F2))
  rw [Int.fdiv_eq_ediv_of_nonneg _ (Int.le_of_lt hb), Int.fmod_eq_emod_of_nonneg _ (Int.le_of_lt hb)]
  exact N1
set_option maxRecDepth 100000 in
set_option maxHeartbeats 8000000 in
theorem int_divmod_posb (w : World) (a b : Int) (ta tb : Tok) (rest : List (Addr × Obj)) (t1 t2 : Option (Addr × Obj)) (k1 : CodeOk qual1 t1) (k2 : CodeOk qual2 t2) (ha1 : -(2 ^ 200) < a) (ha2 : a < 2 ^ 200) (hb : 0 < b) (hb2 : b < 2 ^ 200) (hr : ∀ q ∈ rest, ∀ r ∈ TT t1 t2, q.1 ≠ r.1) :
    Meet w 56 264 [.int a ta, .int b tb] (TT t1 t2 ++ rest) (DmRes a b rest) := by
  by_cases ha : 0 ≤ a
  · exact (int_divmod_pos w a b ta tb rest t1 t2 k1 k2 ha ha2 hb hb2 hr).more (by decide)
  unfold Meet
  k_fill
  intro p loose mean mg mb dp un gd cn cs a' ccd cl outer A₀ base h₀ L m s Q E B F X N T C1 C2 hk hd hu hret
  refine wpAny_call ?_
  k_dflt (refine' enter_def (led := TT t1 t2) (rest := rest) B F X N T ?kA ?kF ?kK ?k6 ?k7 ?k8 ?k9 ?kB hr ?_ ?c2 ?c3 ?c4 ?c5; (case kA => exact rfl); (case kF => exact rfl); (case kK => exact hk); (case k6 => k_is); (case k7 => k_is); (case k8 => ktr_room); (case k9 => exact BindsTo.of_eq rfl); (case kB => exact locs rfl); (case c2 => exact rfl); (case c3 => exact rfl); (case c4 => exact rfl); (case c5 => decide); k_whole; intro g' L' h' FG' F' N' B' X' T' NR l1; (try dsimp only); (try k_fold))
  clear N l1
  have hb0 : b ≠ 0 := by omega
  k_steps
  · exact absurd (by assumption) hb0
  refine hold_in ?_
  have N9 : News g' L' h' (TT t1 t2 ++ []) := by rw [List.append_nil]; exact N'
  k_dflt (refine' Meet.use (int_divmod_pos w (Builtin.bitNot a) b _ _ [] t1 t2 k1 k2 (by show 0 ≤ -a - 1; omega) (by show -a - 1 < 2 ^ 200; omega) hb hb2 (fun _ h => nomatch h)) ?k1 ?k2 ?k3 ?k4 ?k5 ?k6 ?k7 ?kK ?kd ?ku ?_; (case k1 => k_asm); (case k2 => k_asm); (case k3 => k_asm); (case k4 => k_asm); (case k5 => k_asm); (case k6 => k_asm); (case k7 => k_asm); (case kK => exact rfl); (case kd => ktr_room); (case ku => ktr_units))
  clear N9 N'
  rintro r9 led9 h9 tk9 ⟨x, u1, u2, c1, c2, rfl, q1, q2, rfl, _, _⟩ F9 N9
  rw [List.append_nil] at N9
  dsimp only
  generalize hTL : TT (some c1) (some c2) = TL at N9
  k_steps
  rename Fr g' _ _ _ => F2
  rename News g' _ _ _ => N2
  rename News h₀ _ _ _ => N1
  subst hTL
  have hga := ground_apart NR N2
  obtain ⟨z1, z2⟩ := dm_neg_a (a := a) hb
  rw [z1, z2] at N1
  exact hret _ _ _ _ ⟨_, _, _, c1, c2, rfl, q1, q2, rfl, fun q hq r hr' => hga q hq r (.tail _ (.tail _ hr')), fun q hq => hga q hq _ (.head _)⟩ (by assumption) (news_join (news_drop2 N1) (rest_back NR F2))
set_option maxRecDepth 100000 in
set_option maxHeartbeats 8000000 in
theorem int_divmod (w : World) (a b : Int) (ta tb : Tok) (rest : List (Addr × Obj)) (t1 t2 : Option (Addr × Obj)) (k1 : CodeOk qual1 t1) (k2 : CodeOk qual2 t2) (ha1 : -(2 ^ 200) < a) (ha2 : a < 2 ^ 200) (hb : b ≠ 0) (hb1 : -(2 ^ 200) < b) (hb2 : b < 2 ^ 200) (hr : ∀ q ∈ rest, ∀ r ∈ TT t1 t2, q.1 ≠ r.1) :
    Meet w 56 266 [.int a ta, .int b tb] (TT t1 t2 ++ rest) (DmRes a b rest) := by
  by_cases hbp : 0 < b
  · exact (int_divmod_posb w a b ta tb rest t1 t2 k1 k2 ha1 ha2 hbp hb2 hr).more (by decide)
  unfold Meet
  k_fill
  intro p loose mean mg mb dp un gd cn cs a' ccd cl outer A₀ base h₀ L m s Q E B F X N T C1 C2 hk hd hu hret
  refine wpAny_call ?_
  k_dflt (refine' enter_def (led := TT t1 t2) (rest := rest) B F X N T ?kA ?kF ?kK ?k6 ?k7 ?k8 ?k9 ?kB hr ?_ ?c2 ?c3 ?c4 ?c5; (case kA => exact rfl); (case kF => exact rfl); (case kK => exact hk); (case k6 => k_is); (case k7 => k_is); (case k8 => ktr_room); (case k9 => exact BindsTo.of_eq rfl); (case kB => exact locs rfl); (case c2 => exact rfl); (case c3 => exact rfl); (case c4 => exact rfl); (case c5 => decide); k_whole; intro g' L' h' FG' F' N' B' X' T' NR l1; (try dsimp only); (try k_fold))
  clear N l1
  have hb0 : b ≠ 0 := hb
  k_steps
  · exact absurd (by assumption) hb0
  refine hold_in ?_
  have N9 : News g' L' h' (TT t1 t2 ++ []) := by rw [List.append_nil]; exact N'
  k_dflt (refine' Meet.use (int_divmod_posb w (-a) (-b) _ _ [] t1 t2 k1 k2 (by omega) (by omega) (by omega) (by omega) (fun _ h => nomatch h)) ?k1 ?k2 ?k3 ?k4 ?k5 ?k6 ?k7 ?kK ?kd ?ku ?_; (case k1 => k_asm); (case k2 => k_asm); (case k3 => k_asm); (case k4 => k_asm); (case k5 => k_asm); (case k6 => k_asm); (case k7 => k_asm); (case kK => exact rfl); (case kd => ktr_room); (case ku => ktr_units))
  clear N9 N'
  rintro r9 led9 h9 tk9 ⟨x, u1, u2, c1, c2, rfl, q1, q2, rfl, _, _⟩ F9 N9
  rw [List.append_nil] at N9
  dsimp only
  generalize hTL : TT (some c1) (some c2) = TL at N9
  k_steps
  rename Fr g' _ _ _ => F2
  rename News g' _ _ _ => N2
  rename News h₀ _ _ _ => N1
  subst hTL
  have hga := ground_apart NR N2
  obtain ⟨z1, z2⟩ := dm_neg_b (a := a) (b := b)
  rw [z1, z2] at N1
  exact hret _ _ _ _ ⟨_, _, _, c1, c2, rfl, q1, q2, rfl, fun q hq r hr' => hga q hq r (.tail _ (.tail _ hr')), fun q hq => hga q hq _ (.head _)⟩ (by assumption) (news_join (news_drop2 N1) (rest_back NR F2))

end Mine
end

section
namespace Mine

/-- the row that rises, ahead of its last touch -/
def riseL : Int → List Int → List Int
  | _, [] => []
  | p, s :: r => (p + 1 + s) :: riseL (p + 1 + s) r
def fallL : Int → List Int → List Int
  | _, [] => []
  | p, s :: r => (p - s) :: fallL (p - s) r
theorem riseL_snoc (d : Int) : ∀ (l : List Int) (p : Int) (front : List Int) (lst : Int), p :: riseL p l = front ++ [lst] → p :: riseL p (l ++ [d]) = front ++ [lst] ++ [lst + 1 + d]
  | [], p, front, lst, e => by
    rw [riseL] at e
    have h : [] ++ [p] = front ++ [lst] := e
    obtain ⟨rfl, h2⟩ := List.append_inj' h rfl
    cases h2
    simp [riseL]
  | s :: r, p, front, lst, e => by
    rw [riseL] at e
    cases front with
    | nil => simp at e
    | cons f fr =>
      simp only [List.cons_append, List.cons.injEq] at e
      obtain ⟨rfl, e⟩ := e
      have := riseL_snoc d r (p + 1 + s) fr lst e
      rw [List.cons_append, riseL, this]
      simp
theorem fallL_snoc (d : Int) : ∀ (l : List Int) (p : Int) (front : List Int) (lst : Int), p :: fallL p l = front ++ [lst] → p :: fallL p (l ++ [d]) = front ++ [lst] ++ [lst - d]
  | [], p, front, lst, e => by
    rw [fallL] at e
    have h : [] ++ [p] = front ++ [lst] := e
    obtain ⟨rfl, h2⟩ := List.append_inj' h rfl
    cases h2
    simp [fallL]
  | s :: r, p, front, lst, e => by
    rw [fallL] at e
    cases front with
    | nil => simp at e
    | cons f fr =>
      simp only [List.cons_append, List.cons.injEq] at e
      obtain ⟨rfl, e⟩ := e
      have := fallL_snoc d r (p - s) fr lst e
      rw [List.cons_append, fallL, this]
      simp
theorem riseL_length : ∀ (l : List Int) (p : Int), (riseL p l).length = l.length
  | [], _ => rfl
  | s :: r, p => by rw [riseL, List.length_cons, List.length_cons, riseL_length r]
theorem fallL_length : ∀ (l : List Int) (p : Int), (fallL p l).length = l.length
  | [], _ => rfl
  | s :: r, p => by rw [fallL, List.length_cons, List.length_cons, fallL_length r]

/-- above and below the stroke -/
def frac : List Int → Int × Int
  | [] => (0, 1)
  | q :: r => ((frac r).2 - (frac r).1, (frac r).2 * q)
/-- at every place the quotient comes out with just its rest -/
def Good : List Int → Prop
  | [] => True
  | q :: r => ((0 ≤ q * (frac r).1 ∧ q * (frac r).1 < (frac r).2 - (frac r).1) ∨ ((frac r).2 - (frac r).1 < q * (frac r).1 ∧ q * (frac r).1 ≤ 0)) ∧ Good r
def RisesAfter : Int → List Int → Prop
  | _, [] => True
  | q, [x] => q + 2 ≤ x
  | q, x :: y :: r => q + 1 ≤ x ∧ RisesAfter x (y :: r)
def FallsAfter : Int → List Int → Prop
  | _, [] => True
  | q, x :: r => x ≤ q ∧ FallsAfter x r

theorem rise_claim : ∀ (r : List Int) (q : Int), 1 ≤ q → RisesAfter q r → 0 < (frac r).2 ∧ 0 ≤ (frac r).1 ∧ (q + 1) * (frac r).1 < (frac r).2 ∧ (r ≠ [] → 0 < (frac r).1) ∧ Good r
  | [], q, _, _ => by simp [frac, Good]
  | [x], q, hq, h => by
    have h : q + 2 ≤ x := h
    simp only [frac, Good, Int.mul_zero, Int.sub_zero, Int.mul_one, Int.one_mul, and_true]
    refine ⟨by omega, by omega, by omega, fun _ => by omega, .inl ⟨by omega, by omega⟩⟩
  | x :: y :: r, q, hq, h => by
    have h : q + 1 ≤ x ∧ RisesAfter x (y :: r) := h
    obtain ⟨b1, b2, b3, b4, b5⟩ := rise_claim (y :: r) x (by omega) h.2
    have b4 := b4 (by simp)
    rw [frac, Good]
    generalize (frac (y :: r)).1 = p at *
    generalize (frac (y :: r)).2 = b at *
    dsimp only
    have hx : (x + 1) * p = x * p + p := by rw [Int.add_mul, Int.one_mul]
    have hxp : 0 < x * p := Int.mul_pos (by omega) b4
    have e1 : (q + 1) * (b - p) ≤ x * (b - p) := Int.mul_le_mul_of_nonneg_right (by omega) (by omega)
    have e2 : x * (b - p) = b * x - x * p := by rw [Int.mul_sub, Int.mul_comm x b]
    refine ⟨Int.mul_pos b1 (by omega), by omega, by omega, fun _ => by omega, .inl ⟨by omega, by omega⟩, b5⟩
theorem fall_claim : ∀ (r : List Int) (q : Int), q ≤ -1 → FallsAfter q r →
    (0 < (frac r).2 ∧ (frac r).1 ≤ 0 ∧ (-q - 1) * (-(frac r).1) < (frac r).2 ∨ (frac r).2 < 0 ∧ 0 ≤ (frac r).1 ∧ (-q - 1) * (frac r).1 < -(frac r).2) ∧ Good r
  | [], q, _, _ => by simp [frac, Good]
  | x :: r, q, hq, h => by
    have h : x ≤ q ∧ FallsAfter x r := h
    obtain ⟨c, b5⟩ := fall_claim r x (by omega) h.2
    rw [frac, Good]
    generalize (frac r).1 = p at *
    generalize (frac r).2 = b at *
    dsimp only
    rcases c with ⟨b1, b2, b3⟩ | ⟨b1, b2, b3⟩
    · have m1 : (-q - 1) * (b - p) ≤ (-x - 1) * (b - p) := Int.mul_le_mul_of_nonneg_right (by omega) (by omega)
      have m2 : (-x - 1) * (b - p) = (-x - 1) * b + (-x - 1) * (-p) := by rw [show b - p = b + -p by omega, Int.mul_add]
      have m3 : (-x - 1) * b = -(b * x) - b := by rw [Int.sub_mul, Int.neg_mul, Int.one_mul, Int.mul_comm]
      have m4 : (-x - 1) * (-p) = x * p + p := by rw [Int.sub_mul, Int.neg_mul, Int.one_mul, Int.mul_neg]; omega
      have m5 : 0 ≤ x * p := Int.mul_nonneg_of_nonpos_of_nonpos (by omega) b2
      have m6 : b * x < 0 := Int.mul_neg_of_pos_of_neg b1 (by omega)
      exact ⟨.inr ⟨m6, by omega, by omega⟩, .inl ⟨m5, by omega⟩, b5⟩
    · have m1 : (-q - 1) * (-(b - p)) ≤ (-x - 1) * (-(b - p)) := Int.mul_le_mul_of_nonneg_right (by omega) (by omega)
      have m2 : (-x - 1) * (-(b - p)) = (-x - 1) * (-b) + (-x - 1) * p := by rw [show -(b - p) = -b + p by omega, Int.mul_add]
      have m3 : (-x - 1) * (-b) = b * x + b := by rw [Int.sub_mul, Int.neg_mul, Int.one_mul, Int.mul_neg, Int.mul_comm]; omega
      have m4 : (-x - 1) * p = -(x * p) - p := by rw [Int.sub_mul, Int.neg_mul, Int.one_mul]
      have m5 : x * p ≤ 0 := Int.mul_nonpos_of_nonpos_of_nonneg (by omega) b2
      have m6 : 0 < b * x := Int.mul_pos_of_neg_of_neg b1 (by omega)
      exact ⟨.inl ⟨m6, by omega, by omega⟩, .inr ⟨by omega, m5⟩, b5⟩

theorem good_rise {q : Int} {r : List Int} (hq : 1 ≤ q) (h : RisesAfter q r) : Good (q :: r) := by
  obtain ⟨b1, b2, b3, b4, b5⟩ := rise_claim r q hq h
  rw [Good]
  have hx : (q + 1) * (frac r).1 = q * (frac r).1 + (frac r).1 := by rw [Int.add_mul, Int.one_mul]
  exact ⟨.inl ⟨Int.mul_nonneg (by omega) b2, by omega⟩, b5⟩
theorem good_fall {q : Int} {r : List Int} (hq : q ≤ -1) (h : FallsAfter q r) : Good (q :: r) := by
  obtain ⟨c, b5⟩ := fall_claim r q hq h
  rw [Good]
  generalize (frac r).1 = p at *
  generalize (frac r).2 = b at *
  refine ⟨?_, b5⟩
  rcases c with ⟨b1, b2, b3⟩ | ⟨b1, b2, b3⟩
  · have m4 : (-q - 1) * (-p) = q * p + p := by rw [Int.sub_mul, Int.neg_mul, Int.one_mul, Int.mul_neg]; omega
    have m5 : 0 ≤ q * p := Int.mul_nonneg_of_nonpos_of_nonpos (by omega) b2
    exact .inl ⟨m5, by omega⟩
  · have m4 : (-q - 1) * p = -(q * p) - p := by rw [Int.sub_mul, Int.neg_mul, Int.one_mul]
    have m5 : q * p ≤ 0 := Int.mul_nonpos_of_nonpos_of_nonneg (by omega) b2
    exact .inr ⟨by omega, m5⟩
theorem fdm_unique {a b q r : Int} (e : a = q * b + r) (h : (0 ≤ r ∧ r < b) ∨ (b < r ∧ r ≤ 0)) : a.fdiv b = q ∧ a.fmod b = r := by
  have pos : ∀ {a b q r : Int}, a = q * b + r → 0 ≤ r → r < b → a.fdiv b = q := by
    intro a b q r e h0 h1
    rw [Int.fdiv_eq_ediv_of_nonneg _ (by omega)]
    exact ((Int.ediv_emod_unique (by omega : 0 < b)).mpr ⟨by rw [e, Int.mul_comm]; omega, h0, h1⟩).1
  have hd : a.fdiv b = q := by
    rcases h with ⟨h0, h1⟩ | ⟨h0, h1⟩
    · exact pos e h0 h1
    · rw [← Int.neg_fdiv_neg]
      exact pos (r := -r) (by rw [e, Int.mul_neg]; omega) (by omega) (by omega)
  refine ⟨hd, ?_⟩
  rw [Int.fmod_def, hd, Int.mul_comm]
  omega
/-- one turn of the coming out -/
theorem come_step {q p b c : Int} (hc : c ≠ 0) (h : (0 ≤ q * p ∧ q * p < b - p) ∨ (b - p < q * p ∧ q * p ≤ 0)) :
    c * (b - p) ≠ 0 ∧ (c * (b * q)).fdiv (c * (b - p)) = q ∧ (c * (b * q)).fmod (c * (b - p)) = (c * q) * p ∧ c * (b * q) - q * (c * (b - p)) = (c * q) * p ∧ (c * q) * p ≤ (c * (b - p)).natAbs ∧ -((c * (b - p)).natAbs : Int) ≤ (c * q) * p := by
  have hne : b - p ≠ 0 := by omega
  have hr : (c * q) * p = c * (q * p) := Int.mul_assoc ..
  have e1 : c * (b * q) = q * (c * (b - p)) + (c * q) * p := by
    rw [Int.mul_left_comm q c (b - p), ← Int.mul_assoc c q (b - p), Int.mul_sub, Int.mul_comm b q, ← Int.mul_assoc]; omega
  have h2 : (0 ≤ (c * q) * p ∧ (c * q) * p < c * (b - p)) ∨ (c * (b - p) < (c * q) * p ∧ (c * q) * p ≤ 0) := by
    rw [hr]
    rcases Int.lt_or_gt_of_ne hc with hc | hc
    · rcases h with ⟨h0, h1⟩ | ⟨h0, h1⟩
      · exact .inr ⟨Int.mul_lt_mul_of_neg_left h1 hc, Int.mul_nonpos_of_nonpos_of_nonneg (by omega) h0⟩
      · exact .inl ⟨Int.mul_nonneg_of_nonpos_of_nonpos (by omega) h1, Int.mul_lt_mul_of_neg_left h0 hc⟩
    · rcases h with ⟨h0, h1⟩ | ⟨h0, h1⟩
      · exact .inl ⟨Int.mul_nonneg (by omega) h0, Int.mul_lt_mul_of_pos_left h1 hc⟩
      · exact .inr ⟨Int.mul_lt_mul_of_pos_left h0 hc, Int.mul_nonpos_of_nonneg_of_nonpos (by omega) h1⟩
  obtain ⟨d1, d2⟩ := fdm_unique e1 h2
  exact ⟨Int.mul_ne_zero hc hne, d1, d2, by omega, by omega, by omega⟩
/-- all between -M and M -/
def Within (M : Int) (l : List Int) : Prop := ∀ q ∈ l, -M ≤ q ∧ q ≤ M
theorem frac_bound {M : Int} (hM : 1 ≤ M) : ∀ (r : List Int), Within M r → (frac r).2.natAbs ≤ (M ^ r.length).natAbs ∧ (frac r).1.natAbs ≤ r.length * (M ^ r.length).natAbs
  | [], _ => by simp [frac]
  | q :: r, h => by
    obtain ⟨i1, i2⟩ := frac_bound hM r fun x hx => h x (.tail _ hx)
    obtain ⟨q1, q2⟩ := h q (.head _)
    rw [frac, List.length_cons, Int.pow_succ]
    simp only [Int.natAbs_mul]
    generalize (frac r).1 = p at *
    generalize (frac r).2 = b at *
    have hp : 1 ≤ M.natAbs := by omega
    have hqa : q.natAbs ≤ M.natAbs := by omega
    generalize (M ^ r.length).natAbs = P at *
    have m1 : b.natAbs * q.natAbs ≤ P * M.natAbs := Nat.mul_le_mul i1 hqa
    have m2 : P * 1 ≤ P * M.natAbs := Nat.mul_le_mul_left _ hp
    have m3 : r.length * P ≤ r.length * (P * M.natAbs) := Nat.mul_le_mul_left _ (by omega)
    refine ⟨m1, ?_⟩
    rw [Nat.add_mul, Nat.one_mul]
    omega
theorem rise_row : ∀ (ns : List Int) (p : Int) (front : List Int) (lst : Int), ns ≠ [] → (∀ x ∈ ns, 0 ≤ x ∧ x < 10000) → p :: riseL p ns = front ++ [lst] →
    ∃ r, front ++ [lst + 1] = p :: r ∧ RisesAfter p r ∧ ∀ x ∈ r, p ≤ x ∧ x ≤ p + 10000 * ns.length + 1
  | [], _, _, _, h, _, _ => absurd rfl h
  | [s], p, front, lst, _, hs, e => by
    obtain ⟨s1, s2⟩ := hs s (.head _)
    simp only [riseL] at e
    have e' : [p] ++ [p + 1 + s] = front ++ [lst] := e
    obtain ⟨rfl, h2⟩ := List.append_inj' e' rfl
    cases h2
    refine ⟨[p + 1 + s + 1], rfl, ?_, ?_⟩
    · show p + 2 ≤ p + 1 + s + 1
      omega
    · intro x hx
      rw [List.mem_singleton] at hx
      subst hx
      simp only [List.length_cons, List.length_nil]
      omega
  | s :: s' :: r, p, front, lst, _, hs, e => by
    obtain ⟨s1, s2⟩ := hs s (.head _)
    rw [riseL] at e
    cases front with
    | nil => simp at e
    | cons f fr =>
      simp only [List.cons_append, List.cons.injEq] at e
      obtain ⟨rfl, e⟩ := e
      obtain ⟨r', e1, e2, e3⟩ := rise_row (s' :: r) (p + 1 + s) fr lst (by simp) (fun x hx => hs x (.tail _ hx)) e
      refine ⟨(p + 1 + s) :: r', by rw [List.cons_append, e1], ?_, ?_⟩
      · cases r' with
        | nil =>
          exfalso
          have := congrArg List.length e1
          have h2 := congrArg List.length e
          simp only [List.length_append, List.length_cons, List.length_nil, riseL_length] at this h2
          omega
        | cons y r'' => exact ⟨by omega, e2⟩
      · intro x hx
        have hl : ((s :: s' :: r).length : Int) = (s' :: r).length + 1 := by rw [List.length_cons]; omega
        rcases List.mem_cons.mp hx with rfl | hx
        · omega
        · have := e3 x hx
          omega
theorem fall_row : ∀ (ns : List Int) (p : Int), (∀ x ∈ ns, 0 ≤ x ∧ x < 10000) → FallsAfter p (fallL p ns) ∧ ∀ x ∈ fallL p ns, x ≤ p ∧ p - 10000 * ns.length ≤ x
  | [], _, _ => ⟨trivial, fun _ h => nomatch h⟩
  | s :: r, p, hs => by
    obtain ⟨s1, s2⟩ := hs s (.head _)
    obtain ⟨e1, e2⟩ := fall_row r (p - s) (fun x hx => hs x (.tail _ hx))
    rw [fallL]
    refine ⟨⟨by omega, e1⟩, ?_⟩
    intro x hx
    have hl : ((s :: r).length : Int) = r.length + 1 := by rw [List.length_cons]; omega
    rcases List.mem_cons.mp hx with rfl | hx
    · omega
    · have := e2 x hx
      omega
end Mine
end

section
open PySem PySem.W PyProof.Rows PySem.Calls
namespace Mine

section
variable {prog : Program} {w : World} {A : Around} {E : Value → Shared → Prop} {s : Shared} {env : Env} {h₀ : Heap} {L : Addr} {m : Str → Option Value} {x : Str} {body : List Stmt} {Q : Flow → Shared → Prop}
/-- a loop over a list by what holds between its turns -/
theorem listRest_ind {I : Addr} {lp : Addr × Obj} (J : List Value → (Str → Option Value) → List (Addr × Obj) → Prop) :
    ∀ (r pre : List Value) (all : List Value) (m : Str → Option Value) (news : List (Addr × Obj)), pre ++ r = all →
      (∀ pre v r m news, pre ++ v :: r = all → J pre m news → ∀ (it : Obj) h tk, it.cls = .type "list_iterator" → Fr h₀ env.locals h (fun y => if y = x then some v else m y) → News h₀ env.locals h ((I, it) :: news) →
        wpAny (model prog w) A (execs body env) (UnrPost h₀ env.locals { s with heap := h, toks := tk } I it (fun m' n' => lp ∈ n' ∧ J (pre ++ [v]) m' n') Q) E { s with heap := h, toks := tk }) →
      (∀ m news, J all m news → ∀ h tk, Fr h₀ env.locals h m → News h₀ env.locals h news → Q .next { s with heap := h, toks := tk }) →
      J pre m news → ListRest prog w A E h₀ env x body Q s I lp r m news
  | [], pre, all, m, news, e, _, done, hj => by
    rw [List.append_nil] at e
    subst e
    exact ListRest.zero (done m news hj)
  | v :: r, pre, all, m, news, e, turn, done, hj => by
    refine ListRest.succ fun it h tk hc F N => wpAny_mono (turn pre v r m news e hj it h tk hc F N) (fun f s₂ p => ?_) fun _ _ e => e
    have go : UnrEnd h₀ env.locals { s with heap := h, toks := tk } I it (fun m' n' => lp ∈ n' ∧ J (pre ++ [v]) m' n') s₂ → UnrEnd h₀ env.locals { s with heap := h, toks := tk } I it (fun m' n' => lp ∈ n' ∧ ListRest prog w A E h₀ env x body Q s I lp r m' n') s₂ := by
      rintro ⟨h', tk', m', news', e1, F', N', off, hl, hJ⟩
      exact ⟨h', tk', m', news', e1, F', N', off, hl, listRest_ind J r (pre ++ [v]) all m' news' (by rw [← e]; simp) turn done hJ⟩
    cases f with
    | ret v => exact p
    | brk => exact p
    | next => exact go p
    | cont => exact go p
end

theorem map2 {m : Str → Option Value} {x1 x2 : Str} {v1 v2 : Option Value} (h1 : m x1 = v1) (h2 : m x2 = v2) : m = fun y => if y = x1 then v1 else if y = x2 then v2 else m y := by
  funext y
  (repeat' split) <;> simp_all
theorem map4 {m : Str → Option Value} {x1 x2 x3 x4 : Str} {v1 v2 v3 v4 : Option Value} (h1 : m x1 = v1) (h2 : m x2 = v2) (h3 : m x3 = v3) (h4 : m x4 = v4) : m = fun y => if y = x1 then v1 else if y = x2 then v2 else if y = x3 then v3 else if y = x4 then v4 else m y := by
  funext y
  (repeat' split) <;> simp_all

section
variable {prog : Program} {w : World} {A : Around} {E : Value → Shared → Prop} {s : Shared} {h₀ : Heap} {L D : Addr} {m : Str → Option Value} {news news' : List (Addr × Obj)} {vs : List Value} {n : Nat} {x : Int} {t u : Tok}
theorem set_last {Q : Unit → Shared → Prop} (F : Fr h₀ L s.heap m) (N : News h₀ L s.heap news) (h1 : 0 < vs.length) (U : Upd D (listOf vs.toArray n) (listOf (vs.set (vs.length - 1) (.int x u)).toArray n) news news')
    (h : ∀ h', Fr h₀ L h' m → News h₀ L h' news' → Q () { s with heap := h' }) : wpAny (model prog w) A (setItem (.ref D) (.int (-1) t) (.int x u)) Q E s := by
  obtain ⟨pre, post, rfl, rfl, a, b⟩ := U.split
  have z := N (D, listOf vs.toArray n) (List.mem_append.mpr (.inr (.head _)))
  have hs : vs.toArray.size = vs.length := List.size_toArray
  have e : ((-1 : Int) + (vs.toArray.size : Int)).toNat = vs.length - 1 := by omega
  refine ki_setBack z.1 (by decide) (by omega) (by decide) ?_
  refine h _ (F.change (Heap.SameBut.update ..) z.2.1 z.2.2) (ki_turn _ N a b ?_ ?_)
  · rw [e]
    apply Array.toList_inj.mp
    simp
  · simp
end
theorem news_tail {h₀ h : Heap} {L : Addr} {x : Addr × Obj} {T : List (Addr × Obj)} (N : News h₀ L h (x :: T)) : News h₀ L h T := fun q hq => N q (.tail _ hq)
theorem set_front {front : List Int} {lst x : Int} : (front ++ [lst]).set front.length x = front ++ [x] := by
  rw [List.set_append_right _ _ (Nat.le_refl _), Nat.sub_self]; rfl

local macro_rules | `(tactic| walk_at "idle 0") => `(tactic| fail)
local macro_rules | `(tactic| walk_at "idle 1") => `(tactic| fail)
local macro_rules | `(tactic| walk_at "idle 2") => `(tactic| fail)
local macro_rules | `(tactic| walk_at "call ref") => `(tactic| refine Hold.out ?_)
local macro_rules | `(tactic| walk_at "UnrEnd") => `(tactic| refine Hold.out ?_)
local macro_rules | `(tactic| walk_at "pyIter ref") => `(tactic| refine Hold.out ?_)
local macro_rules | `(tactic| walk_at "exec For") => `(tactic| (k_here; (rename Fr _ _ _ _ => lF'); (with_unfolding_all refine' For_invVF lF' ?k1 ?k2 ?_; (case k1 => exact rfl); (case k2 => exact rfl); k_whole)))
local macro_rules | `(tactic| k_all) => `(tactic| assumption)
set_option maxRecDepth 100000 in
set_option maxHeartbeats 8000000 in
theorem law_rising (w : World) (ls : Addr) (vs : List Value) (s0 : Int) (ns : List Int) (n : Nat) (rest : List (Addr × Obj)) (hv : IntsAre vs (s0 :: ns)) (h2 : ns.length ≤ 5) (hr : ∀ q ∈ rest, ∀ r ∈ [(ls, listOf vs.toArray n)], q.1 ≠ r.1) :
    Meet w 63 2 [.ref ls] ([(ls, listOf vs.toArray n)] ++ rest) (fun r led' => ∃ l rvs front lst pn, r = .ref l ∧ (1 + s0) :: riseL (1 + s0) ns = front ++ [lst] ∧ IntsAre rvs (if front = [] then [lst] else front ++ [lst + 1]) ∧
      led' = ((l, listOf rvs.toArray pn) :: [(ls, listOf vs.toArray n)]) ++ rest ∧ (∀ q ∈ rest, ∀ r ∈ ((l, listOf rvs.toArray pn) :: [(ls, listOf vs.toArray n)]), q.1 ≠ r.1) ∧ @LT.lt Nat _ ls l) := by
  unfold Meet
  k_fill
  intro p loose mean mg mb dp un gd cn cs a' ccd cl outer A₀ base h₀ L m s Q E B F X N T C1 C2 hk hd hu hret
  refine wpAny_call ?_
  k_dflt (refine' enter_def (led := [(ls, listOf vs.toArray n)]) (rest := rest) B F X N T ?kA ?kF ?kK ?k6 ?k7 ?k8 ?k9 ?kB hr ?_ ?c2 ?c3 ?c4 ?c5; (case kA => exact rfl); (case kF => exact rfl); (case kK => exact hk); (case k6 => k_is); (case k7 => k_is); (case k8 => ktr_room); (case k9 => exact BindsTo.of_eq rfl); (case kB => exact locs rfl); (case c2 => exact rfl); (case c3 => exact rfl); (case c4 => exact rfl); (case c5 => decide); k_whole; intro g' L' h' FG' F' N' B' X' T' NR l1; (try dsimp only); (try k_fold))
  have ll : @LT.lt Nat _ ls L' := l1 (ls, _) (List.mem_append_left _ (.head _))
  have hlen : (s0 :: ns).length ≤ 6 := by rw [List.length_cons]; omega
  clear N l1
  k_steps
  rename_i t0 lr h1 l2 h3 D ws h4 F4 N4 hI hC hL l4
  refine hold_in (iter_listUnr (lo := listOf ws.toArray 0) (vs := ws) (n := 0) rfl F4 N4 (.head _) rfl rfl ?_)
  intro I lI
  have lI1 : @LT.lt Nat _ D I := lI (D, _) (.head _)
  have lI2 : @LT.lt Nat _ lr I := lI (lr, _) (.tail _ (.head _))
  have lI3 : @LT.lt Nat _ ls I := lI (ls, _) (.tail _ (.tail _ (.head _)))
  have hI : IntsAre ws ns := hI
  clear F4 N4
  refine listRest_ind (fun pre m news => ∃ (mr : Str → Option Value) (ua : Option Value) (rvs : List Value) (front : List Int) (lst : Int) (pn : Nat) (pns : List Int),
      (m = fun y => if y = Str.ofString "step" then ua else if y = Str.ofString "row" then some (.ref lr) else mr y) ∧
      news = (D, listOf ws.toArray 0) :: (lr, listOf (List.toArray rvs) pn) :: (ls, listOf vs.toArray n) :: [] ∧ IntsAre pre pns ∧ IntsAre rvs (front ++ [lst]) ∧ (1 + s0) :: riseL (1 + s0) pns = front ++ [lst]) ws [] ws _ _ rfl ?turn ?done ?start
  case start =>
    exact ⟨_, _, [.int (1 + s0) _], [], 1 + s0, 0, [], map2 rfl rfl, rfl, .nil, .cons _ _ .nil, rfl⟩
  case turn =>
    rintro pre v r m news hsplit ⟨mr, ua, rvs, front, lst, pn, pns, rfl, rfl, hp, hq, er⟩ it h tk hit F6 N6
    rw [← hsplit] at hI
    obtain ⟨d, td, q, rfl, ens⟩ := ints_split hI hp
    have hfl : front.length = pns.length := by
      have e := congrArg List.length er
      rw [List.length_cons, riseL_length, List.length_append] at e
      simp at e; omega
    have hpl : pns.length + 1 ≤ 5 := by
      have e := congrArg List.length ens
      rw [List.length_append, List.length_cons] at e
      omega
    have hql : rvs.length = front.length + 1 := by rw [hq.length, List.length_append]; rfl
    k_steps
    rename Fr _ _ _ _ => F5
    rename News _ _ _ _ => N5
    rw [List.push_toArray] at N5
    refine hold_in (UnrEnd.intro F5 N5 ((D, _) :: (lr, _) :: (ls, _) :: []) (fun p hp => hp) ?off ⟨.head _, _, _, rvs ++ [_], front ++ [lst], lst + 1 + d, _, pns ++ [d], map2 rfl rfl, rfl, ints_append hp (.cons _ _ .nil), ints_append hq (.cons _ _ .nil), riseL_snoc d pns _ _ _ er⟩)
    case off =>
      intro p hp
      simp only [List.mem_cons, List.not_mem_nil, or_false] at hp
      rcases hp with rfl | rfl | rfl
      · exact Nat.ne_of_lt lI1
      · exact Nat.ne_of_lt lI2
      · exact Nat.ne_of_lt lI3
  case done =>
    rintro m news ⟨mr, ua, rvs, front, lst, pn, pns, rfl, rfl, hp, hq, er⟩ h tk F6 N6
    have epn := ints_inj hp hI
    subst epn
    have hfl : front.length = pns.length := by
      have e := congrArg List.length er
      rw [List.length_cons, riseL_length, List.length_append] at e
      simp at e; omega
    have hfl2 : (front ++ [lst]).length ≤ 6 := by rw [List.length_append]; simp; omega
    dsimp only
    k_steps
    · rename_i hf1 _
      rename News _ _ _ _ => N5
      rename Fr _ _ _ _ => F5
      have hql : rvs.length = front.length + 1 := by rw [hq.length, List.length_append]; rfl
      k_dflt (refine' set_last (vs := rvs) (n := pn) F5 N5 (by omega) ?U ?_; (case U => k_upd))
      intro h3 F3 N3
      k_sweep
      dsimp only
      k_steps
      rename Fr g' _ _ _ => F2
      rename News g' _ _ _ => N2
      rename News h₀ _ _ _ => N1
      have hga := ground_apart NR N2
      have hne : front ≠ [] := fun e => by rw [e] at hf1; simp at hf1
      refine hret _ _ _ _ ⟨lr, _, front, lst, pn, rfl, er, ?_, rfl, fun q hq r hr' => hga q hq r (.tail _ hr'), by omega⟩ (by assumption) (news_join (news_tail N1) (rest_back NR F2))
      rw [if_neg hne, ← set_front, show front.length = rvs.length - 1 by omega]
      exact ints_set hq _
    · rename_i hf1 _ _ _ _
      rename Fr g' _ _ _ => F2
      rename News g' _ _ _ => N2
      rename News h₀ _ _ _ => N1
      have hga := ground_apart NR N2
      have hne : front = [] := List.length_eq_zero_iff.mp (by omega)
      refine hret _ _ _ _ ⟨lr, _, front, lst, pn, rfl, er, ?_, rfl, fun q hq r hr' => hga q hq r (.tail _ hr'), by omega⟩ (by assumption) (news_join (news_tail N1) (rest_back NR F2))
      rw [if_pos hne]
      rw [hne] at hq
      exact hq
end Mine
end

section
open PySem PySem.W PyProof.Rows PySem.Calls
namespace Mine
local macro_rules | `(tactic| walk_at "idle 0") => `(tactic| fail)
local macro_rules | `(tactic| walk_at "idle 1") => `(tactic| fail)
local macro_rules | `(tactic| walk_at "idle 2") => `(tactic| fail)
local macro_rules | `(tactic| walk_at "idle 3") => `(tactic| fail)
local macro_rules | `(tactic| walk_at "call ref") => `(tactic| refine Hold.out ?_)
local macro_rules | `(tactic| walk_at "UnrEnd") => `(tactic| refine Hold.out ?_)
local macro_rules | `(tactic| walk_at "pyIter ref") => `(tactic| refine Hold.out ?_)
local macro_rules | `(tactic| walk_at "exec For") => `(tactic| (k_here; (rename Fr _ _ _ _ => lF'); (with_unfolding_all refine' For_invVF lF' ?k1 ?k2 ?_; (case k1 => exact rfl); (case k2 => exact rfl); k_whole)))
local macro_rules | `(tactic| k_all) => `(tactic| assumption)
set_option maxRecDepth 100000 in
set_option maxHeartbeats 8000000 in
theorem law_falling (w : World) (ls : Addr) (vs : List Value) (s0 : Int) (ns : List Int) (n : Nat) (rest : List (Addr × Obj)) (hv : IntsAre vs (s0 :: ns)) (h2 : ns.length ≤ 5) (hr : ∀ q ∈ rest, ∀ r ∈ [(ls, listOf vs.toArray n)], q.1 ≠ r.1) :
    Meet w 70 2 [.ref ls] ([(ls, listOf vs.toArray n)] ++ rest) (fun r led' => ∃ l rvs front lst pn, r = .ref l ∧ (-1 - s0) :: fallL (-1 - s0) ns = front ++ [lst] ∧ IntsAre rvs (front ++ [lst]) ∧
      led' = ((l, listOf rvs.toArray pn) :: [(ls, listOf vs.toArray n)]) ++ rest ∧ (∀ q ∈ rest, ∀ r ∈ ((l, listOf rvs.toArray pn) :: [(ls, listOf vs.toArray n)]), q.1 ≠ r.1) ∧ @LT.lt Nat _ ls l) := by
  unfold Meet
  k_fill
  intro p loose mean mg mb dp un gd cn cs a' ccd cl outer A₀ base h₀ L m s Q E B F X N T C1 C2 hk hd hu hret
  refine wpAny_call ?_
  k_dflt (refine' enter_def (led := [(ls, listOf vs.toArray n)]) (rest := rest) B F X N T ?kA ?kF ?kK ?k6 ?k7 ?k8 ?k9 ?kB hr ?_ ?c2 ?c3 ?c4 ?c5; (case kA => exact rfl); (case kF => exact rfl); (case kK => exact hk); (case k6 => k_is); (case k7 => k_is); (case k8 => ktr_room); (case k9 => exact BindsTo.of_eq rfl); (case kB => exact locs rfl); (case c2 => exact rfl); (case c3 => exact rfl); (case c4 => exact rfl); (case c5 => decide); k_whole; intro g' L' h' FG' F' N' B' X' T' NR l1; (try dsimp only); (try k_fold))
  have ll : @LT.lt Nat _ ls L' := l1 (ls, _) (List.mem_append_left _ (.head _))
  have hlen : (s0 :: ns).length ≤ 6 := by rw [List.length_cons]; omega
  clear N l1
  k_steps
  rename_i t0 lr h1 l2 h3 D ws h4 F4 N4 hI hC hL l4
  refine hold_in (iter_listUnr (lo := listOf ws.toArray 0) (vs := ws) (n := 0) rfl F4 N4 (.head _) rfl rfl ?_)
  intro I lI
  have lI1 : @LT.lt Nat _ D I := lI (D, _) (.head _)
  have lI2 : @LT.lt Nat _ lr I := lI (lr, _) (.tail _ (.head _))
  have lI3 : @LT.lt Nat _ ls I := lI (ls, _) (.tail _ (.tail _ (.head _)))
  have hI : IntsAre ws ns := hI
  clear F4 N4
  refine listRest_ind (fun pre m news => ∃ (mr : Str → Option Value) (ua : Option Value) (rvs : List Value) (front : List Int) (lst : Int) (pn : Nat) (pns : List Int),
      (m = fun y => if y = Str.ofString "step" then ua else if y = Str.ofString "row" then some (.ref lr) else mr y) ∧
      news = (D, listOf ws.toArray 0) :: (lr, listOf (List.toArray rvs) pn) :: (ls, listOf vs.toArray n) :: [] ∧ IntsAre pre pns ∧ IntsAre rvs (front ++ [lst]) ∧ (-1 - s0) :: fallL (-1 - s0) pns = front ++ [lst]) ws [] ws _ _ rfl ?turn ?done ?start
  case start =>
    exact ⟨_, _, [.int (-1 - s0) _], [], -1 - s0, 0, [], map2 rfl rfl, rfl, .nil, .cons _ _ .nil, rfl⟩
  case turn =>
    rintro pre v r m news hsplit ⟨mr, ua, rvs, front, lst, pn, pns, rfl, rfl, hp, hq, er⟩ it h tk hit F6 N6
    rw [← hsplit] at hI
    obtain ⟨d, td, q, rfl, ens⟩ := ints_split hI hp
    have hfl : front.length = pns.length := by
      have e := congrArg List.length er
      rw [List.length_cons, fallL_length, List.length_append] at e
      simp at e; omega
    have hpl : pns.length + 1 ≤ 5 := by
      have e := congrArg List.length ens
      rw [List.length_append, List.length_cons] at e
      omega
    have hql : rvs.length = front.length + 1 := by rw [hq.length, List.length_append]; rfl
    k_steps
    rename Fr _ _ _ _ => F5
    rename News _ _ _ _ => N5
    rw [List.push_toArray] at N5
    refine hold_in (UnrEnd.intro F5 N5 ((D, _) :: (lr, _) :: (ls, _) :: []) (fun p hp => hp) ?off ⟨.head _, _, _, rvs ++ [_], front ++ [lst], lst - d, _, pns ++ [d], map2 rfl rfl, rfl, ints_append hp (.cons _ _ .nil), ints_append hq (.cons _ _ .nil), fallL_snoc d pns _ _ _ er⟩)
    case off =>
      intro p hp
      simp only [List.mem_cons, List.not_mem_nil, or_false] at hp
      rcases hp with rfl | rfl | rfl
      · exact Nat.ne_of_lt lI1
      · exact Nat.ne_of_lt lI2
      · exact Nat.ne_of_lt lI3
  case done =>
    rintro m news ⟨mr, ua, rvs, front, lst, pn, pns, rfl, rfl, hp, hq, er⟩ h tk F6 N6
    have epn := ints_inj hp hI
    subst epn
    have hfl : front.length = pns.length := by
      have e := congrArg List.length er
      rw [List.length_cons, fallL_length, List.length_append] at e
      simp at e; omega
    have hfl2 : (front ++ [lst]).length ≤ 6 := by rw [List.length_append]; simp; omega
    dsimp only
    k_steps
    rename Fr g' _ _ _ => F2
    rename News g' _ _ _ => N2
    rename News h₀ _ _ _ => N1
    have hga := ground_apart NR N2
    exact hret _ _ _ _ ⟨lr, _, front, lst, pn, rfl, er, hq, rfl, fun q hq r hr' => hga q hq r (.tail _ hr'), by omega⟩ (by assumption) (news_join (news_tail N1) (rest_back NR F2))
end Mine
end

section
open PySem PySem.W PyProof.Rows PySem.Calls
namespace Mine

theorem bits_abs {x : Int} (h : x.natAbs < 2 ^ 64) : Builtin.Int.intBits x ≤ 64 := by
  unfold Builtin.Int.intBits
  split
  · exact Nat.zero_le _
  · rename_i hx
    have hx' : x.natAbs ≠ 0 := by simpa using hx
    have := (Nat.log2_lt hx').mpr h
    omega

local macro_rules | `(tactic| walk_at "idle 0") => `(tactic| fail)
local macro_rules | `(tactic| walk_at "idle 1") => `(tactic| fail)
local macro_rules | `(tactic| walk_at "idle 2") => `(tactic| fail)
local macro_rules | `(tactic| walk_at "call ref") => `(tactic| refine Hold.out ?_)
local macro_rules | `(tactic| walk_at "call type:reversed") => `(tactic| refine Hold.out ?_)
local macro_rules | `(tactic| walk_at "UnrEnd") => `(tactic| refine Hold.out ?_)
local macro_rules | `(tactic| walk_at "pyIter ref") => `(tactic| refine Hold.out ?_)
local macro_rules | `(tactic| walk_at "binaryOp Mult int int") => `(tactic| refine Hold.out ?_)
local macro_rules | `(tactic| walk_at "exec For") => `(tactic| (k_here; (rename Fr _ _ _ _ => lF'); (with_unfolding_all refine' For_invVF lF' ?k1 ?k2 ?_; (case k1 => exact rfl); (case k2 => exact rfl); k_whole)))
local macro_rules | `(tactic| k_all) => `(tactic| assumption)
set_option maxRecDepth 100000 in
set_option maxHeartbeats 8000000 in
theorem law_fraction (w : World) (lr : Addr) (rvs : List Value) (row : List Int) (pn : Nat) (rest : List (Addr × Obj)) (hv : IntsAre rvs row) (hw : Within 65536 row) (hr : ∀ q ∈ rest, ∀ r ∈ [(lr, listOf rvs.toArray pn)], q.1 ≠ r.1) :
    Meet w 77 2 [.ref lr] ([(lr, listOf rvs.toArray pn)] ++ rest) (fun r led' => ∃ x t1 t2, r = .ref x ∧
      led' = ((x, tupOf #[.int (frac row).1 t1, .int (frac row).2 t2]) :: [(lr, listOf rvs.toArray pn)]) ++ rest ∧ (∀ q ∈ rest, @Ne Nat q.1 x) ∧ @Ne Nat lr x) := by
  unfold Meet
  k_fill
  intro p loose mean mg mb dp un gd cn cs a' ccd cl outer A₀ base h₀ L m s Q E B F X N T C1 C2 hk hd hu hret
  refine wpAny_call ?_
  k_dflt (refine' enter_def (led := [(lr, listOf rvs.toArray pn)]) (rest := rest) B F X N T ?kA ?kF ?kK ?k6 ?k7 ?k8 ?k9 ?kB hr ?_ ?c2 ?c3 ?c4 ?c5; (case kA => exact rfl); (case kF => exact rfl); (case kK => exact hk); (case k6 => k_is); (case k7 => k_is); (case k8 => ktr_room); (case k9 => exact BindsTo.of_eq rfl); (case kB => exact locs rfl); (case c2 => exact rfl); (case c3 => exact rfl); (case c4 => exact rfl); (case c5 => decide); k_whole; intro g' L' h' FG' F' N' B' X' T' NR l1; (try dsimp only); (try k_fold))
  have ll : @LT.lt Nat _ lr L' := l1 (lr, _) (List.mem_append_left _ (.head _))
  clear N l1
  k_steps
  rename Fr _ _ _ _ => F7
  rename News _ _ _ _ => N7
  refine hold_in (krv_reversed F7 N7 (PySem.IsL.isList (n := pn) (N7 (lr, _) (by k_mem)).1) ?_)
  clear F7 N7
  intro I h7 F7 N7 l7
  k_steps
  have lI : @LT.lt Nat _ lr I := l7 (lr, _) (.head _)
  have hvr := ints_reverse hv
  refine hold_in (iter_revUnr (lo := listOf rvs.toArray pn) (vs := rvs) (n := pn) rfl F7 N7 (offI_of fun p hp => Nat.ne_of_lt (l7 p hp)) (.head _) rfl rfl ?_)
  clear F7 N7
  refine revRest_ind (fun pre m news => ∃ (mr : Str → Option Value) (ua : Option Value) (t1 t2 : Tok) (pt bd : Int) (pns : List Int),
      (m = fun y => if y = Str.ofString "quotient" then ua else if y = Str.ofString "part" then some (.int pt t1) else if y = Str.ofString "bound" then some (.int bd t2) else mr y) ∧
      news = [(lr, listOf rvs.toArray pn)] ∧ IntsAre pre pns ∧ pt = (frac pns.reverse).1 ∧ bd = (frac pns.reverse).2) rvs.reverse [] rvs.reverse _ _ rfl ?turn ?done ?start
  case start =>
    exact ⟨_, _, _, _, _, _, [], map3 rfl rfl rfl, rfl, .nil, rfl, rfl⟩
  case turn =>
    rintro pre v r m news hsplit ⟨mr, ua, t1, t2, pt, bd, pns, rfl, rfl, hp, ep, eb⟩ it h tk hit F6 N6
    rw [← hsplit] at hvr
    obtain ⟨d, td, q, rfl, ens⟩ := ints_split hvr hp
    have hd := hw d (by rw [← List.mem_reverse, ens]; exact List.mem_append_right _ (.head _))
    k_steps
    refine hold_in (PyProof.Rows.mul_int ?_ (PySem.IntMulOk.of_right (bits_abs (by omega))))
    k_steps
    rename Fr _ _ _ _ => F5
    rename News _ _ _ _ => N5
    have e : (pns ++ [d]).reverse = d :: pns.reverse := by simp
    refine hold_in (UnrEnd.intro F5 N5 ((lr, _) :: []) (fun p hp => hp) ?off ⟨.head _, _, _, _, _, _, _, pns ++ [d], map3 rfl rfl rfl, rfl, ints_append hp (.cons _ _ .nil), ?e1, ?e2⟩)
    case off =>
      intro p hp
      rw [List.mem_singleton] at hp
      subst hp
      exact Nat.ne_of_lt lI
    case e1 => rw [e, frac, ep, eb]
    case e2 => rw [e, frac, eb]
  case done =>
    rintro m news ⟨mr, ua, t1, t2, pt, bd, pns, rfl, rfl, hp, ep, eb⟩ h tk F6 N6
    have epn := ints_inj hp hvr
    rw [epn, List.reverse_reverse] at ep eb
    subst ep eb
    dsimp only
    k_steps
    rename Fr g' _ _ _ => F2
    rename News g' _ _ _ => N2
    rename News h₀ _ _ _ => N1
    have hga := ground_apart NR N2
    refine hret _ _ _ _ ⟨_, _, _, rfl, rfl, fun q hq => hga q hq _ (.head _), by omega⟩ (by assumption) (news_join N1 (rest_back NR F2))
end Mine
end

section
open PySem PySem.W PyProof.Rows PySem.Calls PySem.Spec
namespace Mine

section
variable {prog : Program} {w : World} {A : Around} {E : Value → Shared → Prop} {s : Shared} {env : Env}
/-- raise of the class itself: the exception bears no words -/
theorem raise_zero {x : Str} {np pos : Pos} {Q : Flow → Shared → Prop} (hh : A.handled = none)
    (hx : wpAny (model prog w) A (eval (.Name x np) env) (fun v s₁ => v = .type "ZeroDivisionError" ∧ s₁ = s) E s)
    (h : ∀ h' e, Heap.MadeExc s.heap h' e "ZeroDivisionError" [] → E (.ref e) { s with heap := h' }) :
    wpAny (model prog w) A (exec (.Raise (some (.Name x np)) none pos) env) Q E s := by
  have hself : isSubtype (.type "ZeroDivisionError") (.type "ZeroDivisionError") = pure true := F.excCall_ZeroDivisionError.sub
  have hbase := F.excRaise_ZeroDivisionError.isExc
  show wpAny (model prog w) A (do standAt pos; raiseStmt env (some (do let v ← eval (.Name x np) env; standAt pos; pure v)) none) Q E s
  refine wpAny_bind (wpAny_standAt ?_)
  unfold raiseStmt
  dsimp only
  refine wpAny_bind (wpAny_bind (wpAny_mono hx (fun v s₁ h₁ => wpAny_bind (wpAny_standAt (wpAny_pure ?_))) fun _ _ e => e))
  obtain ⟨rfl, e₁⟩ := h₁
  subst e₁
  refine wpAny_bind (wpAny_pure ?_)
  dsimp only
  refine wpAny_bind (wpAny_holding ?_)
  unfold excFromValue isExcClass
  refine wpAny_bind (wpAny_bind (wpAny_pure ?_))
  simp only [if_true]
  rw [hbase]
  refine wpAny_pure ?_
  simp only [if_true]
  refine wpAny_bind (wpAny_call_exc F.excCall_ZeroDivisionError fun h' e hn => ?_)
  obtain ⟨t, he, _⟩ := hn.there
  have hT : ({ s₁ with heap := h' } : Shared).TypeIs (.ref e) "ZeroDivisionError" := ⟨_, he, rfl⟩
  refine wpAny_bind (wpAny_isInstance hT hbase ?_)
  simp only [Bool.not_true, Bool.false_eq_true, if_false]
  refine wpAny_pure ?_
  refine wpAny_bind (m := isType (.type "ZeroDivisionError")) (wpAny_pure ?_)
  simp only [if_true]
  refine wpAny_bind (wpAny_holding ?_)
  unfold raisedFor
  refine wpAny_bind (wpAny_typeOf hT ?_)
  refine wpAny_bind (call_issubclass (issubclass_self excClass_ZeroDivisionError hself) ?_)
  refine wpAny_bind (wpAny_truthy_bool ?_)
  simp only [if_true]
  refine wpAny_pure ?_
  unfold setFlight raiseNew
  refine wpAny_bind (wpAny_bind (wpAny_field (i := 1) (x := Value.none) he rfl rfl ?_))
  rw [if_neg (by decide)]
  refine wpAny_pure (wpAny_bind (wpAny_handled ?_))
  rw [hh]
  first
    | exact wpAny_throw (h h' e hn)
    | exact wpAny_bind (wpAny_pure (wpAny_throw (h h' e hn)))
end

section
variable {prog : Program} {w : World} {A₀ A : Around} {s : Shared} {base h₀ : Heap} {L a : Addr} {m mg mb : Str → Option Value} {cn : Str} {cs : Scope} {ccd : Value} {led rest : List (Addr × Obj)} {K : Frag} {p : Program} {loose : List Str} {mean : ExcName → Option Value}
  {R : Result → Shared → Prop} {name qual : Str} {params : Arguments} {body : List Stmt} {scope : Scope} {dV kV doc pm cdv ct oc : Value} {an od : Option Addr} {osl : Array (Option Value)} {f : Addr} {args : Args} {binds : List (Str × Value)}
/-- a def with a try of its own, called from the outermost frame; of the ledger only led goes along -/
theorem enter_defS0 (B : Below A₀ base [] h₀) (F : Fr h₀ L s.heap m) (X₀ : K.In h₀) (N : News h₀ L s.heap (led ++ rest)) (T : Top p loose mean mg mb h₀) (hA : A.frames = some [envOf cn cs L a ccd])
    (ho : K.lookup f = some ⟨oc, od, .func (fnOf name qual params body scope dV kV doc pm an cdv ct), osl⟩) (hcd : codeIn K cdv qual = true) (hroom : A.depth < recursionLimit)
    (hbind : BindsTo s (fnOf name qual params body scope dV kV doc pm an cdv ct) args binds) (hloc : ∀ y ∈ binds, scope.names.lookup y.1 = some .local) (hdis : ∀ q ∈ rest, ∀ r ∈ led, q.1 ≠ r.1)
    (h : ∀ g L' h₁, Fr h₀ L g m → Fr g L' h₁ (fun y => binds.reverse.lookup y) → News g L' h₁ led → Below A base [envOf cn cs L a ccd] g → K.In g → Top p loose mean mg mb g → KtsDicts ([envOf cn cs L a ccd].filterMap (·.frame)) g → News h₀ L g rest →
      wpAny (model prog w) (A.deeper (envOf qual scope L' f cdv)) (execs body (envOf qual scope L' f cdv))
        (fun fl s' => LeaveS0 ([envOf cn cs L a ccd].filterMap (·.frame)) h₀ L m g R (match fl with | .ret v => v | _ => .none) s')
        (fun e s' => wpAny (model prog w) (A.deeper (envOf qual scope L' f cdv)) (leaving (envOf qual scope L' f cdv) e) (fun _ s'' => R (.error e) s'') (fun e' s'' => R (.error e') s'') s')
        { s with heap := h₁, toks := s.toks + binds.length })
    (hck : cs.kind = .function) (hco : scope.isCoroutine = false) (hgen : scope.isGenerator = false) (hk : scope.kind = .function)
    (hcell : ∀ x ∈ scope.names, x.2 ≠ .cell) : codeAny (model prog w) A (.call (.ref f) args) R s := by
  have X := X₀.keeps F.keep
  have N₀ := news_left N
  refine codeAny_call_def (fd := fnOf name qual params body scope dV kV doc pm an cdv ct) (body := body) (binds := binds) hroom (X _ _ ho) rfl (T.nolimit.keeps F.keep) (codeRec_of X hcd) rfl hbind hcell hloc (fun h₁ hns hk₁ => ?_) hco hgen hk
  obtain ⟨oL, es, ep, hLg, hLd, hN, hNs, st, B₂⟩ := kts_enter B F N₀ hA hck
  have nL₀ : h₀.get? L = none := kts_self F
  refine wpAny_mono (h _ s.heap.objs.size h₁ ⟨hN _ hLg, st, F.above⟩ ⟨hns, fun b o e => hk₁ b o (of_hideAll _ e), Nat.le_of_eq (hideAll_size _ _)⟩
    (fun q hq => ⟨hk₁ _ _ (N₀ q hq).1, Nat.ne_of_lt (Heap.lt_size (N₀ q hq).1), hideAll_none _ (List.mem_map_of_mem hq)⟩) B₂ (X₀.keeps st) (T.keeps st) (fun b hb => ?_) (rest_ground N hdis)) (fun fl s' hl => ?_) fun _ _ y => y
  · rcases kts_mem hb with rfl | z
    · exact ⟨oL, es, ep, hLg, hLd⟩
    · simp at z
  · obtain ⟨g', L', m', news', T', F', N', k⟩ := hl
    obtain ⟨sl, hs⟩ := T'.up hLg
    have oth : ∀ b o, h₀.get? b = some o → b ∉ [envOf cn cs L a ccd].filterMap (·.frame) := fun b o e hm => by
      rcases kts_mem hm with z | z
      · rw [z, nL₀] at e; cases e
      · simp at z
    refine k ⟨hNs sl _ (F'.keep _ _ hs), fun b o e => F'.keep b o (T'.other b o (st b o e) (oth b o e)), F.above⟩ fun q hq => ⟨(N' q hq).1, fun z => ?_, ?_⟩
    · have := (N' q hq).2.2; rw [z, hs] at this; cases this
    · cases z : h₀.get? q.1 with
      | none => rfl
      | some o =>
        have := (N' q hq).2.2
        rw [T'.other _ _ (st _ _ z) (oth _ _ z)] at this
        cases this
/-- the ground turned: what lay aside lies there still -/
theorem rest_turn {g g' : Heap} (NR : News h₀ L g rest) (T : KtsTurn ([envOf cn cs L a ccd].filterMap (·.frame)) g g') : News h₀ L g' rest := fun q hq => ⟨T.other _ _ (NR q hq).1 (fun hm => by
  rcases kts_mem hm with z | z
  · exact (NR q hq).2.1 z
  · simp at z), (NR q hq).2⟩
end
end Mine
end

section
open PySem PySem.W PyProof.Rows PySem.Calls
namespace Mine

/-- a call from the outermost frame -/
def Meet0 (w : World) (f : Addr) (k : Nat) (vs : List Value) (news : List (Addr × Obj)) (R : Value → List (Addr × Obj) → Prop) : Prop :=
  ∀ (p : Program) (loose : List Str) (mean : ExcName → Option Value) (mg mb : Str → Option Value) (dp un : Nat) (gd : Option (List Code)) (cn : Str) (cs : Scope) (a : Addr) (ccd : Value) (A₀ : Around) (h₀ : Heap) (L : Addr) (m : Str → Option Value) (s : Shared) (Q E : Value → Shared → Prop),
    Below A₀ h₀ [] h₀ → Fr h₀ L s.heap m → (Mine.hd.heap_39 w.params).In h₀ → News h₀ L s.heap news → Top p loose mean mg mb h₀ → CodeHd h₀ 41 37 → CodeHd h₀ 34 30 → cs.kind = .function → dp + k < recursionLimit → un + 8 * k < cLine →
    (∀ r news' h' tk', R r news' → Fr h₀ L h' m → News h₀ L h' news' → Q r { s with heap := h', toks := tk' }) →
    wpAny (model PySem.Challenge.rw_mq0470_01.row.prog w) (ktrTop dp un gd cn cs L a ccd [] []) (call (.ref f) vs) Q E s
theorem Meet0.use {w : World} {f : Addr} {k : Nat} {vs : List Value} {led : List (Addr × Obj)} {R : Value → List (Addr × Obj) → Prop} {p : Program} {loose : List Str} {mean : ExcName → Option Value} {mg mb : Str → Option Value} {dp un : Nat} {gd : Option (List Code)} {cn : Str} {cs : Scope} {a : Addr} {ccd : Value} {A₀ : Around} {h₀ : Heap} {L : Addr} {m : Str → Option Value} {s : Shared} {Q E : Value → Shared → Prop}
    (C : Meet0 w f k vs led R) (B : Below A₀ h₀ [] h₀) (F : Fr h₀ L s.heap m) (X : (Mine.hd.heap_39 w.params).In h₀) (N : News h₀ L s.heap led) (T : Top p loose mean mg mb h₀) (C1 : CodeHd h₀ 41 37) (C2 : CodeHd h₀ 34 30) (hk : cs.kind = .function)
    (hd : dp + k < recursionLimit) (hu : un + 8 * k < cLine)
    (ret : ∀ r led' h' tk', R r led' → Fr h₀ L h' m → News h₀ L h' led' → Q r { s with heap := h', toks := tk' }) :
    wpAny (model PySem.Challenge.rw_mq0470_01.row.prog w) (ktrTop dp un gd cn cs L a ccd [] []) (call (.ref f) vs) Q E s :=
  C _ _ _ _ _ _ _ _ _ _ _ _ _ _ _ _ _ _ _ B F X N T C1 C2 hk hd hu ret

local macro_rules | `(tactic| walk_at "idle 0") => `(tactic| fail)
local macro_rules | `(tactic| walk_at "idle 1") => `(tactic| fail)
local macro_rules | `(tactic| walk_at "idle 2") => `(tactic| fail)
local macro_rules | `(tactic| walk_at "call type:str") => `(tactic| refine Hold.out ?_)
local macro_rules | `(tactic| walk_at "exec Raise some none") => `(tactic| (k_here; (with_reducible rename Fr _ _ _ _ => kF); k_dflt (refine' raise_zero ?hh ?hx ?_; (case hh => rfl); (case hx => (refine' name_B kF ?k1 ?k2 ?k3 ?k4 ?k5 ?_; (case k1 => k_asm); (case k2 => k_asm); (case k3 => k_is); (case k4 => boot_by_name); (case k5 => decide); exact ⟨rfl, rfl⟩))); intro h' e' hx'))
local macro_rules | `(tactic| walk_at "call ref") => `(tactic| refine Hold.out ?_)
local macro_rules | `(tactic| walk_at "UnrEnd") => `(tactic| refine Hold.out ?_)
local macro_rules | `(tactic| walk_at "pyIter ref") => `(tactic| refine Hold.out ?_)
local macro_rules | `(tactic| walk_at "binaryOp Mult int int") => `(tactic| refine Hold.out ?_)
local macro_rules | `(tactic| walk_at "exec For") => `(tactic| (k_here; (rename Fr _ _ _ _ => lF'); (with_unfolding_all refine' For_invVF lF' ?k1 ?k2 ?_; (case k1 => exact rfl); (case k2 => exact rfl); k_whole)))
local macro_rules | `(tactic| k_all) => `(tactic| assumption)
set_option maxRecDepth 100000 in
set_option maxHeartbeats 8000000 in
theorem law_comes_out (w : World) (lr : Addr) (rvs : List Value) (row : List Int) (pn : Nat) (pt₀ bd c₀ : Int) (tp tb : Tok) (rest : List (Addr × Obj)) (t1 t2 : Option (Addr × Obj)) (k1 : CodeOk qual1 t1) (k2 : CodeOk qual2 t2)
    (hv : IntsAre rvs row) (hw : Within 65536 row) (hnz : ∀ q ∈ row, q ≠ 0) (hg : Good row) (hc : c₀ ≠ 0) (hp0 : pt₀ = c₀ * (frac row).1) (hb0 : bd = c₀ * (frac row).2) (hpb : pt₀.natAbs < 2 ^ 199) (hbb : bd.natAbs < 2 ^ 199)
    (hr : ∀ q ∈ rest, ∀ r ∈ ((lr, listOf rvs.toArray pn) :: TT t1 t2), q.1 ≠ r.1) (hl : ∀ r ∈ TT t1 t2, r.1 ≠ lr) :
    Meet0 w 84 270 [.ref lr, .int pt₀ tp, .int bd tb] (((lr, listOf rvs.toArray pn) :: TT t1 t2) ++ rest) (fun r led' => ∃ u1 u2, r = .bool true ∧ CodeOk qual1 u1 ∧ CodeOk qual2 u2 ∧
      led' = ((lr, listOf rvs.toArray pn) :: TT u1 u2) ++ rest ∧ (∀ q ∈ rest, ∀ r ∈ ((lr, listOf rvs.toArray pn) :: TT u1 u2), q.1 ≠ r.1) ∧ (∀ r ∈ TT u1 u2, r.1 ≠ lr)) := by
  unfold Meet0
  k_fill
  intro p loose mean mg mb dp un gd cn cs a' ccd A₀ h₀ L m s Q E B F X N T C1 C2 hk hd hu hret
  refine wpAny_call ?_
  k_dflt (refine' enter_defS0 (led := (lr, listOf rvs.toArray pn) :: TT t1 t2) (rest := rest) B F X N T ?kA ?k6 ?k7 ?k8 ?k9 ?kB hr ?_ hk ?c2 ?c3 ?c4 ?c5; (case kA => exact rfl); (case k6 => k_is); (case k7 => k_is); (case k8 => ktr_room); (case k9 => exact BindsTo.of_eq rfl); (case kB => exact locs rfl); (case c2 => exact rfl); (case c3 => exact rfl); (case c4 => exact rfl); (case c5 => decide); k_whole; intro g' L' h' FG' F' N' B' X' T' KD NR; (try dsimp only); (try k_fold))
  clear N
  k_steps
  rename Fr g' _ _ _ => F'
  rename IntsAre _ _ => hv
  refine hold_in (iter_listUnr (lo := listOf rvs.toArray pn) (vs := rvs) (n := pn) rfl F' N' (.head _) rfl rfl ?_)
  intro I lI
  have lI1 : @LT.lt Nat _ lr I := lI (lr, _) (.head _)
  refine listRest_ind (fun pre m news => ∃ (mr : Str → Option Value) (ua ut : Option Value) (pt : Int) (tp : Tok) (pns q : List Int) (c : Int) (v1 v2 : Option (Addr × Obj)),
      (m = fun y => if y = Str.ofString "quotient" then ua else if y = Str.ofString "told" then ut else if y = Str.ofString "part" then some (.int pt tp) else if y = Str.ofString "bound" then some (.int bd tb) else mr y) ∧
      news = (lr, listOf rvs.toArray pn) :: TT v1 v2 ∧ IntsAre pre pns ∧ row = pns ++ q ∧ Good q ∧ c ≠ 0 ∧ pt = c * (frac q).1 ∧ bd = c * (frac q).2 ∧ pt.natAbs < 2 ^ 199 ∧ CodeOk qual1 v1 ∧ CodeOk qual2 v2 ∧ (∀ r ∈ TT v1 v2, r.1 ≠ lr ∧ r.1 ≠ I)) rvs [] rvs _ _ rfl ?turn ?done ?start
  case start =>
    exact ⟨_, _, _, _, _, [], row, c₀, t1, t2, map4 rfl rfl rfl rfl, rfl, .nil, rfl, hg, hc, hp0, hb0, hpb, k1, k2, fun r hr' => ⟨hl r hr', Nat.ne_of_lt (lI r (.tail _ hr'))⟩⟩
  case turn =>
    clear F' N'
    rintro pre v r m news hsplit ⟨mr, ua, ut, pt, tp, pns, q, c, v1, v2, rfl, rfl, hp, er, hg, hc, ep, eb, hpb, k1, k2, hap⟩ it h tk hit F6 N6
    have hv' := hv
    rw [← hsplit] at hv'
    obtain ⟨d, td, q', rfl, ens⟩ := ints_split hv' hp
    have eq' : q = d :: q' := List.append_cancel_left (er.symm.trans ens)
    subst eq'
    obtain ⟨g1, g2⟩ : _ ∧ _ := hg
    obtain ⟨z1, z2, z3, z4, z5, z6⟩ := come_step hc g1
    rw [frac] at ep eb
    dsimp only at ep eb
    rw [← ep, ← eb] at z2 z3
    rw [← ep] at z1 z5 z6 z4
    rw [← eb] at z4
    k_steps
    rename Fr _ _ _ _ => F5
    rename News _ _ _ _ => N5
    refine hold_in ?_
    have N4 : News g' L' h (TT v1 v2 ++ [(I, it), (lr, listOf rvs.toArray pn)]) := news_sub N5 fun q hq => by
      simp only [List.mem_append, List.mem_cons, List.not_mem_nil, or_false] at hq ⊢
      rcases hq with (hq | hq) | hq | hq
      · exact .inr (.inr (.inl hq))
      · exact .inr (.inr (.inr hq))
      · exact .inl hq
      · exact .inr (.inl hq)
    have hap2 : ∀ q ∈ [(I, it), (lr, listOf rvs.toArray pn)], ∀ r ∈ TT v1 v2, q.1 ≠ r.1 := by
      intro q hq r hr'
      simp only [List.mem_cons, List.not_mem_nil, or_false] at hq
      rcases hq with rfl | rfl
      · exact fun e => (hap r hr').2 e.symm
      · exact fun e => (hap r hr').1 e.symm
    k_dflt (refine' Meet.use (int_divmod w bd pt _ _ [(I, it), (lr, listOf rvs.toArray pn)] v1 v2 k1 k2 (by omega) (by omega) z1 (by omega) (by omega) hap2) ?k1 ?k2 ?k3 ?k4 ?k5 ?k6 ?k7 ?kK ?kd ?ku ?_; (case k1 => k_asm); (case k2 => k_asm); (case k3 => k_asm); (case k4 => exact N4); (case k5 => k_asm); (case k6 => k_asm); (case k7 => k_asm); (case kK => exact rfl); (case kd => ktr_room); (case ku => ktr_units))
    clear N4 hap2
    rintro r4 led4 h4 tk4 ⟨x, u1, u2, c1, c2, rfl, q1, q2, rfl, hap4, hx4⟩ F4 N4
    rw [z2, z3] at N4
    have hd0 : d ≠ 0 := hnz d (by rw [er]; exact List.mem_append_right _ (.head _))
    have hd := hw d (by rw [er]; exact List.mem_append_right _ (.head _))
    have hxI : @Ne Nat I x := hx4 (I, it) (.head _)
    have hxr : @Ne Nat lr x := hx4 (lr, _) (.tail _ (.head _))
    have haI : ∀ r ∈ TT (some c1) (some c2), r.1 ≠ I := fun r hr' e => hap4 (I, it) (.head _) r hr' e.symm
    have haR : ∀ r ∈ TT (some c1) (some c2), r.1 ≠ lr := fun r hr' e => hap4 (lr, _) (.tail _ (.head _)) r hr' e.symm
    generalize hTL : TT (some c1) (some c2) = TL at N4 haI haR
    have N3 : News g' L' h4 ((x, _) :: (I, it) :: (lr, listOf rvs.toArray pn) :: TL) := news_sub N4 fun q hq => by
      simp only [List.mem_append, List.mem_cons, List.not_mem_nil, or_false] at hq ⊢
      rcases hq with hq | hq | hq | hq
      · exact .inl hq
      · exact .inr (.inr (.inl hq))
      · exact .inr (.inr (.inr hq))
      · exact .inr (.inl hq)
    clear N4 F5 N5
    rw [← z4] at N3
    dsimp only
    k_steps
    refine hold_in (PyProof.Rows.mul_int ?_ (PySem.IntMulOk.of_left (bits_abs (by omega))))
    k_steps
    rename Fr _ _ _ _ => F2
    rename News _ _ _ _ => N2
    subst hTL
    refine hold_in (UnrEnd.intro F2 N2 ((lr, _) :: TT (some c1) (some c2)) (fun p hp => .tail _ (.tail _ hp)) ?off ⟨.head _, _, _, _, _, _, pns ++ [d], q', c * d, some c1, some c2, map4 rfl rfl rfl rfl, rfl, ints_append hp (.cons _ _ .nil), by rw [er]; simp, g2, ?e1, ?e2, ?e3, ?e4, q1, q2, fun r hr' => ⟨haR r hr', haI r hr'⟩⟩)
    case off =>
      intro p hp
      rcases List.mem_cons.mp hp with rfl | hp
      · exact Nat.ne_of_lt lI1
      · exact haI p hp
    case e1 =>
      intro e
      rcases Int.mul_eq_zero.mp e with e | e
      · exact hc e
      · exact hd0 e
    case e2 => exact z4
    case e3 => rw [eb, Int.mul_assoc, Int.mul_comm d]
    case e4 => rw [z4]; omega
  case done =>
    clear F' N'
    rintro m news ⟨mr, ua, ut, pt, tp, pns, q, c, v1, v2, rfl, rfl, hp, er, hg, hc, ep, eb, hpb, k1, k2, hap⟩ h tk F6 N6
    have epn := ints_inj hp hv
    have eq' : q = [] := by
      rw [epn] at er
      exact List.append_cancel_left (er.symm.trans (List.append_nil row).symm)
    subst eq'
    have ept : pt = 0 := by rw [ep, frac, Int.mul_zero]
    clear ep
    subst ept
    dsimp only
    generalize hTL : TT v1 v2 = TL at N6
    k_steps
    refine hold_in ?_
    refine wpAny_call ?_
    k_dflt (refine' code_def ?k1 ?k2 ?k3 ?k4 ?k5 ?kA ?kF ?kK ?k6 ?k7 ?k8 ?k9 ?kB ?_ ?c2 ?c3 ?c4 ?c5; (case kA => exact rfl); (case kF => exact rfl); (case kK => exact rfl); (case k1 => k_asm); (case k2 => k_asm); (case k3 => k_asm); (case k4 => k_asm); (case k5 => k_asm); (case k6 => k_is); (case k7 => k_is); (case k8 => ktr_room); (case k9 => exact BindsTo.of_eq rfl); (case c5 => decide); (case kB => exact locs rfl); (case c2 => exact rfl); (case c3 => exact rfl); (case c4 => exact rfl); k_whole; intro g3 L3 h3 FG3 F3 N3 B3 X3 T3; (try dsimp only); (try k_fold))
    k_steps
    refine hold_in ?_
    rename Got _ _ _ _ _ => hG
    rename KtsTurn _ _ _ => hT
    obtain ⟨oe, ot, ws, nt, m1, m2, i1, i2, i3, i4, i5⟩ := hG
    refine PySem.P.str_of_exc_none PySem.F.excStr_ZeroDivisionError (show un + 3 + 2 < cLine by omega) ⟨oe, ws, ?ha, i1, i2, i3⟩ ⟨ot, nt, ?hb, i4, i5⟩ ?_
    case ha => exact (show News _ _ _ _ by assumption) _ m1 |>.1
    case hb => exact (show News _ _ _ _ by assumption) _ m2 |>.1
    k_steps
    rename News h₀ _ _ _ => N1
    rename Fr h₀ _ _ _ => F1
    have NT := rest_turn NR hT
    rename_i v9 F9 N9 _ _
    have hga := ground_apart NT N9
    rw [show (Str.empty == Str.ofString "") = true by decide +kernel]
    subst hTL
    exact hret _ _ _ _ ⟨v1, v2, rfl, k1, k2, rfl, hga, fun r hr' => (hap r hr').1⟩ F1 (news_join N1 (rest_back NT F9))
end Mine
end

section
open PySem PySem.W PyProof.Rows PySem.Calls
namespace Mine
theorem steps_ok {ns : List Int} {k : Int} (hk : 0 < k) : ∀ x ∈ ns.map (fun k' => (if k' < 0 then -k' else k').fmod k), 0 ≤ x ∧ x < k := by
  intro x hx
  obtain ⟨y, _, rfl⟩ := List.mem_map.mp hx
  rw [Int.fmod_eq_emod_of_nonneg _ (Int.le_of_lt hk)]
  exact ⟨Int.emod_nonneg _ (by omega), Int.emod_lt_of_pos _ hk⟩
theorem rise_final {s0 : Int} {sr front : List Int} {lst : Int} (hs : ∀ x ∈ s0 :: sr, 0 ≤ x ∧ x < 10000) (hsr : sr.length ≤ 5) (e : (1 + s0) :: riseL (1 + s0) sr = front ++ [lst]) :
    Good (if front = [] then [lst] else front ++ [lst + 1]) ∧ Within 65536 (if front = [] then [lst] else front ++ [lst + 1]) ∧ (∀ q ∈ (if front = [] then [lst] else front ++ [lst + 1]), q ≠ 0) ∧ (if front = [] then [lst] else front ++ [lst + 1]).length ≤ 6 := by
  obtain ⟨a1, a2⟩ := hs s0 (.head _)
  have el := congrArg List.length e
  rw [List.length_cons, riseL_length, List.length_append] at el
  simp only [List.length_cons, List.length_nil] at el
  by_cases hf : front = []
  · rw [if_pos hf]
    subst hf
    have : sr = [] := List.length_eq_zero_iff.mp (by simpa using el)
    subst this
    simp only [riseL, List.nil_append, List.cons.injEq, and_true] at e
    subst e
    refine ⟨good_rise (by omega) trivial, ?_, ?_, by rw [List.length_cons, List.length_nil]; omega⟩
    · intro q hq; rw [List.mem_singleton] at hq; subst hq; omega
    · intro q hq; rw [List.mem_singleton] at hq; subst hq; omega
  · rw [if_neg hf]
    have hne : sr ≠ [] := fun h => hf (by subst h; exact List.length_eq_zero_iff.mp (by simpa using el.symm))
    obtain ⟨r, r1, r2, r3⟩ := rise_row sr (1 + s0) front lst hne (fun x hx => hs x (.tail _ hx)) e
    have rl := congrArg List.length r1
    rw [List.length_append] at rl
    simp only [List.length_cons, List.length_nil] at rl
    rw [r1]
    refine ⟨good_rise (by omega) r2, ?_, ?_, by rw [List.length_cons]; omega⟩
    · intro q hq
      rcases List.mem_cons.mp hq with rfl | hq
      · omega
      · have := r3 q hq; omega
    · intro q hq
      rcases List.mem_cons.mp hq with rfl | hq
      · omega
      · have := r3 q hq; omega
theorem fall_final {s0 : Int} {sr front : List Int} {lst : Int} (hs : ∀ x ∈ s0 :: sr, 0 ≤ x ∧ x < 10000) (hsr : sr.length ≤ 5) (e : (-1 - s0) :: fallL (-1 - s0) sr = front ++ [lst]) :
    Good (front ++ [lst]) ∧ Within 65536 (front ++ [lst]) ∧ (∀ q ∈ front ++ [lst], q ≠ 0) ∧ (front ++ [lst]).length ≤ 6 := by
  obtain ⟨a1, a2⟩ := hs s0 (.head _)
  obtain ⟨r2, r3⟩ := fall_row sr (-1 - s0) (fun x hx => hs x (.tail _ hx))
  rw [← e]
  refine ⟨good_fall (by omega) r2, ?_, ?_, by rw [List.length_cons, fallL_length]; omega⟩
  · intro q hq
    rcases List.mem_cons.mp hq with rfl | hq
    · omega
    · have := r3 q hq; omega
  · intro q hq
    rcases List.mem_cons.mp hq with rfl | hq
    · omega
    · have := r3 q hq; omega
theorem frac_fin {row : List Int} (hw : Within 65536 row) (hl : row.length ≤ 6) : (frac row).1.natAbs < 2 ^ 100 ∧ (frac row).2.natAbs < 2 ^ 100 := by
  obtain ⟨b1, b2⟩ := frac_bound (by decide) row hw
  have hp : ((65536 : Int) ^ row.length).natAbs ≤ 65536 ^ 6 := by
    rw [Int.natAbs_pow]
    exact Nat.pow_le_pow_right (by decide) hl
  have h6 : row.length * ((65536 : Int) ^ row.length).natAbs ≤ 6 * 65536 ^ 6 := Nat.mul_le_mul hl hp
  have e1 : (65536 : Nat) ^ 6 < 2 ^ 100 := by decide +kernel
  have e2 : 6 * (65536 : Nat) ^ 6 < 2 ^ 100 := by decide +kernel
  omega
theorem mem_in {α : Type} {A B C D X q : α} {T : List α} (h : q ∈ (A :: T) ++ [B, C, D]) : q ∈ X :: A :: B :: C :: D :: T := by
  simp only [List.cons_append, List.mem_cons, List.mem_append, List.not_mem_nil, or_false] at h ⊢
  rcases h with h | h | h | h | h <;> simp [h]
theorem mem_out {α : Type} {A A1 A2 B C D q : α} {T : List α} (hm : q ∈ A :: D :: T ↔ q ∈ A1 :: A2 :: T) (h : q ∈ C :: A1 :: A2 :: T) (_hB : B = B) : q ∈ (A :: T) ++ [B, C, D] := by
  rcases List.mem_cons.mp h with h | h
  · simp [h]
  · have h := hm.mpr h
    simp only [List.mem_cons] at h
    simp only [List.cons_append, List.mem_cons, List.mem_append, List.not_mem_nil, or_false]
    rcases h with h | h | h <;> simp [h]
theorem grown {h₀ h : Heap} {L : Addr} {A B C : Addr × Obj} {u1 u2 : Option (Addr × Obj)} (N : News h₀ L h (A :: B :: C :: TT u1 u2)) : GrownAll [(41, 37), (34, 30)] h := by
  have m : ∀ q ∈ TT u1 u2, h.get? q.1 = some q.2 := fun q hq => (N q (.tail _ (.tail _ (.tail _ hq)))).1
  refine ⟨?_, ?_, trivial⟩
  · rcases u2 with _ | ⟨c, o⟩
    · exact ⟨_, m (37, tabObj #[]) (List.mem_append_right _ (.head _))⟩
    · exact ⟨_, m (37, tabObj #[rawInt 47, rawInt 4, .ref c]) (List.mem_append_right _ (.head _))⟩
  · rcases u1 with _ | ⟨c, o⟩
    · exact ⟨_, m (30, tabObj #[]) (List.mem_append_left _ (.head _))⟩
    · exact ⟨_, m (30, tabObj #[rawInt 32, rawInt 4, .ref c]) (List.mem_append_left _ (.head _))⟩
theorem prod_fin {a b : Int} (ha : a.natAbs < 2 ^ 100) (hb : b.natAbs ≤ 1000) : (a * b).natAbs < 2 ^ 199 := by
  rw [Int.natAbs_mul]
  have : a.natAbs * b.natAbs ≤ 2 ^ 100 * 1000 := Nat.mul_le_mul (by omega) hb
  have e : (2 : Nat) ^ 100 * 1000 < 2 ^ 199 := by decide +kernel
  omega
end Mine
local macro_rules | `(tactic| walk_at "idle 0") => `(tactic| fail)
local macro_rules | `(tactic| walk_at "idle 1") => `(tactic| fail)
local macro_rules | `(tactic| walk_at "idle 2") => `(tactic| fail)
local macro_rules | `(tactic| walk_at "call ref") => `(tactic| refine Mine.Hold.out ?_)
local macro_rules | `(tactic| walk_at "pyIter ref") => `(tactic| refine Mine.Hold.out ?_)
local macro_rules | `(tactic| walk_at "UnrEnd") => `(tactic| refine Mine.Hold.out ?_)
local macro_rules | `(tactic| walk_at "And") => `(tactic| ((with_reducible show GoodW _ _ _ _ _ _ _ ∧ GrownAll _ _); refine Mine.Hold.out ?_))
local macro_rules | `(tactic| walk_at "newList") => `(tactic| refine Mine.Hold.out ?_)
local macro_rules | `(tactic| walk_at "binaryOp Mult int int") => `(tactic| refine Mine.Hold.out ?_)
local macro_rules | `(tactic| walk_at "compareOp Eq ref ref") => `(tactic| refine Mine.Hold.out ?_)
local macro_rules | `(tactic| walk_at "exec For") => `(tactic| (k_here; (rename Fr _ _ _ _ => lF'); (with_unfolding_all refine' For_invVF lF' ?k1 ?k2 ?_; (case k1 => exact rfl); (case k2 => exact rfl); k_whole)))
local macro_rules | `(tactic| k_all) => `(tactic| assumption)
set_option maxRecDepth 100000 in
set_option maxHeartbeats 8000000 in
theorem Mine.whole : PySem.Challenge.rw_mq0470_01.Holds := Mine.hd (by
  k_go0
  all_goals try k_fold
  k_steps
  rename Fr _ _ _ _ => F
  rename News _ _ _ _ => N
  refine Mine.hold_in (newList_K F N ?_)
  clear F N
  intro l h23 F N l11
  k_lt l11
  k_steps
  rename_i D1 ws h20 hI hC hL l10 hk1 hk2 g8 hI8 hL8 D h21 tk8 o1 h22
  rename List Int => ns
  refine Mine.hold_in (eq_intsK (ns := ns) (ms := []) (Heap.IsList.at lifted fun o e => F.keep _ o e) (by assumption) (PySem.IsL.isList (n := 0) (N (l, _) (by k_mem)).1) .nil (by units_room) ?_)
  rcases ns with _ | ⟨n0, nr⟩
  · rw [decide_eq_true rfl]
    k_steps
    rename Fr _ _ _ _ => FA
    rename News _ _ _ _ => NA
    refine Mine.hold_in (newList_K FA NA ?_)
    clear FA NA
    intro st hA2 FA NA lA
    k_lt lA
    k_steps
    rename News _ _ _ _ => NA
    obtain ⟨svs, s0, sr, sn, NS, hsv, hsr, hs, h30, h37⟩ : ∃ (svs : List Value) (s0 : Int) (sr : List Int) (sn : Nat), News _ _ _ ([(st, listOf svs.toArray sn)] ++ Mine.TT none none) ∧ IntsAre svs (s0 :: sr) ∧ sr.length ≤ 5 ∧ (∀ x ∈ s0 :: sr, 0 ≤ x ∧ x < 10000) ∧ @Ne Nat 30 st ∧ @Ne Nat 37 st :=
      ⟨[_, _, _], 2, [0, 3], 0, Mine.news_sub NA (by unfold Mine.TT Mine.tabL; kcj_all), .cons _ _ (.cons _ _ (.cons _ _ .nil)), by decide, by decide, by omega, by omega⟩
    clear NA
    have hap0 : ∀ q ∈ Mine.TT none none, ∀ r ∈ [(st, listOf svs.toArray sn)], q.1 ≠ r.1 := by
      intro q hq r hr
      rw [List.mem_singleton] at hr
      subst hr
      simp only [Mine.TT, Mine.tabL, List.cons_append, List.nil_append, List.mem_cons, List.not_mem_nil, or_false] at hq
      rcases hq with rfl | rfl
      · exact h30
      · exact h37
    refine Mine.hold_in ?_
    k_dflt (refine' Mine.Meet.use (Mine.law_rising _ st svs s0 sr sn (Mine.TT none none) hsv hsr hap0) ?k1 ?k2 ?k3 ?k4 ?k5 ?k6 ?k7 ?kK ?kd ?ku ?_; (case k1 => k_asm); (case k2 => k_asm); (case k3 => k_asm); (case k4 => exact NS); (case k5 => k_asm); (case k6 => k_asm); (case k7 => k_asm); (case kK => exact rfl); (case kd => ktr_room); (case ku => ktr_units))
    rintro r1 led1 hh1 tk1 ⟨l1, rv1, front1, lst1, pn1, rfl, e1, hi1, rfl, ap1, lt1⟩ FB NB
    dsimp only
    k_steps
    have hap2 : ∀ q ∈ (l1, listOf rv1.toArray pn1) :: Mine.TT none none, ∀ r ∈ [(st, listOf svs.toArray sn)], q.1 ≠ r.1 := by
      intro q hq r hr
      rcases List.mem_cons.mp hq with rfl | hq
      · rw [List.mem_singleton] at hr; subst hr; exact Nat.ne_of_gt lt1
      · exact hap0 q hq r hr
    have NB2 := Mine.news_sub (l' := [(st, listOf svs.toArray sn)] ++ ((l1, listOf rv1.toArray pn1) :: Mine.TT none none)) NB (by
      intro q hq
      simp only [List.cons_append, List.nil_append, List.mem_cons] at hq ⊢
      rcases hq with h | h | h
      · exact .inr (.inl h)
      · exact .inl h
      · exact .inr (.inr h))
    clear NB
    refine Mine.hold_in ?_
    k_dflt (refine' Mine.Meet.use (Mine.law_falling _ st svs s0 sr sn ((l1, listOf rv1.toArray pn1) :: Mine.TT none none) hsv hsr hap2) ?k1 ?k2 ?k3 ?k4 ?k5 ?k6 ?k7 ?kK ?kd ?ku ?_; (case k1 => k_asm); (case k2 => k_asm); (case k3 => k_asm); (case k4 => exact NB2); (case k5 => k_asm); (case k6 => k_asm); (case k7 => k_asm); (case kK => exact rfl); (case kd => ktr_room); (case ku => ktr_units))
    clear FB NB2
    rintro r2 led2 hh2 tk2 ⟨l2, rv2, front2, lst2, pn2, rfl, e2, hi2, rfl, ap2, lt2⟩ FC NC
    obtain ⟨g1, w1, z1, n1⟩ := Mine.rise_final hs hsr e1
    obtain ⟨g2, w2, z2, n2⟩ := Mine.fall_final hs hsr e2
    generalize (if front1 = [] then [lst1] else front1 ++ [lst1 + 1]) = row1 at hi1 g1 w1 z1 n1
    generalize front2 ++ [lst2] = row2 at hi2 g2 w2 z2 n2
    have NC2 := Mine.news_sub (l' := (l1, listOf rv1.toArray pn1) :: (l2, listOf rv2.toArray pn2) :: Mine.TT none none) NC (by
      intro q hq
      simp only [List.cons_append, List.nil_append, List.mem_cons] at hq ⊢
      rcases hq with h | h | h
      · exact .inr (.inr (.inl h))
      · exact .inl h
      · exact .inr (.inr (.inr h)))
    have hl12 : @Ne Nat l1 l2 := ap2 (l1, _) (.head _) (l2, _) (.head _)
    have hT1 : ∀ q ∈ Mine.TT none none, q.1 ≠ l1 := fun q hq => ap1 q hq (l1, _) (.head _)
    have hT2 : ∀ q ∈ Mine.TT none none, q.1 ≠ l2 := fun q hq => ap2 q (.tail _ hq) (l2, _) (.head _)
    clear NC
    dsimp only
    k_steps
    rename Fr _ _ _ _ => FD
    rename News _ _ _ _ => ND
    refine Mine.hold_in (newList_K FD ND ?_)
    clear FD ND
    intro ll hh3 FD ND lD
    k_steps
    rename Fr _ _ _ _ => FD
    refine Mine.hold_in (iter_listUnr (lo := listOf #[.ref l1, .ref l2] 0) (vs := [.ref l1, .ref l2]) (n := 0) rfl FD ND (.head _) rfl rfl ?_)
    intro I lI
    have lI0 : @Ne Nat ll I := Nat.ne_of_lt (lI (ll, _) (.head _))
    have lI1 : @Ne Nat l1 I := Nat.ne_of_lt (lI (l1, _) (.tail _ (.head _)))
    have lI2 : @Ne Nat l2 I := Nat.ne_of_lt (lI (l2, _) (.tail _ (.tail _ (.head _))))
    have lD1 : @Ne Nat l1 ll := Nat.ne_of_lt (lD (l1, _) (.head _))
    have lD2 : @Ne Nat l2 ll := Nat.ne_of_lt (lD (l2, _) (.tail _ (.head _)))
    refine Mine.listRest_ind (fun pre m news => ∃ (mr : Str → Option Value) (ua up ub : Option Value) (fc : Int) (tf : Tok) (u1 u2 : Option (Addr × Obj)),
        (m = fun y => if y = Str.ofString "row" then ua else if y = Str.ofString "part" then up else if y = Str.ofString "bound" then ub else if y = Str.ofString "factor" then some (.int fc tf) else mr y) ∧
        news = (ll, listOf #[.ref l1, .ref l2] 0) :: (l1, listOf rv1.toArray pn1) :: (l2, listOf rv2.toArray pn2) :: Mine.TT u1 u2 ∧ Mine.CodeOk Mine.qual1 u1 ∧ Mine.CodeOk Mine.qual2 u2 ∧ (1 ≤ fc ∧ fc ≤ 1000) ∧
        (∀ q ∈ Mine.TT u1 u2, q.1 ≠ l1 ∧ q.1 ≠ l2 ∧ q.1 ≠ ll ∧ q.1 ≠ I)) [.ref l1, .ref l2] [] [.ref l1, .ref l2] _ _ rfl ?turn ?done ?start
    case start =>
      refine ⟨_, _, _, _, _, _, none, none, Mine.map4 rfl rfl rfl rfl, rfl, trivial, trivial, ?_, fun q hq => ⟨hT1 q hq, hT2 q hq, Nat.ne_of_lt (lD q (.tail _ (.tail _ hq))), Nat.ne_of_lt (lI q (.tail _ (.tail _ (.tail _ hq))))⟩⟩
      first | decide | (rw [Int.fmod_eq_emod_of_nonneg _ (by decide)]; omega)
    case turn =>
      clear FD ND
      rintro pre v r m news hsplit ⟨mr, ua, up, ub, fc, tf, u1, u2, rfl, rfl, c1, c2, hfc, hap⟩ it h tk hit F6 N6
      have hv : v = .ref l1 ∨ v = .ref l2 := by
        have hm : v ∈ [Value.ref l1, Value.ref l2] := by rw [← hsplit]; exact List.mem_append_right _ (.head _)
        simpa using hm
      obtain ⟨lr, rvs, row, pn, oth, rfl, hset, hmm, hi, g, wn, z, n, hne, hl, hlI, hoI, hol, hTr, hTo⟩ : ∃ (lr : Addr) (rvs : List Value) (row : List Int) (pn : Nat) (oth : Addr × Obj), v = .ref lr ∧ ((lr = l1 ∧ oth.1 = l2) ∨ (lr = l2 ∧ oth.1 = l1)) ∧ (∀ (T : List (Addr × Obj)) q, q ∈ (lr, listOf rvs.toArray pn) :: oth :: T ↔ q ∈ (l1, listOf rv1.toArray pn1) :: (l2, listOf rv2.toArray pn2) :: T) ∧
          IntsAre rvs row ∧ Mine.Good row ∧ Mine.Within 65536 row ∧ (∀ q ∈ row, q ≠ 0) ∧ row.length ≤ 6 ∧ oth.1 ≠ lr ∧ ll ≠ lr ∧ I ≠ lr ∧ oth.1 ≠ I ∧ oth.1 ≠ ll ∧ (∀ q ∈ Mine.TT u1 u2, q.1 ≠ lr) ∧ (∀ q ∈ Mine.TT u1 u2, q.1 ≠ oth.1) := by
        rcases hv with rfl | rfl
        · exact ⟨l1, rv1, row1, pn1, (l2, listOf rv2.toArray pn2), rfl, .inl ⟨rfl, rfl⟩, fun T q => Iff.rfl, hi1, g1, w1, z1, n1, fun e => hl12 e.symm, fun e => lD1 e.symm, fun e => lI1 e.symm, lI2, lD2, fun q hq => (hap q hq).1, fun q hq => (hap q hq).2.1⟩
        · exact ⟨l2, rv2, row2, pn2, (l1, listOf rv1.toArray pn1), rfl, .inr ⟨rfl, rfl⟩, fun T q => by simp only [List.mem_cons]; constructor <;> (rintro (h | h | h); exact .inr (.inl h); exact .inl h; exact .inr (.inr h)), hi2, g2, w2, z2, n2, hl12, fun e => lD2 e.symm, fun e => lI2 e.symm, lI1, lD1, fun q hq => (hap q hq).2.1, fun q hq => (hap q hq).1⟩
      obtain ⟨fb1, fb2⟩ := Mine.frac_fin wn n
      k_steps
      rename Fr _ _ _ _ => F5
      rename News _ _ _ _ => N5
      have mm := hmm (Mine.TT u1 u2)
      have N4 := Mine.news_sub (l' := [(lr, listOf rvs.toArray pn)] ++ ((I, it) :: (ll, listOf #[.ref l1, .ref l2] 0) :: oth :: Mine.TT u1 u2)) N5 (by
        intro q hq
        rcases List.mem_cons.mp hq with rfl | hq
        · exact .tail _ (.tail _ ((mm _).mp (.head _)))
        · rcases List.mem_cons.mp hq with rfl | hq
          · exact .head _
          · rcases List.mem_cons.mp hq with rfl | hq
            · exact .tail _ (.head _)
            · exact .tail _ (.tail _ ((mm _).mp (.tail _ hq))))
      clear N5
      refine Mine.hold_in ?_
      k_dflt (refine' Mine.Meet.use (Mine.law_fraction _ lr rvs row pn ((I, it) :: (ll, listOf #[.ref l1, .ref l2] 0) :: oth :: Mine.TT u1 u2) hi wn ?hr4) ?k1 ?k2 ?k3 ?k4 ?k5 ?k6 ?k7 ?kK ?kd ?ku ?_; (case k1 => k_asm); (case k2 => k_asm); (case k3 => k_asm); (case k4 => exact N4); (case k5 => k_asm); (case k6 => k_asm); (case k7 => k_asm); (case kK => exact rfl); (case kd => ktr_room); (case ku => ktr_units))
      case hr4 =>
        intro q hq r hr
        rw [List.mem_singleton] at hr
        subst hr
        rcases List.mem_cons.mp hq with rfl | hq
        · exact hlI
        · rcases List.mem_cons.mp hq with rfl | hq
          · exact hl
          · rcases List.mem_cons.mp hq with rfl | hq
            · exact hne
            · exact hTr q hq
      clear N4 F5
      rintro r7 led7 h7 tk7 ⟨x, t1, t2, rfl, rfl, hx7, hxr⟩ F7 N7
      simp only [List.cons_append, List.nil_append] at N7
      dsimp only
      k_steps
      refine Mine.hold_in (PyProof.Rows.mul_int ?_ (PySem.IntMulOk.of_right (Mine.bits_abs (by omega))))
      k_steps
      refine Mine.hold_in (PyProof.Rows.mul_int ?_ (PySem.IntMulOk.of_right (Mine.bits_abs (by omega))))
      k_steps
      rename News _ _ _ _ => N7
      have hr5 : ∀ (w1 w2 : Option (Addr × Obj)), (∀ q ∈ Mine.TT w1 w2, q.1 ≠ I ∧ q.1 ≠ ll ∧ q.1 ≠ oth.1) → ∀ q ∈ [(I, it), (ll, listOf #[.ref l1, .ref l2] 0), oth], ∀ r ∈ ((lr, listOf rvs.toArray pn) :: Mine.TT w1 w2), q.1 ≠ r.1 := by
        intro w1 w2 hw q hq r hr
        simp only [List.mem_cons, List.not_mem_nil, or_false] at hq
        rcases List.mem_cons.mp hr with rfl | hr
        · rcases hq with rfl | rfl | rfl
          · exact hlI
          · exact hl
          · exact hne
        · rcases hq with rfl | rfl | rfl
          · exact fun e => (hw r hr).1 e.symm
          · exact fun e => (hw r hr).2.1 e.symm
          · exact fun e => (hw r hr).2.2 e.symm
      have N8 := Mine.news_sub (l' := ((lr, listOf rvs.toArray pn) :: Mine.TT u1 u2) ++ [(I, it), (ll, listOf #[.ref l1, .ref l2] 0), oth]) N7 (fun q hq => Mine.mem_in hq)
      refine Mine.hold_in ?_
      k_dflt (refine' Mine.Meet0.use (Mine.law_comes_out _ lr rvs row pn _ _ fc _ _ [(I, it), (ll, listOf #[.ref l1, .ref l2] 0), oth] u1 u2 c1 c2 hi wn z g (by omega) (Int.mul_comm ..) (Int.mul_comm ..) (Mine.prod_fin fb1 (by omega)) (Mine.prod_fin fb2 (by omega)) (hr5 u1 u2 fun q hq => ⟨(hap q hq).2.2.2, (hap q hq).2.2.1, hTo q hq⟩) hTr) ?k1 ?k2 ?k3 ?k4 ?k5 ?k6 ?k7 ?kK ?kd ?ku ?_; (case k1 => k_asm); (case k2 => k_asm); (case k3 => k_asm); (case k4 => exact N8); (case k5 => k_asm); (case k6 => k_asm); (case k7 => k_asm); (case kK => exact rfl); (case kd => ktr_room); (case ku => ktr_units))
      clear N7 N8
      rintro r9 led9 h9 tk9 ⟨v1, v2, rfl, c3, c4, rfl, ap9, hT9⟩ F9 N9
      dsimp only
      k_steps
      refine Mine.hold_in (PyProof.Rows.mul_int ?_ (PySem.IntMulOk.of_right (Mine.bits_abs (by omega))))
      k_steps
      refine Mine.hold_in (PyProof.Rows.mul_int ?_ (PySem.IntMulOk.of_right (Mine.bits_abs (by omega))))
      k_steps
      rename News _ _ _ _ => N9
      have hq9 : ∀ q ∈ Mine.TT v1 v2, q.1 ≠ I ∧ q.1 ≠ ll ∧ q.1 ≠ oth.1 := fun q hq => ⟨fun e => ap9 (I, it) (.head _) q (.tail _ hq) e.symm, fun e => ap9 (ll, _) (.tail _ (.head _)) q (.tail _ hq) e.symm, fun e => ap9 oth (.tail _ (.tail _ (.head _))) q (.tail _ hq) e.symm⟩
      have NX := Mine.news_sub (l' := ((lr, listOf rvs.toArray pn) :: Mine.TT v1 v2) ++ [(I, it), (ll, listOf #[.ref l1, .ref l2] 0), oth]) N9 (fun q hq => hq)
      refine Mine.hold_in ?_
      k_dflt (refine' Mine.Meet0.use (Mine.law_comes_out _ lr rvs row pn _ _ (-fc) _ _ [(I, it), (ll, listOf #[.ref l1, .ref l2] 0), oth] v1 v2 c3 c4 hi wn z g (by omega) (by rw [Int.neg_mul, Int.neg_mul, Int.mul_comm]) (by rw [Int.neg_mul, Int.neg_mul, Int.mul_comm]) (Mine.prod_fin (by rw [Int.natAbs_neg]; exact fb1) (by omega)) (Mine.prod_fin (by rw [Int.natAbs_neg]; exact fb2) (by omega)) (hr5 v1 v2 hq9) hT9) ?k1 ?k2 ?k3 ?k4 ?k5 ?k6 ?k7 ?kK ?kd ?ku ?_; (case k1 => k_asm); (case k2 => k_asm); (case k3 => k_asm); (case k4 => exact NX); (case k5 => k_asm); (case k6 => k_asm); (case k7 => k_asm); (case kK => exact rfl); (case kd => ktr_room); (case ku => ktr_units))
      clear N9 NX
      rintro rA ledA hA tkA ⟨x1, x2, rfl, c5, c6, rfl, apA, hTA⟩ FA NA
      dsimp only
      k_steps
      rename Fr _ _ _ _ => FZ
      rename News _ _ _ _ => NZ
      have hqA : ∀ q ∈ Mine.TT x1 x2, q.1 ≠ I ∧ q.1 ≠ ll ∧ q.1 ≠ oth.1 := fun q hq => ⟨fun e => apA (I, it) (.head _) q (.tail _ hq) e.symm, fun e => apA (ll, _) (.tail _ (.head _)) q (.tail _ hq) e.symm, fun e => apA oth (.tail _ (.tail _ (.head _))) q (.tail _ hq) e.symm⟩
      have mmA := hmm (Mine.TT x1 x2)
      refine Mine.hold_in (UnrEnd.intro FZ NZ ((ll, listOf #[.ref l1, .ref l2] 0) :: (l1, listOf rv1.toArray pn1) :: (l2, listOf rv2.toArray pn2) :: Mine.TT x1 x2) ?sub ?off ⟨.head _, _, _, _, _, fc, _, x1, x2, Mine.map4 rfl rfl rfl rfl, rfl, c5, c6, hfc, ?hap⟩)
      case sub =>
        intro q hq
        rcases List.mem_cons.mp hq with rfl | hq
        · exact List.mem_append_right _ (.head _)
        · exact Mine.mem_out (mmA q) hq rfl
      case off =>
        intro q hq
        rcases List.mem_cons.mp hq with rfl | hq
        · exact lI0
        · rcases List.mem_cons.mp hq with rfl | hq
          · exact lI1
          · rcases List.mem_cons.mp hq with rfl | hq
            · exact lI2
            · exact (hqA q hq).1
      case hap =>
        intro q hq
        have b1 := hTA q hq
        obtain ⟨b2, b3, b4⟩ := hqA q hq
        rcases hset with ⟨rfl, e⟩ | ⟨rfl, e⟩
        · exact ⟨b1, e ▸ b4, b3, b2⟩
        · exact ⟨e ▸ b4, b1, b3, b2⟩
    case done =>
      clear FD ND
      rintro m news ⟨mr, ua, up, ub, fc, tf, u1, u2, rfl, rfl, c1, c2, hfc, hap⟩ h tk F6 N6
      dsimp only
      have hgr := Mine.grown N6
      clear hap hfc c1 c2 g1 w1 z1 n1 g2 w2 z2 n2 hi1 hi2 hT1 hT2 lI0 lI1 lI2 lD1 lD2 lI lD hl12 ap1 ap2 e1 e2 hap0 hs hsr hsv h30 h37
      k_steps
      refine Mine.hold_in ⟨?_, hgr⟩
      show GoodW _ _ _ _ _ (.ok (.ret (.bool true))) _
      exact goodW_bool F6 (by assumption) (fun _ => rfl) (postW_of (by wrow_shape) (by wtm_val) rfl)

  · rw [decide_eq_false (by simp)]
    k_steps
    rename News _ _ _ _ => NA
    obtain ⟨st, svs, s0, sr, sn, est, NS, hsv, hsr, hs, h30, h37⟩ : ∃ (st : Addr) (svs : List Value) (s0 : Int) (sr : List Int) (sn : Nat), st = D ∧ News _ _ _ ([(st, listOf svs.toArray sn)] ++ Mine.TT none none) ∧ IntsAre svs (s0 :: sr) ∧ sr.length ≤ 5 ∧ (∀ x ∈ s0 :: sr, 0 ≤ x ∧ x < 10000) ∧ @Ne Nat 30 st ∧ @Ne Nat 37 st := by
      refine ⟨D, ys, _, _, ys.length, rfl, Mine.news_sub NA (by unfold Mine.TT Mine.tabL; kcj_all), (show IntsAre ys (_ :: _) from hI8), ?_, ?_, by omega, by omega⟩
      · rw [List.length_map]; simp only [List.length_take]; omega
      · exact Mine.steps_ok (ns := List.take 6 (n0 :: nr)) (by decide)
    subst est
    clear NA
    have hap0 : ∀ q ∈ Mine.TT none none, ∀ r ∈ [(st, listOf svs.toArray sn)], q.1 ≠ r.1 := by
      intro q hq r hr
      rw [List.mem_singleton] at hr
      subst hr
      simp only [Mine.TT, Mine.tabL, List.cons_append, List.nil_append, List.mem_cons, List.not_mem_nil, or_false] at hq
      rcases hq with rfl | rfl
      · exact h30
      · exact h37
    refine Mine.hold_in ?_
    k_dflt (refine' Mine.Meet.use (Mine.law_rising _ st svs s0 sr sn (Mine.TT none none) hsv hsr hap0) ?k1 ?k2 ?k3 ?k4 ?k5 ?k6 ?k7 ?kK ?kd ?ku ?_; (case k1 => k_asm); (case k2 => k_asm); (case k3 => k_asm); (case k4 => exact NS); (case k5 => k_asm); (case k6 => k_asm); (case k7 => k_asm); (case kK => exact rfl); (case kd => ktr_room); (case ku => ktr_units))
    rintro r1 led1 hh1 tk1 ⟨l1, rv1, front1, lst1, pn1, rfl, e1, hi1, rfl, ap1, lt1⟩ FB NB
    dsimp only
    k_steps
    have hap2 : ∀ q ∈ (l1, listOf rv1.toArray pn1) :: Mine.TT none none, ∀ r ∈ [(st, listOf svs.toArray sn)], q.1 ≠ r.1 := by
      intro q hq r hr
      rcases List.mem_cons.mp hq with rfl | hq
      · rw [List.mem_singleton] at hr; subst hr; exact Nat.ne_of_gt lt1
      · exact hap0 q hq r hr
    have NB2 := Mine.news_sub (l' := [(st, listOf svs.toArray sn)] ++ ((l1, listOf rv1.toArray pn1) :: Mine.TT none none)) NB (by
      intro q hq
      simp only [List.cons_append, List.nil_append, List.mem_cons] at hq ⊢
      rcases hq with h | h | h
      · exact .inr (.inl h)
      · exact .inl h
      · exact .inr (.inr h))
    clear NB
    refine Mine.hold_in ?_
    k_dflt (refine' Mine.Meet.use (Mine.law_falling _ st svs s0 sr sn ((l1, listOf rv1.toArray pn1) :: Mine.TT none none) hsv hsr hap2) ?k1 ?k2 ?k3 ?k4 ?k5 ?k6 ?k7 ?kK ?kd ?ku ?_; (case k1 => k_asm); (case k2 => k_asm); (case k3 => k_asm); (case k4 => exact NB2); (case k5 => k_asm); (case k6 => k_asm); (case k7 => k_asm); (case kK => exact rfl); (case kd => ktr_room); (case ku => ktr_units))
    clear FB NB2
    rintro r2 led2 hh2 tk2 ⟨l2, rv2, front2, lst2, pn2, rfl, e2, hi2, rfl, ap2, lt2⟩ FC NC
    obtain ⟨g1, w1, z1, n1⟩ := Mine.rise_final hs hsr e1
    obtain ⟨g2, w2, z2, n2⟩ := Mine.fall_final hs hsr e2
    generalize (if front1 = [] then [lst1] else front1 ++ [lst1 + 1]) = row1 at hi1 g1 w1 z1 n1
    generalize front2 ++ [lst2] = row2 at hi2 g2 w2 z2 n2
    have NC2 := Mine.news_sub (l' := (l1, listOf rv1.toArray pn1) :: (l2, listOf rv2.toArray pn2) :: Mine.TT none none) NC (by
      intro q hq
      simp only [List.cons_append, List.nil_append, List.mem_cons] at hq ⊢
      rcases hq with h | h | h
      · exact .inr (.inr (.inl h))
      · exact .inl h
      · exact .inr (.inr (.inr h)))
    have hl12 : @Ne Nat l1 l2 := ap2 (l1, _) (.head _) (l2, _) (.head _)
    have hT1 : ∀ q ∈ Mine.TT none none, q.1 ≠ l1 := fun q hq => ap1 q hq (l1, _) (.head _)
    have hT2 : ∀ q ∈ Mine.TT none none, q.1 ≠ l2 := fun q hq => ap2 q (.tail _ hq) (l2, _) (.head _)
    clear NC
    dsimp only
    k_steps
    rename Fr _ _ _ _ => FD
    rename News _ _ _ _ => ND
    refine Mine.hold_in (newList_K FD ND ?_)
    clear FD ND
    intro ll hh3 FD ND lD
    k_steps
    rename Fr _ _ _ _ => FD
    refine Mine.hold_in (iter_listUnr (lo := listOf #[.ref l1, .ref l2] 0) (vs := [.ref l1, .ref l2]) (n := 0) rfl FD ND (.head _) rfl rfl ?_)
    intro I lI
    have lI0 : @Ne Nat ll I := Nat.ne_of_lt (lI (ll, _) (.head _))
    have lI1 : @Ne Nat l1 I := Nat.ne_of_lt (lI (l1, _) (.tail _ (.head _)))
    have lI2 : @Ne Nat l2 I := Nat.ne_of_lt (lI (l2, _) (.tail _ (.tail _ (.head _))))
    have lD1 : @Ne Nat l1 ll := Nat.ne_of_lt (lD (l1, _) (.head _))
    have lD2 : @Ne Nat l2 ll := Nat.ne_of_lt (lD (l2, _) (.tail _ (.head _)))
    refine Mine.listRest_ind (fun pre m news => ∃ (mr : Str → Option Value) (ua up ub : Option Value) (fc : Int) (tf : Tok) (u1 u2 : Option (Addr × Obj)),
        (m = fun y => if y = Str.ofString "row" then ua else if y = Str.ofString "part" then up else if y = Str.ofString "bound" then ub else if y = Str.ofString "factor" then some (.int fc tf) else mr y) ∧
        news = (ll, listOf #[.ref l1, .ref l2] 0) :: (l1, listOf rv1.toArray pn1) :: (l2, listOf rv2.toArray pn2) :: Mine.TT u1 u2 ∧ Mine.CodeOk Mine.qual1 u1 ∧ Mine.CodeOk Mine.qual2 u2 ∧ (1 ≤ fc ∧ fc ≤ 1000) ∧
        (∀ q ∈ Mine.TT u1 u2, q.1 ≠ l1 ∧ q.1 ≠ l2 ∧ q.1 ≠ ll ∧ q.1 ≠ I)) [.ref l1, .ref l2] [] [.ref l1, .ref l2] _ _ rfl ?turn ?done ?start
    case start =>
      refine ⟨_, _, _, _, _, _, none, none, Mine.map4 rfl rfl rfl rfl, rfl, trivial, trivial, ?_, fun q hq => ⟨hT1 q hq, hT2 q hq, Nat.ne_of_lt (lD q (.tail _ (.tail _ hq))), Nat.ne_of_lt (lI q (.tail _ (.tail _ (.tail _ hq))))⟩⟩
      first | decide | (rw [Int.fmod_eq_emod_of_nonneg _ (by decide)]; omega)
    case turn =>
      clear FD ND
      rintro pre v r m news hsplit ⟨mr, ua, up, ub, fc, tf, u1, u2, rfl, rfl, c1, c2, hfc, hap⟩ it h tk hit F6 N6
      have hv : v = .ref l1 ∨ v = .ref l2 := by
        have hm : v ∈ [Value.ref l1, Value.ref l2] := by rw [← hsplit]; exact List.mem_append_right _ (.head _)
        simpa using hm
      obtain ⟨lr, rvs, row, pn, oth, rfl, hset, hmm, hi, g, wn, z, n, hne, hl, hlI, hoI, hol, hTr, hTo⟩ : ∃ (lr : Addr) (rvs : List Value) (row : List Int) (pn : Nat) (oth : Addr × Obj), v = .ref lr ∧ ((lr = l1 ∧ oth.1 = l2) ∨ (lr = l2 ∧ oth.1 = l1)) ∧ (∀ (T : List (Addr × Obj)) q, q ∈ (lr, listOf rvs.toArray pn) :: oth :: T ↔ q ∈ (l1, listOf rv1.toArray pn1) :: (l2, listOf rv2.toArray pn2) :: T) ∧
          IntsAre rvs row ∧ Mine.Good row ∧ Mine.Within 65536 row ∧ (∀ q ∈ row, q ≠ 0) ∧ row.length ≤ 6 ∧ oth.1 ≠ lr ∧ ll ≠ lr ∧ I ≠ lr ∧ oth.1 ≠ I ∧ oth.1 ≠ ll ∧ (∀ q ∈ Mine.TT u1 u2, q.1 ≠ lr) ∧ (∀ q ∈ Mine.TT u1 u2, q.1 ≠ oth.1) := by
        rcases hv with rfl | rfl
        · exact ⟨l1, rv1, row1, pn1, (l2, listOf rv2.toArray pn2), rfl, .inl ⟨rfl, rfl⟩, fun T q => Iff.rfl, hi1, g1, w1, z1, n1, fun e => hl12 e.symm, fun e => lD1 e.symm, fun e => lI1 e.symm, lI2, lD2, fun q hq => (hap q hq).1, fun q hq => (hap q hq).2.1⟩
        · exact ⟨l2, rv2, row2, pn2, (l1, listOf rv1.toArray pn1), rfl, .inr ⟨rfl, rfl⟩, fun T q => by simp only [List.mem_cons]; constructor <;> (rintro (h | h | h); exact .inr (.inl h); exact .inl h; exact .inr (.inr h)), hi2, g2, w2, z2, n2, hl12, fun e => lD2 e.symm, fun e => lI2 e.symm, lI1, lD1, fun q hq => (hap q hq).2.1, fun q hq => (hap q hq).1⟩
      obtain ⟨fb1, fb2⟩ := Mine.frac_fin wn n
      k_steps
      rename Fr _ _ _ _ => F5
      rename News _ _ _ _ => N5
      have mm := hmm (Mine.TT u1 u2)
      have N4 := Mine.news_sub (l' := [(lr, listOf rvs.toArray pn)] ++ ((I, it) :: (ll, listOf #[.ref l1, .ref l2] 0) :: oth :: Mine.TT u1 u2)) N5 (by
        intro q hq
        rcases List.mem_cons.mp hq with rfl | hq
        · exact .tail _ (.tail _ ((mm _).mp (.head _)))
        · rcases List.mem_cons.mp hq with rfl | hq
          · exact .head _
          · rcases List.mem_cons.mp hq with rfl | hq
            · exact .tail _ (.head _)
            · exact .tail _ (.tail _ ((mm _).mp (.tail _ hq))))
      clear N5
      refine Mine.hold_in ?_
      k_dflt (refine' Mine.Meet.use (Mine.law_fraction _ lr rvs row pn ((I, it) :: (ll, listOf #[.ref l1, .ref l2] 0) :: oth :: Mine.TT u1 u2) hi wn ?hr4) ?k1 ?k2 ?k3 ?k4 ?k5 ?k6 ?k7 ?kK ?kd ?ku ?_; (case k1 => k_asm); (case k2 => k_asm); (case k3 => k_asm); (case k4 => exact N4); (case k5 => k_asm); (case k6 => k_asm); (case k7 => k_asm); (case kK => exact rfl); (case kd => ktr_room); (case ku => ktr_units))
      case hr4 =>
        intro q hq r hr
        rw [List.mem_singleton] at hr
        subst hr
        rcases List.mem_cons.mp hq with rfl | hq
        · exact hlI
        · rcases List.mem_cons.mp hq with rfl | hq
          · exact hl
          · rcases List.mem_cons.mp hq with rfl | hq
            · exact hne
            · exact hTr q hq
      clear N4 F5
      rintro r7 led7 h7 tk7 ⟨x, t1, t2, rfl, rfl, hx7, hxr⟩ F7 N7
      simp only [List.cons_append, List.nil_append] at N7
      dsimp only
      k_steps
      refine Mine.hold_in (PyProof.Rows.mul_int ?_ (PySem.IntMulOk.of_right (Mine.bits_abs (by omega))))
      k_steps
      refine Mine.hold_in (PyProof.Rows.mul_int ?_ (PySem.IntMulOk.of_right (Mine.bits_abs (by omega))))
      k_steps
      rename News _ _ _ _ => N7
      have hr5 : ∀ (w1 w2 : Option (Addr × Obj)), (∀ q ∈ Mine.TT w1 w2, q.1 ≠ I ∧ q.1 ≠ ll ∧ q.1 ≠ oth.1) → ∀ q ∈ [(I, it), (ll, listOf #[.ref l1, .ref l2] 0), oth], ∀ r ∈ ((lr, listOf rvs.toArray pn) :: Mine.TT w1 w2), q.1 ≠ r.1 := by
        intro w1 w2 hw q hq r hr
        simp only [List.mem_cons, List.not_mem_nil, or_false] at hq
        rcases List.mem_cons.mp hr with rfl | hr
        · rcases hq with rfl | rfl | rfl
          · exact hlI
          · exact hl
          · exact hne
        · rcases hq with rfl | rfl | rfl
          · exact fun e => (hw r hr).1 e.symm
          · exact fun e => (hw r hr).2.1 e.symm
          · exact fun e => (hw r hr).2.2 e.symm
      have N8 := Mine.news_sub (l' := ((lr, listOf rvs.toArray pn) :: Mine.TT u1 u2) ++ [(I, it), (ll, listOf #[.ref l1, .ref l2] 0), oth]) N7 (fun q hq => Mine.mem_in hq)
      refine Mine.hold_in ?_
      k_dflt (refine' Mine.Meet0.use (Mine.law_comes_out _ lr rvs row pn _ _ fc _ _ [(I, it), (ll, listOf #[.ref l1, .ref l2] 0), oth] u1 u2 c1 c2 hi wn z g (by omega) (Int.mul_comm ..) (Int.mul_comm ..) (Mine.prod_fin fb1 (by omega)) (Mine.prod_fin fb2 (by omega)) (hr5 u1 u2 fun q hq => ⟨(hap q hq).2.2.2, (hap q hq).2.2.1, hTo q hq⟩) hTr) ?k1 ?k2 ?k3 ?k4 ?k5 ?k6 ?k7 ?kK ?kd ?ku ?_; (case k1 => k_asm); (case k2 => k_asm); (case k3 => k_asm); (case k4 => exact N8); (case k5 => k_asm); (case k6 => k_asm); (case k7 => k_asm); (case kK => exact rfl); (case kd => ktr_room); (case ku => ktr_units))
      clear N7 N8
      rintro r9 led9 h9 tk9 ⟨v1, v2, rfl, c3, c4, rfl, ap9, hT9⟩ F9 N9
      dsimp only
      k_steps
      refine Mine.hold_in (PyProof.Rows.mul_int ?_ (PySem.IntMulOk.of_right (Mine.bits_abs (by omega))))
      k_steps
      refine Mine.hold_in (PyProof.Rows.mul_int ?_ (PySem.IntMulOk.of_right (Mine.bits_abs (by omega))))
      k_steps
      rename News _ _ _ _ => N9
      have hq9 : ∀ q ∈ Mine.TT v1 v2, q.1 ≠ I ∧ q.1 ≠ ll ∧ q.1 ≠ oth.1 := fun q hq => ⟨fun e => ap9 (I, it) (.head _) q (.tail _ hq) e.symm, fun e => ap9 (ll, _) (.tail _ (.head _)) q (.tail _ hq) e.symm, fun e => ap9 oth (.tail _ (.tail _ (.head _))) q (.tail _ hq) e.symm⟩
      have NX := Mine.news_sub (l' := ((lr, listOf rvs.toArray pn) :: Mine.TT v1 v2) ++ [(I, it), (ll, listOf #[.ref l1, .ref l2] 0), oth]) N9 (fun q hq => hq)
      refine Mine.hold_in ?_
      k_dflt (refine' Mine.Meet0.use (Mine.law_comes_out _ lr rvs row pn _ _ (-fc) _ _ [(I, it), (ll, listOf #[.ref l1, .ref l2] 0), oth] v1 v2 c3 c4 hi wn z g (by omega) (by rw [Int.neg_mul, Int.neg_mul, Int.mul_comm]) (by rw [Int.neg_mul, Int.neg_mul, Int.mul_comm]) (Mine.prod_fin (by rw [Int.natAbs_neg]; exact fb1) (by omega)) (Mine.prod_fin (by rw [Int.natAbs_neg]; exact fb2) (by omega)) (hr5 v1 v2 hq9) hT9) ?k1 ?k2 ?k3 ?k4 ?k5 ?k6 ?k7 ?kK ?kd ?ku ?_; (case k1 => k_asm); (case k2 => k_asm); (case k3 => k_asm); (case k4 => exact NX); (case k5 => k_asm); (case k6 => k_asm); (case k7 => k_asm); (case kK => exact rfl); (case kd => ktr_room); (case ku => ktr_units))
      clear N9 NX
      rintro rA ledA hA tkA ⟨x1, x2, rfl, c5, c6, rfl, apA, hTA⟩ FA NA
      dsimp only
      k_steps
      rename Fr _ _ _ _ => FZ
      rename News _ _ _ _ => NZ
      have hqA : ∀ q ∈ Mine.TT x1 x2, q.1 ≠ I ∧ q.1 ≠ ll ∧ q.1 ≠ oth.1 := fun q hq => ⟨fun e => apA (I, it) (.head _) q (.tail _ hq) e.symm, fun e => apA (ll, _) (.tail _ (.head _)) q (.tail _ hq) e.symm, fun e => apA oth (.tail _ (.tail _ (.head _))) q (.tail _ hq) e.symm⟩
      have mmA := hmm (Mine.TT x1 x2)
      refine Mine.hold_in (UnrEnd.intro FZ NZ ((ll, listOf #[.ref l1, .ref l2] 0) :: (l1, listOf rv1.toArray pn1) :: (l2, listOf rv2.toArray pn2) :: Mine.TT x1 x2) ?sub ?off ⟨.head _, _, _, _, _, fc, _, x1, x2, Mine.map4 rfl rfl rfl rfl, rfl, c5, c6, hfc, ?hap⟩)
      case sub =>
        intro q hq
        rcases List.mem_cons.mp hq with rfl | hq
        · exact List.mem_append_right _ (.head _)
        · exact Mine.mem_out (mmA q) hq rfl
      case off =>
        intro q hq
        rcases List.mem_cons.mp hq with rfl | hq
        · exact lI0
        · rcases List.mem_cons.mp hq with rfl | hq
          · exact lI1
          · rcases List.mem_cons.mp hq with rfl | hq
            · exact lI2
            · exact (hqA q hq).1
      case hap =>
        intro q hq
        have b1 := hTA q hq
        obtain ⟨b2, b3, b4⟩ := hqA q hq
        rcases hset with ⟨rfl, e⟩ | ⟨rfl, e⟩
        · exact ⟨b1, e ▸ b4, b3, b2⟩
        · exact ⟨e ▸ b4, b1, b3, b2⟩
    case done =>
      clear FD ND
      rintro m news ⟨mr, ua, up, ub, fc, tf, u1, u2, rfl, rfl, c1, c2, hfc, hap⟩ h tk F6 N6
      dsimp only
      have hgr := Mine.grown N6
      clear hap hfc c1 c2 g1 w1 z1 n1 g2 w2 z2 n2 hi1 hi2 hT1 hT2 lI0 lI1 lI2 lD1 lD2 lI lD hl12 ap1 ap2 e1 e2 hap0 hs hsr hsv h30 h37
      k_steps
      refine Mine.hold_in ⟨?_, hgr⟩
      show GoodW _ _ _ _ _ (.ok (.ret (.bool true))) _
      exact goodW_bool F6 (by assumption) (fun _ => rfl) (postW_of (by wrow_shape) (by wtm_val) rfl)
)
end

theorem PySem.Challenge.cw_mq0470_01_holds : PySem.Challenge.rw_mq0470_01.Holds :=
  Mine.whole
