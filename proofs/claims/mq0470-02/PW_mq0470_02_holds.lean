import PyProof.Rows.All
import Wide.All
import OpenK.AllK
import Wide.FinOn
import PySem.Challenge.RW_mq0470_02
set_option Elab.async false
set_option compiler.extract_closed false

section
open PySem PySem.W PyProof.Rows
namespace Mine
set_option maxRecDepth 100000 in
set_option maxHeartbeats 8000000 in
open_top hd for PySem.Challenge.rw_mq0470_02
end Mine
end

theorem Mine.still : True := by
  w_top off
  exact True.intro

section
open PySem PySem.W PyProof.Rows PySem.Calls
namespace Mine

/-- a call of f on vs from a ledger: what comes back, and the ledger behind it -/
def Meet (w : World) (f : Addr) (k : Nat) (vs : List Value) (news : List (Addr × Obj)) (R : Value → List (Addr × Obj) → Prop) : Prop :=
  ∀ (p : Program) (loose : List Str) (mean : ExcName → Option Value) (mg mb : Str → Option Value) (dp un : Nat) (gd : Option (List Code)) (cn : Str) (cs : Scope) (a : Addr) (ccd : Value) (cl : List (Str × Addr)) (outer : List Env) (A₀ : Around) (base h₀ : Heap) (L : Addr) (m : Str → Option Value) (s : Shared) (Q E : Value → Shared → Prop),
    Below A₀ base outer h₀ → Fr h₀ L s.heap m → (Mine.hd.heap_39 w.params).In h₀ → News h₀ L s.heap news → Top p loose mean mg mb h₀ → CodeHd base 41 37 → CodeHd base 34 30 → cs.kind = .function → dp + k < recursionLimit → un + 8 * k < cLine →
    (∀ r news' h' tk', R r news' → Fr h₀ L h' m → News h₀ L h' news' → Q r { s with heap := h', toks := tk' }) →
    wpAny (model PySem.Challenge.rw_mq0470_02.row.prog w) (ktrTop dp un gd cn cs L a ccd cl outer) (call (.ref f) vs) Q E s

abbrev tupOf (its : Array Value) : Obj := { cls := .type "tuple", data := .seq its }


theorem log2_lt_of {x : Nat} {k : Nat} (h : x < 2 ^ k) (hk : 0 < k) : x.log2 < k := by
  by_cases h0 : x = 0
  · rw [h0]; simpa using hk
  · exact (Nat.log2_lt h0).mpr h

set_option maxRecDepth 100000 in
set_option maxHeartbeats 8000000 in
theorem div2n1n (w : World) (a b n : Int) (ta tb tn : Tok) (news : List (Addr × Obj)) (hb : b ≠ 0) (hb2 : b.natAbs < 2 ^ 400) (h1 : (Builtin.Int.intBits a : Int) - n ≤ 4000) :
    Meet w 21 1 [.int a ta, .int b tb, .int n tn] news (fun r news' => ∃ x t1 t2, r = .ref x ∧ news' = (x, tupOf #[.int (a.fdiv b) t1, .int (a.fmod b) t2]) :: news ∧ ∀ p ∈ news, p.1 < x) := by
  unfold Meet
  k_fill
  intro p loose mean mg mb dp un gd cn cs a' ccd cl outer A₀ base h₀ L m s Q E B F X N T C1 C2 hk hd hu hret
  refine wpAny_call ?_
  k_dflt cell_enter
  k_steps
  rename News _ _ _ _ => N9
  refine divmod_N (by assumption) (by assumption) hb ?_ (Or.inl (PyProof.noPylong_of_log2 (Nat.lt_trans (log2_lt_of hb2 (by decide)) (by decide))))
  intro h1' F1 N1
  have lt : ∀ p ∈ news, p.1 < _ := fun p hp => Heap.lt_size (N9 p hp).1
  k_steps
  exact hret _ _ _ _ ⟨_, _, _, rfl, rfl, lt⟩ (by assumption) (by assumption)
/-- from here on the walk sees no end of the call and no exception -/
theorem wp_hide {prog : Program} {w : World} {A : Around} {c : Sem Flow} {Q : Flow → Shared → Prop} {E : Value → Shared → Prop} {s : Shared}
    (h : ∀ Q0 : Flow → Shared → Prop, (∀ f s', Q f s' → Q0 f s') → wpAny (model prog w) A c Q0 (fun _ _ => False) s) : wpAny (model prog w) A c Q E s :=
  wpAny_mono (h Q (fun _ _ q => q)) (fun _ _ q => q) (fun _ _ h => h.elim)
end Mine
end

section
open PySem PySem.W PyProof.Rows PySem.Calls PySem.Spec
namespace Mine

section
variable {prog : Program} {w : World} {A₀ A : Around} {s : Shared} {base h₀ : Heap} {outer : List Env} {L : Addr} {m mg mb : Str → Option Value} {env : Env} {led rest : List (Addr × Obj)} {K : Frag} {p : Program} {loose : List Str} {mean : ExcName → Option Value}
  {R : Result → Shared → Prop} {name qual : Str} {params : Arguments} {body : List Stmt} {scope : Scope} {cl : List (Str × Addr)} {dV kV doc pm cdv ct : Value} {an : Option Addr} {fo : Obj} {f : Addr} {args : Args} {binds : List (Str × Value)}

theorem news_left (N : News h₀ L s.heap (led ++ rest)) : News h₀ L s.heap led := fun q hq => N q (List.mem_append_left _ hq)
theorem news_right (N : News h₀ L s.heap (led ++ rest)) : News h₀ L s.heap rest := fun q hq => N q (List.mem_append_right _ hq)
theorem news_sub {h : Heap} {l l' : List (Addr × Obj)} (N : News h₀ L h l) (hs : ∀ q ∈ l', q ∈ l) : News h₀ L h l' := fun q hq => N q (hs q hq)
/-- what the callee's ground holds is still there behind the call -/
theorem rest_back {g h : Heap} {L' : Addr} {m' : Str → Option Value} (N : News h₀ L g rest) (F : Fr g L' h m') : News h₀ L h rest := fun q hq => ⟨F.keep _ _ (N q hq).1, (N q hq).2⟩
theorem rest_ground (N : News h₀ L s.heap (led ++ rest)) (hdis : ∀ q ∈ rest, ∀ r ∈ led, q.1 ≠ r.1) : News h₀ L (hideAll s.heap (led.map (·.1))) rest := fun q hq =>
  ⟨hideAll_get _ (N q (List.mem_append_right _ hq)).1 (fun h => by
    obtain ⟨r, hr, e⟩ := List.mem_map.mp h
    exact hdis q hq r hr e.symm), (N q (List.mem_append_right _ hq)).2⟩
theorem news_join {h : Heap} {l l' : List (Addr × Obj)} (N : News h₀ L h l) (N' : News h₀ L h l') : News h₀ L h (l ++ l') := fun q hq => (List.mem_append.mp hq).elim (N q) (N' q)

/-- a def is entered; of the ledger only led goes along, the rest lies in the ground -/
theorem enter_plain (B : Below A₀ base outer h₀) (F : Fr h₀ L s.heap m) (N : News h₀ L s.heap (led ++ rest)) (T : Top p loose mean mg mb h₀) (X : K.In h₀) (hA : A.frames = some (env :: outer)) (hf : env.frame = some L) (hke : env.scope.kind = .function)
    (ho : s.heap.get? f = some fo) (hd : fo.data = .func (fnX name qual params body scope cl dV kV doc pm an cdv ct)) (hcd : s.heap.CodeRec cdv qual) (hroom : A.depth < recursionLimit)
    (hbind : BindsTo s (fnX name qual params body scope cl dV kV doc pm an cdv ct) args binds) (hloc : ∀ y ∈ binds, scope.names.lookup y.1 = some .local)
    (hdis : ∀ q ∈ rest, ∀ r ∈ led, q.1 ≠ r.1)
    (h : ∀ g L' h₁, Fr h₀ L g m → Fr g L' h₁ (fun y => binds.reverse.lookup y) → News g L' h₁ led → Below A base (env :: outer) g → K.In g → Top p loose mean mg mb g → News h₀ L g rest → (∀ p ∈ led ++ rest, p.1 < L') →
      wpAny (model prog w) (A.deeper (envX qual scope L' f cdv cl)) (execs body (envX qual scope L' f cdv cl))
        (fun fl s' => LeaveK h₀ L m g R (match fl with | .ret v => v | _ => .none) s')
        (fun e s' => wpAny (model prog w) (A.deeper (envX qual scope L' f cdv cl)) (leaving (envX qual scope L' f cdv cl) e) (fun _ s'' => R (.error e) s'') (fun e' s'' => R (.error e') s'') s')
        { s with heap := h₁, toks := s.toks + binds.length })
    (hcell : ∀ x ∈ scope.names, x.2 ≠ .cell) (hco : scope.isCoroutine = false) (hgen : scope.isGenerator = false) (hk : scope.kind = .function) : codeAny (model prog w) A (.call (.ref f) args) R s := by
  have N₀ := news_left N
  obtain ⟨FG, BG, st, lv⟩ := groundX (R := R) B F N₀ hA hf hke
  refine codeAny_call_def (fd := fnX name qual params body scope cl dV kV doc pm an cdv ct) (body := body) (binds := binds) hroom ho hd (T.nolimit.keeps F.keep) hcd rfl hbind hcell hloc (fun h₁ hns hk₁ => ?_) hco hgen hk
  refine wpAny_mono (h _ s.heap.objs.size h₁ FG ⟨hns, fun b o e => hk₁ b o (of_hideAll _ e), Nat.le_of_eq (hideAll_size _ _)⟩
    (fun q hq => ⟨hk₁ _ _ (N₀ q hq).1, Nat.ne_of_lt (Heap.lt_size (N₀ q hq).1), hideAll_none _ (List.mem_map_of_mem hq)⟩) BG (X.keeps st) (T.keeps st) (rest_ground N hdis) (fun q hq => Heap.lt_size (N q hq).1)) (fun fl s' hl => lv _ _ hl) fun _ _ y => y

/-- the same for a def whose locals are captured -/
theorem enter_cells (B : Below A₀ base outer h₀) (F : Fr h₀ L s.heap m) (N : News h₀ L s.heap (led ++ rest)) (T : Top p loose mean mg mb h₀) (X : K.In h₀) (hA : A.frames = some (env :: outer)) (hf : env.frame = some L) (hke : env.scope.kind = .function)
    (ho : s.heap.get? f = some fo) (hd : fo.data = .func (fnX name qual params body scope [] dV kV doc pm an cdv ct)) (hcd : s.heap.CodeRec cdv qual) (hroom : A.depth < recursionLimit)
    (hbind : BindsTo s (fnX name qual params body scope [] dV kV doc pm an cdv ct) args binds)
    (hkind : (binds.all fun y => scope.names.lookup y.1 == some .local || scope.names.lookup y.1 == some .cell) = true)
    (hnd : ((cellsFrom 0 scope.names []).map (·.1)).Nodup)
    (hdis : ∀ q ∈ rest, ∀ r ∈ led, q.1 ≠ r.1)
    (h : ∀ g L' h₁ tk cells, Fr h₀ L g m → Fr g L' h₁ (bindL (envOfC qual scope L' f cdv).kindOf binds fun _ => none) → News g L' h₁ (cells ++ led) →
      CellsAre (bindC (envOfC qual scope L' f cdv).kindOf binds fun _ => none) (cellsFrom (L' + 1) scope.names []) cells → Below A base (env :: outer) g → K.In g → Top p loose mean mg mb g → News h₀ L g rest → (∀ p ∈ led ++ rest, p.1 < L') →
      wpAny (model prog w) (A.deeper (envOfC qual scope L' f cdv)) (execs body (envOfC qual scope L' f cdv))
        (fun fl s' => LeaveK h₀ L m g R (match fl with | .ret v => v | _ => .none) s')
        (fun e s' => wpAny (model prog w) (A.deeper (envOfC qual scope L' f cdv)) (leaving (envOfC qual scope L' f cdv) e) (fun _ s'' => R (.error e) s'') (fun e' s'' => R (.error e') s'') s')
        { s with heap := h₁, toks := tk })
    (hco : scope.isCoroutine = false) (hgen : scope.isGenerator = false) (hk : scope.kind = .function) : codeAny (model prog w) A (.call (.ref f) args) R s := by
  have N₀ := news_left N
  obtain ⟨FG, BG, st, lv⟩ := groundX (R := R) B F N₀ hA hf hke
  refine codeAny_call_function hroom ho hd hco hgen rfl hcd (hbind _ _ _ _ ?_)
  refine wpAny_newFunctionEnv_cells hk (kindsX hkind _) fun env' he s' x => ?_
  subst he
  refine ⟨(T.nolimit.keeps F.keep).keeps x.toInCall.keep, codeAny_func ?_⟩
  obtain ⟨h₁, tk, rfl, _⟩ := x.done
  have hk₁ := x.toInCall.keep
  obtain ⟨cells, NC, Y⟩ := Cl.news (h₀ := s.heap) (Nat.le_refl _) fun n c hm => ⟨x.cell n c (lookup_of_mem_nodup (cellsFrom_names scope.names 0 (s.heap.objs.size + 1) [] [] rfl ▸ hnd) hm), x.above n c hm⟩
  refine wpAny_mono (h _ s.heap.objs.size h₁ tk cells FG ⟨x.toInCall.ns, fun b o e => hk₁ b o (of_hideAll _ e), Nat.le_of_eq (hideAll_size _ _)⟩ (fun q hq => ?_) Y BG (X.keeps st) (T.keeps st) (rest_ground N hdis) (fun q hq => Heap.lt_size (N q hq).1)) (fun fl s' hl => lv _ _ hl) fun _ _ y => y
  rcases List.mem_append.mp hq with hq | hq
  · refine ⟨(NC q hq).1, (NC q hq).2.1, ?_⟩
    cases e : (hideAll s.heap (led.map (·.1))).get? q.1 with
    | none => rfl
    | some o => have := of_hideAll _ e; rw [(NC q hq).2.2] at this; cases this
  · exact ⟨hk₁ _ _ (N₀ q hq).1, Nat.ne_of_lt (Heap.lt_size (N₀ q hq).1), hideAll_none _ (List.mem_map_of_mem hq)⟩

variable {oc : Value} {od : Option Addr} {osl : Array (Option Value)}
theorem enter_def (B : Below A₀ base outer h₀) (F : Fr h₀ L s.heap m) (X : K.In h₀) (N : News h₀ L s.heap (led ++ rest)) (T : Top p loose mean mg mb h₀) (hA : A.frames = some (env :: outer)) (hf : env.frame = some L) (hke : env.scope.kind = .function)
    (ho : K.lookup f = some ⟨oc, od, .func (fnOf name qual params body scope dV kV doc pm an cdv ct), osl⟩) (hcd : codeIn K cdv qual = true) (hroom : A.depth < recursionLimit)
    (hbind : BindsTo s (fnOf name qual params body scope dV kV doc pm an cdv ct) args binds) (hloc : ∀ y ∈ binds, scope.names.lookup y.1 = some .local)
    (hdis : ∀ q ∈ rest, ∀ r ∈ led, q.1 ≠ r.1)
    (h : ∀ g L' h₁, Fr h₀ L g m → Fr g L' h₁ (fun y => binds.reverse.lookup y) → News g L' h₁ led → Below A base (env :: outer) g → K.In g → Top p loose mean mg mb g → News h₀ L g rest → (∀ p ∈ led ++ rest, p.1 < L') →
      wpAny (model prog w) (A.deeper (envOf qual scope L' f cdv)) (execs body (envOf qual scope L' f cdv))
        (fun fl s' => LeaveK h₀ L m g R (match fl with | .ret v => v | _ => .none) s')
        (fun e s' => wpAny (model prog w) (A.deeper (envOf qual scope L' f cdv)) (leaving (envOf qual scope L' f cdv) e) (fun _ s'' => R (.error e) s'') (fun e' s'' => R (.error e') s'') s')
        { s with heap := h₁, toks := s.toks + binds.length })
    (hco : scope.isCoroutine = false) (hgen : scope.isGenerator = false) (hk : scope.kind = .function)
    (hcell : ∀ x ∈ scope.names, x.2 ≠ .cell) : codeAny (model prog w) A (.call (.ref f) args) R s :=
  enter_plain (cl := []) B F N T X hA hf hke ((X.keeps F.keep) _ _ ho) rfl (codeRec_of (X.keeps F.keep) hcd) hroom hbind hloc hdis h hcell hco hgen hk

theorem enter_defC (B : Below A₀ base outer h₀) (F : Fr h₀ L s.heap m) (X : K.In h₀) (N : News h₀ L s.heap (led ++ rest)) (T : Top p loose mean mg mb h₀) (hA : A.frames = some (env :: outer)) (hf : env.frame = some L) (hke : env.scope.kind = .function)
    (ho : K.lookup f = some ⟨oc, od, .func (fnOf name qual params body scope dV kV doc pm an cdv ct), osl⟩) (hcd : codeIn K cdv qual = true) (hroom : A.depth < recursionLimit)
    (hbind : BindsTo s (fnOf name qual params body scope dV kV doc pm an cdv ct) args binds)
    (hkind : (binds.all fun y => scope.names.lookup y.1 == some .local || scope.names.lookup y.1 == some .cell) = true)
    (hnd : ((cellsFrom 0 scope.names []).map (·.1)).Nodup)
    (hdis : ∀ q ∈ rest, ∀ r ∈ led, q.1 ≠ r.1)
    (h : ∀ g L' h₁ tk cells, Fr h₀ L g m → Fr g L' h₁ (bindL (envOfC qual scope L' f cdv).kindOf binds fun _ => none) → News g L' h₁ (cells ++ led) →
      CellsAre (bindC (envOfC qual scope L' f cdv).kindOf binds fun _ => none) (cellsFrom (L' + 1) scope.names []) cells → Below A base (env :: outer) g → K.In g → Top p loose mean mg mb g → News h₀ L g rest → (∀ p ∈ led ++ rest, p.1 < L') →
      wpAny (model prog w) (A.deeper (envOfC qual scope L' f cdv)) (execs body (envOfC qual scope L' f cdv))
        (fun fl s' => LeaveK h₀ L m g R (match fl with | .ret v => v | _ => .none) s')
        (fun e s' => wpAny (model prog w) (A.deeper (envOfC qual scope L' f cdv)) (leaving (envOfC qual scope L' f cdv) e) (fun _ s'' => R (.error e) s'') (fun e' s'' => R (.error e') s'') s')
        { s with heap := h₁, toks := tk })
    (hco : scope.isCoroutine = false) (hgen : scope.isGenerator = false) (hk : scope.kind = .function) : codeAny (model prog w) A (.call (.ref f) args) R s :=
  enter_cells B F N T X hA hf hke ((X.keeps F.keep) _ _ ho) rfl (codeRec_of (X.keeps F.keep) hcd) hroom hbind hkind hnd hdis h hco hgen hk
end
end Mine
end

section
open PySem PySem.W PyProof.Rows PySem.Calls
namespace Mine

/-- base-B digits, lowest first -/
def digs (B : Int) : Nat → Int → List Int
  | 0, _ => []
  | k + 1, x => x % B :: digs B k (x / B)
/-- the worth of digits, lowest first -/
def und (B : Int) : List Int → Int
  | [] => 0
  | d :: l => d + B * und B l
/-- the worth of digits, highest first -/
def val (B : Int) (l : List Int) : Int := l.foldl (fun acc d => acc * B + d) 0

theorem digs_length (B : Int) : ∀ (k : Nat) (x : Int), (digs B k x).length = k
  | 0, _ => rfl
  | k + 1, x => by rw [digs, List.length_cons, digs_length B k]
theorem pow_pos' {B : Int} (hB : 0 < B) (k : Nat) : 0 < B ^ k := Int.pow_pos hB
theorem mod_div {x B C : Int} (hB : 0 < B) (hC : 0 < C) : (x % (B * C)) / B = (x / B) % C := by
  have hBC : 0 < B * C := Int.mul_pos hB hC
  have h1 := Int.emod_add_mul_ediv x (B * C)
  have h2 : x / (B * C) = x / B / C := (Int.ediv_ediv_of_nonneg (Int.le_of_lt hB)).symm
  have e : x % (B * C) = x - B * (C * (x / B / C)) := by rw [h2, Int.mul_assoc] at h1; omega
  rw [e, show x - B * (C * (x / B / C)) = x + B * (-(C * (x / B / C))) by rw [Int.mul_neg]; omega, Int.add_mul_ediv_left _ _ (by omega : B ≠ 0)]
  have h3 := Int.emod_add_mul_ediv (x / B) C
  omega
theorem digs_append {B : Int} (hB : 0 < B) (k₂ : Nat) : ∀ (k₁ : Nat) (x : Int), digs B (k₁ + k₂) x = digs B k₁ (x % B ^ k₁) ++ digs B k₂ (x / B ^ k₁)
  | 0, x => by simp [digs]
  | k₁ + 1, x => by
    have hp : B ^ (k₁ + 1) = B * B ^ k₁ := by rw [Int.pow_succ, Int.mul_comm]
    rw [show k₁ + 1 + k₂ = (k₁ + k₂) + 1 by omega, digs, digs, digs_append hB k₂ k₁ (x / B), hp, mod_div hB (pow_pos' hB k₁), Int.emod_emod_of_dvd _ (Int.dvd_mul_right _ _), Int.ediv_ediv_of_nonneg (Int.le_of_lt hB)]
    rfl
theorem digs_one {B x : Int} (h0 : 0 ≤ x) (h1 : x < B) : digs B 1 x = [x] := by
  rw [digs, digs, Int.emod_eq_of_lt h0 h1]
theorem und_append (B : Int) (l₂ : List Int) : ∀ l₁ : List Int, und B (l₁ ++ l₂) = und B l₁ + B ^ l₁.length * und B l₂
  | [] => by simp [und]
  | d :: l => by
    rw [List.cons_append, und, und, und_append B l₂ l, List.length_cons, Int.pow_succ, Int.mul_add, Int.mul_comm (B ^ l.length) B, Int.mul_assoc]
    omega
theorem val_snoc (B : Int) (l : List Int) (d : Int) : val B (l ++ [d]) = val B l * B + d := by simp [val]
theorem val_reverse (B : Int) : ∀ l : List Int, val B l.reverse = und B l
  | [] => rfl
  | d :: l => by rw [List.reverse_cons, val_snoc, val_reverse B l, und, Int.mul_comm]; omega
theorem und_reverse (B : Int) (l : List Int) : und B l.reverse = val B l := by
  rw [← val_reverse, List.reverse_reverse]
theorem und_digs {B : Int} (hB : 0 < B) : ∀ (k : Nat) (x : Int), 0 ≤ x → x < B ^ k → und B (digs B k x) = x
  | 0, x, h0, h1 => by simp at h1; simp [digs, und]; omega
  | k + 1, x, h0, h1 => by
    have hx : 0 ≤ x / B := Int.ediv_nonneg h0 (Int.le_of_lt hB)
    have hx2 : x / B < B ^ k := Int.ediv_lt_of_lt_mul hB (by rw [Int.pow_succ] at h1; exact h1)
    rw [digs, und, und_digs hB k _ hx hx2]
    exact Int.emod_add_mul_ediv x B
theorem und_bound {B : Int} (hB : 0 < B) : ∀ l : List Int, (∀ d ∈ l, 0 ≤ d ∧ d < B) → 0 ≤ und B l ∧ und B l < B ^ l.length
  | [], _ => by simp [und]
  | d :: l, h => by
    obtain ⟨i1, i2⟩ := und_bound hB l fun e he => h e (.tail _ he)
    obtain ⟨d1, d2⟩ := h d (.head _)
    have m1 : 0 ≤ B * und B l := Int.mul_nonneg (Int.le_of_lt hB) i1
    have m2 : B * (und B l + 1) ≤ B * B ^ l.length := Int.mul_le_mul_of_nonneg_left (by omega) (Int.le_of_lt hB)
    rw [Int.mul_add, Int.mul_one] at m2
    rw [und, List.length_cons, Int.pow_succ, Int.mul_comm (B ^ l.length) B]
    omega
theorem digs_bound {B : Int} (hB : 0 < B) : ∀ (k : Nat) (x : Int), ∀ d ∈ digs B k x, 0 ≤ d ∧ d < B
  | 0, _, d, h => nomatch h
  | k + 1, x, d, h => by
    rw [digs] at h
    rcases List.mem_cons.mp h with rfl | h
    · exact ⟨Int.emod_nonneg _ (by omega), Int.emod_lt_of_pos _ hB⟩
    · exact digs_bound hB k _ d h
/-- the bits of a product of a power and what lies above it -/
theorem and_high (x k : Nat) : x &&& (x / 2 ^ k * 2 ^ k) = x / 2 ^ k * 2 ^ k := by
  apply Nat.eq_of_testBit_eq
  intro i
  rw [Nat.testBit_and, ← Nat.shiftRight_eq_div_pow, ← Nat.shiftLeft_eq, Nat.testBit_shiftLeft, Nat.testBit_shiftRight]
  by_cases h : k ≤ i
  · rw [show k + (i - k) = i by omega]; simp [h]
  · simp [h]
theorem xor_low {x : Int} (hx : 0 ≤ x) (k : Nat) : Builtin.bitXor x (x / 2 ^ k * 2 ^ k) = x % 2 ^ k := by
  have hp : (0 : Int) < 2 ^ k := Int.pow_pos (by decide)
  have hd : 0 ≤ x / 2 ^ k := Int.ediv_nonneg hx (Int.le_of_lt hp)
  have hm : 0 ≤ x / 2 ^ k * 2 ^ k := Int.mul_nonneg hd (Int.le_of_lt hp)
  have ht : (x / 2 ^ k * 2 ^ k).toNat = x.toNat / 2 ^ k * 2 ^ k := by
    have e : x = ((x.toNat : Nat) : Int) := (Int.toNat_of_nonneg hx).symm
    have e2 : x / 2 ^ k * 2 ^ k = ((x.toNat / 2 ^ k * 2 ^ k : Nat) : Int) := by
      rw [Int.natCast_mul, Int.natCast_ediv, ← e, kbt_cast]
    rw [e2]; rfl
  rw [bitXor_and, bitAnd_pp hx hm, ht, and_high, ← ht, Int.toNat_of_nonneg hm]
  have := Int.emod_add_mul_ediv x (2 ^ k)
  rw [Int.mul_comm] at this
  omega
theorem pow_mul' (n k : Nat) : (2 : Int) ^ (n * k) = (2 ^ n) ^ k := Int.pow_mul ..
theorem bits_le {x : Int} {k : Nat} (h0 : 0 ≤ x) (h : x < 2 ^ k) : Builtin.Int.intBits x ≤ k := by
  unfold Builtin.Int.intBits
  split
  · exact Nat.zero_le _
  · rename_i hx
    have hx' : x.natAbs ≠ 0 := by simpa using hx
    have : x.natAbs < 2 ^ k := by
      have := kbt_cast k
      omega
    have := (Nat.log2_lt hx').mpr this
    omega
theorem lt_bits {x : Int} (h0 : 0 ≤ x) : x < 2 ^ Builtin.Int.intBits x := by
  unfold Builtin.Int.intBits
  split
  · rename_i hx
    have : x = 0 := by simpa using hx
    subst this; decide
  · have h := Nat.lt_log2_self (n := x.natAbs)
    have := kbt_cast (x.natAbs.log2 + 1)
    omega
end Mine
end

namespace Mine
def Hold (P : Prop) : Prop := P
theorem Hold.out {P : Prop} (h : Hold P) : P := h
theorem hold_in {P : Prop} (h : P) : Hold P := h
end Mine

section
open PySem PySem.W PyProof.Rows
local macro_rules | `(tactic| walk_at "call ref") => `(tactic| refine Mine.Hold.out ?_)
local macro_rules | `(tactic| k_all) => `(tactic| assumption)

section
open PySem PySem.W PyProof.Rows PySem.Calls
namespace Mine

section
variable {w : World} {f : Addr} {k : Nat} {vs : List Value} {led : List (Addr × Obj)} {R : Value → List (Addr × Obj) → Prop} {p : Program} {loose : List Str} {mean : ExcName → Option Value} {mg mb : Str → Option Value} {dp un : Nat} {gd : Option (List Code)} {cn : Str} {cs : Scope} {a : Addr} {ccd : Value} {cl : List (Str × Addr)} {outer : List Env} {A₀ : Around} {base h₀ : Heap} {L : Addr} {m : Str → Option Value} {s : Shared} {Q E : Value → Shared → Prop}
theorem Meet.use (C : Meet w f k vs led R) (B : Below A₀ base outer h₀) (F : Fr h₀ L s.heap m) (X : (Mine.hd.heap_39 w.params).In h₀) (N : News h₀ L s.heap led) (T : Top p loose mean mg mb h₀) (C1 : CodeHd base 41 37) (C2 : CodeHd base 34 30) (hk : cs.kind = .function)
    (hd : dp + k < recursionLimit) (hu : un + 8 * k < cLine)
    (ret : ∀ r led' h' tk', R r led' → Fr h₀ L h' m → News h₀ L h' led' → Q r { s with heap := h', toks := tk' }) :
    wpAny (model PySem.Challenge.rw_mq0470_02.row.prog w) (ktrTop dp un gd cn cs L a ccd cl outer) (call (.ref f) vs) Q E s :=
  C _ _ _ _ _ _ _ _ _ _ _ _ _ _ _ _ _ _ _ _ _ _ B F X N T C1 C2 hk hd hu ret
end


def nestedDef (i j : Nat) : Option Stmt := match PySem.Challenge.rw_mq0470_02.prog.main.body[i]? with
  | some (.FunctionDef _ _ b _ _ _ _ _ _ _) => b[j]?
  | _ => none
theorem take_set {ns : List Int} {lo : Nat} {x : Int} (h : lo < ns.length) : ns.set lo x = ns.take lo ++ [x] ++ ns.drop (lo + 1) := by
  rw [List.set_eq_take_append_cons_drop, if_pos h]; simp
theorem join_digs {B x : Int} (hB : 0 < B) {lo mid hi : Nat} (h1 : lo ≤ mid) (h2 : mid ≤ hi) (ns : List Int) (h3 : hi ≤ ns.length) :
    (ns.take lo ++ digs B (mid - lo) (x % B ^ (mid - lo)) ++ ns.drop mid).take mid ++ digs B (hi - mid) (x / B ^ (mid - lo)) ++ (ns.take lo ++ digs B (mid - lo) (x % B ^ (mid - lo)) ++ ns.drop mid).drop hi
      = ns.take lo ++ digs B (hi - lo) x ++ ns.drop hi := by
  have e1 : (ns.take lo).length = lo := by rw [List.length_take]; omega
  have e2 := digs_length B (mid - lo) (x % B ^ (mid - lo))
  rw [show hi - lo = (mid - lo) + (hi - mid) by omega, digs_append hB]
  have e3 : (ns.take lo ++ digs B (mid - lo) (x % B ^ (mid - lo))).length = mid := by rw [List.length_append]; omega
  rw [List.take_append_of_le_length (by omega), List.take_of_length_le (by omega), List.drop_append, List.drop_of_length_le (by omega), List.drop_drop]
  rw [e3, show mid + (hi - mid) = hi by omega]
  simp

local macro_rules | `(tactic| walk_at "binaryOp RShift int int") => `(tactic| refine Hold.out ?_)
local macro_rules | `(tactic| walk_at "binaryOp LShift int int") => `(tactic| refine Hold.out ?_)
local macro_rules | `(tactic| walk_at "binaryOp BitXor int int") => `(tactic| refine Hold.out ?_)
local macro_rules | `(tactic| walk_at "binaryOp Mult int int") => `(tactic| refine Hold.out ?_)
set_option maxRecDepth 100000 in
set_option maxHeartbeats 8000000 in
theorem inner1 {params : Arguments} {body : List Stmt} {scope : Scope} {pos : Pos} (hs : nestedDef 4 1 = some (.FunctionDef (Str.ofString "inner") params body [] none [] scope none (Str.ofString "inner") pos))
    (w : World) (n : Nat) (tn : Tok) (hn : 1 ≤ n) (hn' : n ≤ 400) (f c' l cN cI cA : Addr) (oc oN oI oA : Obj) (qual : Str) (doc pm ctv : Value) (cvs : Array Value) (ct : Tok)
    (hN : oN.data = .cell (some (.int n tn))) (hI : oI.data = .cell (some (.ref f))) (hA : oA.data = .cell (some (.ref l))) (hoc : oc.data = .fields cvs) (hq : cvs[1]? = some (.str qual ct))
    (e1 : @LT.lt Nat _ cN l) (e2 : @LT.lt Nat _ cI l) (e3 : @LT.lt Nat _ cA l) (e4 : @LT.lt Nat _ l f) (e5 : @Ne Nat c' l) :
    ∀ (k : Nat) (x : Int) (lo hi : Nat) (tx tl th : Tok) (vs : List Value) (ns : List Int) (cnt : Nat) (rest : List (Addr × Obj)), hi - lo ≤ k → lo < hi → hi ≤ ns.length → ns.length ≤ 256 → 0 ≤ x → x < (2 ^ n) ^ (hi - lo) → IntsAre vs ns →
      (∀ q ∈ rest, @Ne Nat q.1 l ∧ @Ne Nat q.1 f ∧ @Ne Nat q.1 cI ∧ @Ne Nat q.1 cA ∧ @Ne Nat q.1 cN ∧ @Ne Nat q.1 c') →
      Meet w f k [.int x tx, .int lo tl, .int hi th] ([(l, listOf vs.toArray cnt), (f, fnMade (Str.ofString "inner") qual params body scope [(Str.ofString "n", cN), (Str.ofString "inner", cI), (Str.ofString "a_digits", cA)] doc pm c' ctv), (cI, oI), (cA, oA), (cN, oN), (c', oc)] ++ rest)
        (fun r led' => r = .none ∧ ∃ vs', IntsAre vs' (ns.take lo ++ digs (2 ^ n) (hi - lo) x ++ ns.drop hi) ∧ led' = [(l, listOf vs'.toArray cnt), (f, fnMade (Str.ofString "inner") qual params body scope [(Str.ofString "n", cN), (Str.ofString "inner", cI), (Str.ofString "a_digits", cA)] doc pm c' ctv), (cI, oI), (cA, oA), (cN, oN), (c', oc)] ++ rest) := by
  cases hs
  intro k
  induction k with
  | zero => intros; omega
  | succ k ih =>
    intro x lo hi tx tl th vs ns cnt rest hk h1 h2 h3 h4 h5 hv hr
    unfold Meet
    k_fill
    intro p loose mean mg mb dp un gd cn cs a' ccd cl outer A₀ base h₀ L m s Q E B F X N T C1 C2 hkk hd hu hret
    refine wpAny_call ?_
    have N1 := news_left N
    k_dflt (refine' enter_plain (K := Mine.hd.heap_39 w.params) B F N T X ?kA ?kF ?kK (N1 (f, _) (.tail _ (.head _))).1 ?kd (codeRec_news N1 (.tail _ (.tail _ (.tail _ (.tail _ (.tail _ (.head _)))))) hoc hq) ?k8 ?k9 ?kB ?kR ?_ ?c5 ?c2 ?c3 ?c4; (case kA => exact rfl); (case kF => exact rfl); (case kK => exact hkk); (case kd => exact rfl); (case k8 => ktr_room); (case k9 => exact BindsTo.of_eq rfl); (case kB => exact locs rfl); (case c5 => decide); (case c2 => exact rfl); (case c3 => exact rfl); (case c4 => exact rfl))
    case kR =>
      intro q hq r hr'
      have := hr q hq
      simp only [List.mem_cons, List.not_mem_nil, or_false] at hr'
      rcases hr' with rfl | rfl | rfl | rfl | rfl | rfl
      · exact this.1
      · exact this.2.1
      · exact this.2.2.1
      · exact this.2.2.2.1
      · exact this.2.2.2.2.1
      · exact this.2.2.2.2.2
    intro g' L' h' FG' F' N' B' X' T' NR l1
    clear N1 N
    (try dsimp only); (try k_fold)
    have hB : (0 : Int) < 2 ^ n := Int.pow_pos (by decide)
    k_steps
    · -- one digit
      rename Fr g' _ _ _ => F9
      rename News h₀ _ _ _ => N9
      rename (lo : Int) + 1 = hi => hlo
      have ehi : hi = lo + 1 := by omega
      refine hret _ _ _ _ ⟨rfl, _, ?_, rfl⟩ (by assumption) (news_join N9 (rest_back NR F9))
      rw [ehi, show lo + 1 - lo = 1 by omega] at h5
      rw [Int.pow_one] at h5
      rw [ehi, show lo + 1 - lo = 1 by omega, digs_one h4 h5, ← take_set (by omega)]
      simpa using ints_set hv lo
    · -- the two halves
      obtain ⟨mid, hmid⟩ : ∃ mid : Nat, mid = (lo + hi) / 2 := ⟨_, rfl⟩
      have em : ((lo : Int) + (hi : Int)).fdiv (2 ^ Int.toNat 1) = (mid : Int) := by
        rw [Int.fdiv_eq_ediv_of_nonneg _ (by decide)]; simp; omega
      refine hold_in (rshift_int (by decide) ?_)
      rw [em]
      k_steps
      have hm1 : lo < mid := by omega
      have hm2 : mid < hi := by omega
      refine hold_in (PyProof.Rows.mul_int ?_ (PySem.IntMulOk.of_right (Nat.le_trans (bits_le (k := 9) (by omega) (by omega)) (by decide))))
      obtain ⟨sh, hsh⟩ : ∃ sh : Nat, sh = n * (mid - lo) := ⟨_, rfl⟩
      have es : ((mid : Int) - (lo : Int)) * (n : Int) = (sh : Int) := by
        rw [hsh, Int.natCast_mul, Int.natCast_sub (by omega), Int.mul_comm]
      have hshb : sh ≤ 400 * 256 := by rw [hsh]; exact Nat.mul_le_mul hn' (by omega)
      have hps : (2 : Int) ^ sh = (2 ^ n) ^ (mid - lo) := by rw [hsh, pow_mul']
      have hp1 : (0 : Int) < (2 ^ n) ^ (mid - lo) := pow_pos' hB _
      have hp2 : (0 : Int) < (2 ^ n) ^ (hi - mid) := pow_pos' hB _
      have hp3 : ((2 : Int) ^ n) ^ (hi - lo) = (2 ^ n) ^ (hi - mid) * (2 ^ n) ^ (mid - lo) := by rw [← Int.pow_add]; congr 1; omega
      rw [es]
      k_steps
      refine hold_in (rshift_int (by omega) ?_)
      have eu : x.fdiv (2 ^ (sh : Int).toNat) = x / (2 ^ n) ^ (mid - lo) := by
        rw [Int.toNat_natCast, hps, Int.fdiv_eq_ediv_of_nonneg _ (Int.le_of_lt hp1)]
      obtain ⟨up, hup⟩ : ∃ up : Int, up = x / (2 ^ n) ^ (mid - lo) := ⟨_, rfl⟩
      have hu0 : 0 ≤ up := by rw [hup]; exact Int.ediv_nonneg h4 (Int.le_of_lt hp1)
      have hu1 : up < (2 ^ n) ^ (hi - mid) := by rw [hup]; exact Int.ediv_lt_of_lt_mul hp1 (by rw [← hp3]; exact h5)
      rw [eu, ← hup]
      k_steps
      have hub : Builtin.Int.intBits up ≤ 400 * 256 := Nat.le_trans (bits_le (k := n * (hi - mid)) hu0 (by rw [pow_mul']; exact hu1)) (Nat.mul_le_mul hn' (by omega))
      refine hold_in (lshift_int (by omega) (by omega) ?_)
      rw [Int.toNat_natCast]
      k_steps
      refine hold_in (xor_int ?_)
      have el : Builtin.bitXor x (up * 2 ^ sh) = x % (2 ^ n) ^ (mid - lo) := by
        rw [hup, ← hps, xor_low h4]
      obtain ⟨lw, hlw⟩ : ∃ lw : Int, lw = x % (2 ^ n) ^ (mid - lo) := ⟨_, rfl⟩
      have hl0 : 0 ≤ lw := by rw [hlw]; exact Int.emod_nonneg _ (by omega)
      have hl1 : lw < (2 ^ n) ^ (mid - lo) := by rw [hlw]; exact Int.emod_lt_of_pos _ hp1
      rw [el, ← hlw]
      k_steps
      refine hold_in ?_
      k_dflt (refine' Meet.use (ih lw lo mid _ _ _ vs ns cnt [] (by omega) hm1 (by omega) h3 hl0 hl1 hv (fun _ h => nomatch h)) ?k1 ?k2 ?k3 ?k4 ?k5 ?k6 ?k7 ?kK ?kd ?ku ?_; (case k1 => k_asm); (case k2 => k_asm); (case k3 => k_asm); (case k4 => k_asm); (case k5 => k_asm); (case k6 => k_asm); (case k7 => k_asm); (case kK => exact rfl); (case kd => ktr_room); (case ku => ktr_units))
      rintro r led' h9 tk9 ⟨rfl, vs1, hv1, rfl⟩ F9 N9
      simp only [List.cons_append, List.nil_append] at N9
      k_sweep
      have hlen : (ns.take lo ++ digs (2 ^ n) (mid - lo) lw ++ ns.drop mid).length = ns.length := by
        rw [List.length_append, List.length_append, digs_length, List.length_take, List.length_drop]; omega
      dsimp only
      k_steps
      refine hold_in ?_
      k_dflt (refine' Meet.use (ih up mid hi _ _ _ vs1 _ cnt [] (by omega) hm2 (by omega) (by omega) hu0 hu1 hv1 (fun _ h => nomatch h)) ?k1 ?k2 ?k3 ?k4 ?k5 ?k6 ?k7 ?kK ?kd ?ku ?_; (case k1 => k_asm); (case k2 => k_asm); (case k3 => k_asm); (case k4 => k_asm); (case k5 => k_asm); (case k6 => k_asm); (case k7 => k_asm); (case kK => exact rfl); (case kd => ktr_room); (case ku => ktr_units))
      rintro r led' h9 tk9 ⟨rfl, vs2, hv2, rfl⟩ F9 N9
      simp only [List.cons_append, List.nil_append] at N9
      k_sweep
      dsimp only
      k_steps
      rename Fr g' _ _ _ => F8
      rename News h₀ _ _ _ => N8
      refine hret _ _ _ _ ⟨rfl, vs2, ?_, rfl⟩ (by assumption) (news_join N8 (rest_back NR F8))
      rw [hup, hlw, join_digs hB (by omega) (by omega) ns h2] at hv2
      exact hv2
end Mine
end

section
open PySem PySem.W PyProof.Rows PySem.Calls
namespace Mine

/-- a code table of a def that makes a def, and the code made for it -/
def tabL (P line col : Nat) : Option (Addr × Obj) → List (Addr × Obj)
  | none => [(P, tabObj #[])]
  | some c => [(P, tabObj #[rawInt line, rawInt col, .ref c.1]), c]
def CodeOk (qual : Str) : Option (Addr × Obj) → Prop
  | none => True
  | some c => ∃ cvs ct, c.2.data = .fields cvs ∧ cvs[1]? = some (.str qual ct)
abbrev qual1 : Str := (Str.ofString "_int2digits" ++ ".<locals>.") ++ Str.ofString "inner"
abbrev qual2 : Str := (Str.ofString "_digits2int" ++ ".<locals>.") ++ Str.ofString "inner"

theorem ints_replicate (t : Tok) (x : Int) : ∀ k : Nat, IntsAre (List.replicate k (.int x t)) (List.replicate k x)
  | 0 => .nil
  | k + 1 => .cons x t (ints_replicate t x k)
theorem flat_replicate {α : Type} (x : α) : ∀ k : Nat, (List.replicate k [x]).flatten = List.replicate k x
  | 0 => rfl
  | k + 1 => by rw [List.replicate_succ, List.flatten_cons, flat_replicate x k]; rfl
/-- how many digits -/
def cnt (a : Int) (n : Nat) : Nat := (Builtin.Int.intBits a + n - 1) / n
theorem cnt_fdiv (a : Int) {n : Nat} (hn : 1 ≤ n) : ((Builtin.Int.intBits a : Int) + (n : Int) - 1).fdiv (n : Int) = (cnt a n : Int) := by
  rw [Int.fdiv_eq_ediv_of_nonneg _ (by omega), cnt, Int.natCast_ediv, Int.natCast_sub (by omega)]; rfl
theorem cnt_le (a : Int) {n : Nat} (hn : 1 ≤ n) : cnt a n ≤ Builtin.Int.intBits a := by
  unfold cnt
  have h : (Builtin.Int.intBits a + n - 1) / n * n ≤ Builtin.Int.intBits a + n - 1 := Nat.div_mul_le_self _ _
  by_cases hz : Builtin.Int.intBits a = 0
  · rw [hz]; simp only [Nat.zero_add]; rw [Nat.div_eq_of_lt (by omega)]; exact Nat.le_refl _
  · apply Nat.div_le_of_le_mul
    have : Builtin.Int.intBits a * 1 ≤ Builtin.Int.intBits a * n := Nat.mul_le_mul_left _ hn
    rw [Nat.mul_comm n]
    obtain ⟨b, hb⟩ : ∃ b, Builtin.Int.intBits a = b + 1 := ⟨_, (Nat.succ_pred hz).symm⟩
    rw [hb, Nat.succ_mul]
    have : b * 1 ≤ b * n := Nat.mul_le_mul_left _ hn
    omega
theorem le_cnt (a : Int) {n : Nat} (hn : 1 ≤ n) : Builtin.Int.intBits a ≤ n * cnt a n := by
  unfold cnt
  have := Nat.div_add_mod (Builtin.Int.intBits a + n - 1) n
  have := Nat.mod_lt (Builtin.Int.intBits a + n - 1) (show 0 < n by omega)
  omega
theorem lt_cnt {a : Int} (ha : 0 ≤ a) {n : Nat} (hn : 1 ≤ n) : a < (2 ^ n) ^ cnt a n := by
  rw [← pow_mul']
  exact Int.lt_of_lt_of_le (lt_bits ha) (by
    have := Nat.pow_le_pow_right (n := 2) (by decide) (le_cnt a hn)
    rw [← kbt_cast, ← kbt_cast]
    exact Int.ofNat_le.mpr this)
theorem cnt_pos {a : Int} (ha : a ≠ 0) {n : Nat} (hn : 1 ≤ n) : 0 < cnt a n := by
  have h := le_cnt a hn
  have : 0 < Builtin.Int.intBits a := by
    unfold Builtin.Int.intBits
    rw [if_neg (by simpa using ha)]
    omega
  rcases Nat.eq_zero_or_pos (cnt a n) with hz | hz
  · rw [hz] at h; omega
  · exact hz

/-- a code is no table -/
theorem code_ne_tab {h₀ h : Heap} {L c P : Addr} {oc : Obj} {ps cvs : Array Value} {qual : Str} {ct : Tok} {led : List (Addr × Obj)} (N : News h₀ L h led) (h1 : (P, tabObj ps) ∈ led) (h2 : (c, oc) ∈ led) (d1 : oc.data = .fields cvs) (d2 : cvs[1]? = some (.str qual ct))
    (hp : ∀ q t, ps[1]? ≠ some (.str q t)) : @Ne Nat c P := fun e => by
  have e1 := (N _ h1).1
  have e2 := (N _ h2).1
  dsimp only at e1 e2
  rw [show c = P from e, e1] at e2
  cases e2
  cases d1
  exact hp _ _ d2

local macro_rules | `(tactic| walk_at "binaryOp Mult ref int") => `(tactic| refine Hold.out ?_)
local macro_rules | `(tactic| walk_at "call builtin:len") => `(tactic| refine Hold.out ?_)
local macro_rules | `(tactic| ktr_unf) => `(tactic| skip)
set_option maxRecDepth 100000 in
set_option maxHeartbeats 8000000 in
theorem int2digits (w : World) (a : Int) (n : Nat) (ta tn : Tok) (rest : List (Addr × Obj)) (t : Option (Addr × Obj)) (ht : CodeOk qual1 t) (ha : 0 ≤ a) (hb2 : a < 2 ^ 200) (hn : 1 ≤ n) (hn' : n ≤ 400) (hr : ∀ q ∈ rest, ∀ r ∈ tabL 30 32 4 t, q.1 ≠ r.1) :
    Meet w 35 250 [.int a ta, .int n tn] (tabL 30 32 4 t ++ rest) (fun r led' => ∃ l vs c, r = .ref l ∧ CodeOk qual1 (some c) ∧ IntsAre vs (digs (2 ^ n) (cnt a n) a) ∧
      led' = (l, listOf vs.toArray 0) :: (tabL 30 32 4 (some c) ++ rest) ∧ (∀ q ∈ rest, ∀ r ∈ tabL 30 32 4 (some c), q.1 ≠ r.1) ∧ ∀ q ∈ rest, @LT.lt Nat _ q.1 l) := by
  rcases t with _ | ⟨c, oc⟩
  · unfold tabL
    unfold Meet
    k_fill
    intro p loose mean mg mb dp un gd cn cs a' ccd cl outer A₀ base h₀ L m s Q E B F X N T C1 C2 hk hd hu hret
    refine wpAny_call ?_
    k_dflt (refine' enter_defC (led := [(30, tabObj #[])]) (rest := rest) B F X N T ?kA ?kF ?kK ?k6 ?k7 ?k8 ?k9 ?kB ?kD hr ?_ ?c2 ?c3 ?c4; (case kA => exact rfl); (case kF => exact rfl); (case kK => exact hk); (case k6 => k_is); (case k7 => k_is); (case k8 => ktr_room); (case k9 => exact BindsTo.of_eq rfl); (case kB => exact rfl); (case kD => decide +kernel); (case c2 => exact rfl); (case c3 => exact rfl); (case c4 => exact rfl); k_whole; intro g' L' h' tk' cells' FG' F' N' Y' B' X' T' NR l1; k_cells Y'; (try simp only [List.cons_append, List.nil_append] at N'); (try dsimp only); (try k_fold))
    have l0 : @LT.lt Nat _ 30 L' := l1 (30, tabObj #[]) (List.mem_append_left _ (.head _))
    have lr : ∀ q ∈ rest, @LT.lt Nat _ q.1 L' := fun q hq => l1 q (List.mem_append_right _ hq)
    clear N
    k_steps
    have hcn : cnt a n ≤ 200 := Nat.le_trans (cnt_le a hn) (bits_le ha hb2)
    rename News _ _ _ _ => N9
    rename Fr _ _ _ _ => F9
    k_dflt (refine hold_in (KMa.mul F9 N9 (PySem.IsL.isList (n := 0) (N9 _ (List.Mem.head _)).1) (by rw [cnt_fdiv a hn]; omega) (by rw [cnt_fdiv a hn]; omega) (by rw [cnt_fdiv a hn]; simp; omega) (by rw [cnt_fdiv a hn, Int.toNat_natCast, flat_replicate]) ?_))
    intro l2 h2 F2 N2 l3
    k_lt l3
    k_sweep
    have hi0 := ints_replicate tk' 0 (cnt a n)
    generalize List.replicate (cnt a n) (Value.int 0 tk') = vs0 at N2 hi0
    k_steps
    · rename_i f c' oc cvs ct' ctv dc h1 tkx d1 d2 lc lf h9 oI F8 N8 dI ha0
      simp only [Array.empty_append] at N8
      refine hold_in (len_ints_fit (PySem.IsL.isList (n := 0) (N8 (l2, _) (by k_mem)).1) hi0 (by rw [List.length_replicate]; omega) ?_)
      rw [List.length_replicate]
      k_steps
      refine hold_in ?_
      have hc0 := cnt_pos ha0 hn
      k_dflt (refine' Meet.use (inner1 rfl w n tn hn hn' f c' l2 (L' + 1) (L' + 1 + 1 + 1) (L' + 1 + 1) oc _ oI _ _ _ _ _ cvs _ ?dN dI ?dA d1 d2 (by omega) (by omega) (by omega) (by omega) (by omega) 200 a 0 (cnt a n) _ _ _ vs0 (List.replicate (cnt a n) 0) 0 [(30, tabObj #[rawInt 32, rawInt 4, .ref c'])] (by omega) hc0 (by rw [List.length_replicate]; omega) (by rw [List.length_replicate]; omega) ha (by rw [Nat.sub_zero]; exact lt_cnt ha hn) hi0 ?kR) ?k1 ?k2 ?k3 ?k4 ?k5 ?k6 ?k7 ?kK ?kd ?ku ?_; (case k1 => k_asm); (case k2 => k_asm); (case k3 => k_asm); (case k4 => exact news_sub N8 (by kcj_all)); (case dN => assumption); (case dA => assumption); (case k5 => k_asm); (case k6 => k_asm); (case k7 => k_asm); (case kK => exact rfl); (case kd => ktr_room); (case ku => ktr_units))
      case kR =>
        intro q hq
        rw [List.mem_singleton] at hq
        subst hq
        refine ⟨?_, ?_, ?_, ?_, ?_, ?_⟩ <;> (dsimp only; omega)
      rintro r led' h7 tk7 ⟨rfl, vs1, hv1, rfl⟩ F7 N7
      simp only [List.cons_append, List.nil_append] at N7
      rw [List.take_zero, List.nil_append, Nat.sub_zero, List.drop_of_length_le (by rw [List.length_replicate]; omega), List.append_nil] at hv1
      k_sweep
      dsimp only
      k_steps
      rename Fr g' _ _ _ => F6
      rename News h₀ _ _ _ => N6
      refine hret _ _ _ _ ⟨l2, vs1, (c', oc), rfl, ⟨cvs, _, d1, d2⟩, hv1, rfl, ?_, fun q hq => Nat.lt_trans (lr q hq) (by omega)⟩ (by assumption) (news_join (l := [(l2, _), (30, _), (c', oc)]) (news_sub N6 (by kcj_all)) (rest_back NR F6))
      intro q hq r hr'
      have := lr q hq
      simp only [tabL, List.mem_cons, List.not_mem_nil, or_false] at hr'
      rcases hr' with rfl | rfl
      · exact hr q hq (30, tabObj #[]) (.head _)
      · refine neN ?_; dsimp only; omega
    · rename_i f c' oc cvs ct' ctv dc h1 tkx d1 d2 lc lf h9 oI F8 N8 dI ha0 kF kN kT kX
      simp only [Array.empty_append] at kN
      subst ha0
      refine hret _ _ _ _ ⟨l2, vs0, (c', oc), rfl, ⟨cvs, _, d1, d2⟩, ?_, rfl, ?_, fun q hq => Nat.lt_trans (lr q hq) (by omega)⟩ (by assumption) (news_join (l := [(l2, _), (30, _), (c', oc)]) (news_sub kN (by kcj_all)) (rest_back NR F8))
      · have e0 : cnt 0 n = 0 := Nat.le_zero.mp (cnt_le 0 hn)
        rw [e0] at hi0 ⊢
        exact hi0
      · intro q hq r hr'
        have := lr q hq
        simp only [tabL, List.mem_cons, List.not_mem_nil, or_false] at hr'
        rcases hr' with rfl | rfl
        · exact hr q hq (30, tabObj #[]) (.head _)
        · refine neN ?_; dsimp only; omega
  · obtain ⟨cvs, ct', d1, d2⟩ := ht
    unfold tabL at hr ⊢
    dsimp only at hr d1 ⊢
    unfold Meet
    k_fill
    intro p loose mean mg mb dp un gd cn cs a' ccd cl outer A₀ base h₀ L m s Q E B F X N T C1 C2 hk hd hu hret
    refine wpAny_call ?_
    k_dflt (refine' enter_defC (led := [(30, tabObj #[rawInt 32, rawInt 4, .ref c]), (c, oc)]) (rest := rest) B F X N T ?kA ?kF ?kK ?k6 ?k7 ?k8 ?k9 ?kB ?kD hr ?_ ?c2 ?c3 ?c4; (case kA => exact rfl); (case kF => exact rfl); (case kK => exact hk); (case k6 => k_is); (case k7 => k_is); (case k8 => ktr_room); (case k9 => exact BindsTo.of_eq rfl); (case kB => exact rfl); (case kD => decide +kernel); (case c2 => exact rfl); (case c3 => exact rfl); (case c4 => exact rfl); k_whole; intro g' L' h' tk' cells' FG' F' N' Y' B' X' T' NR l1; k_cells Y'; (try simp only [List.cons_append, List.nil_append] at N'); (try dsimp only); (try k_fold))
    have l0 : @LT.lt Nat _ 30 L' := l1 (30, _) (List.mem_append_left _ (.head _))
    have lc : @LT.lt Nat _ c L' := l1 (c, oc) (List.mem_append_left _ (.tail _ (.head _)))
    have lr : ∀ q ∈ rest, @LT.lt Nat _ q.1 L' := fun q hq => l1 q (List.mem_append_right _ hq)
    have l30 := code_ne_tab N (.head _) (.tail _ (.head _)) d1 d2 (fun q t e => by cases e)
    clear N
    k_steps
    have hcn : cnt a n ≤ 200 := Nat.le_trans (cnt_le a hn) (bits_le ha hb2)
    rename News _ _ _ _ => N9
    rename Fr _ _ _ _ => F9
    k_dflt (refine hold_in (KMa.mul F9 N9 (PySem.IsL.isList (n := 0) (N9 _ (List.Mem.head _)).1) (by rw [cnt_fdiv a hn]; omega) (by rw [cnt_fdiv a hn]; omega) (by rw [cnt_fdiv a hn]; simp; omega) (by rw [cnt_fdiv a hn, Int.toNat_natCast, flat_replicate]) ?_))
    intro l2 h2 F2 N2 l3
    k_lt l3
    k_sweep
    have hi0 := ints_replicate tk' 0 (cnt a n)
    generalize List.replicate (cnt a n) (Value.int 0 tk') = vs0 at N2 hi0
    k_steps
    · rename_i f ctv dc h1 tkx lf h9 oI F8 N8 dI ha0
      refine hold_in (len_ints_fit (PySem.IsL.isList (n := 0) (N8 (l2, _) (by k_mem)).1) hi0 (by rw [List.length_replicate]; omega) ?_)
      rw [List.length_replicate]
      k_steps
      refine hold_in ?_
      have hc0 := cnt_pos ha0 hn
      k_dflt (refine' Meet.use (inner1 rfl w n tn hn hn' f c l2 (L' + 1) (L' + 1 + 1 + 1) (L' + 1 + 1) oc _ oI _ _ _ _ _ cvs _ ?dN dI ?dA d1 d2 (by omega) (by omega) (by omega) (by omega) (by omega) 200 a 0 (cnt a n) _ _ _ vs0 (List.replicate (cnt a n) 0) 0 [(30, tabObj #[rawInt 32, rawInt 4, .ref c])] (by omega) hc0 (by rw [List.length_replicate]; omega) (by rw [List.length_replicate]; omega) ha (by rw [Nat.sub_zero]; exact lt_cnt ha hn) hi0 ?kR) ?k1 ?k2 ?k3 ?k4 ?k5 ?k6 ?k7 ?kK ?kd ?ku ?_; (case k1 => k_asm); (case k2 => k_asm); (case k3 => k_asm); (case k4 => exact news_sub N8 (by kcj_all)); (case dN => assumption); (case dA => assumption); (case k5 => k_asm); (case k6 => k_asm); (case k7 => k_asm); (case kK => exact rfl); (case kd => ktr_room); (case ku => ktr_units))
      case kR =>
        intro q hq
        rw [List.mem_singleton] at hq
        subst hq
        refine ⟨?_, ?_, ?_, ?_, ?_, ?_⟩ <;> (dsimp only; omega)
      rintro r led' h7 tk7 ⟨rfl, vs1, hv1, rfl⟩ F7 N7
      simp only [List.cons_append, List.nil_append] at N7
      rw [List.take_zero, List.nil_append, Nat.sub_zero, List.drop_of_length_le (by rw [List.length_replicate]; omega), List.append_nil] at hv1
      k_sweep
      dsimp only
      k_steps
      rename Fr g' _ _ _ => F6
      rename News h₀ _ _ _ => N6
      refine hret _ _ _ _ ⟨l2, vs1, (c, oc), rfl, ⟨cvs, _, d1, d2⟩, hv1, rfl, ?_, fun q hq => Nat.lt_trans (lr q hq) (by omega)⟩ (by assumption) (news_join (l := [(l2, _), (30, _), (c, oc)]) (news_sub N6 (by kcj_all)) (rest_back NR F6))
      intro q hq r hr'
      have := lr q hq
      simp only [tabL, List.mem_cons, List.not_mem_nil, or_false] at hr'
      rcases hr' with rfl | rfl
      · exact hr q hq (30, _) (.head _)
      · exact hr q hq (c, oc) (.tail _ (.head _))
    · rename_i f ctv dc h1 tkx lf h9 oI F8 N8 dI ha0 kF kN kT kX
      subst ha0
      refine hret _ _ _ _ ⟨l2, vs0, (c, oc), rfl, ⟨cvs, _, d1, d2⟩, ?_, rfl, ?_, fun q hq => Nat.lt_trans (lr q hq) (by omega)⟩ (by assumption) (news_join (l := [(l2, _), (30, _), (c, oc)]) (news_sub kN (by kcj_all)) (rest_back NR F8))
      · have e0 : cnt 0 n = 0 := Nat.le_zero.mp (cnt_le 0 hn)
        rw [e0] at hi0 ⊢
        exact hi0
      · intro q hq r hr'
        have := lr q hq
        simp only [tabL, List.mem_cons, List.not_mem_nil, or_false] at hr'
        rcases hr' with rfl | rfl
        · exact hr q hq (30, _) (.head _)
        · exact hr q hq (c, oc) (.tail _ (.head _))
end Mine
end

section
open PySem PySem.W PyProof.Rows PySem.Calls
namespace Mine

theorem seg_one {ns : List Int} {lo : Nat} (h : lo < ns.length) (B : Int) : und B ((ns.drop lo).take 1) = ns.getD lo 0 := by
  rw [List.getD_eq_getElem?_getD, List.getElem?_eq_getElem h, List.drop_eq_getElem_cons h, List.take_succ_cons, List.take_zero, und, und, Int.mul_zero, Int.add_zero]
  rfl
theorem int_eq {a b : Int} {t : Tok} (h : a = b) : Value.int a t = Value.int b t := by rw [h]
theorem seg_split {B : Int} {ns : List Int} {lo mid hi : Nat} (h1 : lo ≤ mid) (h2 : mid ≤ hi) (h3 : hi ≤ ns.length) :
    und B ((ns.drop mid).take (hi - mid)) * B ^ (mid - lo) + und B ((ns.drop lo).take (mid - lo)) = und B ((ns.drop lo).take (hi - lo)) := by
  have e : (ns.drop lo).take (hi - lo) = (ns.drop lo).take (mid - lo) ++ (ns.drop mid).take (hi - mid) := by
    rw [show hi - lo = (mid - lo) + (hi - mid) by omega, List.take_add, List.drop_drop, show lo + (mid - lo) = mid by omega]
  have el : ((ns.drop lo).take (mid - lo)).length = mid - lo := by rw [List.length_take, List.length_drop]; omega
  rw [e, und_append, el, Int.mul_comm (B ^ (mid - lo))]
  omega

local macro_rules | `(tactic| walk_at "binaryOp RShift int int") => `(tactic| refine Hold.out ?_)
local macro_rules | `(tactic| walk_at "binaryOp LShift int int") => `(tactic| refine Hold.out ?_)
local macro_rules | `(tactic| walk_at "binaryOp Mult int int") => `(tactic| refine Hold.out ?_)
set_option maxRecDepth 100000 in
set_option maxHeartbeats 8000000 in
theorem inner2 {params : Arguments} {body : List Stmt} {scope : Scope} {pos : Pos} (hs : nestedDef 5 0 = some (.FunctionDef (Str.ofString "inner") params body [] none [] scope none (Str.ofString "inner") pos))
    (w : World) (n : Nat) (tn : Tok) (hn : 1 ≤ n) (hn' : n ≤ 400) (f c' l cN cI cA : Addr) (oc oN oI oA : Obj) (qual : Str) (doc pm ctv : Value) (cvs : Array Value) (ct : Tok)
    (hN : oN.data = .cell (some (.int n tn))) (hI : oI.data = .cell (some (.ref f))) (hA : oA.data = .cell (some (.ref l))) (hoc : oc.data = .fields cvs) (hq : cvs[1]? = some (.str qual ct))
    (vs : List Value) (ns : List Int) (cnt : Nat) (h3 : ns.length ≤ 256) (hv : IntsAre vs ns) (hds : ∀ d ∈ ns, 0 ≤ d ∧ d < (2 ^ n : Int)) :
    ∀ (k : Nat) (lo hi : Nat) (tl th : Tok) (rest : List (Addr × Obj)), hi - lo ≤ k → lo < hi → hi ≤ ns.length →
      (∀ q ∈ rest, @Ne Nat q.1 l ∧ @Ne Nat q.1 f ∧ @Ne Nat q.1 cI ∧ @Ne Nat q.1 cA ∧ @Ne Nat q.1 cN ∧ @Ne Nat q.1 c') →
      Meet w f k [.int lo tl, .int hi th] ([(l, listOf vs.toArray cnt), (f, fnMade (Str.ofString "inner") qual params body scope [(Str.ofString "n", cN), (Str.ofString "inner", cI), (Str.ofString "digits", cA)] doc pm c' ctv), (cI, oI), (cA, oA), (cN, oN), (c', oc)] ++ rest)
        (fun r led' => (∃ t, r = .int (und (2 ^ n) ((ns.drop lo).take (hi - lo))) t) ∧ led' = [(l, listOf vs.toArray cnt), (f, fnMade (Str.ofString "inner") qual params body scope [(Str.ofString "n", cN), (Str.ofString "inner", cI), (Str.ofString "digits", cA)] doc pm c' ctv), (cI, oI), (cA, oA), (cN, oN), (c', oc)] ++ rest) := by
  cases hs
  intro k
  induction k with
  | zero => intros; omega
  | succ k ih =>
    intro lo hi tl th rest hk h1 h2 hr
    unfold Meet
    k_fill
    intro p loose mean mg mb dp un gd cn cs a' ccd cl outer A₀ base h₀ L m s Q E B F X N T C1 C2 hkk hd hu hret
    refine wpAny_call ?_
    have N1 := news_left N
    k_dflt (refine' enter_plain (K := Mine.hd.heap_39 w.params) B F N T X ?kA ?kF ?kK (N1 (f, _) (.tail _ (.head _))).1 ?kd (codeRec_news N1 (.tail _ (.tail _ (.tail _ (.tail _ (.tail _ (.head _)))))) hoc hq) ?k8 ?k9 ?kB ?kR ?_ ?c5 ?c2 ?c3 ?c4; (case kA => exact rfl); (case kF => exact rfl); (case kK => exact hkk); (case kd => exact rfl); (case k8 => ktr_room); (case k9 => exact BindsTo.of_eq rfl); (case kB => exact locs rfl); (case c5 => decide); (case c2 => exact rfl); (case c3 => exact rfl); (case c4 => exact rfl))
    case kR =>
      intro q hq r hr'
      have := hr q hq
      simp only [List.mem_cons, List.not_mem_nil, or_false] at hr'
      rcases hr' with rfl | rfl | rfl | rfl | rfl | rfl
      · exact this.1
      · exact this.2.1
      · exact this.2.2.1
      · exact this.2.2.2.1
      · exact this.2.2.2.2.1
      · exact this.2.2.2.2.2
    intro g' L' h' FG' F' N' B' X' T' NR l1
    clear N1 N
    (try dsimp only); (try k_fold)
    have hB : (0 : Int) < 2 ^ n := Int.pow_pos (by decide)
    k_steps
    · -- one digit
      rename Fr g' _ _ _ => F9
      rename News h₀ _ _ _ => N9
      rename (lo : Int) + 1 = hi => hlo
      have ehi : hi = lo + 1 := by omega
      refine hret _ _ _ _ ⟨⟨_, int_eq ?_⟩, rfl⟩ (by assumption) (news_join N9 (rest_back NR F9))
      rw [ehi, show lo + 1 - lo = 1 by omega, seg_one (by omega), Int.toNat_natCast]
    · -- the two halves
      obtain ⟨mid, hmid⟩ : ∃ mid : Nat, mid = (lo + hi) / 2 := ⟨_, rfl⟩
      have em : ((lo : Int) + (hi : Int)).fdiv (2 ^ Int.toNat 1) = (mid : Int) := by
        rw [Int.fdiv_eq_ediv_of_nonneg _ (by decide)]; simp; omega
      refine hold_in (rshift_int (by decide) ?_)
      rw [em]
      k_steps
      have hm1 : lo < mid := by omega
      have hm2 : mid < hi := by omega
      refine hold_in (PyProof.Rows.mul_int ?_ (PySem.IntMulOk.of_right (Nat.le_trans (bits_le (k := 9) (by omega) (by omega)) (by decide))))
      obtain ⟨sh, hsh⟩ : ∃ sh : Nat, sh = n * (mid - lo) := ⟨_, rfl⟩
      have es : ((mid : Int) - (lo : Int)) * (n : Int) = (sh : Int) := by
        rw [hsh, Int.natCast_mul, Int.natCast_sub (by omega), Int.mul_comm]
      have hshb : sh ≤ 400 * 256 := by rw [hsh]; exact Nat.mul_le_mul hn' (by omega)
      have hps : (2 : Int) ^ sh = (2 ^ n) ^ (mid - lo) := by rw [hsh, pow_mul']
      rw [es]
      k_steps
      refine hold_in ?_
      k_dflt (refine' Meet.use (ih mid hi _ _ [] (by omega) hm2 h2 (fun _ h => nomatch h)) ?k1 ?k2 ?k3 ?k4 ?k5 ?k6 ?k7 ?kK ?kd ?ku ?_; (case k1 => k_asm); (case k2 => k_asm); (case k3 => k_asm); (case k4 => k_asm); (case k5 => k_asm); (case k6 => k_asm); (case k7 => k_asm); (case kK => exact rfl); (case kd => ktr_room); (case ku => ktr_units))
      rintro r led' h9 tk9 ⟨⟨t1, rfl⟩, rfl⟩ F9 N9
      simp only [List.cons_append, List.nil_append] at N9
      k_sweep
      dsimp only
      k_steps
      have hub : Builtin.Int.intBits (und (2 ^ n) ((ns.drop mid).take (hi - mid))) ≤ 400 * 256 := by
        obtain ⟨b1, b2⟩ := und_bound hB ((ns.drop mid).take (hi - mid)) fun d hd => hds d (List.mem_of_mem_drop (List.mem_of_mem_take hd))
        refine Nat.le_trans (bits_le (k := n * ((ns.drop mid).take (hi - mid)).length) b1 (by rw [pow_mul']; exact b2)) (Nat.mul_le_mul hn' ?_)
        rw [List.length_take, List.length_drop]; omega
      refine hold_in (lshift_int (by omega) (by omega) ?_)
      rw [Int.toNat_natCast]
      k_steps
      refine hold_in ?_
      k_dflt (refine' Meet.use (ih lo mid _ _ [] (by omega) hm1 (by omega) (fun _ h => nomatch h)) ?k1 ?k2 ?k3 ?k4 ?k5 ?k6 ?k7 ?kK ?kd ?ku ?_; (case k1 => k_asm); (case k2 => k_asm); (case k3 => k_asm); (case k4 => k_asm); (case k5 => k_asm); (case k6 => k_asm); (case k7 => k_asm); (case kK => exact rfl); (case kd => ktr_room); (case ku => ktr_units))
      rintro r led' h9 tk9 ⟨⟨t2, rfl⟩, rfl⟩ F9 N9
      simp only [List.cons_append, List.nil_append] at N9
      k_sweep
      dsimp only
      k_steps
      rename Fr g' _ _ _ => F8
      rename News h₀ _ _ _ => N8
      refine hret _ _ _ _ ⟨⟨_, int_eq ?_⟩, rfl⟩ (by assumption) (news_join N8 (rest_back NR F8))
      rw [hps, seg_split (by omega) (by omega) h2]
end Mine
end

section
open PySem PySem.W PyProof.Rows PySem.Calls
namespace Mine

/-- a list is no record of fields -/
theorem list_ne_fields {h₀ h : Heap} {L l P : Addr} {oP : Obj} {ps its : Array Value} {n : Nat} {led : List (Addr × Obj)} (N : News h₀ L h led) (h1 : (P, oP) ∈ led) (h2 : (l, listOf its n) ∈ led) (hp : oP.data = .fields ps) : @Ne Nat l P := fun e => by
  have e1 := (N _ h1).1
  have e2 := (N _ h2).1
  dsimp only at e1 e2
  rw [show l = P from e, e1] at e2
  cases e2
  cases hp

local macro_rules | `(tactic| walk_at "call builtin:len") => `(tactic| refine Hold.out ?_)
set_option maxRecDepth 100000 in
set_option maxHeartbeats 8000000 in
theorem digits2int (w : World) (n : Nat) (tn : Tok) (l : Addr) (vs : List Value) (ns : List Int) (vn : Nat) (rest : List (Addr × Obj)) (t : Option (Addr × Obj)) (ht : CodeOk qual2 t) (hn : 1 ≤ n) (hn' : n ≤ 400) (h3 : ns.length ≤ 200) (hv : IntsAre vs ns) (hds : ∀ d ∈ ns, 0 ≤ d ∧ d < (2 ^ n : Int))
    (hr : ∀ q ∈ rest, ∀ r ∈ ((l, listOf vs.toArray vn) :: tabL 37 47 4 t), q.1 ≠ r.1) :
    Meet w 42 250 [.ref l, .int n tn] (((l, listOf vs.toArray vn) :: tabL 37 47 4 t) ++ rest) (fun r led' => ∃ x c, r = .int (und (2 ^ n) ns) x ∧ CodeOk qual2 (some c) ∧
      led' = ((l, listOf vs.toArray vn) :: tabL 37 47 4 (some c)) ++ rest ∧ (∀ q ∈ rest, ∀ r ∈ ((l, listOf vs.toArray vn) :: tabL 37 47 4 (some c)), q.1 ≠ r.1)) := by
  rcases t with _ | ⟨c, oc⟩
  · unfold tabL
    unfold Meet
    k_fill
    intro p loose mean mg mb dp un gd cn cs a' ccd cl outer A₀ base h₀ L m s Q E B F X N T C1 C2 hk hd hu hret
    refine wpAny_call ?_
    k_dflt (refine' enter_defC (led := [(l, listOf vs.toArray vn), (37, tabObj #[])]) (rest := rest) B F X N T ?kA ?kF ?kK ?k6 ?k7 ?k8 ?k9 ?kB ?kD hr ?_ ?c2 ?c3 ?c4; (case kA => exact rfl); (case kF => exact rfl); (case kK => exact hk); (case k6 => k_is); (case k7 => k_is); (case k8 => ktr_room); (case k9 => exact BindsTo.of_eq rfl); (case kB => exact rfl); (case kD => decide +kernel); (case c2 => exact rfl); (case c3 => exact rfl); (case c4 => exact rfl); k_whole; intro g' L' h' tk' cells' FG' F' N' Y' B' X' T' NR l1; k_cells Y'; (try simp only [List.cons_append, List.nil_append] at N'); (try dsimp only); (try k_fold))
    have l0 : @LT.lt Nat _ 37 L' := l1 (37, _) (List.mem_append_left _ (.tail _ (.head _)))
    have ll : @LT.lt Nat _ l L' := l1 (l, _) (List.mem_append_left _ (.head _))
    have lr : ∀ q ∈ rest, @LT.lt Nat _ q.1 L' := fun q hq => l1 q (List.mem_append_right _ hq)
    have l37 := list_ne_fields N (.tail _ (.head _)) (.head _) rfl
    clear N
    k_steps
    · rename_i f c' oc cvs ct' ctv dc h1 tkx d1 d2 lc lf h9 oI F8 N8 dI ha0
      simp only [Array.empty_append] at N8
      refine hold_in (len_ints_fit (PySem.IsL.isList (n := vn) (N8 (l, _) (by k_mem)).1) hv (by omega) ?_)
      k_steps
      refine hold_in ?_
      k_dflt (refine' Meet.use (inner2 rfl w n tn hn hn' f c' l (L' + 1 + 1) (L' + 1 + 1 + 1) (L' + 1) oc _ oI _ _ _ _ _ cvs _ ?dN dI ?dA d1 d2 vs ns vn (by omega) hv hds 200 0 ns.length _ _ [(37, tabObj #[rawInt 47, rawInt 4, .ref c'])] (by omega) ha0 (Nat.le_refl _) ?kR) ?k1 ?k2 ?k3 ?k4 ?k5 ?k6 ?k7 ?kK ?kd ?ku ?_; (case k1 => k_asm); (case k2 => k_asm); (case k3 => k_asm); (case k4 => exact news_sub N8 (by kcj_all)); (case dN => assumption); (case dA => assumption); (case k5 => k_asm); (case k6 => k_asm); (case k7 => k_asm); (case kK => exact rfl); (case kd => ktr_room); (case ku => ktr_units))
      case kR =>
        intro q hq
        rw [List.mem_singleton] at hq
        subst hq
        refine ⟨?_, ?_, ?_, ?_, ?_, ?_⟩ <;> (dsimp only; omega)
      rintro r led' h7 tk7 ⟨⟨t1, rfl⟩, rfl⟩ F7 N7
      simp only [List.cons_append, List.nil_append] at N7
      rw [List.drop_zero, Nat.sub_zero, List.take_length]
      k_sweep
      dsimp only
      k_steps
      rename Fr g' _ _ _ => F6
      rename News h₀ _ _ _ => N6
      refine hret _ _ _ _ ⟨_, (c', oc), rfl, ⟨cvs, _, d1, d2⟩, rfl, ?_⟩ (by assumption) (news_join (l := [(l, _), (37, _), (c', oc)]) (news_sub N6 (by kcj_all)) (rest_back NR F6))
      intro q hq r hr'
      have := lr q hq
      simp only [tabL, List.mem_cons, List.not_mem_nil, or_false] at hr'
      rcases hr' with rfl | rfl | rfl
      · exact hr q hq (l, _) (.head _)
      · exact hr q hq (37, tabObj #[]) (.tail _ (.head _))
      · refine neN ?_; dsimp only; omega
    · rename_i f c' oc cvs ct' ctv dc h1 tkx d1 d2 lc lf h9 oI F8 N8 dI ha0 kF kN kT kX
      simp only [Array.empty_append] at kN
      have e0 : ns = [] := List.length_eq_zero_iff.mp (by omega)
      subst e0
      refine hret _ _ _ _ ⟨_, (c', oc), rfl, ⟨cvs, _, d1, d2⟩, rfl, ?_⟩ (by assumption) (news_join (l := [(l, _), (37, _), (c', oc)]) (news_sub kN (by kcj_all)) (rest_back NR F8))
      · intro q hq r hr'
        have := lr q hq
        simp only [tabL, List.mem_cons, List.not_mem_nil, or_false] at hr'
        rcases hr' with rfl | rfl | rfl
        · exact hr q hq (l, _) (.head _)
        · exact hr q hq (37, tabObj #[]) (.tail _ (.head _))
        · refine neN ?_; dsimp only; omega
  · obtain ⟨cvs, ct', d1, d2⟩ := ht
    unfold tabL at hr ⊢
    dsimp only at hr d1 ⊢
    unfold Meet
    k_fill
    intro p loose mean mg mb dp un gd cn cs a' ccd cl outer A₀ base h₀ L m s Q E B F X N T C1 C2 hk hd hu hret
    refine wpAny_call ?_
    k_dflt (refine' enter_defC (led := [(l, listOf vs.toArray vn), (37, tabObj #[rawInt 47, rawInt 4, .ref c]), (c, oc)]) (rest := rest) B F X N T ?kA ?kF ?kK ?k6 ?k7 ?k8 ?k9 ?kB ?kD hr ?_ ?c2 ?c3 ?c4; (case kA => exact rfl); (case kF => exact rfl); (case kK => exact hk); (case k6 => k_is); (case k7 => k_is); (case k8 => ktr_room); (case k9 => exact BindsTo.of_eq rfl); (case kB => exact rfl); (case kD => decide +kernel); (case c2 => exact rfl); (case c3 => exact rfl); (case c4 => exact rfl); k_whole; intro g' L' h' tk' cells' FG' F' N' Y' B' X' T' NR l1; k_cells Y'; (try simp only [List.cons_append, List.nil_append] at N'); (try dsimp only); (try k_fold))
    have l0 : @LT.lt Nat _ 37 L' := l1 (37, _) (List.mem_append_left _ (.tail _ (.head _)))
    have ll : @LT.lt Nat _ l L' := l1 (l, _) (List.mem_append_left _ (.head _))
    have lr : ∀ q ∈ rest, @LT.lt Nat _ q.1 L' := fun q hq => l1 q (List.mem_append_right _ hq)
    have lc : @LT.lt Nat _ c L' := l1 (c, oc) (List.mem_append_left _ (.tail _ (.tail _ (.head _))))
    have lk := code_ne_tab N (.tail _ (.head _)) (.tail _ (.tail _ (.head _))) d1 d2 (fun q t e => by cases e)
    have ll2 := list_ne_fields N (.tail _ (.tail _ (.head _))) (.head _) d1
    have l37 := list_ne_fields N (.tail _ (.head _)) (.head _) rfl
    clear N
    k_steps
    · rename_i f ctv dc h1 tkx lf h9 oI F8 N8 dI ha0
      refine hold_in (len_ints_fit (PySem.IsL.isList (n := vn) (N8 (l, _) (by k_mem)).1) hv (by omega) ?_)
      k_steps
      refine hold_in ?_
      k_dflt (refine' Meet.use (inner2 rfl w n tn hn hn' f c l (L' + 1 + 1) (L' + 1 + 1 + 1) (L' + 1) oc _ oI _ _ _ _ _ cvs _ ?dN dI ?dA d1 d2 vs ns vn (by omega) hv hds 200 0 ns.length _ _ [(37, tabObj #[rawInt 47, rawInt 4, .ref c])] (by omega) ha0 (Nat.le_refl _) ?kR) ?k1 ?k2 ?k3 ?k4 ?k5 ?k6 ?k7 ?kK ?kd ?ku ?_; (case k1 => k_asm); (case k2 => k_asm); (case k3 => k_asm); (case k4 => exact news_sub N8 (by kcj_all)); (case dN => assumption); (case dA => assumption); (case k5 => k_asm); (case k6 => k_asm); (case k7 => k_asm); (case kK => exact rfl); (case kd => ktr_room); (case ku => ktr_units))
      case kR =>
        intro q hq
        rw [List.mem_singleton] at hq
        subst hq
        refine ⟨?_, ?_, ?_, ?_, ?_, ?_⟩ <;> (dsimp only; omega)
      rintro r led' h7 tk7 ⟨⟨t1, rfl⟩, rfl⟩ F7 N7
      simp only [List.cons_append, List.nil_append] at N7
      rw [List.drop_zero, Nat.sub_zero, List.take_length]
      k_sweep
      dsimp only
      k_steps
      rename Fr g' _ _ _ => F6
      rename News h₀ _ _ _ => N6
      refine hret _ _ _ _ ⟨_, (c, oc), rfl, ⟨cvs, _, d1, d2⟩, rfl, ?_⟩ (by assumption) (news_join (l := [(l, _), (37, _), (c, oc)]) (news_sub N6 (by kcj_all)) (rest_back NR F6))
      intro q hq r hr'
      have := lr q hq
      simp only [tabL, List.mem_cons, List.not_mem_nil, or_false] at hr'
      rcases hr' with rfl | rfl | rfl
      · exact hr q hq (l, _) (.head _)
      · exact hr q hq (37, _) (.tail _ (.head _))
      · exact hr q hq (c, oc) (.tail _ (.tail _ (.head _)))
    · rename_i f ctv dc h1 tkx lf h9 oI F8 N8 dI ha0 kF kN kT kX
      have e0 : ns = [] := List.length_eq_zero_iff.mp (by omega)
      subst e0
      refine hret _ _ _ _ ⟨_, (c, oc), rfl, ⟨cvs, _, d1, d2⟩, rfl, ?_⟩ (by assumption) (news_join (l := [(l, _), (37, _), (c, oc)]) (news_sub kN (by kcj_all)) (rest_back NR F8))
      · intro q hq r hr'
        have := lr q hq
        simp only [tabL, List.mem_cons, List.not_mem_nil, or_false] at hr'
        rcases hr' with rfl | rfl | rfl
        · exact hr q hq (l, _) (.head _)
        · exact hr q hq (37, _) (.tail _ (.head _))
        · exact hr q hq (c, oc) (.tail _ (.tail _ (.head _)))
end Mine
end

section
open PySem PySem.W PyProof.Rows PySem.Calls
namespace Mine

theorem offI_of {I : Addr} {it : Obj} : ∀ {news : List (Addr × Obj)}, (∀ p ∈ news, p.1 ≠ I) → OffI I it news
  | [], _ => trivial
  | p :: _, h => ⟨.inl (h p (.head _)), offI_of fun q hq => h q (.tail _ hq)⟩

section
variable {prog : Program} {w : World} {A : Around} {E : Value → Shared → Prop} {s : Shared} {env : Env} {h₀ : Heap} {L : Addr} {m : Str → Option Value} {x : Str} {body : List Stmt} {Q : Flow → Shared → Prop}
/-- a loop over a reversed list by what holds between its turns -/
theorem revRest_ind {I : Addr} {lp : Addr × Obj} (J : List Value → (Str → Option Value) → List (Addr × Obj) → Prop) :
    ∀ (r pre : List Value) (all : List Value) (m : Str → Option Value) (news : List (Addr × Obj)), pre ++ r = all →
      (∀ pre v r m news, pre ++ v :: r = all → J pre m news → ∀ (it : Obj) h tk, it.cls = .type "list_reverseiterator" → Fr h₀ env.locals h (fun y => if y = x then some v else m y) → News h₀ env.locals h ((I, it) :: news) →
        wpAny (model prog w) A (execs body env) (UnrPost h₀ env.locals { s with heap := h, toks := tk } I it (fun m' n' => lp ∈ n' ∧ J (pre ++ [v]) m' n') Q) E { s with heap := h, toks := tk }) →
      (∀ m news, J all m news → ∀ h tk, Fr h₀ env.locals h m → News h₀ env.locals h news → Q .next { s with heap := h, toks := tk }) →
      J pre m news → RevRest prog w A E h₀ env x body Q s I lp r m news
  | [], pre, all, m, news, e, _, done, hj => by
    rw [List.append_nil] at e
    subst e
    exact RevRest.zero (done m news hj)
  | v :: r, pre, all, m, news, e, turn, done, hj => by
    refine RevRest.succ fun it h tk hc F N => wpAny_mono (turn pre v r m news e hj it h tk hc F N) (fun f s₂ p => ?_) fun _ _ e => e
    have go : UnrEnd h₀ env.locals { s with heap := h, toks := tk } I it (fun m' n' => lp ∈ n' ∧ J (pre ++ [v]) m' n') s₂ → UnrEnd h₀ env.locals { s with heap := h, toks := tk } I it (fun m' n' => lp ∈ n' ∧ RevRest prog w A E h₀ env x body Q s I lp r m' n') s₂ := by
      rintro ⟨h', tk', m', news', e1, F', N', off, hl, hJ⟩
      exact ⟨h', tk', m', news', e1, F', N', off, hl, revRest_ind J r (pre ++ [v]) all m' news' (by rw [← e]; simp) turn done hJ⟩
    cases f with
    | ret v => exact p
    | brk => exact p
    | next => exact go p
    | cont => exact go p
end

theorem ints_reverse : ∀ {vs : List Value} {ns : List Int}, IntsAre vs ns → IntsAre vs.reverse ns.reverse := by
  have app : ∀ {vs ws : List Value} {ns ms : List Int}, IntsAre vs ns → IntsAre ws ms → IntsAre (vs ++ ws) (ns ++ ms) := by
    intro vs ws ns ms h h'
    induction h with
    | nil => exact h'
    | cons n t _ ih => exact .cons n t ih
  intro vs ns h
  induction h with
  | nil => exact .nil
  | cons n t _ ih => rw [List.reverse_cons, List.reverse_cons]; exact app ih (.cons n t .nil)
theorem ints_append : ∀ {vs ws : List Value} {ns ms : List Int}, IntsAre vs ns → IntsAre ws ms → IntsAre (vs ++ ws) (ns ++ ms) := by
  intro vs ws ns ms h h'
  induction h with
  | nil => exact h'
  | cons n t _ ih => exact .cons n t ih
theorem ints_split : ∀ {pre : List Value} {v : Value} {r : List Value} {ns p : List Int}, IntsAre (pre ++ v :: r) ns → IntsAre pre p → ∃ d t q, v = .int d t ∧ ns = p ++ d :: q
  | [], _, _, _, _, .cons d t h, .nil => ⟨d, t, _, rfl, rfl⟩
  | _ :: _, _, _, _, _, .cons x t h, .cons _ _ h' => by
    obtain ⟨d, t', q, e1, e2⟩ := ints_split h h'
    exact ⟨d, t', q, e1, by rw [e2]; rfl⟩
theorem ints_inj : ∀ {vs : List Value} {ns ms : List Int}, IntsAre vs ns → IntsAre vs ms → ns = ms
  | _, _, _, .nil, .nil => rfl
  | _, _, _, .cons n t h, .cons _ _ h' => by rw [ints_inj h h']
theorem map3 {m : Str → Option Value} {x1 x2 x3 : Str} {v1 v2 v3 : Option Value} (h1 : m x1 = v1) (h2 : m x2 = v2) (h3 : m x3 = v3) : m = fun y => if y = x1 then v1 else if y = x2 then v2 else if y = x3 then v3 else m y := by
  funext y
  (repeat' split) <;> simp_all
theorem map5 {m : Str → Option Value} {x1 x2 x3 x4 x5 : Str} {v1 v2 v3 v4 v5 : Option Value} (h1 : m x1 = v1) (h2 : m x2 = v2) (h3 : m x3 = v3) (h4 : m x4 = v4) (h5 : m x5 = v5) : m = fun y => if y = x1 then v1 else if y = x2 then v2 else if y = x3 then v3 else if y = x4 then v4 else if y = x5 then v5 else m y := by
  funext y
  (repeat' split) <;> simp_all
theorem map6 {m : Str → Option Value} {x1 x2 x3 x4 x5 x6 : Str} {v1 v2 v3 v4 v5 v6 : Option Value} (h1 : m x1 = v1) (h2 : m x2 = v2) (h3 : m x3 = v3) (h4 : m x4 = v4) (h5 : m x5 = v5) (h6 : m x6 = v6) : m = fun y => if y = x1 then v1 else if y = x2 then v2 else if y = x3 then v3 else if y = x4 then v4 else if y = x5 then v5 else if y = x6 then v6 else m y := by
  funext y
  (repeat' split) <;> simp_all

/-- one step of the long division -/
theorem long_step {B b v d : Int} (hB : 0 < B) (hb : 0 < b) (hd0 : 0 ≤ d) (hd1 : d < B) :
    (v * B + d) % b = (v % b * B + d) % b ∧ v / b * B + (v % b * B + d) / b = (v * B + d) / b ∧ 0 ≤ (v % b * B + d) / b ∧ (v % b * B + d) / b < B ∧ 0 ≤ v % b * B + d ∧ v % b * B + d < b * B := by
  have h1 := Int.emod_add_mul_ediv v b
  have h2 := Int.emod_nonneg v (show b ≠ 0 by omega)
  have h3 := Int.emod_lt_of_pos v hb
  have e : v * B + d = (v % b * B + d) + b * (v / b * B) := by
    conv => lhs; rw [← h1]
    rw [Int.add_mul, Int.mul_assoc]; omega
  have m1 : 0 ≤ v % b * B := Int.mul_nonneg h2 (Int.le_of_lt hB)
  have m2 : (v % b + 1) * B ≤ b * B := Int.mul_le_mul_of_nonneg_right (by omega) (Int.le_of_lt hB)
  rw [Int.add_mul, Int.one_mul] at m2
  refine ⟨?_, ?_, Int.ediv_nonneg (by omega) (Int.le_of_lt hb), Int.ediv_lt_of_lt_mul hb (by rw [Int.mul_comm B]; omega), by omega, by omega⟩
  · rw [e, Int.add_mul_emod_self_left]
  · rw [e, Int.add_mul_ediv_left _ _ (by omega : b ≠ 0)]; omega

/-- what lies in the ground and what the frame has made are apart -/
theorem ground_apart {h₀ g h : Heap} {L L' : Addr} {rest led : List (Addr × Obj)} (NR : News h₀ L g rest) (N : News g L' h led) : ∀ q ∈ rest, ∀ r ∈ led, q.1 ≠ r.1 := fun q hq r hr e => by
  have e1 := (NR q hq).1
  rw [e, (N r hr).2.2] at e1
  cases e1

/-- the two tables -/
abbrev TT (t1 t2 : Option (Addr × Obj)) : List (Addr × Obj) := tabL 30 32 4 t1 ++ tabL 37 47 4 t2
theorem qual_ne : qual2 ≠ qual1 := by decide +kernel
theorem code_ne_code {h₀ h : Heap} {L c d : Addr} {oc od : Obj} {cvs dvs : Array Value} {qc qd : Str} {ct dt : Tok} {led : List (Addr × Obj)} (N : News h₀ L h led) (h1 : (c, oc) ∈ led) (h2 : (d, od) ∈ led) (c1 : oc.data = .fields cvs) (c2 : cvs[1]? = some (.str qc ct))
    (d1 : od.data = .fields dvs) (d2 : dvs[1]? = some (.str qd dt)) (hq : qc ≠ qd) : @Ne Nat c d := fun e => by
  have e1 := (N _ h1).1
  have e2 := (N _ h2).1
  dsimp only at e1 e2
  rw [show c = d from e, e2] at e1
  cases e1
  rw [c1] at d1
  cases d1
  rw [c2] at d2
  cases d2
  exact hq rfl
theorem tabs_apart {h₀ h : Heap} {L : Addr} {t1 t2 : Option (Addr × Obj)} (N : News h₀ L h (TT t1 t2)) (k1 : CodeOk qual1 t1) (k2 : CodeOk qual2 t2) : ∀ q ∈ tabL 37 47 4 t2, ∀ r ∈ tabL 30 32 4 t1, q.1 ≠ r.1 := by
  have m1 : ∀ r ∈ tabL 30 32 4 t1, r ∈ TT t1 t2 := fun r hr => List.mem_append_left _ hr
  have m2 : ∀ r ∈ tabL 37 47 4 t2, r ∈ TT t1 t2 := fun r hr => List.mem_append_right _ hr
  have no : ∀ (x y : Int) (v : Value) (q : Str) (t : Tok), (#[rawInt x, rawInt y, v] : Array Value)[1]? ≠ some (.str q t) := fun x y v q t e => by cases e
  have no0 : ∀ (q : Str) (t : Tok), (#[] : Array Value)[1]? ≠ some (.str q t) := fun q t e => by cases e
  rcases t1 with _ | ⟨c, oc⟩ <;> rcases t2 with _ | ⟨d, od⟩ <;> intro q hq r hr <;> simp only [tabL, List.mem_cons, List.not_mem_nil, or_false] at hq hr
  · subst hq hr; exact (by decide : (37 : Nat) ≠ 30)
  · obtain ⟨dvs, dt, d1, d2⟩ := k2
    subst hr
    rcases hq with rfl | rfl
    · exact (by decide : (37 : Nat) ≠ 30)
    · exact code_ne_tab N (m1 _ (.head _)) (m2 _ (.tail _ (.head _))) d1 d2 no0
  · obtain ⟨cvs, ct, c1, c2⟩ := k1
    subst hq
    rcases hr with rfl | rfl
    · exact (by decide : (37 : Nat) ≠ 30)
    · exact fun e => code_ne_tab N (m2 _ (.head _)) (m1 _ (.tail _ (.head _))) c1 c2 no0 e.symm
  · obtain ⟨cvs, ct, c1, c2⟩ := k1
    obtain ⟨dvs, dt, d1, d2⟩ := k2
    rcases hq with rfl | rfl <;> rcases hr with rfl | rfl
    · exact (by decide : (37 : Nat) ≠ 30)
    · exact fun e => code_ne_tab N (m2 _ (.head _)) (m1 _ (.tail _ (.head _))) c1 c2 (no _ _ _) e.symm
    · exact code_ne_tab N (m1 _ (.head _)) (m2 _ (.tail _ (.head _))) d1 d2 (no _ _ _)
    · exact code_ne_code N (m2 _ (.tail _ (.head _))) (m1 _ (.tail _ (.head _))) d1 d2 c1 c2 qual_ne

/-- what holds between the turns of the long division -/
inductive DivJ (n : Nat) (b : Int) (tb : Tok) (la lq : Addr) (vs : List Value) (TL : List (Addr × Obj)) (pre : List Value) (m : Str → Option Value) (news : List (Addr × Obj)) : Prop
  | mk (mr : Str → Option Value) (ua uq : Option Value) (r : Int) (tr tn : Tok) (qvs : List Value) (qs : List Int) (pn : Nat) (pns : List Int)
    (j0 : m = fun y => if y = Str.ofString "a_digit" then ua else if y = Str.ofString "q_digit" then uq else if y = Str.ofString "r" then some (.int r tr) else if y = Str.ofString "q_digits" then some (.ref lq) else if y = Str.ofString "n" then some (.int n tn) else if y = Str.ofString "b" then some (.int b tb) else mr y)
    (j1 : news = (lq, listOf (List.toArray qvs) pn) :: (la, listOf vs.toArray 0) :: TL) (j2 : IntsAre pre pns) (j3 : IntsAre qvs qs) (j4 : r = val (2 ^ n) pns % b) (j5 : val (2 ^ n) qs = val (2 ^ n) pns / b) (j6 : ∀ d ∈ qs, 0 ≤ d ∧ d < (2 ^ n : Int)) (j7 : qs.length = pns.length) : DivJ n b tb la lq vs TL pre m news
local macro_rules | `(tactic| walk_at "idle 0") => `(tactic| fail)
local macro_rules | `(tactic| walk_at "call type:reversed") => `(tactic| refine Hold.out ?_)
local macro_rules | `(tactic| walk_at "pyIter ref") => `(tactic| refine Hold.out ?_)
local macro_rules | `(tactic| walk_at "newList") => `(tactic| refine Hold.out ?_)
local macro_rules | `(tactic| walk_at "binaryOp LShift int int") => `(tactic| refine Hold.out ?_)
set_option maxRecDepth 100000 in
set_option maxHeartbeats 8000000 in
theorem divmod_pos (w : World) (a b : Int) (ta tb : Tok) (rest : List (Addr × Obj)) (t1 t2 : Option (Addr × Obj)) (k1 : CodeOk qual1 t1) (k2 : CodeOk qual2 t2) (ha : 0 ≤ a) (ha2 : a < 2 ^ 200) (hb : 0 < b) (hb2 : b < 2 ^ 200) (hr : ∀ q ∈ rest, ∀ r ∈ TT t1 t2, q.1 ≠ r.1) :
    Meet w 49 260 [.int a ta, .int b tb] (TT t1 t2 ++ rest) (fun r led' => ∃ x u1 u2 c1 c2, r = .ref x ∧ CodeOk qual1 (some c1) ∧ CodeOk qual2 (some c2) ∧
      led' = (x, tupOf #[.int (a / b) u1, .int (a % b) u2]) :: (TT (some c1) (some c2) ++ rest) ∧ (∀ q ∈ rest, ∀ r ∈ TT (some c1) (some c2), q.1 ≠ r.1) ∧ ∀ q ∈ rest, @Ne Nat q.1 x) := by
  unfold Meet
  k_fill
  intro p loose mean mg mb dp un gd cn cs a' ccd cl outer A₀ base h₀ L m s Q E B F X N T C1 C2 hk hd hu hret
  refine wpAny_call ?_
  k_dflt (refine' enter_def (led := TT t1 t2) (rest := rest) B F X N T ?kA ?kF ?kK ?k6 ?k7 ?k8 ?k9 ?kB hr ?_ ?c2 ?c3 ?c4 ?c5; (case kA => exact rfl); (case kF => exact rfl); (case kK => exact hk); (case k6 => k_is); (case k7 => k_is); (case k8 => ktr_room); (case k9 => exact BindsTo.of_eq rfl); (case kB => exact locs rfl); (case c2 => exact rfl); (case c3 => exact rfl); (case c4 => exact rfl); (case c5 => decide); k_whole; intro g' L' h' FG' F' N' B' X' T' NR l1; (try dsimp only); (try k_fold))
  have lr : ∀ q ∈ rest, @LT.lt Nat _ q.1 L' := fun q hq => l1 q (List.mem_append_right _ hq)
  have lT : ∀ q ∈ TT t1 t2, @LT.lt Nat _ q.1 L' := fun q hq => l1 q (List.mem_append_left _ hq)
  clear N
  k_steps
  obtain ⟨n, hn⟩ : ∃ n : Nat, n = Builtin.Int.intBits b := ⟨_, rfl⟩
  have hn2 : n ≤ 200 := by rw [hn]; exact bits_le (by omega) hb2
  have hn1 : 1 ≤ n := by
    rw [hn]; unfold Builtin.Int.intBits; rw [if_neg (by simp; omega)]; omega
  have hbB : b < 2 ^ n := by rw [hn]; exact lt_bits (by omega)
  rw [← hn]
  refine hold_in ?_
  rename News _ _ _ _ => N9
  have hap := tabs_apart N9 k1 k2
  k_dflt (refine' Meet.use (int2digits w a n _ _ (tabL 37 47 4 t2) t1 k1 ha ha2 hn1 (by omega) hap) ?k1 ?k2 ?k3 ?k4 ?k5 ?k6 ?k7 ?kK ?kd ?ku ?_; (case k1 => k_asm); (case k2 => k_asm); (case k3 => k_asm); (case k4 => k_asm); (case k5 => k_asm); (case k6 => k_asm); (case k7 => k_asm); (case kK => exact rfl); (case kd => ktr_room); (case ku => ktr_units))
  rintro r led' h9 tk9 ⟨la, vs, c1, rfl, k1', hvs, rfl, hap', lla⟩ F9 N9
  generalize hTL : tabL 30 32 4 (some c1) ++ tabL 37 47 4 t2 = TL at N9
  rw [← hn] at F9
  k_sweep
  dsimp only
  k_steps
  rename Fr _ _ _ _ => F8
  rename News _ _ _ _ => N8
  refine hold_in (newList_K F8 N8 ?_)
  clear F8 N8
  intro lq h8 F8 N8 l8
  have hq1 : @LT.lt Nat _ la lq := l8 (la, _) (.head _)
  have hqT : ∀ q ∈ TL, q.1 ≠ lq := fun q hq => Nat.ne_of_lt (l8 q (.tail _ hq))
  k_steps
  rename Fr _ _ _ _ => F7
  rename News _ _ _ _ => N7
  refine hold_in (krv_reversed F7 N7 (PySem.IsL.isList (n := 0) (N7 (la, _) (by k_mem)).1) ?_)
  clear F7 N7
  intro I h7 F7 N7 l7
  k_steps
  have hB : (0 : Int) < 2 ^ n := Int.pow_pos (by decide)
  have hvr := ints_reverse hvs
  refine hold_in (iter_revUnr (lo := listOf vs.toArray 0) (vs := vs) (n := 0) rfl F7 N7 (offI_of fun p hp => Nat.ne_of_lt (l7 p hp)) (.tail _ (.head _)) rfl rfl ?_)
  refine revRest_ind (DivJ n b tb la lq vs TL) vs.reverse [] vs.reverse _ _ rfl ?turn ?done ?start
  case start =>
    exact ⟨_, _, _, 0, _, _, [], [], 0, [], map6 rfl rfl rfl rfl rfl rfl, rfl, .nil, .nil, by simp [val], by simp [val], (fun _ h => nomatch h), rfl⟩
  case turn =>
    rintro pre v r m news hsplit ⟨mr, ua, uq, rr, tr, tn, qvs, qs, pn, pns, rfl, rfl, hp, hq, er, eq, hqs, hlen⟩ it h tk hit F6 N6
    rw [← hsplit] at hvr
    obtain ⟨d, td, q, rfl, ens⟩ := ints_split hvr hp
    have hd : 0 ≤ d ∧ d < (2 ^ n : Int) := digs_bound hB _ _ d (by rw [← List.mem_reverse, ens]; exact List.mem_append_right _ (.head _))
    obtain ⟨s1, s2, s3, s4, s5, s6⟩ := long_step (v := val (2 ^ n) pns) hB hb hd.1 hd.2
    rw [← er] at s1 s2 s3 s4 s5 s6
    have hbb : b * 2 ^ n ≤ 2 ^ 400 := by
      have h1 : b * 2 ^ n ≤ 2 ^ 200 * 2 ^ n := Int.mul_le_mul_of_nonneg_right (by omega) (by omega)
      have h2 : (2 : Int) ^ 200 * 2 ^ n ≤ 2 ^ 200 * 2 ^ 200 := Int.mul_le_mul_of_nonneg_left (by
        have := Nat.pow_le_pow_right (n := 2) (by decide) hn2
        rw [← kbt_cast, ← kbt_cast]
        exact Int.ofNat_le.mpr this) (by decide)
      have h3 : (2 : Int) ^ 200 * 2 ^ 200 = 2 ^ 400 := by decide +kernel
      omega
    k_steps
    refine hold_in (lshift_int (by omega) (by
      have : Builtin.Int.intBits rr ≤ 200 := bits_le (by rw [er]; exact Int.emod_nonneg _ (by omega)) (by rw [er]; exact Int.lt_trans (Int.emod_lt_of_pos _ hb) hb2)
      omega) ?_)
    rw [Int.toNat_natCast]
    k_steps
    refine hold_in ?_
    k_dflt (refine' Meet.use (div2n1n w (rr * 2 ^ n + d) b n _ _ _ _ (by omega) (by omega) (by
      have : Builtin.Int.intBits (rr * 2 ^ n + d) ≤ 400 := bits_le s5 (by omega)
      omega)) ?k1 ?k2 ?k3 ?k4 ?k5 ?k6 ?k7 ?kK ?kd ?ku ?_; (case k1 => k_asm); (case k2 => k_asm); (case k3 => k_asm); (case k4 => k_asm); (case k5 => k_asm); (case k6 => k_asm); (case k7 => k_asm); (case kK => exact rfl); (case kd => ktr_room); (case ku => ktr_units))
    rintro r6 led6 h6 tk6 ⟨x6, u1, u2, rfl, rfl, l6⟩ F6 N6
    rw [Int.fdiv_eq_ediv_of_nonneg _ (Int.le_of_lt hb), Int.fmod_eq_emod_of_nonneg _ (Int.le_of_lt hb)] at N6
    k_lt l6
    k_sweep
    dsimp only
    have hpl : pns.length ≤ 200 := by
      have e := congrArg List.length ens
      rw [List.length_reverse, digs_length, List.length_append] at e
      have := Nat.le_trans (cnt_le a hn1) (bits_le ha ha2)
      omega
    have hql : qvs.length = qs.length := hq.length
    have hIq : @LT.lt Nat _ lq I := l7 (lq, _) (.head _)
    have hIa : @LT.lt Nat _ la I := l7 (la, _) (.tail _ (.head _))
    k_steps
    rename Fr _ _ _ _ => F5
    rename News _ _ _ _ => N5
    rw [List.push_toArray] at N5
    refine UnrEnd.intro F5 N5 ((lq, _) :: (la, _) :: TL) (fun p hp => List.mem_cons_of_mem _ hp) ?off ⟨.tail _ (.head _), _, _, _, _, _, _, qvs ++ [_], qs ++ [(rr * 2 ^ n + d) / b], _, pns ++ [d], map6 rfl rfl rfl rfl rfl rfl, rfl, ints_append hp (.cons _ _ .nil), ints_append hq (.cons _ _ .nil), ?e1, ?e2, ?e3, ?e4⟩
    case off =>
      intro p hp
      rcases List.mem_cons.mp hp with rfl | hp
      · exact Nat.ne_of_lt hIq
      · exact Nat.ne_of_lt (l7 p (List.mem_cons_of_mem _ hp))
    case e1 => rw [val_snoc, s1]
    case e2 => rw [val_snoc, val_snoc, eq, s2]
    case e3 =>
      intro e he
      rcases List.mem_append.mp he with he | he
      · exact hqs e he
      · rw [List.mem_singleton] at he; subst he; exact ⟨s3, s4⟩
    case e4 => rw [List.length_append, List.length_append, hlen]; rfl
  case done =>
    rintro m news ⟨mr, ua, uq, rr, tr, tn, qvs, qs, pn, pns, rfl, rfl, hp, hq, er, eq, hqs, hlen⟩ h tk F6 N6
    have epn := ints_inj hp hvr
    have hcn : cnt a n ≤ 200 := Nat.le_trans (cnt_le a hn1) (bits_le ha ha2)
    have hval : val (2 ^ n) pns = a := by rw [epn, val_reverse, und_digs hB _ _ ha (lt_cnt ha hn1)]
    rw [hval] at er eq
    have hpl : pns.length ≤ 200 := by rw [epn, List.length_reverse, digs_length]; exact hcn
    have hql : qvs.length = qs.length := hq.length
    dsimp only
    k_steps
    k_dflt (refine' kl_reverse (l := qvs.reverse) F6 N6 ?e ?U ?z ?_; (case U => k_upd); (case e => simp); (case z => (rw [sizeLine_eq]; simp; omega)))
    clear F6 N6
    intro h5 F5 N5
    dsimp only
    k_steps
    rename Fr _ _ _ _ => F4
    rename News _ _ _ _ => N4
    refine hold_in ?_
    have hds : ∀ d ∈ qs.reverse, 0 ≤ d ∧ d < (2 ^ n : Int) := fun d hd => hqs d (List.mem_reverse.mp hd)
    k_dflt (refine' Meet.use (digits2int w n _ lq qvs.reverse qs.reverse pn (tabL 30 32 4 (some c1)) t2 k2 hn1 (by omega) (by rw [List.length_reverse]; omega) (ints_reverse hq) hds ?kr) ?k1 ?k2 ?k3 ?k4 ?k5 ?k6 ?k7 ?kK ?kd ?ku ?_; (case k1 => k_asm); (case k2 => k_asm); (case k3 => k_asm); (case k5 => k_asm); (case k6 => k_asm); (case k7 => k_asm); (case kK => exact rfl); (case kd => ktr_room); (case ku => ktr_units))
    case k4 =>
      refine news_sub N4 fun q hq => ?_
      rw [← hTL]
      simp only [List.cons_append, List.mem_cons, List.mem_append] at hq ⊢
      rcases hq with h | h | h
      · exact .inl h
      · exact .inr (.inr (.inr h))
      · exact .inr (.inr (.inl h))
    case kr =>
      intro q hq r hr'
      rcases List.mem_cons.mp hr' with rfl | hr'
      · exact hqT q (by rw [← hTL]; exact List.mem_append_left _ hq)
      · exact fun e => hap' r hr' q hq e.symm
    rintro r3 led3 h3 tk3 ⟨u1, c2, rfl, k2', rfl, hr3⟩ F3 N3
    rw [und_reverse, eq]
    dsimp only
    k_steps
    rename Fr g' _ _ _ => F2
    rename News g' _ _ _ => N2
    rename News h₀ _ _ _ => N1
    have hga := ground_apart NR N2
    have sub : ∀ r ∈ TT (some c1) (some c2), r ∈ (lq, listOf qvs.reverse.toArray pn) :: tabL 37 47 4 (some c2) ++ tabL 30 32 4 (some c1) := fun r hr' => by
      rcases List.mem_append.mp hr' with h | h
      · exact List.mem_append_right _ h
      · exact List.mem_append_left _ (.tail _ h)
    refine hret _ _ _ _ ⟨_, u1, tr, c1, c2, rfl, k1', k2', rfl, fun q hq r hr' => hga q hq r (.tail _ (sub r hr')), fun q hq => hga q hq _ (.head _)⟩ (by assumption) (news_join (l := (_, _) :: TT (some c1) (some c2)) ?_ (rest_back NR F2))
    rw [← er]
    intro q hq
    rcases List.mem_cons.mp hq with rfl | hq
    · exact N1 _ (.head _)
    · exact N1 _ (.tail _ (sub q hq))
end Mine
end

section
open PySem PySem.W PyProof.Rows PySem.Calls
namespace Mine

/-- what int_divmod hands back -/
inductive DmRes (a b : Int) (rest : List (Addr × Obj)) (r : Value) (led' : List (Addr × Obj)) : Prop
  | mk (x : Addr) (u1 u2 : Tok) (c1 c2 : Addr × Obj)
    (j0 : r = .ref x)
    (j1 : CodeOk qual1 (some c1))
    (j2 : CodeOk qual2 (some c2))
    (j3 : led' = (x, tupOf #[.int (a.fdiv b) u1, .int (a.fmod b) u2]) :: (TT (some c1) (some c2) ++ rest))
    (j4 : (∀ q ∈ rest, ∀ r ∈ TT (some c1) (some c2), q.1 ≠ r.1))
    (j5 : ∀ q ∈ rest, @Ne Nat q.1 x) : DmRes a b rest r led'

theorem dm_neg_a {a b : Int} (hb : 0 < b) : Builtin.bitNot ((Builtin.bitNot a).fdiv b) = a.fdiv b ∧ b + Builtin.bitNot ((Builtin.bitNot a).fmod b) = a.fmod b := by
  have e : Builtin.bitNot a = -a - 1 := rfl
  have e2 : ∀ z, Builtin.bitNot z = -z - 1 := fun z => rfl
  rw [e, e2, e2, Int.fdiv_eq_ediv_of_nonneg _ (Int.le_of_lt hb), Int.fmod_eq_emod_of_nonneg _ (Int.le_of_lt hb), Int.fdiv_eq_ediv_of_nonneg _ (Int.le_of_lt hb), Int.fmod_eq_emod_of_nonneg _ (Int.le_of_lt hb)]
  obtain ⟨k1, k2⟩ := kbt_below a hb
  rw [k1, k2]
  omega
theorem dm_neg_b {a b : Int} : (-a).fdiv (-b) = a.fdiv b ∧ -((-a).fmod (-b)) = a.fmod b := by
  constructor
  · exact Int.neg_fdiv_neg ..
  · have h1 := Int.fmod_def (-a) (-b)
    have h2 := Int.fmod_def a b
    rw [Int.neg_fdiv_neg, Int.neg_mul] at h1
    omega

theorem news_drop2 {h₀ h : Heap} {L : Addr} {x y : Addr × Obj} {T : List (Addr × Obj)} (N : News h₀ L h (x :: y :: T)) : News h₀ L h (x :: T) := fun q hq => N q ((List.mem_cons.mp hq).elim (fun e => e ▸ .head _) fun h => .tail _ (.tail _ h))
theorem Meet.more {w : World} {f : Addr} {k k' : Nat} {vs : List Value} {led : List (Addr × Obj)} {R : Value → List (Addr × Obj) → Prop} (C : Meet w f k vs led R) (h : k ≤ k') : Meet w f k' vs led R := by
  unfold Meet at *
  intro p loose mean mg mb dp un gd cn cs a' ccd cl outer A₀ base h₀ L m s Q E B F X N T C1 C2 hk hd hu hret
  exact C p loose mean mg mb dp un gd cn cs a' ccd cl outer A₀ base h₀ L m s Q E B F X N T C1 C2 hk (by omega) (by omega) hret

set_option maxRecDepth 100000 in
set_option maxHeartbeats 8000000 in
theorem int_divmod_pos (w : World) (a b : Int) (ta tb : Tok) (rest : List (Addr × Obj)) (t1 t2 : Option (Addr × Obj)) (k1 : CodeOk qual1 t1) (k2 : CodeOk qual2 t2) (ha : 0 ≤ a) (ha2 : a < 2 ^ 200) (hb : 0 < b) (hb2 : b < 2 ^ 200) (hr : ∀ q ∈ rest, ∀ r ∈ TT t1 t2, q.1 ≠ r.1) :
    Meet w 56 262 [.int a ta, .int b tb] (TT t1 t2 ++ rest) (DmRes a b rest) := by
  unfold Meet
  k_fill
  intro p loose mean mg mb dp un gd cn cs a' ccd cl outer A₀ base h₀ L m s Q E B F X N T C1 C2 hk hd hu hret
  refine wpAny_call ?_
  k_dflt (refine' enter_def (led := TT t1 t2) (rest := rest) B F X N T ?kA ?kF ?kK ?k6 ?k7 ?k8 ?k9 ?kB hr ?_ ?c2 ?c3 ?c4 ?c5; (case kA => exact rfl); (case kF => exact rfl); (case kK => exact hk); (case k6 => k_is); (case k7 => k_is); (case k8 => ktr_room); (case k9 => exact BindsTo.of_eq rfl); (case kB => exact locs rfl); (case c2 => exact rfl); (case c3 => exact rfl); (case c4 => exact rfl); (case c5 => decide); k_whole; intro g' L' h' FG' F' N' B' X' T' NR l1; (try dsimp only); (try k_fold))
  clear N l1
  have hb0 : b ≠ 0 := by omega
  k_steps
  · exact absurd (by assumption) hb0
  refine hold_in ?_
  have N9 : News g' L' h' (TT t1 t2 ++ []) := by rw [List.append_nil]; exact N'
  k_dflt (refine' Meet.use (divmod_pos w a b _ _ [] t1 t2 k1 k2 ha ha2 hb hb2 (fun _ h => nomatch h)) ?k1 ?k2 ?k3 ?k4 ?k5 ?k6 ?k7 ?kK ?kd ?ku ?_; (case k1 => k_asm); (case k2 => k_asm); (case k3 => k_asm); (case k4 => k_asm); (case k5 => k_asm); (case k6 => k_asm); (case k7 => k_asm); (case kK => exact rfl); (case kd => ktr_room); (case ku => ktr_units))
  clear N9
  rintro r9 led9 h9 tk9 ⟨x, u1, u2, c1, c2, rfl, q1, q2, rfl, _, _⟩ F9 N9
  rw [List.append_nil] at N9
  dsimp only
  k_steps
  rename Fr g' _ _ _ => F2
  rename News g' _ _ _ => N2
  rename News h₀ _ _ _ => N1
  have hga := ground_apart NR N2
  refine hret _ _ _ _ ⟨_, u1, u2, c1, c2, rfl, q1, q2, rfl, fun q hq r hr' => hga q hq r (.tail _ hr'), fun q hq => hga q hq _ (.head _)⟩ (by assumption) (news_join (l := (_, _) :: TT (some c1) (some c2)) ?_ (rest_back NR F2))
  rw [Int.fdiv_eq_ediv_of_nonneg _ (Int.le_of_lt hb), Int.fmod_eq_emod_of_nonneg _ (Int.le_of_lt hb)]
  exact N1
set_option maxRecDepth 100000 in
set_option maxHeartbeats 8000000 in
theorem int_divmod_posb (w : World) (a b : Int) (ta tb : Tok) (rest : List (Addr × Obj)) (t1 t2 : Option (Addr × Obj)) (k1 : CodeOk qual1 t1) (k2 : CodeOk qual2 t2) (ha1 : -(2 ^ 200) < a) (ha2 : a < 2 ^ 200) (hb : 0 < b) (hb2 : b < 2 ^ 200) (hr : ∀ q ∈ rest, ∀ r ∈ TT t1 t2, q.1 ≠ r.1) :
    Meet w 56 264 [.int a ta, .int b tb] (TT t1 t2 ++ rest) (DmRes a b rest) := by
  by_cases ha : 0 ≤ a
  · exact (int_divmod_pos w a b ta tb rest t1 t2 k1 k2 ha ha2 hb hb2 hr).more (by decide)
  unfold Meet
  k_fill
  intro p loose mean mg mb dp un gd cn cs a' ccd cl outer A₀ base h₀ L m s Q E B F X N T C1 C2 hk hd hu hret
  refine wpAny_call ?_
  k_dflt (refine' enter_def (led := TT t1 t2) (rest := rest) B F X N T ?kA ?kF ?kK ?k6 ?k7 ?k8 ?k9 ?kB hr ?_ ?c2 ?c3 ?c4 ?c5; (case kA => exact rfl); (case kF => exact rfl); (case kK => exact hk); (case k6 => k_is); (case k7 => k_is); (case k8 => ktr_room); (case k9 => exact BindsTo.of_eq rfl); (case kB => exact locs rfl); (case c2 => exact rfl); (case c3 => exact rfl); (case c4 => exact rfl); (case c5 => decide); k_whole; intro g' L' h' FG' F' N' B' X' T' NR l1; (try dsimp only); (try k_fold))
  clear N l1
  have hb0 : b ≠ 0 := by omega
  k_steps
  · exact absurd (by assumption) hb0
  refine hold_in ?_
  have N9 : News g' L' h' (TT t1 t2 ++ []) := by rw [List.append_nil]; exact N'
  k_dflt (refine' Meet.use (int_divmod_pos w (Builtin.bitNot a) b _ _ [] t1 t2 k1 k2 (by show 0 ≤ -a - 1; omega) (by show -a - 1 < 2 ^ 200; omega) hb hb2 (fun _ h => nomatch h)) ?k1 ?k2 ?k3 ?k4 ?k5 ?k6 ?k7 ?kK ?kd ?ku ?_; (case k1 => k_asm); (case k2 => k_asm); (case k3 => k_asm); (case k4 => k_asm); (case k5 => k_asm); (case k6 => k_asm); (case k7 => k_asm); (case kK => exact rfl); (case kd => ktr_room); (case ku => ktr_units))
  clear N9 N'
  rintro r9 led9 h9 tk9 ⟨x, u1, u2, c1, c2, rfl, q1, q2, rfl, _, _⟩ F9 N9
  rw [List.append_nil] at N9
  dsimp only
  generalize hTL : TT (some c1) (some c2) = TL at N9
  k_steps
  rename Fr g' _ _ _ => F2
  rename News g' _ _ _ => N2
  rename News h₀ _ _ _ => N1
  subst hTL
  have hga := ground_apart NR N2
  obtain ⟨z1, z2⟩ := dm_neg_a (a := a) hb
  rw [z1, z2] at N1
  exact hret _ _ _ _ ⟨_, _, _, c1, c2, rfl, q1, q2, rfl, fun q hq r hr' => hga q hq r (.tail _ (.tail _ hr')), fun q hq => hga q hq _ (.head _)⟩ (by assumption) (news_join (news_drop2 N1) (rest_back NR F2))
set_option maxRecDepth 100000 in
set_option maxHeartbeats 8000000 in
theorem int_divmod (w : World) (a b : Int) (ta tb : Tok) (rest : List (Addr × Obj)) (t1 t2 : Option (Addr × Obj)) (k1 : CodeOk qual1 t1) (k2 : CodeOk qual2 t2) (ha1 : -(2 ^ 200) < a) (ha2 : a < 2 ^ 200) (hb : b ≠ 0) (hb1 : -(2 ^ 200) < b) (hb2 : b < 2 ^ 200) (hr : ∀ q ∈ rest, ∀ r ∈ TT t1 t2, q.1 ≠ r.1) :
    Meet w 56 266 [.int a ta, .int b tb] (TT t1 t2 ++ rest) (DmRes a b rest) := by
  by_cases hbp : 0 < b
  · exact (int_divmod_posb w a b ta tb rest t1 t2 k1 k2 ha1 ha2 hbp hb2 hr).more (by decide)
  unfold Meet
  k_fill
  intro p loose mean mg mb dp un gd cn cs a' ccd cl outer A₀ base h₀ L m s Q E B F X N T C1 C2 hk hd hu hret
  refine wpAny_call ?_
  k_dflt (refine' enter_def (led := TT t1 t2) (rest := rest) B F X N T ?kA ?kF ?kK ?k6 ?k7 ?k8 ?k9 ?kB hr ?_ ?c2 ?c3 ?c4 ?c5; (case kA => exact rfl); (case kF => exact rfl); (case kK => exact hk); (case k6 => k_is); (case k7 => k_is); (case k8 => ktr_room); (case k9 => exact BindsTo.of_eq rfl); (case kB => exact locs rfl); (case c2 => exact rfl); (case c3 => exact rfl); (case c4 => exact rfl); (case c5 => decide); k_whole; intro g' L' h' FG' F' N' B' X' T' NR l1; (try dsimp only); (try k_fold))
  clear N l1
  have hb0 : b ≠ 0 := hb
  k_steps
  · exact absurd (by assumption) hb0
  refine hold_in ?_
  have N9 : News g' L' h' (TT t1 t2 ++ []) := by rw [List.append_nil]; exact N'
  k_dflt (refine' Meet.use (int_divmod_posb w (-a) (-b) _ _ [] t1 t2 k1 k2 (by omega) (by omega) (by omega) (by omega) (fun _ h => nomatch h)) ?k1 ?k2 ?k3 ?k4 ?k5 ?k6 ?k7 ?kK ?kd ?ku ?_; (case k1 => k_asm); (case k2 => k_asm); (case k3 => k_asm); (case k4 => k_asm); (case k5 => k_asm); (case k6 => k_asm); (case k7 => k_asm); (case kK => exact rfl); (case kd => ktr_room); (case ku => ktr_units))
  clear N9 N'
  rintro r9 led9 h9 tk9 ⟨x, u1, u2, c1, c2, rfl, q1, q2, rfl, _, _⟩ F9 N9
  rw [List.append_nil] at N9
  dsimp only
  generalize hTL : TT (some c1) (some c2) = TL at N9
  k_steps
  rename Fr g' _ _ _ => F2
  rename News g' _ _ _ => N2
  rename News h₀ _ _ _ => N1
  subst hTL
  have hga := ground_apart NR N2
  obtain ⟨z1, z2⟩ := dm_neg_b (a := a) (b := b)
  rw [z1, z2] at N1
  exact hret _ _ _ _ ⟨_, _, _, c1, c2, rfl, q1, q2, rfl, fun q hq r hr' => hga q hq r (.tail _ (.tail _ hr')), fun q hq => hga q hq _ (.head _)⟩ (by assumption) (news_join (news_drop2 N1) (rest_back NR F2))

end Mine
end

section
namespace Mine
theorem fdm_unique {a b q r : Int} (e : a = q * b + r) (h : (0 ≤ r ∧ r < b) ∨ (b < r ∧ r ≤ 0)) : a.fdiv b = q ∧ a.fmod b = r := by
  have pos : ∀ {a b q r : Int}, a = q * b + r → 0 ≤ r → r < b → a.fdiv b = q := by
    intro a b q r e h0 h1
    rw [Int.fdiv_eq_ediv_of_nonneg _ (by omega)]
    exact ((Int.ediv_emod_unique (by omega : 0 < b)).mpr ⟨by rw [e, Int.mul_comm]; omega, h0, h1⟩).1
  have hd : a.fdiv b = q := by
    rcases h with ⟨h0, h1⟩ | ⟨h0, h1⟩
    · exact pos e h0 h1
    · rw [← Int.neg_fdiv_neg]
      exact pos (r := -r) (by rw [e, Int.mul_neg]; omega) (by omega) (by omega)
  refine ⟨hd, ?_⟩
  rw [Int.fmod_def, hd, Int.mul_comm]
  omega

theorem fmod_lt {t f : Int} (hf : f ≠ 0) : (0 ≤ t.fmod f ∧ t.fmod f < f) ∨ (f < t.fmod f ∧ t.fmod f ≤ 0) := by
  rcases Int.lt_or_gt_of_ne hf with h | h
  · right
    have e := Int.fmod_def (-t) (-f)
    have e2 := Int.fmod_def t f
    rw [Int.neg_fdiv_neg, Int.neg_mul] at e
    have p1 : 0 ≤ (-t).fmod (-f) := by rw [Int.fmod_eq_emod_of_nonneg _ (by omega)]; exact Int.emod_nonneg _ (by omega)
    have p2 : (-t).fmod (-f) < -f := by rw [Int.fmod_eq_emod_of_nonneg _ (by omega)]; exact Int.emod_lt_of_pos _ (by omega)
    omega
  · left
    rw [Int.fmod_eq_emod_of_nonneg _ (by omega)]
    exact ⟨Int.emod_nonneg _ (by omega), Int.emod_lt_of_pos _ h⟩
theorem fmod_natAbs {t f : Int} (hf : f ≠ 0) : (t.fmod f).natAbs < f.natAbs := by
  have := fmod_lt (t := t) hf
  omega
/-- Euclid's row -/
def euclid (t f : Int) : List Int := if h : f = 0 then [] else t.fdiv f :: euclid f (t.fmod f)
termination_by f.natAbs
decreasing_by exact fmod_natAbs h
theorem euclid_zero (t : Int) : euclid t 0 = [] := by rw [euclid]; simp
theorem euclid_cons {t f : Int} (h : f ≠ 0) : euclid t f = t.fdiv f :: euclid f (t.fmod f) := by rw [euclid, dif_neg h]
theorem euclid_length : ∀ (n : Nat) (t f : Int), f.natAbs ≤ n → (euclid t f).length ≤ n
  | 0, t, f, h => by
    have : f = 0 := by omega
    subst this
    rw [euclid_zero]; exact Nat.le_refl _
  | n + 1, t, f, h => by
    by_cases hf : f = 0
    · subst hf; rw [euclid_zero]; exact Nat.zero_le _
    · rw [euclid_cons hf, List.length_cons]
      have := fmod_natAbs (t := t) hf
      have := euclid_length n f (t.fmod f) (by omega)
      omega

theorem fmod_half {f r : Int} (hr : r ≠ 0) (h : (0 ≤ r ∧ r < f) ∨ (f < r ∧ r ≤ 0)) : 2 * (f.fmod r).natAbs < f.natAbs := by
  have e := Int.fmod_def f r
  have l := fmod_lt (t := f) hr
  generalize f.fdiv r = q at e
  generalize f.fmod r = g at e l
  rcases h with ⟨h0, h1⟩ | ⟨h0, h1⟩
  · have hq : 0 < r * q := by omega
    have hq1 : 0 < q := Int.pos_of_mul_pos_right hq (by omega)
    have : r * 1 ≤ r * q := Int.mul_le_mul_of_nonneg_left (by omega) (by omega)
    omega
  · have hq : 0 < (-r) * q := by rw [Int.neg_mul]; omega
    have hq1 : 0 < q := Int.pos_of_mul_pos_right hq (by omega)
    have : (-r) * 1 ≤ (-r) * q := Int.mul_le_mul_of_nonneg_left (by omega) (by omega)
    rw [Int.neg_mul, Int.neg_mul] at this
    omega
theorem euclid_log : ∀ (n : Nat) (t f : Int), f.natAbs < 2 ^ n → (euclid t f).length ≤ 2 * n
  | 0, t, f, h => by
    have : f = 0 := by omega
    subst this
    rw [euclid_zero]; exact Nat.le_refl _
  | n + 1, t, f, h => by
    by_cases hf : f = 0
    · subst hf; rw [euclid_zero]; exact Nat.zero_le _
    · rw [euclid_cons hf, List.length_cons]
      by_cases hr : t.fmod f = 0
      · rw [hr, euclid_zero, List.length_nil]; omega
      · rw [euclid_cons hr, List.length_cons]
        have h2 := fmod_half (f := f) hr (fmod_lt hf)
        have := euclid_log n (t.fmod f) (f.fmod (t.fmod f)) (by rw [Nat.pow_succ] at h; omega)
        omega

/-- a form at its four corners, weighed -/
def valW (w0 w1 w2 w3 a b c d : Int) : Int := w0 * a + w1 * (a + b) + w2 * (a + c) + w3 * (a + b + c + d)
def Weights (w0 w1 w2 w3 : Int) : Prop := 0 ≤ w0 ∧ 0 ≤ w1 ∧ 0 ≤ w2 ∧ 0 ≤ w3 ∧ 0 < w0 + w1 + w2 + w3
/-- the four corners of a form lie between -M and M -/
def Cor (M a b c d : Int) : Prop := (-M ≤ a ∧ a ≤ M) ∧ (-M ≤ a + b ∧ a + b ≤ M) ∧ (-M ≤ a + c ∧ a + c ≤ M) ∧ (-M ≤ a + b + c + d ∧ a + b + c + d ≤ M)
def OneSign (x y z t : Int) : Prop := (0 < x ∧ 0 < y ∧ 0 < z ∧ 0 < t) ∨ (x < 0 ∧ y < 0 ∧ z < 0 ∧ t < 0)

theorem sum_pos {w0 w1 w2 w3 x y z t : Int} (hw : Weights w0 w1 w2 w3) (hx : 0 < x) (hy : 0 < y) (hz : 0 < z) (ht : 0 < t) : 0 < w0 * x + w1 * y + w2 * z + w3 * t := by
  obtain ⟨a, b, c, d, s⟩ := hw
  have m0 : w0 * 1 ≤ w0 * x := Int.mul_le_mul_of_nonneg_left (by omega) a
  have m1 : w1 * 1 ≤ w1 * y := Int.mul_le_mul_of_nonneg_left (by omega) b
  have m2 : w2 * 1 ≤ w2 * z := Int.mul_le_mul_of_nonneg_left (by omega) c
  have m3 : w3 * 1 ≤ w3 * t := Int.mul_le_mul_of_nonneg_left (by omega) d
  omega
theorem sum_nonneg {w0 w1 w2 w3 x y z t : Int} (hw : Weights w0 w1 w2 w3) (hx : 0 ≤ x) (hy : 0 ≤ y) (hz : 0 ≤ z) (ht : 0 ≤ t) : 0 ≤ w0 * x + w1 * y + w2 * z + w3 * t := by
  obtain ⟨a, b, c, d, s⟩ := hw
  have m0 := Int.mul_nonneg a hx
  have m1 := Int.mul_nonneg b hy
  have m2 := Int.mul_nonneg c hz
  have m3 := Int.mul_nonneg d ht
  omega
/-- where one quotient is told at all four corners, it is the quotient of the whole -/
theorem come_out_step {w0 w1 w2 w3 t0 t1 t2 t3 f0 f1 f2 f3 q : Int} (hw : Weights w0 w1 w2 w3) (hs : OneSign f0 f1 f2 f3)
    (q0 : t0.fdiv f0 = q) (q1 : t1.fdiv f1 = q) (q2 : t2.fdiv f2 = q) (q3 : t3.fdiv f3 = q) :
    w0 * f0 + w1 * f1 + w2 * f2 + w3 * f3 ≠ 0 ∧ (w0 * t0 + w1 * t1 + w2 * t2 + w3 * t3).fdiv (w0 * f0 + w1 * f1 + w2 * f2 + w3 * f3) = q ∧
      (w0 * t0 + w1 * t1 + w2 * t2 + w3 * t3).fmod (w0 * f0 + w1 * f1 + w2 * f2 + w3 * f3) = w0 * t0.fmod f0 + w1 * t1.fmod f1 + w2 * t2.fmod f2 + w3 * t3.fmod f3 := by
  have tel : ∀ (w t f : Int), t.fdiv f = q → w * t = q * (w * f) + w * t.fmod f := by
    intro w t f h
    rw [Int.fmod_def, h, Int.mul_sub, ← Int.mul_assoc, ← Int.mul_assoc, Int.mul_comm q w, Int.mul_assoc w q f, Int.mul_assoc w f q, Int.mul_comm f q]
    omega
  have e : w0 * t0 + w1 * t1 + w2 * t2 + w3 * t3 = q * (w0 * f0 + w1 * f1 + w2 * f2 + w3 * f3) + (w0 * t0.fmod f0 + w1 * t1.fmod f1 + w2 * t2.fmod f2 + w3 * t3.fmod f3) := by
    rw [tel w0 t0 f0 q0, tel w1 t1 f1 q1, tel w2 t2 f2 q2, tel w3 t3 f3 q3, Int.mul_add, Int.mul_add, Int.mul_add]
    omega
  rcases hs with ⟨s0, s1, s2, s3⟩ | ⟨s0, s1, s2, s3⟩
  · have p := sum_pos hw s0 s1 s2 s3
    have r0 := fmod_lt (t := t0) (f := f0) (by omega)
    have r1 := fmod_lt (t := t1) (f := f1) (by omega)
    have r2 := fmod_lt (t := t2) (f := f2) (by omega)
    have r3 := fmod_lt (t := t3) (f := f3) (by omega)
    have n0 := sum_nonneg hw (x := t0.fmod f0) (y := t1.fmod f1) (z := t2.fmod f2) (t := t3.fmod f3) (by omega) (by omega) (by omega) (by omega)
    have n1 := sum_pos hw (x := f0 - t0.fmod f0) (y := f1 - t1.fmod f1) (z := f2 - t2.fmod f2) (t := f3 - t3.fmod f3) (by omega) (by omega) (by omega) (by omega)
    simp only [Int.mul_sub] at n1
    exact ⟨by omega, fdm_unique e (.inl ⟨n0, by omega⟩)⟩
  · have p := sum_pos hw (x := -f0) (y := -f1) (z := -f2) (t := -f3) (by omega) (by omega) (by omega) (by omega)
    have r0 := fmod_lt (t := t0) (f := f0) (by omega)
    have r1 := fmod_lt (t := t1) (f := f1) (by omega)
    have r2 := fmod_lt (t := t2) (f := f2) (by omega)
    have r3 := fmod_lt (t := t3) (f := f3) (by omega)
    have n0 := sum_nonneg hw (x := -t0.fmod f0) (y := -t1.fmod f1) (z := -t2.fmod f2) (t := -t3.fmod f3) (by omega) (by omega) (by omega) (by omega)
    have n1 := sum_pos hw (x := t0.fmod f0 - f0) (y := t1.fmod f1 - f1) (z := t2.fmod f2 - f2) (t := t3.fmod f3 - f3) (by omega) (by omega) (by omega) (by omega)
    simp only [Int.mul_sub, Int.mul_neg] at n1 n0 p
    exact ⟨by omega, fdm_unique e (.inr ⟨by omega, by omega⟩)⟩

/-- what holds between the turns of the coming out -/
structure Out (w0 w1 w2 w3 M : Int) (due : List Int) (a b c d e f g h : Int) (row : List Int) : Prop where
  up : Cor M a b c d
  lo : Cor M e f g h
  row : row ++ euclid (valW w0 w1 w2 w3 a b c d) (valW w0 w1 w2 w3 e f g h) = due
theorem Out.step {w0 w1 w2 w3 M a b c d e f g h q r0 r1 r2 r3 : Int} {due row : List Int} (hw : Weights w0 w1 w2 w3) (O : Out w0 w1 w2 w3 M due a b c d e f g h row) (hs : OneSign e (e + f) (e + g) (e + f + g + h))
    (q0 : a.fdiv e = q) (q1 : (a + b).fdiv (e + f) = q) (q2 : (a + c).fdiv (e + g) = q) (q3 : (a + b + c + d).fdiv (e + f + g + h) = q)
    (m0 : a.fmod e = r0) (m1 : (a + b).fmod (e + f) = r1) (m2 : (a + c).fmod (e + g) = r2) (m3 : (a + b + c + d).fmod (e + f + g + h) = r3) :
    Out w0 w1 w2 w3 M due e f g h r0 (r1 - r0) (r2 - r0) (r3 - r2 - r1 + r0) (row ++ [q]) ∧
      (euclid (valW w0 w1 w2 w3 e f g h) (valW w0 w1 w2 w3 r0 (r1 - r0) (r2 - r0) (r3 - r2 - r1 + r0))).length < (euclid (valW w0 w1 w2 w3 a b c d) (valW w0 w1 w2 w3 e f g h)).length := by
  obtain ⟨z1, z2, z3⟩ := come_out_step hw hs q0 q1 q2 q3
  rw [m0, m1, m2, m3] at z3
  have ev : valW w0 w1 w2 w3 r0 (r1 - r0) (r2 - r0) (r3 - r2 - r1 + r0) = w0 * r0 + w1 * r1 + w2 * r2 + w3 * r3 := by
    unfold valW
    rw [show r0 + (r1 - r0) = r1 by omega, show r0 + (r2 - r0) = r2 by omega, show r1 + (r2 - r0) + (r3 - r2 - r1 + r0) = r3 by omega]
  have ee : euclid (valW w0 w1 w2 w3 a b c d) (valW w0 w1 w2 w3 e f g h) = q :: euclid (valW w0 w1 w2 w3 e f g h) (valW w0 w1 w2 w3 r0 (r1 - r0) (r2 - r0) (r3 - r2 - r1 + r0)) := by
    rw [ev, euclid_cons (show valW w0 w1 w2 w3 e f g h ≠ 0 from z1), ← z3, ← z2]
    rfl
  refine ⟨⟨O.lo, ?_, ?_⟩, ?_⟩
  · obtain ⟨c0, c1, c2, c3⟩ := O.lo
    have x0 := fmod_lt (t := a) (f := e) (by rcases hs with hs | hs <;> omega)
    have x1 := fmod_lt (t := a + b) (f := e + f) (by rcases hs with hs | hs <;> omega)
    have x2 := fmod_lt (t := a + c) (f := e + g) (by rcases hs with hs | hs <;> omega)
    have x3 := fmod_lt (t := a + b + c + d) (f := e + f + g + h) (by rcases hs with hs | hs <;> omega)
    rw [m0] at x0; rw [m1] at x1; rw [m2] at x2; rw [m3] at x3
    refine ⟨?_, ?_, ?_, ?_⟩ <;> omega
  · rw [← O.row, ee]; simp
  · rw [ee, List.length_cons]; omega
end Mine
end

section
open PySem PySem.W PyProof.Rows PySem.Calls
namespace Mine
/-- a list of four ints -/
abbrev L4 (l : Addr) (a b c d : Int) (ta tb tc td : Tok) (n : Nat) : Addr × Obj := (l, listOf #[.int a ta, .int b tb, .int c tc, .int d td] n)
/-- a new list of four ints comes back -/
inductive New4 (old : Addr × Obj) (rest : List (Addr × Obj)) (a b c d : Int) (r : Value) (led' : List (Addr × Obj)) : Prop
  | mk (l : Addr) (t1 t2 t3 t4 : Tok) (m : Nat)
    (j0 : r = .ref l)
    (j1 : led' = (L4 l a b c d t1 t2 t3 t4 m :: [old]) ++ rest)
    (j2 : (∀ q ∈ rest, @Ne Nat q.1 l))
    (j3 : @LT.lt Nat _ old.1 l) : New4 old rest a b c d r led'
theorem bits_abs {x : Int} (h : x.natAbs < 2 ^ 64) : Builtin.Int.intBits x ≤ 64 := by
  unfold Builtin.Int.intBits
  split
  · exact Nat.zero_le _
  · rename_i hx
    have hx' : x.natAbs ≠ 0 := by simpa using hx
    have := (Nat.log2_lt hx').mpr h
    omega
local macro_rules | `(tactic| walk_at "idle 0") => `(tactic| fail)
local macro_rules | `(tactic| walk_at "idle 1") => `(tactic| fail)
local macro_rules | `(tactic| walk_at "idle 2") => `(tactic| fail)
local macro_rules | `(tactic| walk_at "idle 3") => `(tactic| fail)
local macro_rules | `(tactic| walk_at "binaryOp Mult int int") => `(tactic| refine Hold.out ?_)
local macro_rules | `(tactic| walk_at "newList") => `(tactic| refine Hold.out ?_)
set_option maxRecDepth 100000 in
set_option maxHeartbeats 8000000 in
theorem law_corners (w : World) (ls : Addr) (a b c d : Int) (ta tb tc td : Tok) (n : Nat) (rest : List (Addr × Obj)) (hr : ∀ q ∈ rest, ∀ r ∈ [L4 ls a b c d ta tb tc td n], q.1 ≠ r.1) :
    Meet w 89 2 [.ref ls] ([L4 ls a b c d ta tb tc td n] ++ rest) (New4 (L4 ls a b c d ta tb tc td n) rest a (a + b) (a + c) (a + b + c + d)) := by
  unfold Meet
  k_fill
  intro p loose mean mg mb dp un gd cn cs a' ccd cl outer A₀ base h₀ L m s Q E B F X N T C1 C2 hk hd hu hret
  refine wpAny_call ?_
  k_dflt (refine' enter_def (led := [L4 ls a b c d ta tb tc td n]) (rest := rest) B F X N T ?kA ?kF ?kK ?k6 ?k7 ?k8 ?k9 ?kB hr ?_ ?c2 ?c3 ?c4 ?c5; (case kA => exact rfl); (case kF => exact rfl); (case kK => exact hk); (case k6 => k_is); (case k7 => k_is); (case k8 => ktr_room); (case k9 => exact BindsTo.of_eq rfl); (case kB => exact locs rfl); (case c2 => exact rfl); (case c3 => exact rfl); (case c4 => exact rfl); (case c5 => decide); k_whole; intro g' L' h' FG' F' N' B' X' T' NR l1; (try dsimp only); (try k_fold))
  have ll : @LT.lt Nat _ ls L' := l1 (ls, _) (List.mem_append_left _ (.head _))
  clear N l1
  k_steps
  rename Fr g' _ _ _ => F2
  rename News g' _ _ _ => N2
  refine hold_in (newList_K F2 N2 ?_)
  clear F2 N2
  intro l h2 F2 N2 l2
  k_lt l2
  k_steps
  rename Fr g' _ _ _ => F2
  rename News g' _ _ _ => N2
  rename News h₀ _ _ _ => N1
  have hga := ground_apart NR N2
  refine hret _ _ _ _ ⟨_, _, _, _, _, _, rfl, rfl, fun q hq => hga q hq _ (.head _), by omega⟩ (by assumption) (news_join N1 (rest_back NR F2))
set_option maxRecDepth 100000 in
set_option maxHeartbeats 8000000 in
theorem law_first (w : World) (ls : Addr) (a b c d x : Int) (ta tb tc td tx : Tok) (n : Nat) (rest : List (Addr × Obj)) (hx : x.natAbs < 2 ^ 64) (hr : ∀ q ∈ rest, ∀ r ∈ [L4 ls a b c d ta tb tc td n], q.1 ≠ r.1) :
    Meet w 75 2 [.ref ls, .int x tx] ([L4 ls a b c d ta tb tc td n] ++ rest) (New4 (L4 ls a b c d ta tb tc td n) rest (a * x + c) (b * x + d) a b) := by
  unfold Meet
  k_fill
  intro p loose mean mg mb dp un gd cn cs a' ccd cl outer A₀ base h₀ L m s Q E B F X N T C1 C2 hk hd hu hret
  refine wpAny_call ?_
  k_dflt (refine' enter_def (led := [L4 ls a b c d ta tb tc td n]) (rest := rest) B F X N T ?kA ?kF ?kK ?k6 ?k7 ?k8 ?k9 ?kB hr ?_ ?c2 ?c3 ?c4 ?c5; (case kA => exact rfl); (case kF => exact rfl); (case kK => exact hk); (case k6 => k_is); (case k7 => k_is); (case k8 => ktr_room); (case k9 => exact BindsTo.of_eq rfl); (case kB => exact locs rfl); (case c2 => exact rfl); (case c3 => exact rfl); (case c4 => exact rfl); (case c5 => decide); k_whole; intro g' L' h' FG' F' N' B' X' T' NR l1; (try dsimp only); (try k_fold))
  have ll : @LT.lt Nat _ ls L' := l1 (ls, _) (List.mem_append_left _ (.head _))
  clear N l1
  k_steps
  refine hold_in (PyProof.Rows.mul_int ?_ (PySem.IntMulOk.of_right (bits_abs (by omega))))
  k_steps
  refine hold_in (PyProof.Rows.mul_int ?_ (PySem.IntMulOk.of_right (bits_abs (by omega))))
  k_steps
  rename Fr g' _ _ _ => F2
  rename News g' _ _ _ => N2
  refine hold_in (newList_K F2 N2 ?_)
  clear F2 N2
  intro l h2 F2 N2 l2
  k_lt l2
  k_steps
  rename Fr g' _ _ _ => F2
  rename News g' _ _ _ => N2
  rename News h₀ _ _ _ => N1
  have hga := ground_apart NR N2
  refine hret _ _ _ _ ⟨_, _, _, _, _, _, rfl, rfl, fun q hq => hga q hq _ (.head _), by omega⟩ (by assumption) (news_join N1 (rest_back NR F2))
set_option maxRecDepth 100000 in
set_option maxHeartbeats 8000000 in
theorem law_second (w : World) (ls : Addr) (a b c d x : Int) (ta tb tc td tx : Tok) (n : Nat) (rest : List (Addr × Obj)) (hx : x.natAbs < 2 ^ 64) (hr : ∀ q ∈ rest, ∀ r ∈ [L4 ls a b c d ta tb tc td n], q.1 ≠ r.1) :
    Meet w 82 2 [.ref ls, .int x tx] ([L4 ls a b c d ta tb tc td n] ++ rest) (New4 (L4 ls a b c d ta tb tc td n) rest (a * x + b) a (c * x + d) c) := by
  unfold Meet
  k_fill
  intro p loose mean mg mb dp un gd cn cs a' ccd cl outer A₀ base h₀ L m s Q E B F X N T C1 C2 hk hd hu hret
  refine wpAny_call ?_
  k_dflt (refine' enter_def (led := [L4 ls a b c d ta tb tc td n]) (rest := rest) B F X N T ?kA ?kF ?kK ?k6 ?k7 ?k8 ?k9 ?kB hr ?_ ?c2 ?c3 ?c4 ?c5; (case kA => exact rfl); (case kF => exact rfl); (case kK => exact hk); (case k6 => k_is); (case k7 => k_is); (case k8 => ktr_room); (case k9 => exact BindsTo.of_eq rfl); (case kB => exact locs rfl); (case c2 => exact rfl); (case c3 => exact rfl); (case c4 => exact rfl); (case c5 => decide); k_whole; intro g' L' h' FG' F' N' B' X' T' NR l1; (try dsimp only); (try k_fold))
  have ll : @LT.lt Nat _ ls L' := l1 (ls, _) (List.mem_append_left _ (.head _))
  clear N l1
  k_steps
  refine hold_in (PyProof.Rows.mul_int ?_ (PySem.IntMulOk.of_right (bits_abs (by omega))))
  k_steps
  refine hold_in (PyProof.Rows.mul_int ?_ (PySem.IntMulOk.of_right (bits_abs (by omega))))
  k_steps
  rename Fr g' _ _ _ => F2
  rename News g' _ _ _ => N2
  refine hold_in (newList_K F2 N2 ?_)
  clear F2 N2
  intro l h2 F2 N2 l2
  k_lt l2
  k_steps
  rename Fr g' _ _ _ => F2
  rename News g' _ _ _ => N2
  rename News h₀ _ _ _ => N1
  have hga := ground_apart NR N2
  refine hret _ _ _ _ ⟨_, _, _, _, _, _, rfl, rfl, fun q hq => hga q hq _ (.head _), by omega⟩ (by assumption) (news_join N1 (rest_back NR F2))
end Mine
end

section
open PySem PySem.W PyProof.Rows PySem.Calls
namespace Mine

/-- a continued fraction as one fraction -/
def worth : List Int → Int × Int
  | [] => (1, 0)
  | d :: r => (d * (worth r).1 + (worth r).2, (worth r).1)

/-- what holds between the turns of _law_worth -/
inductive WorthJ (lr : Addr) (o : Obj) (pre : List Value) (m : Str → Option Value) (news : List (Addr × Obj)) : Prop
  | mk (mr : Str → Option Value) (ua : Option Value) (t1 t2 : Tok) (pt bd : Int) (pns : List Int)
    (j0 : m = fun y => if y = Str.ofString "quotient" then ua else if y = Str.ofString "p" then some (.int pt t1) else if y = Str.ofString "q" then some (.int bd t2) else mr y)
    (j1 : news = [(lr, o)]) (j2 : IntsAre pre pns) (j3 : pt = (worth pns.reverse).1) (j4 : bd = (worth pns.reverse).2) : WorthJ lr o pre m news
local macro_rules | `(tactic| walk_at "idle 0") => `(tactic| fail)
local macro_rules | `(tactic| walk_at "idle 1") => `(tactic| fail)
local macro_rules | `(tactic| walk_at "call type:reversed") => `(tactic| refine Hold.out ?_)
local macro_rules | `(tactic| walk_at "UnrEnd") => `(tactic| refine Hold.out ?_)
local macro_rules | `(tactic| walk_at "pyIter ref") => `(tactic| refine Hold.out ?_)
local macro_rules | `(tactic| walk_at "binaryOp Mult int int") => `(tactic| refine Hold.out ?_)
local macro_rules | `(tactic| walk_at "exec For") => `(tactic| (k_here; (rename Fr _ _ _ _ => lF'); (with_unfolding_all refine' For_invVF lF' ?k1 ?k2 ?_; (case k1 => exact rfl); (case k2 => exact rfl); k_whole)))
set_option maxRecDepth 100000 in
set_option maxHeartbeats 8000000 in
theorem law_worth (w : World) (lr : Addr) (rvs : List Value) (row : List Int) (pn : Nat) (rest : List (Addr × Obj)) (hv : IntsAre rvs row) (hw : ∀ x ∈ row, x.natAbs < 2 ^ 64) (hr : ∀ q ∈ rest, ∀ r ∈ [(lr, listOf rvs.toArray pn)], q.1 ≠ r.1) :
    Meet w 68 2 [.ref lr] ([(lr, listOf rvs.toArray pn)] ++ rest) (fun r led' => ∃ x t1 t2, r = .ref x ∧
      led' = ((x, tupOf #[.int (worth row).1 t1, .int (worth row).2 t2]) :: [(lr, listOf rvs.toArray pn)]) ++ rest ∧ (∀ q ∈ rest, @Ne Nat q.1 x) ∧ @Ne Nat lr x) := by
  unfold Meet
  k_fill
  intro p loose mean mg mb dp un gd cn cs a' ccd cl outer A₀ base h₀ L m s Q E B F X N T C1 C2 hk hd hu hret
  refine wpAny_call ?_
  k_dflt (refine' enter_def (led := [(lr, listOf rvs.toArray pn)]) (rest := rest) B F X N T ?kA ?kF ?kK ?k6 ?k7 ?k8 ?k9 ?kB hr ?_ ?c2 ?c3 ?c4 ?c5; (case kA => exact rfl); (case kF => exact rfl); (case kK => exact hk); (case k6 => k_is); (case k7 => k_is); (case k8 => ktr_room); (case k9 => exact BindsTo.of_eq rfl); (case kB => exact locs rfl); (case c2 => exact rfl); (case c3 => exact rfl); (case c4 => exact rfl); (case c5 => decide); k_whole; intro g' L' h' FG' F' N' B' X' T' NR l1; (try dsimp only); (try k_fold))
  have ll : @LT.lt Nat _ lr L' := l1 (lr, _) (List.mem_append_left _ (.head _))
  clear N l1
  k_steps
  rename Fr _ _ _ _ => F7
  rename News _ _ _ _ => N7
  refine hold_in (krv_reversed F7 N7 (PySem.IsL.isList (n := pn) (N7 (lr, _) (by k_mem)).1) ?_)
  clear F7 N7
  intro I h7 F7 N7 l7
  k_steps
  have lI : @LT.lt Nat _ lr I := l7 (lr, _) (.head _)
  have hvr := ints_reverse hv
  refine hold_in (iter_revUnr (lo := listOf rvs.toArray pn) (vs := rvs) (n := pn) rfl F7 N7 (offI_of fun p hp => Nat.ne_of_lt (l7 p hp)) (.head _) rfl rfl ?_)
  clear F7 N7
  refine revRest_ind (WorthJ lr (listOf rvs.toArray pn)) rvs.reverse [] rvs.reverse _ _ rfl ?turn ?done ?start
  case start =>
    exact ⟨_, _, _, _, _, _, [], map3 rfl rfl rfl, rfl, .nil, rfl, rfl⟩
  case turn =>
    rintro pre v r m news hsplit ⟨mr, ua, t1, t2, pt, bd, pns, rfl, rfl, hp, ep, eb⟩ it h tk hit F6 N6
    rw [← hsplit] at hvr
    obtain ⟨d, td, q, rfl, ens⟩ := ints_split hvr hp
    have hd := hw d (by rw [← List.mem_reverse, ens]; exact List.mem_append_right _ (.head _))
    k_steps
    refine hold_in (PyProof.Rows.mul_int ?_ (PySem.IntMulOk.of_left (bits_abs (by omega))))
    k_steps
    rename Fr _ _ _ _ => F5
    rename News _ _ _ _ => N5
    have e : (pns ++ [d]).reverse = d :: pns.reverse := by simp
    refine hold_in (UnrEnd.intro F5 N5 ((lr, _) :: []) (fun p hp => by simp_all) ?off ⟨.head _, _, _, _, _, _, _, pns ++ [d], map3 rfl rfl rfl, rfl, ints_append hp (.cons _ _ .nil), ?e1, ?e2⟩)
    case off =>
      intro p hp
      rw [List.mem_singleton] at hp
      subst hp
      exact Nat.ne_of_lt lI
    case e1 => rw [e, worth, ep, eb]
    case e2 => rw [e, worth, ep]
  case done =>
    rintro m news ⟨mr, ua, t1, t2, pt, bd, pns, rfl, rfl, hp, ep, eb⟩ h tk F6 N6
    have epn := ints_inj hp hvr
    rw [epn, List.reverse_reverse] at ep eb
    subst ep eb
    dsimp only
    k_steps
    rename Fr g' _ _ _ => F2
    rename News g' _ _ _ => N2
    rename News h₀ _ _ _ => N1
    have hga := ground_apart NR N2
    refine hret _ _ _ _ ⟨_, _, _, rfl, rfl, fun q hq => hga q hq _ (.head _), by omega⟩ (by assumption) (news_join N1 (rest_back NR F2))
end Mine
end

section
open PySem PySem.W PyProof.Rows PySem.Calls
namespace Mine
/-- a row out of numbers -/
def rowOf (n0 : Int) (ns : List Int) : List Int := ((n0 + 99).fmod 199 - 99) :: ns.map fun a => 1 + (if a < 0 then -a else a).fmod 99
theorem rowOf_length (n0 : Int) (ns : List Int) : (rowOf n0 ns).length = ns.length + 1 := by simp [rowOf]
local macro_rules | `(tactic| walk_at "idle 0") => `(tactic| fail)
local macro_rules | `(tactic| walk_at "idle 1") => `(tactic| fail)
local macro_rules | `(tactic| walk_at "idle 2") => `(tactic| fail)
local macro_rules | `(tactic| walk_at "idle 3") => `(tactic| fail)
local macro_rules | `(tactic| walk_at "idle 4") => `(tactic| fail)
local macro_rules | `(tactic| walk_at "idle 5") => `(tactic| fail)
local macro_rules | `(tactic| walk_at "binaryOp Add ref ref") => `(tactic| refine Hold.out ?_)
local macro_rules | `(tactic| walk_at "eval ListComp") => `(tactic| (k_here; (try k_iter_made); (with_reducible apply ListComp_DCn); (case hh => with_unfolding_all rfl); (case hclos => with_unfolding_all rfl); (case hcell => decide); (case hkind => with_unfolding_all rfl); (case hnames => decide); (case hx => with_unfolding_all rfl); (case hs => intro _; with_unfolding_all rfl); (case' h => with_reducible refine wpAny_compPack ?_)))
set_option maxRecDepth 100000 in
set_option maxHeartbeats 8000000 in
theorem law_row (w : World) (ls : Addr) (vs : List Value) (n0 : Int) (ns : List Int) (n : Nat) (rest : List (Addr × Obj)) (hv : IntsAre vs (n0 :: ns)) (h2 : ns.length ≤ 5) (hr : ∀ q ∈ rest, ∀ r ∈ [(ls, listOf vs.toArray n)], q.1 ≠ r.1) :
    Meet w 61 2 [.ref ls] ([(ls, listOf vs.toArray n)] ++ rest) (fun r led' => ∃ l rvs, r = .ref l ∧ IntsAre rvs (rowOf n0 ns) ∧
      led' = ((l, listOf (List.toArray rvs) 0) :: [(ls, listOf vs.toArray n)]) ++ rest ∧ (∀ q ∈ rest, @Ne Nat q.1 l) ∧ @LT.lt Nat _ ls l) := by
  unfold Meet
  k_fill
  intro p loose mean mg mb dp un gd cn cs a' ccd cl outer A₀ base h₀ L m s Q E B F X N T C1 C2 hk hd hu hret
  refine wpAny_call ?_
  k_dflt (refine' enter_def (led := [(ls, listOf vs.toArray n)]) (rest := rest) B F X N T ?kA ?kF ?kK ?k6 ?k7 ?k8 ?k9 ?kB hr ?_ ?c2 ?c3 ?c4 ?c5; (case kA => exact rfl); (case kF => exact rfl); (case kK => exact hk); (case k6 => k_is); (case k7 => k_is); (case k8 => ktr_room); (case k9 => exact BindsTo.of_eq rfl); (case kB => exact locs rfl); (case c2 => exact rfl); (case c3 => exact rfl); (case c4 => exact rfl); (case c5 => decide); k_whole; intro g' L' h' FG' F' N' B' X' T' NR l1; (try dsimp only); (try k_fold))
  have ll : @LT.lt Nat _ ls L' := l1 (ls, _) (List.mem_append_left _ (.head _))
  have hlen : (n0 :: ns).length ≤ 6 := by rw [List.length_cons]; omega
  clear N l1
  k_steps
  refine hold_in ?_
  gn_on
  rename Fr g' _ _ _ => F2
  rename_i gL gI gA
  k_dflt (refine' kmk_add_ints (ns := [(n0 + 99).fmod 199 - 99]) F2 gL (PySem.IsL.isList (n := 0) (gL (_, _) (.tail _ (.tail _ (.head _)))).1) (PySem.IsL.isList (n := _) (gL (_, _) (.head _)).1) (.cons _ _ .nil) gI ?_ ?z)
  case z => simp only [List.length_cons, List.length_map, List.length_drop, List.length_nil, sizeLine_eq]; omega
  clear F2 gL
  intro l us h2 F2 N2 l2 hu2
  k_lt l2
  k_steps
  rename Fr g' _ _ _ => F2
  rename News g' _ _ _ => N2
  rename News h₀ _ _ _ => N1
  have hga := ground_apart NR N2
  refine hret _ _ _ _ ⟨_, _, rfl, hu2, rfl, fun q hq => hga q hq _ (.head _), by omega⟩ (by assumption) (news_join (news_sub N1 ?_) (rest_back NR F2))
  intro q hq
  rcases List.mem_cons.mp hq with rfl | hq
  · exact .head _
  · rw [List.mem_singleton] at hq
    subst hq
    k_mem
end Mine
end

section
open PySem PySem.W PyProof.Rows PySem.Calls PySem.Spec
namespace Mine

section
variable {prog : Program} {w : World} {A : Around} {E : Value → Shared → Prop} {s : Shared} {h₀ : Heap} {L : Addr} {m : Str → Option Value} {env : Env}
/-- the turns of a comprehension by what holds between them -/
theorem compRest_ind {elt : Expr} {x : Str} {scope : Scope} {cl : List (Str × Addr)} {S : List (Addr × Obj) → Prop} {P : Nat → Value → Prop} {Fin : List Value → List (Addr × Obj) → Prop} {n : Nat} (J : Nat → List Value → List (Addr × Obj) → Prop)
    (turn : ∀ i ys news, i < n → J i ys news → ∀ v I oI C oC D m₂ h tk (E' : Value → Shared → Prop), P i v → LCg.NsObj oC m₂ → m₂ x = some v → Fr h₀ L h m → News h₀ L h ((I, oI) :: (C, oC) :: (D, LCg.lst ys) :: news) → LCg.Off3 I C D news → ((@Ne Nat I C) ∧ (@Ne Nat I D) ∧ (@Ne Nat C D)) →
      wpAny (model prog w) A (eval elt (compEnvC scope cl C env)) (LCg.CompEnd h₀ L m { s with heap := h, toks := tk } I oI C oC D (LCg.lst ys) S (fun y news' => J (i + 1) (ys ++ [y]) news')) E' { s with heap := h, toks := tk })
    (done : ∀ ys news, J n ys news → Fin ys news) :
    ∀ (k i : Nat) (ys : List Value) (news : List (Addr × Obj)), i + k = n → J i ys news → LCg.CompRest prog w A h₀ L m env elt x scope cl s S P Fin k i ys news
  | 0, i, ys, news, e, hj => by
    rw [Nat.add_zero] at e
    subst e
    exact LCg.CompRest.zero (done ys news hj)
  | k + 1, i, ys, news, e, hj => by
    refine LCg.CompRest.succ fun v I oI C oC D m₂ h tk E' hP hC hx F N off ne => wpAny_mono (turn i ys news (by omega) hj v I oI C oC D m₂ h tk E' hP hC hx F N off ne) (fun y s₂ p => ?_) fun _ _ e => e
    obtain ⟨h', tk', news', e1, F', N', off', hS, hJ⟩ := p
    exact ⟨h', tk', news', e1, F', N', off', hS, compRest_ind J turn done k (i + 1) (ys ++ [y]) news' (by omega) hJ⟩
theorem item_nat {value slice : PySem.Expr} {l : Addr} {vs : List Value} {ns : List Int} {i : Nat} {u : Tok} {Q : Value → Shared → Prop} (hl : s.heap.IsList l vs.toArray) (hi : IntsAre vs ns)
    (h1 : i < ns.length) (hfit : i < 2 ^ 63) (h : ∀ t, Q (.int (ns.getD i 0) t) s)
    (hs : subscripted slice false (.ref l) (.int (i : Int) u) = operate [.ref l, .int (i : Int) u] (getItem (.ref l) (.int (i : Int) u)) := by with_unfolding_all rfl) :
    wpAny (model prog w) A (subscriptTail value slice (.ref l) (.int (i : Int) u)) Q E s :=
  item_anyK hl hi (by omega) (by omega) (by omega) (by intro t; rw [Int.toNat_natCast]; exact h t) hs
end

/-- a pair of ints, and where it lies -/
abbrev Pr := Addr × (Int × Int) × Tok × Tok
abbrev prE (e : Pr) : Addr × Obj := (e.1, tupOf #[.int e.2.1.1 e.2.2.1, .int e.2.1.2 e.2.2.2])
/-- a tuple is none of the tables -/
theorem tup_ne_TT {h₀ h : Heap} {L x : Addr} {ps : Array Value} {c1 c2 : Addr × Obj} {led : List (Addr × Obj)} (N : News h₀ L h led) (h1 : (x, tupOf ps) ∈ led) (h2 : ∀ r ∈ TT (some c1) (some c2), r ∈ led) (k1 : CodeOk qual1 (some c1)) (k2 : CodeOk qual2 (some c2)) :
    ∀ r ∈ TT (some c1) (some c2), x ≠ r.1 := by
  have e1 := (N _ h1).1
  have code : ∀ (c : Addr × Obj) (cvs : Array Value), c ∈ TT (some c1) (some c2) → c.2.data = .fields cvs → x ≠ c.1 := by
    intro c cvs hc hd e
    have e2 := (N _ (h2 c hc)).1
    dsimp only at e1
    rw [← e, e1] at e2
    cases e2' : c.2 with
    | mk cls dict data slots => 
      rw [e2'] at hd e2
      cases e2
      cases hd
  have tab : ∀ (P : Addr) (qs : Array Value), (P, tabObj qs) ∈ TT (some c1) (some c2) → x ≠ P := by
    intro P qs hc e
    have e2 := (N _ (h2 _ hc)).1
    dsimp only at e1 e2
    rw [← e, e1] at e2
    cases e2
  intro r hr
  have hr' := hr
  simp only [TT, tabL, List.cons_append, List.nil_append, List.mem_cons, List.not_mem_nil, or_false] at hr'
  obtain ⟨cv1, t1, d1, _⟩ := k1
  obtain ⟨cv2, t2, d2, _⟩ := k2
  rcases hr' with rfl | rfl | rfl | rfl
  · exact tab _ _ hr
  · exact code _ cv1 hr d1
  · exact tab _ _ hr
  · exact code _ cv2 hr d2
theorem cor_getD {M a b c d : Int} (h : Cor M a b c d) : ∀ i : Nat, i < 4 → -M ≤ [a, a + b, a + c, a + b + c + d].getD i 0 ∧ [a, a + b, a + c, a + b + c + d].getD i 0 ≤ M
  | 0, _ => h.1
  | 1, _ => h.2.1
  | 2, _ => h.2.2.1
  | 3, _ => h.2.2.2
  | n + 4, h => by omega
theorem one_getD {x y z t : Int} (h : OneSign x y z t) : ∀ i : Nat, i < 4 → [x, y, z, t].getD i 0 ≠ 0
  | 0, _ => by show x ≠ 0; rcases h with h | h <;> omega
  | 1, _ => by show y ≠ 0; rcases h with h | h <;> omega
  | 2, _ => by show z ≠ 0; rcases h with h | h <;> omega
  | 3, _ => by show t ≠ 0; rcases h with h | h <;> omega
  | n + 4, h => by omega
section
variable {h₀ h : Heap} {L I C D : Addr} {m : Str → Option Value} {s : Shared} {tk : Nat} {oI oC oD : Obj} {bs : List (Addr × Obj)} {es : List Pr} {x : Addr} {q r : Int} {u1 u2 : Tok} {T0 : List (Addr × Obj)} {R : Value → List (Addr × Obj) → Prop}
/-- the end of a turn that made a pair by a call -/
theorem told_end {c1 c2 : Addr × Obj} (F : Fr h₀ L h m) (N : News h₀ L h ((x, tupOf #[.int q u1, .int r u2]) :: (TT (some c1) (some c2) ++ ((I, oI) :: (C, oC) :: (D, oD) :: (bs ++ es.map prE))))) (off : LCg.Off3 I C D (bs ++ (es.map prE ++ T0)))
    (hx : ∀ q ∈ (I, oI) :: (C, oC) :: (D, oD) :: (bs ++ es.map prE), @Ne Nat q.1 x) (hap : ∀ q ∈ (I, oI) :: (C, oC) :: (D, oD) :: (bs ++ es.map prE), ∀ r ∈ TT (some c1) (some c2), q.1 ≠ r.1)
    (k : R (.ref x) (bs ++ ((es ++ [(x, (q, r), u1, u2)]).map prE ++ TT (some c1) (some c2)))) :
    LCg.CompEnd h₀ L m s I oI C oC D oD (fun _ => True) R (.ref x) { s with heap := h, toks := tk } := by
  refine LCg.CompEnd.intro F N _ ?_ ?_ trivial k
  · intro p hp
    simp only [List.map_append, List.map_cons, List.map_nil, List.mem_cons, List.mem_append, List.not_mem_nil, or_false] at hp ⊢
    rcases hp with hp | hp | hp | hp | (hp | hp) | hp <;> simp only [hp, true_or, or_true]
    all_goals exact Or.inr (Or.inl hp)
  · refine LCg.Off3.of ?_
    have of := off.mem
    intro p hp
    simp only [List.map_append, List.map_cons, List.map_nil, List.mem_cons, List.mem_append, List.not_mem_nil, or_false] at hp
    rcases hp with hp | (hp | hp) | hp
    · exact of p (List.mem_append_left _ hp)
    · exact of p (List.mem_append_right _ (List.mem_append_left _ hp))
    · subst hp
      exact ⟨fun e => hx _ (.head _) e.symm, fun e => hx _ (.tail _ (.head _)) e.symm, fun e => hx _ (.tail _ (.tail _ (.head _))) e.symm⟩
    · have hp : p ∈ TT (some c1) (some c2) := List.mem_append.mpr hp
      exact ⟨fun e => hap _ (.head _) p hp e.symm, fun e => hap _ (.tail _ (.head _)) p hp e.symm, fun e => hap _ (.tail _ (.tail _ (.head _))) p hp e.symm⟩
theorem told_apart {c1 c2 : Addr × Obj} (N : News h₀ L h ((x, tupOf #[.int q u1, .int r u2]) :: (TT (some c1) (some c2) ++ ((I, oI) :: (C, oC) :: (D, oD) :: (bs ++ es.map prE))))) (k1 : CodeOk qual1 (some c1)) (k2 : CodeOk qual2 (some c2))
    (hap : ∀ q ∈ (I, oI) :: (C, oC) :: (D, oD) :: (bs ++ es.map prE), ∀ r ∈ TT (some c1) (some c2), q.1 ≠ r.1) :
    ∀ p ∈ bs ++ (es ++ [(x, (q, r), u1, u2)]).map prE, ∀ r ∈ TT (some c1) (some c2), p.1 ≠ r.1 := by
  intro p hp
  simp only [List.map_append, List.map_cons, List.map_nil, List.mem_cons, List.mem_append, List.not_mem_nil, or_false] at hp
  rcases hp with hp | hp | hp
  · exact hap p (.tail _ (.tail _ (.tail _ (List.mem_append_left _ hp))))
  · exact hap p (.tail _ (.tail _ (.tail _ (List.mem_append_right _ hp))))
  · subst hp
    exact tup_ne_TT N (.head _) (fun r hr => .tail _ (List.mem_append_left _ hr)) k1 k2
end
theorem mem_told {α : Type} {i c d q : α} {bs es T : List α} (h : q ∈ T ++ (i :: c :: d :: (bs ++ es))) : q ∈ i :: c :: d :: (bs ++ (es ++ T)) := by
  simp only [List.mem_cons, List.mem_append] at h ⊢
  rcases h with h | h | h | h | h | h <;> simp only [h, true_or, or_true]
theorem apart_told {I C D : Addr} {oI oC oD : Obj} {bs es T : List (Addr × Obj)} (off : LCg.Off3 I C D (bs ++ (es ++ T))) (hap : ∀ q ∈ bs ++ es, ∀ r ∈ T, q.1 ≠ r.1) : ∀ q ∈ (I, oI) :: (C, oC) :: (D, oD) :: (bs ++ es), ∀ r ∈ T, q.1 ≠ r.1 := by
  intro q hq r hr
  have of := off.mem r (List.mem_append_right _ (List.mem_append_right _ hr))
  rcases List.mem_cons.mp hq with rfl | hq
  · exact fun e => of.1 e.symm
  · rcases List.mem_cons.mp hq with rfl | hq
    · exact fun e => of.2.1 e.symm
    · rcases List.mem_cons.mp hq with rfl | hq
      · exact fun e => of.2.2 e.symm
      · exact hap q hq r hr
/-- the pairs of quotient and rest, one by one -/
abbrev dms (ts fs : List Int) (i : Nat) : List (Int × Int) := (List.range i).map fun j => ((ts.getD j 0).fdiv (fs.getD j 0), (ts.getD j 0).fmod (fs.getD j 0))
theorem dms_snoc (ts fs : List Int) (i : Nat) : dms ts fs (i + 1) = dms ts fs i ++ [((ts.getD i 0).fdiv (fs.getD i 0), (ts.getD i 0).fmod (fs.getD i 0))] := by
  unfold dms; rw [List.range_succ, List.map_append]; rfl
inductive Four (es : List Pr) (p0 p1 p2 p3 : Int × Int) : Prop
  | mk (a0 a1 a2 a3 : Addr) (t0 t1 t2 t3 u0 u1 u2 u3 : Tok) (e : es = [(a0, p0, t0, u0), (a1, p1, t1, u1), (a2, p2, t2, u2), (a3, p3, t3, u3)])
theorem prs_cons {es : List Pr} {p : Int × Int} {ps : List (Int × Int)} (h : es.map (·.2.1) = p :: ps) : ∃ (a : Addr) (t u : Tok) (r : List Pr), es = (a, p, t, u) :: r ∧ r.map (·.2.1) = ps := by
  cases es with
  | nil => cases h
  | cons e r =>
    injection h with h1 h2
    subst h1
    exact ⟨e.1, e.2.2.1, e.2.2.2, r, rfl, h2⟩
theorem four_prs {es : List Pr} {p0 p1 p2 p3 : Int × Int} (h : es.map (·.2.1) = [p0, p1, p2, p3]) : Four es p0 p1 p2 p3 := by
  obtain ⟨a0, t0, u0, r0, rfl, h0⟩ := prs_cons h
  obtain ⟨a1, t1, u1, r1, rfl, h1⟩ := prs_cons h0
  obtain ⟨a2, t2, u2, r2, rfl, h2⟩ := prs_cons h1
  obtain ⟨a3, t3, u3, r3, rfl, h3⟩ := prs_cons h2
  cases r3 with
  | nil => exact ⟨_, _, _, _, _, _, _, _, _, _, _, _, rfl⟩
  | cons e r => cases h3
theorem dms_four (x y z t e f g h : Int) : dms [x, y, z, t] [e, f, g, h] 4 = [(x.fdiv e, x.fmod e), (y.fdiv f, y.fmod f), (z.fdiv g, z.fmod g), (t.fdiv h, t.fmod h)] := rfl
theorem cor_pylong {M b : Int} {a : Int} (hM : M < 2 ^ 150) (h : -M ≤ b ∧ b ≤ M) : Builtin.divisionGoesByPylong a b = false :=
  PyProof.noPylong_of_log2 (Nat.lt_trans (log2_lt_of (show b.natAbs < 2 ^ 400 by
    have : b.natAbs < 2 ^ 150 := by omega
    exact Nat.lt_trans this (by decide +kernel)) (by decide)) (by decide))
section
variable {h₀ h : Heap} {L I C D : Addr} {m : Str → Option Value} {s : Shared} {tk : Nat} {oI oC oD : Obj} {bs : List (Addr × Obj)} {es : List Pr} {x : Addr} {q r : Int} {u1 u2 : Tok} {R : Value → List (Addr × Obj) → Prop}
/-- the end of a turn that made a pair itself -/
theorem pair_end (F : Fr h₀ L h m) (N : News h₀ L h ((x, tupOf #[.int q u1, .int r u2]) :: ((I, oI) :: (C, oC) :: (D, oD) :: (bs ++ es.map prE)))) (off : LCg.Off3 I C D (bs ++ es.map prE))
    (hx : ∀ q ∈ (I, oI) :: (C, oC) :: (D, oD) :: (bs ++ es.map prE), @LT.lt Nat _ q.1 x)
    (k : R (.ref x) (bs ++ (es ++ [(x, (q, r), u1, u2)]).map prE)) :
    LCg.CompEnd h₀ L m s I oI C oC D oD (fun _ => True) R (.ref x) { s with heap := h, toks := tk } := by
  refine LCg.CompEnd.intro F N _ ?_ ?_ trivial k
  · intro p hp
    simp only [List.map_append, List.map_cons, List.map_nil, List.mem_cons, List.mem_append, List.not_mem_nil, or_false] at hp ⊢
    rcases hp with hp | hp | hp | hp | hp | hp <;> simp only [hp, true_or, or_true]
  · refine LCg.Off3.of ?_
    have of := off.mem
    intro p hp
    simp only [List.map_append, List.map_cons, List.map_nil, List.mem_cons, List.mem_append, List.not_mem_nil, or_false] at hp
    rcases hp with hp | hp | hp
    · exact of p (List.mem_append_left _ hp)
    · exact of p (List.mem_append_right _ hp)
    · subst hp
      exact ⟨Nat.ne_of_gt (hx _ (.head _)), Nat.ne_of_gt (hx _ (.tail _ (.head _))), Nat.ne_of_gt (hx _ (.tail _ (.tail _ (.head _))))⟩
end
theorem mem_comm {α : Type} {d q : α} {A B : List α} (h : q ∈ d :: (B ++ A)) : q ∈ d :: (A ++ B) := by
  simp only [List.mem_cons, List.mem_append] at h ⊢
  rcases h with h | h | h <;> simp only [h, true_or, or_true]
theorem off1_mem {D : Addr} : ∀ {l : List (Addr × Obj)}, LCg.Off1 D l → ∀ p ∈ l, @Ne Nat p.1 D
  | [], _, _, h => nomatch h
  | _ :: _, x, p, h => by
    rcases List.mem_cons.mp h with rfl | h
    · exact x.1
    · exact off1_mem x.2 p h
end Mine
end

section
open PySem PySem.W PyProof.Rows PySem.Calls
namespace Mine
/-- the lists of the loop lie apart -/
structure Apart (lu ll lf lr c1 c2 : Addr) (TL : List (Addr × Obj)) : Prop where
  a_ul : @Ne Nat lu ll
  a_uf : @Ne Nat lu lf
  a_ur : @Ne Nat lu lr
  a_lr : @Ne Nat ll lr
  a_fr : @Ne Nat lf lr
  a_u1 : @Ne Nat lu c1
  a_u2 : @Ne Nat lu c2
  a_l1 : @Ne Nat ll c1
  a_l2 : @Ne Nat ll c2
  a_f1 : @Ne Nat lf c1
  a_f2 : @Ne Nat lf c2
  a_tu : ∀ q ∈ TL, @Ne Nat q.1 lu
  a_tl : ∀ q ∈ TL, @Ne Nat q.1 ll
  a_tf : ∀ q ∈ TL, @Ne Nat q.1 lf
  a_tr : ∀ q ∈ TL, @Ne Nat q.1 lr
  a_t1 : ∀ q ∈ TL, @Ne Nat q.1 c1
  a_t2 : ∀ q ∈ TL, @Ne Nat q.1 c2
/-- what the coming out hands back -/
inductive OutRes (w0 w1 w2 w3 M : Int) (due : List Int) (lr : Addr) (rest : List (Addr × Obj)) (r : Value) (led' : List (Addr × Obj)) : Prop
  | mk (x lu ll : Addr) (a b c d e f g h : Int) (ta tb tc td te tf tg th : Tok) (n1 n2 : Nat) (rvs : List Value) (row : List Int) (pn : Nat) (u1 u2 : Option (Addr × Obj))
    (j0 : r = .ref x)
    (j1 : IntsAre rvs row)
    (j2 : CodeOk qual1 u1)
    (j3 : CodeOk qual2 u2)
    (j4 : Out w0 w1 w2 w3 M due a b c d e f g h row)
    (j5 : led' = ((x, tupOf #[.ref lu, .ref ll]) :: L4 lu a b c d ta tb tc td n1 :: L4 ll e f g h te tf tg th n2 :: (lr, listOf (List.toArray rvs) pn) :: TT u1 u2) ++ rest)
    (j6 : (∀ q ∈ rest, ∀ r ∈ ((x, tupOf #[.ref lu, .ref ll]) :: L4 lu a b c d ta tb tc td n1 :: L4 ll e f g h te tf tg th n2 :: (lr, listOf (List.toArray rvs) pn) :: TT u1 u2), q.1 ≠ r.1))
    (j7 : @Ne Nat lu ll)
    (j8 : @Ne Nat lu lr)
    (j9 : @Ne Nat ll lr)
    (j10 : (∀ r ∈ TT u1 u2, r.1 ≠ lu ∧ r.1 ≠ ll ∧ r.1 ≠ lr)) : OutRes w0 w1 w2 w3 M due lr rest r led'
/-- what holds between the turns -/
inductive LoopJ (w0 w1 w2 w3 M : Int) (due : List Int) (lr L' : Addr) (n : Nat) (m : Str → Option Value) (news : List (Addr × Obj)) : Prop
  | mk (mr : Str → Option Value) (ua uq : Option Value) (lu ll lf : Addr) (a b c d e f g h : Int) (ta tb tc td te tf tg th t1 t2 t3 t4 : Tok) (n1 n2 n3 : Nat) (oT oF : Obj) (xT : Option Value) (rvs : List Value) (row : List Int) (pn : Nat) (v1 v2 : Option (Addr × Obj))
    (j0 : (m = fun y => if y = Str.ofString "told" then ua else if y = Str.ofString "quotient" then uq else if y = Str.ofString "upper" then some (.ref lu) else if y = Str.ofString "lower" then some (.ref ll) else if y = Str.ofString "row" then some (.ref lr) else mr y))
    (j1 : news = (L' + 1 + 1, oT) :: (L' + 1, oF) :: L4 lf e (e + f) (e + g) (e + f + g + h) t1 t2 t3 t4 n3 :: L4 lu a b c d ta tb tc td n1 :: L4 ll e f g h te tf tg th n2 :: (lr, listOf (List.toArray rvs) pn) :: TT v1 v2)
    (j2 : oT.data = .cell xT)
    (j3 : oF.data = .cell (some (.ref lf)))
    (j4 : IntsAre rvs row)
    (j5 : CodeOk qual1 v1)
    (j6 : CodeOk qual2 v2)
    (j7 : Out w0 w1 w2 w3 M due a b c d e f g h row)
    (j8 : n = (euclid (valW w0 w1 w2 w3 a b c d) (valW w0 w1 w2 w3 e f g h)).length)
    (j9 : Apart lu ll lf lr (L' + 1) (L' + 1 + 1) (TT v1 v2)) : LoopJ w0 w1 w2 w3 M due lr L' n m news
/-- what holds between the turns of the comprehension that calls int_divmod -/
inductive ToldJ (ts fs : List Int) (L' lr : Addr) (bs : List (Addr × Obj)) (i : Nat) (ys : List Value) (news : List (Addr × Obj)) : Prop
  | mk (es : List Pr) (v1 v2 : Option (Addr × Obj)) (j0 : es.map (·.2.1) = dms ts fs i) (j1 : ys = es.map (fun q => .ref q.1)) (j2 : news = bs ++ (es.map prE ++ TT v1 v2)) (j3 : CodeOk qual1 v1) (j4 : CodeOk qual2 v2)
    (j5 : ∀ q ∈ bs ++ es.map prE, ∀ r ∈ TT v1 v2, q.1 ≠ r.1) (j6 : ∀ q ∈ es.map prE, @Ne Nat q.1 (L' + 1) ∧ @Ne Nat q.1 (L' + 1 + 1) ∧ @Ne Nat q.1 lr) : ToldJ ts fs L' lr bs i ys news
/-- what holds between the turns of the comprehension that divides itself -/
inductive PairJ (ts fs : List Int) (LD : List (Addr × Obj)) (i : Nat) (ys : List Value) (news : List (Addr × Obj)) : Prop
  | mk (es : List Pr) (j0 : es.map (·.2.1) = dms ts fs i) (j1 : ys = es.map (fun q => .ref q.1)) (j2 : news = LD ++ es.map prE) : PairJ ts fs LD i ys news
local macro_rules | `(tactic| walk_at "exec Assign cons ListComp") => `(tactic| refine Hold.out ?_)
local macro_rules | `(tactic| walk_at "call builtin:list.append") => `(tactic| refine Hold.out ?_)
local macro_rules | `(tactic| walk_at "newList") => `(tactic| refine Hold.out ?_)
local macro_rules | `(tactic| walk_at "WhileStep2") => `(tactic| refine Hold.out ?_)
local macro_rules | `(tactic| walk_at "newTuple") => `(tactic| refine Hold.out ?_)
local macro_rules | `(tactic| walk_at "binaryOp FloorDiv int int") => `(tactic| refine Hold.out ?_)
local macro_rules | `(tactic| walk_at "binaryOp Mod int int") => `(tactic| refine Hold.out ?_)
local macro_rules | `(tactic| walk_at "subscriptTail Name Name ref int") => `(tactic| refine Hold.out ?_)
local macro_rules | `(tactic| walk_at "CompSrc") => `(tactic| refine Hold.out ?_)
local macro_rules | `(tactic| walk_at "eval ListComp") => `(tactic| (k_here; k_dflt (refine LCg.ListComp_U (F₀ := by k_asm) (by with_unfolding_all rfl) (by decide) (by rfl) (by decide) (by rfl) ?_); k_dflt lcg_toSrc))
local macro_rules | `(tactic| walk_at "CompRest") => `(tactic| refine Hold.out ?_)
local macro_rules | `(tactic| walk_at "CompEnd") => `(tactic| refine Hold.out ?_)
local macro_rules | `(tactic| walk_at "FinA") => `(tactic| refine Hold.out ?_)
local macro_rules | `(tactic| walk_at "FinE") => `(tactic| refine Hold.out ?_)
local macro_rules | `(tactic| walk_at "exec While") => `(tactic| refine Hold.out ?_)
set_option maxRecDepth 100000 in
set_option maxHeartbeats 8000000 in
theorem law_come_out (w : World) (lu ll lr : Addr) (a b c d e f g h : Int) (ta tb tc td te tf tg th : Tok) (n1 n2 : Nat) (rvs : List Value) (row : List Int) (pn : Nat) (t1 t2 : Option (Addr × Obj)) (rest : List (Addr × Obj))
    (w0 w1 w2 w3 M : Int) (due : List Int)
    (k1 : CodeOk qual1 t1) (k2 : CodeOk qual2 t2) (hv : IntsAre rvs row) (hM : M < 2 ^ 150) (hw : Weights w0 w1 w2 w3) (hdue : due.length < 2 ^ 20) (O : Out w0 w1 w2 w3 M due a b c d e f g h row)
    (hul : @Ne Nat lu ll) (hlu : @Ne Nat lu lr) (hll : @Ne Nat ll lr) (hl : ∀ r ∈ TT t1 t2, r.1 ≠ lr) (htl : ∀ r ∈ TT t1 t2, r.1 ≠ ll) (htu : ∀ r ∈ TT t1 t2, r.1 ≠ lu)
    (hr : ∀ q ∈ rest, ∀ r ∈ (L4 lu a b c d ta tb tc td n1 :: L4 ll e f g h te tf tg th n2 :: (lr, listOf rvs.toArray pn) :: TT t1 t2), q.1 ≠ r.1) :
    Meet w 94 270 [.ref lu, .ref ll, .ref lr] ((L4 lu a b c d ta tb tc td n1 :: L4 ll e f g h te tf tg th n2 :: (lr, listOf rvs.toArray pn) :: TT t1 t2) ++ rest) (OutRes w0 w1 w2 w3 M due lr rest) := by
  unfold Meet
  k_fill
  intro p loose mean mg mb dp un gd cn cs a' ccd cl outer A₀ base h₀ L m s Q E B F X N T C1 C2 hk hd hu hret
  refine wpAny_call ?_
  k_dflt (refine' enter_defC (led := (L4 lu a b c d ta tb tc td n1 :: L4 ll e f g h te tf tg th n2 :: (lr, listOf rvs.toArray pn) :: TT t1 t2)) (rest := rest) B F X N T ?kA ?kF ?kK ?k6 ?k7 ?k8 ?k9 ?kB ?kD hr ?_ ?c2 ?c3 ?c4; (case kA => exact rfl); (case kF => exact rfl); (case kK => exact hk); (case k6 => k_is); (case k7 => k_is); (case k8 => ktr_room); (case k9 => exact BindsTo.of_eq rfl); (case kB => exact rfl); (case kD => decide +kernel); (case c2 => exact rfl); (case c3 => exact rfl); (case c4 => exact rfl); k_whole; intro g' L' h' tk' cells' FG' F' N' Y' B' X' T' NR l1; k_cells Y'; (try simp only [List.cons_append, List.nil_append] at N'); (try dsimp only); (try k_fold))
  rename_i oT oF dT dF
  have lU : @LT.lt Nat _ lu L' := l1 (lu, _) (List.mem_append_left _ (.head _))
  have lL : @LT.lt Nat _ ll L' := l1 (ll, _) (List.mem_append_left _ (.tail _ (.head _)))
  have lR : @LT.lt Nat _ lr L' := l1 (lr, _) (List.mem_append_left _ (.tail _ (.tail _ (.head _))))
  have lT : ∀ q ∈ TT t1 t2, @LT.lt Nat _ q.1 L' := fun q hq => l1 q (List.mem_append_left _ (.tail _ (.tail _ (.tail _ hq))))
  clear N l1
  refine wp_hide ?_
  intro Q0 hQ0
  k_steps
  refine hold_in ?_
  have hap1 : ∀ q ∈ (L' + 1 + 1, oT) :: (L' + 1, oF) :: L4 lu a b c d ta tb tc td n1 :: (lr, listOf rvs.toArray pn) :: TT t1 t2, ∀ r ∈ [L4 ll e f g h te tf tg th n2], q.1 ≠ r.1 := by
    intro q hq r hr'
    rw [List.mem_singleton] at hr'
    subst hr'
    simp only [List.mem_cons] at hq
    rcases hq with rfl | rfl | rfl | rfl | hq
    · refine neN ?_; dsimp only; omega
    · refine neN ?_; dsimp only; omega
    · exact hul
    · exact fun e => hll e.symm
    · exact htl q hq
  k_dflt (refine' Meet.use (law_corners w ll e f g h te tf tg th n2 _ hap1) ?k1 ?k2 ?k3 ?k4 ?k5 ?k6 ?k7 ?kK ?kd ?ku ?_; (case k1 => k_asm); (case k2 => k_asm); (case k3 => k_asm); (case k4 => exact news_sub N' (List.forall_mem_cons.mpr ⟨(.tail _ (.tail _ (.tail _ (.head _)))), List.forall_mem_cons.mpr ⟨(.head _), List.forall_mem_cons.mpr ⟨(.tail _ (.head _)), List.forall_mem_cons.mpr ⟨(.tail _ (.tail _ (.head _))), List.forall_mem_cons.mpr ⟨(.tail _ (.tail _ (.tail _ (.tail _ (.head _))))), fun q hq => .tail _ (.tail _ (.tail _ (.tail _ (.tail _ (hq)))))⟩⟩⟩⟩⟩)); (case k5 => k_asm); (case k6 => k_asm); (case k7 => k_asm); (case kK => exact rfl); (case kd => ktr_room); (case ku => ktr_units))
  clear F' N'
  rintro r1 led1 hh1 tk1 ⟨lf, u1, u2, u3, u4, n3, rfl, rfl, ap1, lt1⟩ F' N'
  simp only [List.cons_append, List.nil_append] at N'
  dsimp only
  have hTc1 : ∀ q ∈ TT t1 t2, @Ne Nat q.1 (L' + 1) := fun q hq => by have := lT q hq; omega
  have hTc2 : ∀ q ∈ TT t1 t2, @Ne Nat q.1 (L' + 1 + 1) := fun q hq => by have := lT q hq; omega
  have lf1 : @Ne Nat (L' + 1) lf := ap1 (L' + 1, oF) (.tail _ (.head _))
  have lf2 : @Ne Nat (L' + 1 + 1) lf := ap1 (L' + 1 + 1, oT) (.head _)
  have lf3 : @Ne Nat lr lf := ap1 (lr, _) (.tail _ (.tail _ (.tail _ (.head _))))
  k_steps
  rename_i h6 oF' F5 N5 dF'
  refine hold_in (While_inv2 (LoopJ w0 w1 w2 w3 M due lr L') (n₀ := (euclid (valW w0 w1 w2 w3 a b c d) (valW w0 w1 w2 w3 e f g h)).length) F5 (news_sub (l' := (L' + 1 + 1, oT) :: (L' + 1, oF') :: L4 lf e (e + f) (e + g) (e + f + g + h) u1 u2 u3 u4 n3 :: L4 lu a b c d ta tb tc td n1 :: L4 ll e f g h te tf tg th n2 :: (lr, listOf (List.toArray rvs) pn) :: TT t1 t2) N5 (List.forall_mem_cons.mpr ⟨(.tail _ (.tail _ (.head _))), List.forall_mem_cons.mpr ⟨(.tail _ (.tail _ (.tail _ (.head _)))), List.forall_mem_cons.mpr ⟨(.head _), List.forall_mem_cons.mpr ⟨(.tail _ (.tail _ (.tail _ (.tail _ (.head _))))), List.forall_mem_cons.mpr ⟨(.tail _ (.head _)), List.forall_mem_cons.mpr ⟨(.tail _ (.tail _ (.tail _ (.tail _ (.tail _ (.head _)))))), fun q hq => .tail _ (.tail _ (.tail _ (.tail _ (.tail _ (.tail _ (hq))))))⟩⟩⟩⟩⟩⟩)) ?start ?turn ?pass)
  case start => exact ⟨_, _, _, lu, ll, lf, a, b, c, d, e, f, g, h, ta, tb, tc, td, te, tf, tg, th, u1, u2, u3, u4, n1, n2, n3, oT, oF', _, rvs, row, pn, t1, t2, map5 rfl rfl rfl rfl rfl, rfl, dT, dF', hv, k1, k2, O, rfl, hul, ap1 (lu, _) (.tail _ (.tail _ (.head _))), hlu, hll, fun e => lf3 e.symm, Nat.ne_of_lt (Nat.lt_succ_of_lt lU), Nat.ne_of_lt (Nat.lt_succ_of_lt (Nat.lt_succ_of_lt lU)), Nat.ne_of_lt (Nat.lt_succ_of_lt lL), Nat.ne_of_lt (Nat.lt_succ_of_lt (Nat.lt_succ_of_lt lL)), fun e => lf1 e.symm, fun e => lf2 e.symm, htu, htl, fun q hq => ap1 q (.tail _ (.tail _ (.tail _ (.tail _ (hq))))), hl, hTc1, hTc2⟩
  case turn =>
    clear F5 N5
    rintro n m news h5 tk5 F5 N5 ⟨mr, ua, uq, lu, ll, lf, a, b, c, d, e, f, g, h, ta, tb, tc, td, te, tf, tg, th, t1, t2, t3, t4, n1, n2, n3, oT, oF, xT, rvs, row, pn, v1, v2, em, en, dT, dF, hv, k1, k2, O, rfl, AP⟩
    obtain ⟨a1, a2, a3, a4, a5, a6, a7, a8, a9, a10, a11, a12, a13, a14, a15, a16, a17⟩ := AP
    refine wpAny_mono (Q := fun bb s₂ => ∃ hh tk, s₂ = { s with heap := hh, toks := tk } ∧ Fr g' L' hh m ∧ News g' L' hh news ∧ (bb = true → OneSign e (e + f) (e + g) (e + f + g + h))) ?test ?cont (fun _ _ e => e)
    case test =>
      subst em en
      k_steps
      all_goals first | assumption | contradiction | (unfold OneSign; omega)
    case cont =>
      clear F5 N5
      rintro bb s₂ ⟨h6, tk6, rfl, F5, N5, hs⟩
      subst em en
      dsimp only
      cases bb
      · rw [if_neg (by simp)]
        generalize hTL : TT v1 v2 = TL at N5 a12 a13 a14 a15 a16 a17
        k_steps
        refine hold_in (kup_newTuple F5 N5 ?_ (Nat.le_of_ble_eq_true rfl))
        clear F5 N5
        intro xx hh5 F5 N5 lxx
        clear lxx
        k_steps
        refine hQ0 _ _ ?_
        (try dsimp only)
        k_steps
        rename Fr g' _ _ _ => F2
        rename News g' _ _ _ => N2
        rename News h₀ _ _ _ => N1
        have hga := ground_apart NR N2
        subst hTL
        refine hret _ _ _ _ ⟨xx, lu, ll, a, b, c, d, e, f, g, h, ta, tb, tc, td, te, tf, tg, th, n1, n2, rvs, row, pn, v1, v2, rfl, hv, k1, k2, O, rfl, fun q hq r hr' => hga q hq r ((List.forall_mem_cons.mpr ⟨(.head _), List.forall_mem_cons.mpr ⟨(.tail _ (.tail _ (.tail _ (.tail _ (.head _))))), List.forall_mem_cons.mpr ⟨(.tail _ (.tail _ (.tail _ (.tail _ (.tail _ (.head _)))))), List.forall_mem_cons.mpr ⟨(.tail _ (.tail _ (.tail _ (.tail _ (.tail _ (.tail _ (.head _))))))), fun q hq => .tail _ (.tail _ (.tail _ (.tail _ (.tail _ (.tail _ (.tail _ (hq)))))))⟩⟩⟩⟩) r hr'), a1, a3, a4, fun r hr' => ⟨a12 r hr', a13 r hr', a15 r hr'⟩⟩ (by assumption) (news_join (news_sub N1 (List.forall_mem_cons.mpr ⟨(.head _), List.forall_mem_cons.mpr ⟨(.tail _ (.tail _ (.tail _ (.tail _ (.head _))))), List.forall_mem_cons.mpr ⟨(.tail _ (.tail _ (.tail _ (.tail _ (.tail _ (.head _)))))), List.forall_mem_cons.mpr ⟨(.tail _ (.tail _ (.tail _ (.tail _ (.tail _ (.tail _ (.head _))))))), fun q hq => .tail _ (.tail _ (.tail _ (.tail _ (.tail _ (.tail _ (.tail _ (hq)))))))⟩⟩⟩⟩)) (rest_back NR F2))
      · rw [if_pos rfl]
        have hs := hs rfl
        generalize hTL : TT v1 v2 = TL at N5 a12 a13 a14 a15 a16 a17
        k_steps
        refine hold_in ?_
        have hap1 : ∀ q ∈ (L' + 1 + 1, oT) :: (L' + 1, oF) :: L4 lf e (e + f) (e + g) (e + f + g + h) t1 t2 t3 t4 n3 :: L4 ll e f g h te tf tg th n2 :: (lr, listOf (List.toArray rvs) pn) :: TL, ∀ r ∈ [L4 lu a b c d ta tb tc td n1], q.1 ≠ r.1 := by
          intro q hq r hr'
          rw [List.mem_singleton] at hr'
          subst hr'
          simp only [List.mem_cons] at hq
          rcases hq with rfl | rfl | rfl | rfl | rfl | hq
          · exact fun e => a7 e.symm
          · exact fun e => a6 e.symm
          · exact fun e => a2 e.symm
          · exact fun e => a1 e.symm
          · exact fun e => a3 e.symm
          · exact a12 q hq
        k_dflt (refine' Meet.use (law_corners w lu a b c d ta tb tc td n1 _ hap1) ?k1 ?k2 ?k3 ?k4 ?k5 ?k6 ?k7 ?kK ?kd ?ku ?_; (case k1 => k_asm); (case k2 => k_asm); (case k3 => k_asm); (case k4 => exact news_sub N5 (List.forall_mem_cons.mpr ⟨(.tail _ (.tail _ (.tail _ (.head _)))), List.forall_mem_cons.mpr ⟨(.head _), List.forall_mem_cons.mpr ⟨(.tail _ (.head _)), List.forall_mem_cons.mpr ⟨(.tail _ (.tail _ (.head _))), List.forall_mem_cons.mpr ⟨(.tail _ (.tail _ (.tail _ (.tail _ (.head _))))), List.forall_mem_cons.mpr ⟨(.tail _ (.tail _ (.tail _ (.tail _ (.tail _ (.head _)))))), fun q hq => .tail _ (.tail _ (.tail _ (.tail _ (.tail _ (.tail _ (hq))))))⟩⟩⟩⟩⟩⟩)); (case k5 => k_asm); (case k6 => k_asm); (case k7 => k_asm); (case kK => exact rfl); (case kd => ktr_room); (case ku => ktr_units))
        clear F5 N5
        rintro r7 led7 h7 tk7 ⟨lt, x1, x2, x3, x4, n4, rfl, rfl, ap7, lt7⟩ F7 N7
        simp only [List.cons_append, List.nil_append] at N7
        have b1 : @Ne Nat lt (L' + 1) := fun e => ap7 (L' + 1, oF) (.tail _ (.head _)) e.symm
        have b2 : @Ne Nat lt (L' + 1 + 1) := fun e => ap7 (L' + 1 + 1, oT) (.head _) e.symm
        have b3 : @Ne Nat lt lr := fun e => ap7 (lr, _) (.tail _ (.tail _ (.tail _ (.tail _ (.head _))))) e.symm
        have b4 : ∀ q ∈ TL, @Ne Nat q.1 lt := fun q hq => ap7 q (.tail _ (.tail _ (.tail _ (.tail _ (.tail _ hq)))))
        dsimp only
        k_steps
        refine hold_in ?_
        k_dflt (refine' LCg.Assign_ListComp_U (F₀ := ?k0) ?k1 ?k2 ?k3 ?k4 ?k5 ?k6 ?k7 ?k8 ?k9 ?_)
        case k0 => k_asm
        case k1 => rfl
        case k2 => with_unfolding_all rfl
        case k3 => with_unfolding_all rfl
        case k4 => decide
        case k5 => rfl
        case k6 => decide
        case k7 => rfl
        case k8 => rfl
        case k9 => rfl
        k_steps
        rename_i h8 oT' F8 N8 dT' _ _ _ _ _ hR9 F9 N9 hk9
        refine hold_in ?_
        k_dflt (refine' LCg.CompSrc.range (n := 4) ?c1 F9 N9 hR9 ?c2 ?c3 ?c4 ?_)
        case c1 => rfl
        case c2 => decide
        case c3 => rfl
        case c4 => decide
        intro g9
        clear F9 N9 hR9 hk9 F8 N8
        subst hTL
        refine compRest_ind (n := 4) (ToldJ [a, a + b, a + c, a + b + c + d] [e, e + f, e + g, e + f + g + h] L' lr [L4 lt a (a + b) (a + c) (a + b + c + d) x1 x2 x3 x4 n4, L4 lu a b c d ta tb tc td n1, (L' + 1 + 1, oT'), (L' + 1, oF), L4 lf e (e + f) (e + g) (e + f + g + h) t1 t2 t3 t4 n3, L4 ll e f g h te tf tg th n2, (lr, listOf (List.toArray rvs) pn)]) ?turn ?done 4 0 [] _ rfl ⟨[], v1, v2, rfl, rfl, rfl, k1, k2, ?start, fun _ h => nomatch h⟩
        case start =>
          intro q hq r hr
          simp only [List.map_nil, List.append_nil, List.mem_cons, List.not_mem_nil, or_false] at hq
          rcases hq with rfl | rfl | rfl | rfl | rfl | rfl | rfl
          · exact fun e => b4 r hr e.symm
          · exact fun e => a12 r hr e.symm
          · exact fun e => a17 r hr e.symm
          · exact fun e => a16 r hr e.symm
          · exact fun e => a14 r hr e.symm
          · exact fun e => a13 r hr e.symm
          · exact fun e => a15 r hr e.symm
        case turn =>
          rintro i ys news hi ⟨es, v1, v2, hes, rfl, rfl, k1, k2, hap, hoff⟩ v I oI C oC D m₂ h9 tk9 E' ⟨t9, rfl⟩ hC hx F9 N9 off9 ne9
          rw [Int.zero_add] at hx
          have hA := cor_getD O.up i hi
          have hB := cor_getD O.lo i hi
          have hB0 := one_getD hs i hi
          simp only [List.cons_append, List.nil_append] at N9
          k_steps
          refine hold_in (item_nat (ns := [a, a + b, a + c, a + b + c + d]) (PySem.IsL.isList (n := n4) (N9 (lt, _) (by k_mem)).1) (.cons _ _ (.cons _ _ (.cons _ _ (.cons _ _ .nil)))) hi (by omega) ?_)
          intro t8
          k_steps
          refine hold_in (item_nat (ns := [e, e + f, e + g, e + f + g + h]) (PySem.IsL.isList (n := n3) (N9 (lf, _) (by k_mem)).1) (.cons _ _ (.cons _ _ (.cons _ _ (.cons _ _ .nil)))) hi (by omega) ?_)
          intro u8
          k_steps
          refine hold_in ?_
          k_dflt (refine' Meet.use (int_divmod w _ _ _ _ _ v1 v2 k1 k2 ?c1 ?c2 hB0 ?c3 ?c4 (apart_told off9 hap)) ?k1 ?k2 ?k3 ?k4 ?k5 ?k6 ?k7 ?kK ?kd ?ku ?_; (case c1 => omega); (case c2 => omega); (case c3 => omega); (case c4 => omega); (case k1 => k_asm); (case k2 => k_asm); (case k3 => k_asm); (case k4 => exact news_sub N9 (fun q hq => by have hq' := mem_told hq; exact hq')); (case k5 => k_asm); (case k6 => k_asm); (case k7 => k_asm); (case kK => exact rfl); (case kd => ktr_room); (case ku => ktr_units))
          clear F9 N9
          rintro r4 led4 h4 tk4 ⟨x, y1, y2, c1, c2, rfl, q1, q2, rfl, hap4, hx4⟩ F4 N4
          dsimp only
          k_steps
          refine hold_in (told_end F4 N4 off9 hx4 hap4 ⟨es ++ [(x, (_, _), y1, y2)], some c1, some c2, ?e1, ?e2, rfl, q1, q2, told_apart N4 q1 q2 hap4, ?e3⟩)
          case e1 => rw [dms_snoc, List.map_append, hes]; rfl
          case e2 => rw [List.map_append]; rfl
          case e3 =>
            intro q hq
            rw [List.map_append] at hq
            rcases List.mem_append.mp hq with hq | hq
            · exact hoff q hq
            · rw [List.map_cons, List.map_nil, List.mem_singleton] at hq
              subst hq
              exact ⟨fun e => hx4 (L' + 1, oF) (by simp) e.symm, fun e => hx4 (L' + 1 + 1, oT') (by simp) e.symm, fun e => hx4 (lr, listOf (List.toArray rvs) pn) (by simp) e.symm⟩
        case done =>
          rintro ys news ⟨es, v1, v2, hes, rfl, rfl, k1, k2, hap, hoff⟩
          rw [dms_four] at hes
          obtain ⟨p0, p1, p2, p3, s0, s1, s2, s3, z0, z1, z2, z3, rfl⟩ := four_prs hes
          unfold LCg.FinA
          intro D hh tk FF NN off1
          generalize hTL : TT v1 v2 = TL at NN off1 hap
          have f12 : ∀ q ∈ TL, @Ne Nat q.1 lu := fun q hq e => hap (lu, _) (List.mem_append_left _ (.tail _ (.head _))) q hq e.symm
          have f13 : ∀ q ∈ TL, @Ne Nat q.1 ll := fun q hq e => hap (ll, _) (List.mem_append_left _ (.tail _ (.tail _ (.tail _ (.tail _ (.tail _ (.head _))))))) q hq e.symm
          have f14 : ∀ q ∈ TL, @Ne Nat q.1 lf := fun q hq e => hap (lf, _) (List.mem_append_left _ (.tail _ (.tail _ (.tail _ (.tail _ (.head _)))))) q hq e.symm
          have f15 : ∀ q ∈ TL, @Ne Nat q.1 lr := fun q hq e => hap (lr, _) (List.mem_append_left _ (.tail _ (.tail _ (.tail _ (.tail _ (.tail _ (.tail _ (.head _)))))))) q hq e.symm
          have f16 : ∀ q ∈ TL, @Ne Nat q.1 (L' + 1) := fun q hq e => hap ((L' + 1), _) (List.mem_append_left _ (.tail _ (.tail _ (.tail _ (.head _))))) q hq e.symm
          have f17 : ∀ q ∈ TL, @Ne Nat q.1 (L' + 1 + 1) := fun q hq e => hap ((L' + 1 + 1), _) (List.mem_append_left _ (.tail _ (.tail _ (.head _)))) q hq e.symm
          clear a12 a13 a14 a15 a16 a17
          simp only [List.cons_append, List.nil_append, List.map_cons, List.map_nil] at NN off1
          simp only [LCg.Off1] at off1
          obtain ⟨d1, d2, d3, d4, d5, d6, d7, d8, d9, d10, d11, d12⟩ := off1
          have d12 := off1_mem d12
          obtain ⟨i01, i02, i03⟩ := hoff _ (.head _)
          obtain ⟨i11, i12, i13⟩ := hoff _ (.tail _ (.head _))
          obtain ⟨i21, i22, i23⟩ := hoff _ (.tail _ (.tail _ (.head _)))
          obtain ⟨i31, i32, i33⟩ := hoff _ (.tail _ (.tail _ (.tail _ (.head _))))
          have pk : Hold ((@Ne Nat D lr ∧ @Ne Nat p0 lr ∧ @Ne Nat p1 lr ∧ @Ne Nat p2 lr ∧ @Ne Nat p3 lr) ∧ (@Ne Nat D (L' + 1) ∧ @Ne Nat p0 (L' + 1) ∧ @Ne Nat p1 (L' + 1) ∧ @Ne Nat p2 (L' + 1) ∧ @Ne Nat p3 (L' + 1))) := ⟨⟨fun e => d7 e.symm, i03, i13, i23, i33⟩, ⟨fun e => d4 e.symm, i01, i11, i21, i31⟩⟩
          have pa : Hold ((@Ne Nat lu ll ∧ @Ne Nat lu lr ∧ @Ne Nat ll lr) ∧ (@Ne Nat ll (L' + 1) ∧ @Ne Nat ll (L' + 1 + 1))) := ⟨⟨a1, a3, a4⟩, a8, a9⟩
          clear ap7 hap1 hoff hes d1 d2 d3 d4 d5 d6 d7 d8 d9 d10 d11 d12 i01 i02 i03 i11 i12 i13 i21 i22 i23 i31 i32 i33 a1 a2 a3 a4 a5 a6 a7 a8 a9 a10 a11 b1 b2 b3 b4 lt7
          k_steps
          rename_i hh1 tk1 _ _ _ hR9 F9 N9 hk9
          refine hold_in ?_
          k_dflt (refine' LCg.CompSrc.range (n := 4) ?c1 F9 N9 hR9 ?c2 ?c3 ?c4 ?_)
          case c1 => rfl
          case c2 => decide
          case c3 => rfl
          case c4 => decide
          intro g9
          obtain ⟨LD, hLD⟩ : ∃ LD, LD = (D, LCg.lst [Value.ref p0, Value.ref p1, Value.ref p2, Value.ref p3]) :: L4 lt a (a + b) (a + c) (a + b + c + d) x1 x2 x3 x4 n4 :: L4 lu a b c d ta tb tc td n1 :: (L' + 1 + 1, oT') :: (L' + 1, oF) :: L4 lf e (e + f) (e + g) (e + f + g + h) t1 t2 t3 t4 n3 :: L4 ll e f g h te tf tg th n2 :: (lr, listOf (List.toArray rvs) pn) :: prE (p0, (a.fdiv e, a.fmod e), s0, z0) :: prE (p1, ((a + b).fdiv (e + f), (a + b).fmod (e + f)), s1, z1) :: prE (p2, ((a + c).fdiv (e + g), (a + c).fmod (e + g)), s2, z2) :: prE (p3, ((a + b + c + d).fdiv (e + f + g + h), (a + b + c + d).fmod (e + f + g + h)), s3, z3) :: TL := ⟨_, rfl⟩
          refine compRest_ind (n := 4) (PairJ [a, a + b, a + c, a + b + c + d] [e, e + f, e + g, e + f + g + h] LD) ?turn2 ?done2 4 0 [] _ rfl ⟨[], rfl, rfl, by rw [hLD, List.map_nil, List.append_nil]⟩
          case turn2 =>
            clear F9 N9 hR9 hk9
            rintro i ys news hi ⟨es, hes, rfl, rfl⟩ v I oI C oC D m₂ h9 tk9 E' ⟨t9, rfl⟩ hC hx F9 N9 off9 ne9
            rw [Int.zero_add] at hx
            have hA := cor_getD O.up i hi
            have hB := cor_getD O.lo i hi
            have hB0 := one_getD hs i hi
            subst hLD
            simp only [List.cons_append, List.nil_append] at N9
            k_steps
            refine hold_in (item_nat (ns := [a, a + b, a + c, a + b + c + d]) (PySem.IsL.isList (n := n4) (N9 (lt, _) (by k_mem)).1) (.cons _ _ (.cons _ _ (.cons _ _ (.cons _ _ .nil)))) hi (by omega) ?_)
            intro t8
            k_steps
            refine hold_in (item_nat (ns := [e, e + f, e + g, e + f + g + h]) (PySem.IsL.isList (n := n3) (N9 (lf, _) (by k_mem)).1) (.cons _ _ (.cons _ _ (.cons _ _ (.cons _ _ .nil)))) hi (by omega) ?_)
            intro u8
            k_steps
            refine hold_in (floordiv_int hB0 ?_ (Or.inl (cor_pylong hM hB)))
            k_steps
            refine hold_in (item_nat (ns := [a, a + b, a + c, a + b + c + d]) (PySem.IsL.isList (n := n4) (N9 (lt, _) (by k_mem)).1) (.cons _ _ (.cons _ _ (.cons _ _ (.cons _ _ .nil)))) hi (by omega) ?_)
            intro t8
            k_steps
            refine hold_in (item_nat (ns := [e, e + f, e + g, e + f + g + h]) (PySem.IsL.isList (n := n3) (N9 (lf, _) (by k_mem)).1) (.cons _ _ (.cons _ _ (.cons _ _ (.cons _ _ .nil)))) hi (by omega) ?_)
            intro u8
            k_steps
            refine hold_in (mod_int' hB0 ?_)
            k_steps
            rename Fr g' _ h9 _ => F9
            refine hold_in (kup_newTuple F9 N9 ?_ (Nat.le_of_ble_eq_true rfl))
            clear F9 N9
            intro x h9 F9 N9 lx
            k_steps
            refine hold_in (pair_end F9 N9 off9 lx ⟨es ++ [(x, (_, _), _, _)], ?e1, ?e2, rfl⟩)
            case e1 => rw [dms_snoc, List.map_append, hes]; rfl
            case e2 => rw [List.map_append]; rfl
          case done2 =>
            clear F9 N9 hR9 hk9
            rintro ys news ⟨es, hes, rfl, rfl⟩
            rw [dms_four] at hes
            obtain ⟨p4, p5, p6, p7, s4, s5, s6, s7, z4, z5, z6, z7, rfl⟩ := four_prs hes
            unfold LCg.FinE
            intro D2 hh2 tk2 FF NN off2
            have NN := news_sub NN (fun q hq => mem_comm hq)
            subst hLD
            simp only [List.cons_append, List.nil_append, List.map_cons, List.map_nil] at NN
            dsimp only [prE] at NN
            clear off2 hes
            k_steps
            rename Fr g' _ _ _ => F9
            rename News g' _ _ _ => N9
            refine hold_in ?_
            obtain ⟨LD2, hLD2⟩ : ∃ l, l = _ ∧ News g' L' _ l := ⟨_, rfl, N9⟩
            k_dflt (refine' LCg.CompSrc.ledger ?c1 F9 N9 (ax := D) ?c2 ?c3 ?_)
            case c1 => rfl
            case c2 => k_mem
            case c3 => exact Nat.le_of_ble_eq_true rfl
            intro g9
            refine compRest_ind (n := 4) (fun i ys news => ys = List.take i [.int (a.fdiv e) s0, .int ((a + b).fdiv (e + f)) s1, .int ((a + c).fdiv (e + g)) s2, .int ((a + b + c + d).fdiv (e + f + g + h)) s3] ∧ news = LD2) ?turn3 ?done3 4 0 [] _ rfl ⟨rfl, hLD2.1.symm⟩
            case turn3 =>
              clear F9 N9
              obtain ⟨hLD2, -⟩ := hLD2
              subst hLD2
              rintro i ys news hi ⟨rfl, rfl⟩ v I oI C oC D m₂ h9 tk9 E' hP hC hx F9 N9 off9 ne9
              have hi' : i = 0 ∨ i = 1 ∨ i = 2 ∨ i = 3 := by omega
              rcases hi' with rfl | rfl | rfl | rfl
              all_goals first
                | (have hv : Value.ref p0 = v := Option.some.inj hP; subst hv)
                | (have hv : Value.ref p1 = v := Option.some.inj hP; subst hv)
                | (have hv : Value.ref p2 = v := Option.some.inj hP; subst hv)
                | (have hv : Value.ref p3 = v := Option.some.inj hP; subst hv)
              all_goals k_steps
              all_goals refine hold_in (LCg.CompEnd.intro F9 N9 _ (fun p hp => hp) off9 (Or.inr ⟨_, by k_mem, rfl, _, rfl⟩) ⟨rfl, rfl⟩)
            case done3 =>
              rintro ys news ⟨rfl, rfl⟩
              clear F9 N9
              obtain ⟨hLD2, -⟩ := hLD2
              subst hLD2
              dsimp only [List.take]
              unfold LCg.FinE
              intro D3 hh3 tk3 F9 N9 off3
              simp only [LCg.Off1] at off3
              clear off3
              k_steps
              refine hold_in (newList_K F9 N9 ?_)
              clear F9 N9
              intro l4 hh4 F9 N9 l4lt
              clear l4lt
              k_steps
              · rename_i hq4
                simp only [List.cons.injEq, and_true, true_and] at hq4
                obtain ⟨q1, q2, q3⟩ := hq4
                have N9 := news_sub (l' := (lr, listOf (List.toArray rvs) pn) :: (D, LCg.lst [Value.ref p0, Value.ref p1, Value.ref p2, Value.ref p3]) :: prE (p0, (a.fdiv e, a.fmod e), s0, z0) :: prE (p1, ((a + b).fdiv (e + f), (a + b).fmod (e + f)), s1, z1) :: prE (p2, ((a + c).fdiv (e + g), (a + c).fmod (e + g)), s2, z2) :: prE (p3, ((a + b + c + d).fdiv (e + f + g + h), (a + b + c + d).fmod (e + f + g + h)), s3, z3) :: (L' + 1 + 1, oT') :: (L' + 1, oF) :: L4 ll e f g h te tf tg th n2 :: TL) N9 (List.forall_mem_cons.mpr ⟨(.tail _ (.tail _ (.tail _ (.tail _ (.tail _ (.tail _ (.tail _ (.tail _ (.tail _ (.tail _ (.tail _ (.tail _ (.tail _ (.tail _ (.head _))))))))))))))), List.forall_mem_cons.mpr ⟨(.tail _ (.tail _ (.tail _ (.tail _ (.tail _ (.tail _ (.tail _ (.head _)))))))), List.forall_mem_cons.mpr ⟨(.tail _ (.tail _ (.tail _ (.tail _ (.tail _ (.tail _ (.tail _ (.tail _ (.tail _ (.tail _ (.tail _ (.tail _ (.tail _ (.tail _ (.tail _ (.head _)))))))))))))))), List.forall_mem_cons.mpr ⟨(.tail _ (.tail _ (.tail _ (.tail _ (.tail _ (.tail _ (.tail _ (.tail _ (.tail _ (.tail _ (.tail _ (.tail _ (.tail _ (.tail _ (.tail _ (.tail _ (.head _))))))))))))))))), List.forall_mem_cons.mpr ⟨(.tail _ (.tail _ (.tail _ (.tail _ (.tail _ (.tail _ (.tail _ (.tail _ (.tail _ (.tail _ (.tail _ (.tail _ (.tail _ (.tail _ (.tail _ (.tail _ (.tail _ (.head _)))))))))))))))))), List.forall_mem_cons.mpr ⟨(.tail _ (.tail _ (.tail _ (.tail _ (.tail _ (.tail _ (.tail _ (.tail _ (.tail _ (.tail _ (.tail _ (.tail _ (.tail _ (.tail _ (.tail _ (.tail _ (.tail _ (.tail _ (.head _))))))))))))))))))), List.forall_mem_cons.mpr ⟨(.tail _ (.tail _ (.tail _ (.tail _ (.tail _ (.tail _ (.tail _ (.tail _ (.tail _ (.tail _ (.head _))))))))))), List.forall_mem_cons.mpr ⟨(.tail _ (.tail _ (.tail _ (.tail _ (.tail _ (.tail _ (.tail _ (.tail _ (.tail _ (.tail _ (.tail _ (.head _)))))))))))), List.forall_mem_cons.mpr ⟨(.tail _ (.tail _ (.tail _ (.tail _ (.tail _ (.tail _ (.tail _ (.tail _ (.tail _ (.tail _ (.tail _ (.tail _ (.tail _ (.head _)))))))))))))), fun q hq => .tail _ (.tail _ (.tail _ (.tail _ (.tail _ (.tail _ (.tail _ (.tail _ (.tail _ (.tail _ (.tail _ (.tail _ (.tail _ (.tail _ (.tail _ (.tail _ (.tail _ (.tail _ (.tail _ (hq)))))))))))))))))))⟩⟩⟩⟩⟩⟩⟩⟩⟩)
                dsimp only [prE] at N9
                have hrl : rvs.length < 2 ^ 20 := by
                  have e1 := congrArg List.length O.row
                  rw [List.length_append] at e1
                  rw [hv.length]
                  omega
                rename Fr g' _ hh4 _ => F9
                have pk1 := pk.1
                obtain ⟨e1, e2, e3, e4, e5⟩ := pk1
                have pa1 := pa.1.2.2
                refine hold_in ?_
                k_dflt (refine' append_K F9 N9 ?Uq9 ?_ ?zq9; (case Uq9 => k_upd); (case zq9 => (rw [sizeLine_eq, List.size_toArray]; omega)))
                clear F9 N9
                intro hh5 F9 N9
                clear e1 e2 e3 e4 e5 pa1
                rw [List.push_toArray] at N9
                k_steps
                refine hold_in ?_
                walk_at "exec Assign"
                k_steps
                rename Fr g' _ hh5 _ => F9
                refine hold_in ?_
                obtain ⟨LD3, hLD3⟩ : ∃ l, l = _ ∧ News g' L' _ l := ⟨_, rfl, N9⟩
                k_dflt (refine' LCg.CompSrc.ledger ?c1 F9 N9 (ax := D) ?c2 ?c3 ?_)
                case c1 => rfl
                case c2 => k_mem
                case c3 => exact Nat.le_of_ble_eq_true rfl
                intro g9
                refine compRest_ind (n := 4) (fun i ys news => ys = List.take i [.int (a.fmod e) z0, .int ((a + b).fmod (e + f)) z1, .int ((a + c).fmod (e + g)) z2, .int ((a + b + c + d).fmod (e + f + g + h)) z3] ∧ news = LD3) ?turn4 ?done4 4 0 [] _ rfl ⟨rfl, hLD3.1.symm⟩
                case turn4 =>
                  clear F9 N9
                  obtain ⟨hLD3, -⟩ := hLD3
                  subst hLD3
                  rintro i ys news hi ⟨rfl, rfl⟩ v I oI C oC D m₂ h9 tk9 E' hP hC hx F9 N9 off9 ne9
                  have hi' : i = 0 ∨ i = 1 ∨ i = 2 ∨ i = 3 := by omega
                  rcases hi' with rfl | rfl | rfl | rfl
                  all_goals first
                    | (have hv : Value.ref p0 = v := Option.some.inj hP; subst hv)
                    | (have hv : Value.ref p1 = v := Option.some.inj hP; subst hv)
                    | (have hv : Value.ref p2 = v := Option.some.inj hP; subst hv)
                    | (have hv : Value.ref p3 = v := Option.some.inj hP; subst hv)
                  all_goals k_steps
                  all_goals refine hold_in (LCg.CompEnd.intro F9 N9 _ (fun p hp => hp) off9 (Or.inr ⟨_, by k_mem, rfl, _, rfl⟩) ⟨rfl, rfl⟩)
                case done4 =>
                  rintro ys news ⟨rfl, rfl⟩
                  clear F9 N9
                  obtain ⟨hLD3, -⟩ := hLD3
                  subst hLD3
                  dsimp only [List.take]
                  unfold LCg.FinE
                  intro D5 hh6 tk6 F9 N9 off5
                  simp only [LCg.Off1] at off5
                  obtain ⟨j1, j2, j3, j4, j5, j6, j7, j8, j9, j10⟩ := off5
                  have j10 := off1_mem j10
                  have pj : Hold ((@Ne Nat lr D5 ∧ @Ne Nat ll D5) ∧ @Ne Nat (L' + 1) D5 ∧ @Ne Nat (L' + 1 + 1) D5) := ⟨⟨j1, j9⟩, j8, j7⟩
                  have pk2 := pk.2
                  have pa2 := pa.2.1
                  obtain ⟨e1, e2, e3, e4, e5⟩ := pk2
                  clear j1 j2 j3 j4 j5 j6 j7 j9
                  dsimp only
                  walk1
                  rename_i hh8 oF2 F9 N9 dF2
                  clear e1 e2 e3 e4 e5 pa2 j8
                  k_steps
                  rename Fr g' _ _ _ => F9
                  rename News g' _ _ _ => N9
                  refine hold_in (newList_K F9 N9 ?_)
                  clear F9 N9
                  intro l6 hh7 F9 N9 l6lt
                  k_steps
                  rename Fr g' _ _ _ => F9
                  rename News g' _ _ _ => N9
                  refine hold_in ?_
                  obtain ⟨O', hlt⟩ := O.step hw hs rfl q1 q2 q3 rfl rfl rfl rfl
                  subst hTL
                  obtain ⟨y1, y2, y3, y4, NX⟩ : ∃ y1 y2 y3 y4, News g' L' _ ((L' + 1 + 1, oT') :: (L' + 1, oF2) :: L4 D5 (a.fmod e) ((a + b).fmod (e + f)) ((a + c).fmod (e + g)) ((a + b + c + d).fmod (e + f + g + h)) z0 z1 z2 z3 4 :: L4 ll e f g h te tf tg th n2 :: L4 l6 (a.fmod e) ((a + b).fmod (e + f) - a.fmod e) ((a + c).fmod (e + g) - a.fmod e) ((a + b + c + d).fmod (e + f + g + h) - (a + c).fmod (e + g) - (a + b).fmod (e + f) + a.fmod e) y1 y2 y3 y4 0 :: (lr, listOf (List.toArray (rvs ++ [.int (a.fdiv e) s0])) (pn + 1)) :: TT v1 v2) := ⟨_, _, _, _, news_sub N9 (List.forall_mem_cons.mpr ⟨(.tail _ (.tail _ (.tail _ (.tail _ (.tail _ (.tail _ (.tail _ (.tail _ (.head _))))))))), List.forall_mem_cons.mpr ⟨(.tail _ (.tail _ (.tail _ (.tail _ (.tail _ (.tail _ (.tail _ (.tail _ (.tail _ (.head _)))))))))), List.forall_mem_cons.mpr ⟨(.tail _ (.head _)), List.forall_mem_cons.mpr ⟨(.tail _ (.tail _ (.tail _ (.tail _ (.tail _ (.tail _ (.tail _ (.tail _ (.tail _ (.tail _ (.head _))))))))))), List.forall_mem_cons.mpr ⟨(.head _), List.forall_mem_cons.mpr ⟨(.tail _ (.tail _ (.head _))), fun q hq => .tail _ (.tail _ (.tail _ (.tail _ (.tail _ (.tail _ (.tail _ (.tail _ (.tail _ (.tail _ (.tail _ (hq)))))))))))⟩⟩⟩⟩⟩⟩)⟩
                  refine ⟨_, _, _, _, _, rfl, F9, NX, hlt, ?_⟩
                  refine ⟨_, _, _, ll, l6, D5, e, f, g, h, a.fmod e, (a + b).fmod (e + f) - a.fmod e, (a + c).fmod (e + g) - a.fmod e, (a + b + c + d).fmod (e + f + g + h) - (a + c).fmod (e + g) - (a + b).fmod (e + f) + a.fmod e, te, tf, tg, th, y1, y2, y3, y4, z0, z1, z2, z3, n2, 0, 4, oT', oF2, _, rvs ++ [.int (a.fdiv e) s0], row ++ [a.fdiv e], pn + 1, v1, v2, map5 rfl rfl rfl rfl rfl, ?news, dT', dF2, ints_append hv (.cons _ _ .nil), k1, k2, O', rfl, ?ap⟩
                  case news =>
                    rw [show a.fmod e + ((a + b).fmod (e + f) - a.fmod e) = (a + b).fmod (e + f) by omega, show a.fmod e + ((a + c).fmod (e + g) - a.fmod e) = (a + c).fmod (e + g) by omega, show (a + b).fmod (e + f) + ((a + c).fmod (e + g) - a.fmod e) + ((a + b + c + d).fmod (e + f + g + h) - (a + c).fmod (e + g) - (a + b).fmod (e + f) + a.fmod e) = (a + b + c + d).fmod (e + f + g + h) by omega]
                  case ap =>
                    exact ⟨Nat.ne_of_lt (l6lt (ll, _) (.tail _ (.tail _ (.tail _ (.tail _ (.tail _ (.tail _ (.tail _ (.tail _ (.tail _ (.head _))))))))))), pj.1.2, pa.1.2.2, Nat.ne_of_gt (l6lt (lr, _) (.tail _ (.head _))), fun e => pj.1.1 e.symm, pa.2.1, pa.2.2, Nat.ne_of_gt (l6lt (L' + 1, _) (.tail _ (.tail _ (.tail _ (.tail _ (.tail _ (.tail _ (.tail _ (.tail _ (.head _)))))))))), Nat.ne_of_gt (l6lt (L' + 1 + 1, _) (.tail _ (.tail _ (.tail _ (.tail _ (.tail _ (.tail _ (.tail _ (.head _))))))))), fun e => pj.2.1 e.symm, fun e => pj.2.2 e.symm, f13, fun q hq => Nat.ne_of_lt (l6lt q (.tail _ (.tail _ (.tail _ (.tail _ (.tail _ (.tail _ (.tail _ (.tail _ (.tail _ (.tail _ (hq)))))))))))), j10, f15, f16, f17⟩
              · rename_i hq4
                refine hold_in (kup_newTuple F9 N9 ?_ (Nat.le_of_ble_eq_true rfl))
                clear F9 N9
                intro xx hh5 F9 N9 lxx
                clear lxx
                k_steps
                refine hold_in ?_
                unfold WhileStep2
                dsimp only
                k_steps
                refine hQ0 _ _ ?_
                (try dsimp only)
                k_steps
                rename Fr g' _ _ _ => F2
                rename News g' _ _ _ => N2
                rename News h₀ _ _ _ => N1
                have hga := ground_apart NR N2
                subst hTL
                refine hret _ _ _ _ ⟨xx, lu, ll, a, b, c, d, e, f, g, h, ta, tb, tc, td, te, tf, tg, th, n1, n2, rvs, row, pn, v1, v2, rfl, hv, k1, k2, O, rfl, fun q hq r hr' => hga q hq r ((List.forall_mem_cons.mpr ⟨(.head _), List.forall_mem_cons.mpr ⟨(.tail _ (.tail _ (.tail _ (.tail _ (.tail _ (.tail _ (.tail _ (.tail _ (.tail _ (.tail _ (.head _))))))))))), List.forall_mem_cons.mpr ⟨(.tail _ (.tail _ (.tail _ (.tail _ (.tail _ (.tail _ (.tail _ (.tail _ (.tail _ (.tail _ (.tail _ (.tail _ (.tail _ (.tail _ (.head _))))))))))))))), List.forall_mem_cons.mpr ⟨(.tail _ (.tail _ (.tail _ (.tail _ (.tail _ (.tail _ (.tail _ (.tail _ (.tail _ (.tail _ (.tail _ (.tail _ (.tail _ (.tail _ (.tail _ (.head _)))))))))))))))), fun q hq => .tail _ (.tail _ (.tail _ (.tail _ (.tail _ (.tail _ (.tail _ (.tail _ (.tail _ (.tail _ (.tail _ (.tail _ (.tail _ (.tail _ (.tail _ (.tail _ (.tail _ (.tail _ (.tail _ (.tail _ (hq))))))))))))))))))))⟩⟩⟩⟩) r hr'), pa.1.1, pa.1.2.1, pa.1.2.2, fun r hr' => ⟨f12 r hr', f13 r hr', f15 r hr'⟩⟩ (by assumption) (news_join (news_sub N1 (List.forall_mem_cons.mpr ⟨(.head _), List.forall_mem_cons.mpr ⟨(.tail _ (.tail _ (.tail _ (.tail _ (.tail _ (.tail _ (.tail _ (.tail _ (.tail _ (.tail _ (.head _))))))))))), List.forall_mem_cons.mpr ⟨(.tail _ (.tail _ (.tail _ (.tail _ (.tail _ (.tail _ (.tail _ (.tail _ (.tail _ (.tail _ (.tail _ (.tail _ (.tail _ (.tail _ (.head _))))))))))))))), List.forall_mem_cons.mpr ⟨(.tail _ (.tail _ (.tail _ (.tail _ (.tail _ (.tail _ (.tail _ (.tail _ (.tail _ (.tail _ (.tail _ (.tail _ (.tail _ (.tail _ (.tail _ (.head _)))))))))))))))), fun q hq => .tail _ (.tail _ (.tail _ (.tail _ (.tail _ (.tail _ (.tail _ (.tail _ (.tail _ (.tail _ (.tail _ (.tail _ (.tail _ (.tail _ (.tail _ (.tail _ (.tail _ (.tail _ (.tail _ (.tail _ (hq))))))))))))))))))))⟩⟩⟩⟩)) (rest_back NR F2))
  case pass => passes_own
end Mine
end

section
open PySem PySem.W PyProof.Rows PySem.Calls
namespace Mine
theorem eight_ok {l : List Int} (h : l.length ≤ 8) (hb : ∀ x ∈ l, -9 ≤ x ∧ x ≤ 9) {k : Nat} (hk : k = l.length) : (l ++ List.drop k [0, 1, 1, 0, 0, 0, 0, 1]).length = 8 ∧ ∀ x ∈ l ++ List.drop k [0, 1, 1, 0, 0, 0, 0, 1], -9 ≤ x ∧ x ≤ 9 := by
  subst hk
  refine ⟨by rw [List.length_append, List.length_drop]; simp; omega, ?_⟩
  intro x hx
  rcases List.mem_append.mp hx with hx | hx
  · exact hb x hx
  · have := List.mem_of_mem_drop hx
    simp only [List.mem_cons, List.not_mem_nil, or_false] at this
    omega
theorem coef_ok {l : List Int} : ∀ x ∈ l.map (fun k => (k + 9).fmod 19 - 9), -9 ≤ x ∧ x ≤ 9 := by
  intro x hx
  obtain ⟨y, _, rfl⟩ := List.mem_map.mp hx
  rw [Int.fmod_eq_emod_of_nonneg _ (by decide)]
  omega
theorem ints_cons {vs : List Value} {n : Int} {ns : List Int} (h : IntsAre vs (n :: ns)) : ∃ t ws, vs = .int n t :: ws ∧ IntsAre ws ns := by
  cases h with
  | cons _ t h => exact ⟨t, _, rfl, h⟩
theorem ints_nil {vs : List Value} (h : IntsAre vs []) : vs = [] := by cases h; rfl
inductive Eight (vs : List Value) (ns : List Int) : Prop
  | mk (a b c d e f g h : Int) (ta tb tc td te tf tg th : Tok) (e1 : vs = [.int a ta, .int b tb, .int c tc, .int d td, .int e te, .int f tf, .int g tg, .int h th]) (e2 : ns = [a, b, c, d, e, f, g, h])
theorem ints_eight {vs : List Value} {ns : List Int} (h : IntsAre vs ns) (hl : ns.length = 8) : Eight vs ns := by
  cases h with
  | nil => exact absurd hl (by simp)
  | cons a ta h =>
  cases h with
  | nil => exact absurd hl (by simp)
  | cons b tb h =>
  cases h with
  | nil => exact absurd hl (by simp)
  | cons c tc h =>
  cases h with
  | nil => exact absurd hl (by simp)
  | cons d td h =>
  cases h with
  | nil => exact absurd hl (by simp)
  | cons e te h =>
  cases h with
  | nil => exact absurd hl (by simp)
  | cons f tf h =>
  cases h with
  | nil => exact absurd hl (by simp)
  | cons g tg h =>
  cases h with
  | nil => exact absurd hl (by simp)
  | cons hh th h =>
  cases h with
  | nil => exact ⟨_, _, _, _, _, _, _, _, _, _, _, _, _, _, _, _, rfl, rfl⟩
  | cons _ _ _ => simp at hl

def evens {α : Type} : List α → List α
  | [] => []
  | [x] => [x]
  | x :: _ :: r => x :: evens r
def odds {α : Type} : List α → List α
  | [] => []
  | [_] => []
  | _ :: y :: r => y :: odds r
theorem evens_length {α : Type} : ∀ (l : List α), (evens l).length = (l.length + 1) / 2
  | [] => by simp [evens]
  | [_] => by simp [evens]
  | _ :: _ :: r => by rw [evens, List.length_cons, evens_length r]; simp only [List.length_cons]; omega
theorem odds_length {α : Type} : ∀ (l : List α), (odds l).length = l.length / 2
  | [] => by simp [odds]
  | [_] => by simp [odds]
  | _ :: _ :: r => by rw [odds, List.length_cons, odds_length r]; simp only [List.length_cons]; omega
theorem ints_evens : ∀ {vs : List Value} {ns : List Int}, IntsAre vs ns → IntsAre (evens vs) (evens ns)
  | _, [], h => by obtain rfl := ints_nil h; exact .nil
  | _, [n], h => by
    obtain ⟨t, _, rfl, h1⟩ := ints_cons h
    obtain rfl := ints_nil h1
    exact .cons _ _ .nil
  | _, n :: n' :: r, h => by
    obtain ⟨t, _, rfl, h1⟩ := ints_cons h
    obtain ⟨t', _, rfl, h2⟩ := ints_cons h1
    exact .cons _ _ (ints_evens h2)
theorem ints_odds : ∀ {vs : List Value} {ns : List Int}, IntsAre vs ns → IntsAre (odds vs) (odds ns)
  | _, [], h => by obtain rfl := ints_nil h; exact .nil
  | _, [n], h => by
    obtain ⟨t, _, rfl, h1⟩ := ints_cons h
    obtain rfl := ints_nil h1
    exact .nil
  | _, n :: n' :: r, h => by
    obtain ⟨t, _, rfl, h1⟩ := ints_cons h
    obtain ⟨t', _, rfl, h2⟩ := ints_cons h1
    exact .cons _ _ (ints_odds h2)
set_option maxRecDepth 100000 in
theorem pick_evens : ∀ (vs : List Value), vs.length ≤ 8 → (slicePick vs.toArray (some 0) none (some 2)).toList = evens vs
  | [], _ => by with_unfolding_all rfl
  | [_], _ => by with_unfolding_all rfl
  | [_, _], _ => by with_unfolding_all rfl
  | [_, _, _], _ => by with_unfolding_all rfl
  | [_, _, _, _], _ => by with_unfolding_all rfl
  | [_, _, _, _, _], _ => by with_unfolding_all rfl
  | [_, _, _, _, _, _], _ => by with_unfolding_all rfl
  | [_, _, _, _, _, _, _], _ => by with_unfolding_all rfl
  | [_, _, _, _, _, _, _, _], _ => by with_unfolding_all rfl
  | _ :: _ :: _ :: _ :: _ :: _ :: _ :: _ :: _ :: r, h => by simp only [List.length_cons] at h; omega
set_option maxRecDepth 100000 in
theorem pick_odds : ∀ (vs : List Value), vs.length ≤ 8 → (slicePick vs.toArray (some 1) none (some 2)).toList = odds vs
  | [], _ => by with_unfolding_all rfl
  | [_], _ => by with_unfolding_all rfl
  | [_, _], _ => by with_unfolding_all rfl
  | [_, _, _], _ => by with_unfolding_all rfl
  | [_, _, _, _], _ => by with_unfolding_all rfl
  | [_, _, _, _, _], _ => by with_unfolding_all rfl
  | [_, _, _, _, _, _], _ => by with_unfolding_all rfl
  | [_, _, _, _, _, _, _], _ => by with_unfolding_all rfl
  | [_, _, _, _, _, _, _, _], _ => by with_unfolding_all rfl
  | _ :: _ :: _ :: _ :: _ :: _ :: _ :: _ :: _ :: r, h => by simp only [List.length_cons] at h; omega
section
variable {prog : Program} {w : World} {A : Around} {E : Value → Shared → Prop} {s : Shared} {h₀ : Heap} {L l : Addr} {m : Str → Option Value} {news : List (Addr × Obj)}
/-- the end of a list that lies in no name -/
theorem slice_from {value slice : PySem.Expr} {vs : List Value} {ns : List Int} {k : Nat} {t : Tok} {Q : Value → Shared → Prop} (F : Fr h₀ L s.heap m) (N : News h₀ L s.heap news) (hl : s.heap.IsList l vs.toArray) (hi : IntsAre vs ns) (hz : vs.toArray.size ≤ sizeLine)
    (h : ∀ D ws h', Fr h₀ L h' m → News h₀ L h' ((D, listOf (List.toArray ws) 0) :: news) → (∀ p ∈ news, p.1 < D) → IntsAre ws (ns.drop k) → Q (.ref D) { s with heap := h' })
    (hs : subscripted slice false (.ref l) (.ref s.heap.objs.size) = operate [.ref s.heap.objs.size, .ref l] (getItem (.ref l) (.ref s.heap.objs.size)) := by with_unfolding_all rfl) :
    wpAny (model prog w) A (subscriptTail value slice (.ref l) (.ref s.heap.objs.size)) Q E { s with heap := s.heap.push { cls := .type "slice", data := .fields #[.int (k : Int) t, .none, .none] } } := by
  refine tail_any (Heap.IsList.typeIs (s := { s with heap := s.heap.push { cls := .type "slice", data := .fields #[.int (k : Int) t, .none, .none] } }) (hl.push _)) slot_list_getitem.lookup
    (wpAny_getItem_list_slice (lo := some (k : Int)) (hi := none) (hl.push _) (Heap.IsSliceOf.new ..) (.int _ _) .none .none (by simp) ?_ hz) hs
  have N1 := News.push (F.push { cls := .type "slice", data := .fields #[.int (k : Int) t, .none, .none] }) (N.grown fun _ _ e => Heap.get?_push_of_some _ e) { cls := .type "list", data := .seq (slicePick vs.toArray (some (k : Int)) none none) }
  rw [Heap.size_push] at N1
  show Q (.ref (s.heap.push _).objs.size) _
  rw [Heap.size_push]
  refine h _ (slicePick vs.toArray (some (k : Int)) none none).toList _ ((F.push _).push _) ?_ (fun p hp => Nat.lt_succ_of_lt (Heap.lt_size (N p hp).1)) (kmk_from (x := (k : Int)) hi (Int.natCast_nonneg _))
  rw [Array.toArray_toList]
  exact N1
end
/-- the numbers are at hand -/
inductive NumOut (g : Heap) (L D3 : Addr) (s : Shared) (rest : List (Addr × Obj)) (f : Flow) (s' : Shared) : Prop
  | mk (j0 : f = .next) (h : Heap) (tk : Nat) (DN : Addr) (vs : List Value) (nu : List Int) (n : Nat) (mr : Str → Option Value)
    (j1 : s' = { s with heap := h, toks := tk })
    (j2 : Fr g L h (fun y => if y = Str.ofString "numbers" then some (.ref DN) else if y = Str.ofString "eight" then some (.ref D3) else mr y))
    (j3 : News g L h ((DN, listOf vs.toArray n) :: rest))
    (j4 : (∀ q ∈ rest, @Ne Nat q.1 DN))
    (j5 : IntsAre vs nu)
    (j6 : 2 ≤ nu.length)
    (j7 : nu.length ≤ 8) : NumOut g L D3 s rest f s'
theorem map2 {m : Str → Option Value} {x1 x2 : Str} {v1 v2 : Option Value} (h1 : m x1 = v1) (h2 : m x2 = v2) : m = fun y => if y = x1 then v1 else if y = x2 then v2 else m y := by
  funext y
  (repeat' split) <;> simp_all
theorem fr_map2 {g h : Heap} {L : Addr} {m : Str → Option Value} {x1 x2 : Str} {v1 v2 : Option Value} (F : Fr g L h m) (h1 : m x1 = v1) (h2 : m x2 = v2) : Fr g L h (fun y => if y = x1 then v1 else if y = x2 then v2 else m y) := by
  have e := map2 h1 h2
  rw [e] at F; exact F
end Mine
end

section
open PySem PySem.W PyProof.Rows PySem.Calls
namespace Mine
/-- a form above or below the stroke -/
def form (a b c d p q s t : Int) : Int := a * (p * s) + b * (p * t) + c * (q * s) + d * (q * t)
theorem form_first (a b c d x p q s t : Int) : form a b c d (x * p + q) p s t = form (a * x + c) (b * x + d) a b p q s t := by
  unfold form; grind
theorem form_second (a b c d y p q s t : Int) : form a b c d p q (y * s + t) s = form (a * y + b) a (c * y + d) c p q s t := by
  unfold form; grind
theorem form_val (a b c d p q s t : Int) : form a b c d p q s t = valW ((p - q) * (s - t)) ((p - q) * t) (q * (s - t)) (q * t) a b c d := by
  unfold form valW; grind
theorem form_one (a b c d : Int) : form a b c d 1 0 1 0 = a := by
  unfold form; grind
theorem worth_pos : ∀ (row : List Int), (∀ x ∈ row, 1 ≤ x) → 0 ≤ (worth row).2 ∧ (worth row).2 ≤ (worth row).1 ∧ 1 ≤ (worth row).1
  | [], _ => by simp [worth]
  | d :: r, h => by
    obtain ⟨h1, h2, h3⟩ := worth_pos r fun x hx => h x (.tail _ hx)
    have hd := h d (.head _)
    rw [worth]
    dsimp only
    have : 1 * (worth r).1 ≤ d * (worth r).1 := Int.mul_le_mul_of_nonneg_right hd (by omega)
    omega
theorem weights_of {p q s t : Int} (hq : 0 ≤ q) (hpq : q ≤ p) (hp : 1 ≤ p) (ht : 0 ≤ t) (hts : t ≤ s) (hs : 1 ≤ s) : Weights ((p - q) * (s - t)) ((p - q) * t) (q * (s - t)) (q * t) := by
  refine ⟨Int.mul_nonneg (by omega) (by omega), Int.mul_nonneg (by omega) ht, Int.mul_nonneg hq (by omega), Int.mul_nonneg hq ht, ?_⟩
  have e : (p - q) * (s - t) + (p - q) * t + q * (s - t) + q * t = p * s := by grind
  rw [e]
  exact Int.mul_pos (by omega) (by omega)
def Le4 (B a b c d : Int) : Prop := (-B ≤ a ∧ a ≤ B) ∧ (-B ≤ b ∧ b ≤ B) ∧ (-B ≤ c ∧ c ≤ B) ∧ (-B ≤ d ∧ d ≤ B)
theorem mul_bound {B a x K : Int} (ha : -B ≤ a ∧ a ≤ B) (hx : -K ≤ x ∧ x ≤ K) : -(B * K) ≤ a * x ∧ a * x ≤ B * K := by
  have h1 : a.natAbs ≤ B.natAbs := by omega
  have h2 : x.natAbs ≤ K.natAbs := by omega
  have h := Nat.mul_le_mul h1 h2
  rw [← Int.natAbs_mul, ← Int.natAbs_mul] at h
  have : 0 ≤ B * K := Int.mul_nonneg (by omega) (by omega)
  omega
theorem Le4.first {B a b c d x : Int} (h : Le4 B a b c d) (hx : -99 ≤ x ∧ x ≤ 99) : Le4 (100 * B) (a * x + c) (b * x + d) a b := by
  obtain ⟨ha, hb, hc, hd⟩ := h
  have m1 := mul_bound ha hx
  have m2 := mul_bound hb hx
  refine ⟨?_, ?_, ?_, ?_⟩ <;> omega
theorem Le4.second {B a b c d y : Int} (h : Le4 B a b c d) (hy : -99 ≤ y ∧ y ≤ 99) : Le4 (100 * B) (a * y + b) a (c * y + d) c := by
  obtain ⟨ha, hb, hc, hd⟩ := h
  have m1 := mul_bound ha hy
  have m2 := mul_bound hc hy
  refine ⟨?_, ?_, ?_, ?_⟩ <;> omega
theorem Le4.mono {B B' a b c d : Int} (h : Le4 B a b c d) (hb : B ≤ B') : Le4 B' a b c d := by
  obtain ⟨ha, hb, hc, hd⟩ := h
  refine ⟨?_, ?_, ?_, ?_⟩ <;> omega
theorem Le4.nonneg {B a b c d : Int} (h : Le4 B a b c d) : 0 ≤ B := by
  obtain ⟨ha, hb, hc, hd⟩ := h
  omega
theorem Le4.cor {B a b c d : Int} (h : Le4 B a b c d) : Cor (4 * B) a b c d := by
  obtain ⟨ha, hb, hc, hd⟩ := h
  refine ⟨?_, ?_, ?_, ?_⟩ <;> omega
theorem le4_of_cor {M a b c d : Int} (h : Cor M a b c d) : Le4 (4 * M) a b c d := by
  obtain ⟨ha, hb, hc, hd⟩ := h
  refine ⟨?_, ?_, ?_, ?_⟩ <;> omega
abbrev fW (a b c d : Int) (X Y : List Int) : Int := form a b c d (worth X).1 (worth X).2 (worth Y).1 (worth Y).2
/-- what holds between the goings in -/
structure Ing (X Y due : List Int) (B a b c d e f g h : Int) (row : List Int) : Prop where
  up : Le4 B a b c d
  lo : Le4 B e f g h
  row : row ++ euclid (fW a b c d X Y) (fW e f g h X Y) = due
theorem Ing.first {X Y due row : List Int} {B a b c d e f g h x : Int} (I : Ing (x :: X) Y due B a b c d e f g h row) (hx : -99 ≤ x ∧ x ≤ 99) :
    Ing X Y due (100 * B) (a * x + c) (b * x + d) a b (e * x + g) (f * x + h) e f row := by
  refine ⟨I.up.first hx, I.lo.first hx, ?_⟩
  have e := I.row
  unfold fW at e ⊢
  rw [worth, form_first, form_first] at e
  exact e
theorem Ing.second {X Y due row : List Int} {B a b c d e f g h y : Int} (I : Ing X (y :: Y) due B a b c d e f g h row) (hy : -99 ≤ y ∧ y ≤ 99) :
    Ing X Y due (100 * B) (a * y + b) a (c * y + d) c (e * y + f) e (g * y + h) g row := by
  refine ⟨I.up.second hy, I.lo.second hy, ?_⟩
  have e := I.row
  unfold fW at e ⊢
  rw [worth, form_second, form_second] at e
  exact e
abbrev wX (X Y : List Int) : Int × Int × Int × Int := (((worth X).1 - (worth X).2) * ((worth Y).1 - (worth Y).2), ((worth X).1 - (worth X).2) * (worth Y).2, (worth X).2 * ((worth Y).1 - (worth Y).2), (worth X).2 * (worth Y).2)
theorem Ing.out {X Y due row : List Int} {B a b c d e f g h : Int} (I : Ing X Y due B a b c d e f g h row) :
    Out (wX X Y).1 (wX X Y).2.1 (wX X Y).2.2.1 (wX X Y).2.2.2 (4 * B) due a b c d e f g h row := by
  refine ⟨I.up.cor, I.lo.cor, ?_⟩
  have e := I.row
  unfold fW at e
  rw [form_val, form_val] at e
  exact e
theorem Out.ing {X Y due row : List Int} {M a b c d e f g h : Int} (O : Out (wX X Y).1 (wX X Y).2.1 (wX X Y).2.2.1 (wX X Y).2.2.2 M due a b c d e f g h row) : Ing X Y due (4 * M) a b c d e f g h row := by
  refine ⟨le4_of_cor O.up, le4_of_cor O.lo, ?_⟩
  have e := O.row
  unfold fW
  rw [form_val, form_val]
  exact e
theorem wX_ok {X Y : List Int} (hX : ∀ x ∈ X, 1 ≤ x) (hY : ∀ y ∈ Y, 1 ≤ y) : Weights (wX X Y).1 (wX X Y).2.1 (wX X Y).2.2.1 (wX X Y).2.2.2 := by
  obtain ⟨a, b, c⟩ := worth_pos X hX
  obtain ⟨d, e, f⟩ := worth_pos Y hY
  exact weights_of a b c d e f
theorem rowOf_bound {n0 : Int} {ns : List Int} : (∀ x ∈ rowOf n0 ns, -99 ≤ x ∧ x ≤ 99) ∧ ∀ k, ∀ x ∈ (rowOf n0 ns).drop (k + 1), 1 ≤ x := by
  have ht : ∀ x ∈ ns.map (fun a => 1 + (if a < 0 then -a else a).fmod 99), 1 ≤ x ∧ x ≤ 99 := by
    intro x hx
    obtain ⟨y, _, rfl⟩ := List.mem_map.mp hx
    rw [Int.fmod_eq_emod_of_nonneg _ (by decide)]
    omega
  refine ⟨?_, ?_⟩
  · intro x hx
    rcases List.mem_cons.mp hx with rfl | hx
    · rw [Int.fmod_eq_emod_of_nonneg _ (by decide)]
      omega
    · have := ht x hx
      omega
  · intro k x hx
    rw [rowOf, List.drop_succ_cons] at hx
    exact (ht x (List.mem_of_mem_drop hx)).1
theorem worth_bound : ∀ (row : List Int), (∀ x ∈ row, -99 ≤ x ∧ x ≤ 99) → (-(100 ^ row.length) ≤ (worth row).1 ∧ (worth row).1 ≤ 100 ^ row.length) ∧ (-(100 ^ row.length) ≤ (worth row).2 ∧ (worth row).2 ≤ 100 ^ row.length)
  | [], _ => by simp [worth]
  | d :: r, h => by
    obtain ⟨h1, h2⟩ := worth_bound r fun x hx => h x (.tail _ hx)
    have hd := h d (.head _)
    rw [worth, List.length_cons, Int.pow_succ]
    dsimp only
    generalize (100 : Int) ^ r.length = P at h1 h2
    have m := mul_bound h1 hd
    rw [Int.mul_comm (worth r).1 d] at m
    omega
theorem worth_fin {row : List Int} (h : ∀ x ∈ row, -99 ≤ x ∧ x ≤ 99) (hl : row.length ≤ 4) : (-100000000 ≤ (worth row).1 ∧ (worth row).1 ≤ 100000000) ∧ (-100000000 ≤ (worth row).2 ∧ (worth row).2 ≤ 100000000) := by
  have b := worth_bound row h
  have e : (100 : Int) ^ row.length ≤ 100000000 := by
    match hr : row.length, hl with
    | 0, _ => decide
    | 1, _ => decide
    | 2, _ => decide
    | 3, _ => decide
    | 4, _ => decide
    | n + 5, h => omega
  omega
theorem form_bound {a b c d p q s t : Int} (h : Le4 9 a b c d) (hp : -100000000 ≤ p ∧ p ≤ 100000000) (hq : -100000000 ≤ q ∧ q ≤ 100000000) (hs : -100000000 ≤ s ∧ s ≤ 100000000) (ht : -100000000 ≤ t ∧ t ≤ 100000000) :
    (form a b c d p q s t).natAbs < 2 ^ 60 := by
  obtain ⟨ha, hb, hc, hd⟩ := h
  have m1 := mul_bound ha (mul_bound hp hs)
  have m2 := mul_bound hb (mul_bound hp ht)
  have m3 := mul_bound hc (mul_bound hq hs)
  have m4 := mul_bound hd (mul_bound hq ht)
  unfold form
  omega
end Mine
end

section
open PySem PySem.W PyProof.Rows PySem.Calls
namespace Mine
/-- from here on the walk stops at comprehensions -/
inductive Marker : Prop
  | mk
theorem allLt_mem {d : Nat} : ∀ {l : List (Addr × Obj)}, AllLt d l → ∀ p ∈ l, @LT.lt Nat _ p.1 d
  | [], _, _, h => nomatch h
  | _ :: _, x, p, h => by
    rcases List.mem_cons.mp h with rfl | h
    · exact x.1
    · exact allLt_mem x.2 p h
section
variable {prog : Program} {w : World} {A : Around} {E : Value → Shared → Prop} {s : Shared} {env : Env} {h₀ : Heap} {x : Str} {body : List Stmt} {Q : Flow → Shared → Prop}
/-- a loop over a range by what holds between its turns -/
theorem rangeRest_ind {I : Addr} {a : Int} {n : Nat} (J : Nat → (Str → Option Value) → List (Addr × Obj) → Prop)
    (turn : ∀ i m news, i < n → J i m news → ∀ t h tk (it : Obj), Fr h₀ env.locals h (fun y => if y = x then some (.int (a + (i : Int)) t) else m y) → News h₀ env.locals h ((I, it) :: news) →
      wpAny (model prog w) A (execs body env) (UnrPost h₀ env.locals { s with heap := h, toks := tk } I it (J (i + 1)) Q) E { s with heap := h, toks := tk })
    (done : ∀ m news, J n m news → ∀ h tk, Fr h₀ env.locals h m → News h₀ env.locals h news → Q .next { s with heap := h, toks := tk }) :
    ∀ (k i : Nat) (m : Str → Option Value) (news : List (Addr × Obj)), i + k = n → J i m news → RangeRest prog w A E h₀ env x body Q s I a n k i m news
  | 0, i, m, news, e, hj => by
    rw [Nat.add_zero] at e
    subst e
    exact RangeRest.zero (done m news hj)
  | k + 1, i, m, news, e, hj => by
    refine RangeRest.succ fun t h tk F N => wpAny_mono (turn i m news (by omega) hj t h tk _ F N) (fun f s₂ p => ?_) fun _ _ e => e
    have go : UnrEnd h₀ env.locals { s with heap := h, toks := tk } I (itR (a + ((i + 1 : Nat) : Int)) ((n : Int) - ((i + 1 : Nat) : Int))) (J (i + 1)) s₂ →
        UnrEnd h₀ env.locals { s with heap := h, toks := tk } I (itR (a + ((i + 1 : Nat) : Int)) ((n : Int) - ((i + 1 : Nat) : Int))) (RangeRest prog w A E h₀ env x body Q s I a n k (i + 1)) s₂ := by
      rintro ⟨h', tk', m', news', e1, F', N', off, hJ⟩
      exact ⟨h', tk', m', news', e1, F', N', off, rangeRest_ind J turn done k (i + 1) m' news' (by omega) hJ⟩
    cases f with
    | ret v => exact p
    | brk => exact p
    | next => exact go p
    | cont => exact go p
end
theorem le4_getD {B a b c d : Int} (h : Le4 B a b c d) : ∀ i : Nat, i < 4 → -B ≤ [a, b, c, d].getD i 0 ∧ [a, b, c, d].getD i 0 ≤ B
  | 0, _ => h.1
  | 1, _ => h.2.1
  | 2, _ => h.2.2.1
  | 3, _ => h.2.2.2
  | n + 4, h => by omega
theorem le4_of {a b c d e f g h : Int} (hb : ∀ x ∈ [a, b, c, d, e, f, g, h], -9 ≤ x ∧ x ≤ 9) : Le4 9 a b c d ∧ Le4 9 e f g h :=
  ⟨⟨hb _ (.head _), hb _ (.tail _ (.head _)), hb _ (.tail _ (.tail _ (.head _))), hb _ (.tail _ (.tail _ (.tail _ (.head _))))⟩,
   hb _ (.tail _ (.tail _ (.tail _ (.tail _ (.head _))))), hb _ (.tail _ (.tail _ (.tail _ (.tail _ (.tail _ (.head _)))))), hb _ (.tail _ (.tail _ (.tail _ (.tail _ (.tail _ (.tail _ (.head _))))))), hb _ (.tail _ (.tail _ (.tail _ (.tail _ (.tail _ (.tail _ (.tail _ (.head _)))))))) ⟩
/-- the products, one by one -/
abbrev prods (us ps : List Int) (i : Nat) : List Int := (List.range i).map fun j => us.getD j 0 * ps.getD j 0
theorem prods_snoc (us ps : List Int) (i : Nat) : prods us ps (i + 1) = prods us ps i ++ [us.getD i 0 * ps.getD i 0] := by
  unfold prods; rw [List.range_succ, List.map_append]; rfl
theorem prods_four (a b c d p q r s : Int) : prods [a, b, c, d] [p, q, r, s] 4 = [a * p, b * q, c * r, d * s] := rfl
/-- what holds between the turns of Euclid's own loop -/
inductive DueJ (due : List Int) (LDU lx ly : Addr) (rest : List (Addr × Obj)) (n : Nat) (m : Str → Option Value) (news : List (Addr × Obj)) : Prop
  | mk (mr : Str → Option Value) (top foot : Int) (tt tf : Tok) (dvs : List Value) (ds : List Int) (dn : Nat)
    (j0 : (m = fun y => if y = Str.ofString "top" then some (.int top tt) else if y = Str.ofString "foot" then some (.int foot tf) else if y = Str.ofString "due" then some (.ref LDU) else if y = Str.ofString "xs" then some (.ref lx) else if y = Str.ofString "ys" then some (.ref ly) else mr y))
    (j1 : news = (LDU, listOf (List.toArray dvs) dn) :: rest)
    (j2 : IntsAre dvs ds)
    (j3 : ds ++ euclid top foot = due)
    (j4 : foot.natAbs < 2 ^ 60)
    (j5 : n = (euclid top foot).length) : DueJ due LDU lx ly rest n m news
theorem due_short {t f : Int} (h : f.natAbs < 2 ^ 60) : (euclid t f).length < 2 ^ 10 := by
  have := euclid_log 60 t f h
  omega
theorem len_le_of {l r due : List Int} (h : l ++ r = due) : l.length ≤ due.length := by
  rw [← h, List.length_append]; omega
end Mine
end

section
open PySem PySem.W PyProof.Rows PySem.Calls
namespace Mine
/-- from here on the walk stops at the cells -/
inductive Marker2 : Prop
  | mk
theorem getD_mem {X : List Int} {i : Nat} (h : i < X.length) : X.getD i 0 ∈ X := by
  rw [List.getD_eq_getElem?_getD, List.getElem?_eq_getElem h]
  exact List.getElem_mem h
theorem getD_drop {X : List Int} {i : Nat} (h : i < X.length) : X.drop i = X.getD i 0 :: X.drop (i + 1) := by
  rw [List.getD_eq_getElem?_getD, List.getElem?_eq_getElem h, List.drop_eq_getElem_cons h]
  rfl
/-- from here on the walk goes through an if -/
inductive Marker3 : Prop
  | mk
/-- the lists of the law's loop lie apart -/
structure ApL (I LU LV LR c1 c2 : Addr) (fx TL : List (Addr × Obj)) : Prop where
  uv : @Ne Nat LU LV
  ur : @Ne Nat LU LR
  vr : @Ne Nat LV LR
  iu : @Ne Nat I LU
  iv : @Ne Nat I LV
  ir : @Ne Nat I LR
  u1 : @Ne Nat LU c1
  v1 : @Ne Nat LV c1
  r1 : @Ne Nat LR c1
  u2 : @Ne Nat LU c2
  v2 : @Ne Nat LV c2
  r2 : @Ne Nat LR c2
  i1 : @Ne Nat I c1
  i2 : @Ne Nat I c2
  c12 : @Ne Nat c1 c2
  ox : ∀ q ∈ fx, @Ne Nat q.1 LU ∧ @Ne Nat q.1 LV ∧ @Ne Nat q.1 LR ∧ @Ne Nat q.1 I ∧ @Ne Nat q.1 c1 ∧ @Ne Nat q.1 c2 ∧ ∀ r ∈ TL, @Ne Nat q.1 r.1
  ot : ∀ r ∈ TL, @Ne Nat r.1 LU ∧ @Ne Nat r.1 LV ∧ @Ne Nat r.1 LR ∧ @Ne Nat r.1 I ∧ @Ne Nat r.1 c1 ∧ @Ne Nat r.1 c2
section
variable {I LU LV LR c1 c2 : Addr} {fx TL : List (Addr × Obj)} {oi or ou ov o1 o2 : Obj}
theorem ApL.atU (A : ApL I LU LV LR c1 c2 fx TL) : ∀ q ∈ (c1, o1) :: (c2, o2) :: (LV, ov) :: (I, oi) :: (LR, or) :: (fx ++ TL), ∀ r ∈ [(LU, ou)], q.1 ≠ r.1 := by
  intro q hq r hr
  rw [List.mem_singleton] at hr
  subst hr
  simp only [List.mem_cons, List.mem_append] at hq
  rcases hq with rfl | rfl | rfl | rfl | rfl | hq | hq
  · exact fun e => A.u1 e.symm
  · exact fun e => A.u2 e.symm
  · exact fun e => A.uv e.symm
  · exact A.iu
  · exact fun e => A.ur e.symm
  · exact (A.ox q hq).1
  · exact (A.ot q hq).1
theorem ApL.atV (A : ApL I LU LV LR c1 c2 fx TL) : ∀ q ∈ (c1, o1) :: (c2, o2) :: (LU, ou) :: (I, oi) :: (LR, or) :: (fx ++ TL), ∀ r ∈ [(LV, ov)], q.1 ≠ r.1 := by
  intro q hq r hr
  rw [List.mem_singleton] at hr
  subst hr
  simp only [List.mem_cons, List.mem_append] at hq
  rcases hq with rfl | rfl | rfl | rfl | rfl | hq | hq
  · exact fun e => A.v1 e.symm
  · exact fun e => A.v2 e.symm
  · exact A.uv
  · exact A.iv
  · exact fun e => A.vr e.symm
  · exact (A.ox q hq).2.1
  · exact (A.ot q hq).2.1
theorem ApL.setU {l : Addr} (A : ApL I LU LV LR c1 c2 fx TL) (h : ∀ q ∈ (c1, o1) :: (c2, o2) :: (LV, ov) :: (I, oi) :: (LR, or) :: (fx ++ TL), @Ne Nat q.1 l) : ApL I l LV LR c1 c2 fx TL :=
  { A with
    uv := fun e => h (LV, ov) (by simp) e.symm
    ur := fun e => h (LR, or) (by simp) e.symm
    iu := h (I, oi) (by simp)
    u1 := fun e => h (c1, o1) (by simp) e.symm
    u2 := fun e => h (c2, o2) (by simp) e.symm
    ox := fun q hq => ⟨h q (by simp [hq]), (A.ox q hq).2⟩
    ot := fun q hq => ⟨h q (by simp [hq]), (A.ot q hq).2⟩ }
theorem ApL.setV {l : Addr} (A : ApL I LU LV LR c1 c2 fx TL) (h : ∀ q ∈ (c1, o1) :: (c2, o2) :: (LU, ou) :: (I, oi) :: (LR, or) :: (fx ++ TL), @Ne Nat q.1 l) : ApL I LU l LR c1 c2 fx TL :=
  { A with
    uv := h (LU, ou) (by simp)
    vr := fun e => h (LR, or) (by simp) e.symm
    iv := h (I, oi) (by simp)
    v1 := fun e => h (c1, o1) (by simp) e.symm
    v2 := fun e => h (c2, o2) (by simp) e.symm
    ox := fun q hq => ⟨(A.ox q hq).1, h q (by simp [hq]), (A.ox q hq).2.2⟩
    ot := fun q hq => ⟨(A.ot q hq).1, h q (by simp [hq]), (A.ot q hq).2.2⟩ }
theorem ApL.at1 (A : ApL I LU LV LR c1 c2 fx TL) : ∀ q ∈ (c2, o2) :: (LU, ou) :: (LV, ov) :: (I, oi) :: (LR, or) :: (fx ++ TL), @Ne Nat q.1 c1 := by
  intro q hq
  simp only [List.mem_cons, List.mem_append] at hq
  rcases hq with rfl | rfl | rfl | rfl | rfl | hq | hq
  · exact fun e => A.c12 e.symm
  · exact A.u1
  · exact A.v1
  · exact A.i1
  · exact A.r1
  · exact (A.ox q hq).2.2.2.2.1
  · exact (A.ot q hq).2.2.2.2.1
theorem ApL.at2 (A : ApL I LU LV LR c1 c2 fx TL) : ∀ q ∈ (c1, o1) :: (LU, ou) :: (LV, ov) :: (I, oi) :: (LR, or) :: (fx ++ TL), @Ne Nat q.1 c2 := by
  intro q hq
  simp only [List.mem_cons, List.mem_append] at hq
  rcases hq with rfl | rfl | rfl | rfl | rfl | hq | hq
  · exact A.c12
  · exact A.u2
  · exact A.v2
  · exact A.i2
  · exact A.r2
  · exact (A.ox q hq).2.2.2.2.2.1
  · exact (A.ot q hq).2.2.2.2.2
/-- at the coming out -/
theorem ApL.atO (A : ApL I LU LV LR c1 c2 fx TL) : ∀ q ∈ (c1, o1) :: (c2, o2) :: (I, oi) :: fx, ∀ r ∈ ((LU, ou) :: (LV, ov) :: (LR, or) :: TL), q.1 ≠ r.1 := by
  intro q hq r hr
  simp only [List.mem_cons] at hq hr
  rcases hr with rfl | rfl | rfl | hr
  · rcases hq with rfl | rfl | rfl | hq
    · exact fun e => A.u1 e.symm
    · exact fun e => A.u2 e.symm
    · exact A.iu
    · exact (A.ox q hq).1
  · rcases hq with rfl | rfl | rfl | hq
    · exact fun e => A.v1 e.symm
    · exact fun e => A.v2 e.symm
    · exact A.iv
    · exact (A.ox q hq).2.1
  · rcases hq with rfl | rfl | rfl | hq
    · exact fun e => A.r1 e.symm
    · exact fun e => A.r2 e.symm
    · exact A.ir
    · exact (A.ox q hq).2.2.1
  · rcases hq with rfl | rfl | rfl | hq
    · exact fun e => (A.ot r hr).2.2.2.2.1 e.symm
    · exact fun e => (A.ot r hr).2.2.2.2.2 e.symm
    · exact fun e => (A.ot r hr).2.2.2.1 e.symm
    · exact (A.ox q hq).2.2.2.2.2.2 r hr
theorem ApL.out {LU' LV' x : Addr} {ox : Obj} {TL' : List (Addr × Obj)} (A : ApL I LU LV LR c1 c2 fx TL) (h : ∀ q ∈ (c1, o1) :: (c2, o2) :: (I, oi) :: fx, ∀ r ∈ ((x, ox) :: (LU', ou) :: (LV', ov) :: (LR, or) :: TL'), q.1 ≠ r.1)
    (h1 : @Ne Nat LU' LV') (h2 : @Ne Nat LU' LR) (h3 : @Ne Nat LV' LR) (h4 : ∀ r ∈ TL', r.1 ≠ LU' ∧ r.1 ≠ LV' ∧ r.1 ≠ LR) : ApL I LU' LV' LR c1 c2 fx TL' := by
  have mU : (LU', ou) ∈ ((x, ox) :: (LU', ou) :: (LV', ov) :: (LR, or) :: TL') := by simp
  have mV : (LV', ov) ∈ ((x, ox) :: (LU', ou) :: (LV', ov) :: (LR, or) :: TL') := by simp
  have m1 : (c1, o1) ∈ (c1, o1) :: (c2, o2) :: (I, oi) :: fx := by simp
  have m2 : (c2, o2) ∈ (c1, o1) :: (c2, o2) :: (I, oi) :: fx := by simp
  have mi : (I, oi) ∈ (c1, o1) :: (c2, o2) :: (I, oi) :: fx := by simp
  have mt : ∀ r ∈ TL', r ∈ ((x, ox) :: (LU', ou) :: (LV', ov) :: (LR, or) :: TL') := fun r hr => by simp [hr]
  have mf : ∀ q ∈ fx, q ∈ (c1, o1) :: (c2, o2) :: (I, oi) :: fx := fun q hq => by simp [hq]
  exact { A with
    uv := h1, ur := h2, vr := h3
    iu := h _ mi _ mU
    iv := h _ mi _ mV
    u1 := fun e => h _ m1 _ mU e.symm
    v1 := fun e => h _ m1 _ mV e.symm
    u2 := fun e => h _ m2 _ mU e.symm
    v2 := fun e => h _ m2 _ mV e.symm
    ox := fun q hq => ⟨h _ (mf q hq) _ mU, h _ (mf q hq) _ mV, (A.ox q hq).2.2.1, (A.ox q hq).2.2.2.1, (A.ox q hq).2.2.2.2.1, (A.ox q hq).2.2.2.2.2.1, fun r hr => h _ (mf q hq) _ (mt r hr)⟩
    ot := fun r hr => ⟨(h4 r hr).1, (h4 r hr).2.1, (h4 r hr).2.2, fun e => h _ mi _ (mt r hr) e.symm, fun e => h _ m1 _ (mt r hr) e.symm, fun e => h _ m2 _ (mt r hr) e.symm⟩ }
end
/-- what holds between the goings in, in the heap -/
inductive RowJ (X Y due : List Int) (fx : List (Addr × Obj)) (I LR lx ly LDU c1 c2 : Addr) (i : Nat) (m : Str → Option Value) (news : List (Addr × Obj)) : Prop
  | mk (mr : Str → Option Value) (uk : Option Value) (LU LV : Addr) (a b c d e f g h : Int) (ta tb tc td te tf tg th : Tok) (n1 n2 : Nat) (oU oV : Obj) (rvs : List Value) (row : List Int) (pn : Nat) (v1 v2 : Option (Addr × Obj))
    (j0 : (m = fun y => if y = Str.ofString "k" then uk else if y = Str.ofString "xs" then some (.ref lx) else if y = Str.ofString "ys" then some (.ref ly) else if y = Str.ofString "due" then some (.ref LDU) else if y = Str.ofString "row" then some (.ref LR) else mr y))
    (j1 : news = (c1, oU) :: (c2, oV) :: L4 LU a b c d ta tb tc td n1 :: L4 LV e f g h te tf tg th n2 :: (LR, listOf (List.toArray rvs) pn) :: (fx ++ TT v1 v2))
    (j2 : oU.data = .cell (some (.ref LU)))
    (j3 : oV.data = .cell (some (.ref LV)))
    (j4 : IntsAre rvs row)
    (j5 : CodeOk qual1 v1)
    (j6 : CodeOk qual2 v2)
    (j7 : Ing (X.drop i) (Y.drop i) due (9 * 160000 ^ i) a b c d e f g h row)
    (j8 : ApL I LU LV LR c1 c2 fx (TT v1 v2)) : RowJ X Y due fx I LR lx ly LDU c1 c2 i m news
/-- the second quotient is in, or there is none -/
inductive SecOut (X Y due : List Int) (B : Int) (row : List Int) (g : Heap) (L : Addr) (m : Str → Option Value) (s : Shared) (I LR c1 c2 : Addr) (oi or : Obj) (fx TL : List (Addr × Obj)) (ff : Flow) (s' : Shared) : Prop
  | mk (j0 : ff = .next) (hh : Heap) (tk : Nat) (LU LV : Addr) (a b c d e f g' h : Int) (ta tb tc td te tf tg th : Tok) (n1 n2 : Nat) (oU oV : Obj)
    (j1 : s' = { s with heap := hh, toks := tk })
    (j2 : Fr g L hh m)
    (j3 : News g L hh ((c1, oU) :: (c2, oV) :: L4 LU a b c d ta tb tc td n1 :: L4 LV e f g' h te tf tg th n2 :: (I, oi) :: (LR, or) :: (fx ++ TL)))
    (j4 : oU.data = .cell (some (.ref LU)))
    (j5 : oV.data = .cell (some (.ref LV)))
    (j6 : Ing X Y due B a b c d e f g' h row)
    (j7 : ApL I LU LV LR c1 c2 fx TL) : SecOut X Y due B row g L m s I LR c1 c2 oi or fx TL ff s'
theorem mem_mid {α : Type} {q u v r c1 c2 i : α} {T f : List α} (h : q ∈ (u :: v :: r :: T) ++ (c1 :: c2 :: i :: f)) : q ∈ c1 :: c2 :: u :: v :: i :: r :: (f ++ T) := by
  simp only [List.cons_append, List.mem_cons, List.mem_append] at h ⊢
  rcases h with h | h | h | h | h | h | h | h <;> simp only [h, true_or, or_true]
theorem mem_mid2 {α : Type} {q x u v r c1 c2 i : α} {T f : List α} (h : q ∈ x :: c1 :: c2 :: u :: v :: i :: r :: (f ++ T)) : q ∈ (x :: u :: v :: r :: T) ++ (c1 :: c2 :: i :: f) := by
  simp only [List.cons_append, List.mem_cons, List.mem_append] at h ⊢
  rcases h with h | h | h | h | h | h | h | h | h <;> simp only [h, true_or, or_true]
theorem bnd4 : ∀ i : Nat, i < 4 → (4 : Int) * (100 * (100 * (9 * 160000 ^ i))) < 2 ^ 150
  | 0, _ => by decide
  | 1, _ => by decide
  | 2, _ => by decide
  | 3, _ => by decide
  | n + 4, h => by omega
theorem bnd_next (i : Nat) : (4 : Int) * (4 * (100 * (100 * (9 * 160000 ^ i)))) = 9 * 160000 ^ (i + 1) := by
  rw [Int.pow_succ]; omega
theorem Ing.none {X Y due row : List Int} {B a b c d e f g h : Int} {i : Nat} (I : Ing X (Y.drop i) due B a b c d e f g h row) (hi : Y.length ≤ i) : Ing X (Y.drop (i + 1)) due (100 * B) a b c d e f g h row := by
  have e1 : Y.drop i = [] := List.drop_eq_nil_of_le hi
  have e2 : Y.drop (i + 1) = [] := List.drop_eq_nil_of_le (by omega)
  rw [e1] at I
  rw [e2]
  have := I.up.nonneg
  exact ⟨I.up.mono (by omega), I.lo.mono (by omega), I.row⟩
section
variable {I LU LV LR c1 c2 : Addr} {fx TL : List (Addr × Obj)} {oi or ou ov o1 o2 : Obj}
theorem ApL.off (A : ApL I LU LV LR c1 c2 fx TL) : ∀ q ∈ (c1, o1) :: (c2, o2) :: (LU, ou) :: (LV, ov) :: (LR, or) :: (fx ++ TL), q.1 ≠ I := by
  intro q hq
  simp only [List.mem_cons, List.mem_append] at hq
  rcases hq with rfl | rfl | rfl | rfl | rfl | hq | hq
  · exact fun e => A.i1 e.symm
  · exact fun e => A.i2 e.symm
  · exact fun e => A.iu e.symm
  · exact fun e => A.iv e.symm
  · exact fun e => A.ir e.symm
  · exact (A.ox q hq).2.2.2.1
  · exact (A.ot q hq).2.2.2.1
end
/-- what holds between the turns of the last loop -/
inductive WJ (due : List Int) (LR LDU : Addr) (od : Obj) (n : Nat) (m : Str → Option Value) (news : List (Addr × Obj)) : Prop
  | mk (mr : Str → Option Value) (uq ur : Option Value) (top foot : Int) (tt tf : Tok) (rvs : List Value) (row : List Int) (pn : Nat) (v1 v2 : Option (Addr × Obj))
    (j0 : (m = fun y => if y = Str.ofString "quotient" then uq else if y = Str.ofString "rest" then ur else if y = Str.ofString "top" then some (.int top tt) else if y = Str.ofString "foot" then some (.int foot tf) else if y = Str.ofString "row" then some (.ref LR) else if y = Str.ofString "due" then some (.ref LDU) else mr y))
    (j1 : news = (LR, listOf (List.toArray rvs) pn) :: (LDU, od) :: TT v1 v2)
    (j2 : IntsAre rvs row)
    (j3 : CodeOk qual1 v1)
    (j4 : CodeOk qual2 v2)
    (j5 : row ++ euclid top foot = due)
    (j6 : top.natAbs < 2 ^ 190)
    (j7 : foot.natAbs < 2 ^ 190)
    (j8 : n = (euclid top foot).length)
    (j9 : @Ne Nat LDU LR)
    (j10 : ∀ q ∈ TT v1 v2, q.1 ≠ LR ∧ q.1 ≠ LDU) : WJ due LR LDU od n m news
theorem mem_swap2 {α : Type} {q a b : α} {T : List α} (h : q ∈ T ++ [a, b]) : q ∈ a :: b :: T := by
  simp only [List.mem_cons, List.mem_append, List.not_mem_nil, or_false] at h ⊢
  rcases h with h | h | h <;> simp only [h, true_or, or_true]
theorem mem_swap3 {α : Type} {q x a b : α} {T : List α} (h : q ∈ x :: a :: b :: T) : q ∈ x :: (T ++ [a, b]) := by
  simp only [List.mem_cons, List.mem_append, List.not_mem_nil, or_false] at h ⊢
  rcases h with h | h | h | h <;> simp only [h, true_or, or_true]
theorem bnd5 : ∀ n : Nat, n ≤ 4 → (9 : Int) * 160000 ^ n < 2 ^ 190
  | 0, _ => by decide
  | 1, _ => by decide
  | 2, _ => by decide
  | 3, _ => by decide
  | 4, _ => by decide
  | n + 5, h => by omega
/-- from here on the walk stops at the last comprehension -/
inductive Marker4 : Prop
  | mk
section
variable {prog : Program} {w : World} {A : Around} {s : Shared} {h₀ : Heap} {L : Addr} {m : Str → Option Value} {env : Env}
/-- the turns of a comprehension with a test by what holds between them -/
theorem compRestT_ind {ct elt : Expr} {x : Str} {scope : Scope} {cl : List (Str × Addr)} {S : List (Addr × Obj) → Prop} {P : Nat → Value → Prop} {Fin : List Value → List (Addr × Obj) → Prop} {n : Nat} (J : Nat → List Value → List (Addr × Obj) → Prop)
    (turn : ∀ i ys news, i < n → J i ys news → ∀ v I oI C oC D m₂ h tk (E' : Value → Shared → Prop), P i v → LCg.NsObj oC m₂ → m₂ x = some v → Fr h₀ L h m → News h₀ L h ((I, oI) :: (C, oC) :: (D, LCg.lst ys) :: news) → LCg.Off3 I C D news → ((@Ne Nat I C) ∧ (@Ne Nat I D) ∧ (@Ne Nat C D)) →
      wpAny (model prog w) A (isTrue ct (compEnvC scope cl C env) (eval ct (compEnvC scope cl C env))) (fun ok s' => if ok = true then
        wpAny (model prog w) A (eval elt (compEnvC scope cl C env)) (LCg.CompEnd h₀ L m { s with heap := h, toks := tk } I oI C oC D (LCg.lst ys) S (fun y news' => J (i + 1) (ys ++ [y]) news')) E' s'
        else LCg.CompEnd h₀ L m { s with heap := h, toks := tk } I oI C oC D (LCg.lst ys) S (fun _ news' => J (i + 1) ys news') Value.none s') E' { s with heap := h, toks := tk })
    (done : ∀ ys news, J n ys news → Fin ys news) :
    ∀ (k i : Nat) (ys : List Value) (news : List (Addr × Obj)), i + k = n → J i ys news → LCt.CompRestT prog w A h₀ L m env ct elt x scope cl s S P Fin k i ys news
  | 0, i, ys, news, e, hj => by
    rw [Nat.add_zero] at e
    subst e
    exact LCt.CompRestT.zero (done ys news hj)
  | k + 1, i, ys, news, e, hj => by
    refine LCt.CompRestT.succ fun v I oI C oC D m₂ h tk E' hP hC hx F N off ne => wpAny_mono (turn i ys news (by omega) hj v I oI C oC D m₂ h tk E' hP hC hx F N off ne) (fun ok s₂ p => ?_) fun _ _ e => e
    cases ok with
    | true =>
      simp only [if_true] at p ⊢
      refine wpAny_mono p (fun y s₃ p => ?_) fun _ _ e => e
      obtain ⟨h', tk', news', e1, F', N', off', hS, hJ⟩ := p
      exact ⟨h', tk', news', e1, F', N', off', hS, compRestT_ind J turn done k (i + 1) (ys ++ [y]) news' (by omega) hJ⟩
    | false =>
      simp only [Bool.false_eq_true, if_false] at p ⊢
      obtain ⟨h', tk', news', e1, F', N', off', hS, hJ⟩ := p
      exact ⟨h', tk', news', e1, F', N', off', hS, compRestT_ind J turn done k (i + 1) ys news' (by omega) hJ⟩
end
theorem grown0 {h₀ h : Heap} {L : Addr} {u1 u2 : Option (Addr × Obj)} (N : News h₀ L h (TT u1 u2)) : GrownAll [(41, 37), (34, 30)] h := by
  have m : ∀ q ∈ TT u1 u2, h.get? q.1 = some q.2 := fun q hq => (N q hq).1
  refine ⟨?_, ?_, trivial⟩
  · rcases u2 with _ | ⟨c, o⟩
    · exact ⟨_, m (37, tabObj #[]) (List.mem_append_right _ (.head _))⟩
    · exact ⟨_, m (37, tabObj #[rawInt 47, rawInt 4, .ref c]) (List.mem_append_right _ (.head _))⟩
  · rcases u1 with _ | ⟨c, o⟩
    · exact ⟨_, m (30, tabObj #[]) (List.mem_append_left _ (.head _))⟩
    · exact ⟨_, m (30, tabObj #[rawInt 32, rawInt 4, .ref c]) (List.mem_append_left _ (.head _))⟩
theorem post2 (ns : List Int) : PySem.Challenge.rw_mq0470_02.row.claim.post [ofPy (PyData.list (ns.map PyData.int))] (.bool true) [ofPy (PyData.list (ns.map PyData.int))] = true :=
  postW_of (by wrow_shape) (by wtm_val) rfl
theorem raise2 (ns : List Int) (cls) : PySem.Challenge.rw_mq0470_02.row.claim.raises [ofPy (PyData.list (ns.map PyData.int))] cls = false := rfl
/-- the law's end: it hands back True, and nothing is left over -/
inductive Ended (gs : Array PySem.GenState) (os : PySem.OsState) (g : Heap) (L : Addr) (f : Flow) (s' : Shared) : Prop
  | mk (m : Str → Option Value) (e : f = .ret (.bool true)) (F : Fr g L s'.heap m) (hg : s'.gens = gs) (ho : s'.os = os) (hgr : GrownAll [(41, 37), (34, 30)] s'.heap)
/-! small facts about numbers, each said once -/
theorem min8 (n : Nat) : min (min 16 n - 8) (n - 8) ≤ 8 := by omega
theorem halves (n : Nat) : n / 2 ≤ (n + 1) / 2 ∧ (n + 1) / 2 ≤ n / 2 + 1 := by omega
theorem half3 {n : Nat} (h : n ≤ 6) : n / 2 ≤ 3 := by omega
theorem half3s {n : Nat} (h : n ≤ 6) : (n + 1) / 2 ≤ 3 := by omega
theorem w64 {x : Int} (h : -100000000 ≤ x ∧ x ≤ 100000000) : x.natAbs < 2 ^ 64 := by omega
theorem q64 {x : Int} (h : -99 ≤ x ∧ x ≤ 99) : x.natAbs < 2 ^ 64 := by omega
theorem i63 {i n : Nat} (h : i < n) (h4 : n ≤ 4) : i < 2 ^ 63 := by omega
theorem n190 {B a : Int} (h : -B ≤ a ∧ a ≤ B) (hB : B < 2 ^ 190) : a.natAbs < 2 ^ 190 := by omega
theorem lo200 {a : Int} (h : a.natAbs < 2 ^ 190) : -(2 ^ 200) < a := by omega
theorem hi200 {a : Int} (h : a.natAbs < 2 ^ 190) : a < 2 ^ 200 := by omega
end Mine
end

section
open PySem PySem.W PyProof.Rows PySem.Calls
local macro_rules | `(tactic| walk_at "And") => `(tactic| ((with_reducible show GoodW _ _ _ _ _ _ _ ∧ GrownAll _ _); refine Mine.Hold.out ?_))
local macro_rules | `(tactic| walk_at "binaryOp Add ref ref") => `(tactic| refine Mine.Hold.out ?_)
local macro_rules | `(tactic| walk_at "binaryOp Mult int int") => `(tactic| refine Mine.Hold.out ?_)
local macro_rules | `(tactic| walk_at "subscriptTail Name Name ref int") => `(tactic| ((have mk9 : Mine.Marker := by assumption); clear mk9; refine Mine.Hold.out ?_))
local macro_rules | `(tactic| walk_at "eval ListComp") => `(tactic| (k_here; (have mk9 : Mine.Marker := by assumption); clear mk9; k_dflt (refine LCg.ListComp_U (F₀ := by k_asm) (by with_unfolding_all rfl) (by decide) (by rfl) (by decide) (by rfl) ?_); k_dflt lcg_toSrc))
local macro_rules | `(tactic| walk_at "eval ListComp") => `(tactic| ((have mk9 : Mine.Marker4 := by assumption); clear mk9; refine Mine.Hold.out ?_))
local macro_rules | `(tactic| walk_at "CompSrcT") => `(tactic| refine Mine.Hold.out ?_)
local macro_rules | `(tactic| walk_at "CompRestT") => `(tactic| refine Mine.Hold.out ?_)
local macro_rules | `(tactic| walk_at "CompSrc") => `(tactic| ((have mk9 : Mine.Marker := by assumption); clear mk9; refine Mine.Hold.out ?_))
local macro_rules | `(tactic| walk_at "CompRest") => `(tactic| ((have mk9 : Mine.Marker := by assumption); clear mk9; refine Mine.Hold.out ?_))
local macro_rules | `(tactic| walk_at "CompEnd") => `(tactic| ((have mk9 : Mine.Marker := by assumption); clear mk9; refine Mine.Hold.out ?_))
local macro_rules | `(tactic| walk_at "FinE") => `(tactic| ((have mk9 : Mine.Marker := by assumption); clear mk9; refine Mine.Hold.out ?_))
local macro_rules | `(tactic| walk_at "exec While") => `(tactic| refine Mine.Hold.out ?_)
local macro_rules | `(tactic| walk_at "WhileStep2") => `(tactic| refine Mine.Hold.out ?_)
local macro_rules | `(tactic| walk_at "pyIter ref") => `(tactic| ((have mk9 : Mine.Marker := by assumption); clear mk9; refine Mine.Hold.out ?_))
local macro_rules | `(tactic| walk_at "binaryOp FloorDiv int int") => `(tactic| refine Mine.Hold.out ?_)
local macro_rules | `(tactic| walk_at "call builtin:list.append") => `(tactic| refine Mine.Hold.out ?_)
local macro_rules | `(tactic| walk_at "storeName") => `(tactic| ((have mk9 : Mine.Marker2 := by assumption); clear mk9; (first | (with_reducible show wpAny _ _ (storeName _ (Str.ofString "upper") _) _ _ _) | (with_reducible show wpAny _ _ (storeName _ (Str.ofString "lower") _) _ _ _)); refine Mine.Hold.out ?_))
local macro_rules | `(tactic| walk_at "exec For") => `(tactic| (k_here; (rename Fr _ _ _ _ => lF'); (with_unfolding_all refine' For_invVF lF' ?k1 ?k2 ?_; (case k1 => exact rfl); (case k2 => exact rfl); k_whole)))
local macro_rules | `(tactic| walk_at "UnrEnd") => `(tactic| refine Mine.Hold.out ?_)
local macro_rules | `(tactic| walk_at "compareOp Eq ref ref") => `(tactic| refine Mine.Hold.out ?_)
local macro_rules | `(tactic| walk_at "newList") => `(tactic| refine Mine.Hold.out ?_)
local macro_rules | `(tactic| walk_at "subscriptTail") => `(tactic| refine Mine.Hold.out ?_)
local macro_rules | `(tactic| walk_at "subscriptTail Name Slice ref ref") => `(tactic| ((with_reducible show wpAny _ _ (subscriptTail _ (PySem.Expr.Slice _ none (some _) _) (Value.ref _) (Value.ref _)) _ _ _); refine Mine.Hold.out ?_))
local macro_rules | `(tactic| walk_at "exec If") => `(tactic| ((fail_if_success (have mk9 : Mine.Marker3 := by assumption)); (fail_if_success (with_reducible show wpAny _ _ _ (Mine.NumOut _ _ _ _ _) _ _)); (fail_if_success (with_reducible show wpAny _ _ _ (Mine.SecOut _ _ _ _ _ _ _ _ _ _ _ _ _ _ _ _ _) _ _)); refine Mine.Hold.out ?_))
set_option maxRecDepth 100000 in
set_option maxHeartbeats 8000000 in
theorem Mine.whole : PySem.Challenge.rw_mq0470_02.Holds := Mine.hd (by
  k_go0
  rename Shared => s₁
  all_goals try k_fold
  refine wpAny_mono (Q := Mine.Ended s₁.gens s₁.os (ghostOf s₁.heap [(41, 37), (34, 30)]) s₁.heap.objs.size) (E := fun _ _ => False) ?_ ?finL (fun _ _ h => h.elim)
  case finL =>
    rintro f s' ⟨m, rfl, F, hg, ho, hgr⟩
    exact ⟨goodW_bool F (hg.trans (by assumption)) (Mine.raise2 _) (Mine.post2 _) ho, hgr⟩
  k_steps
  rename List Int => ns
  rename Fr _ _ _ _ => F9
  rename News _ _ _ _ => N9
  rename_i cP cL cU dP dL dU zX0 zX zT zK zH l0 zD zws D1 zF zN z1 z2 hL1 z4 z5 z6 z7 hI8 hL8 DE z8 z9 z10
  refine Mine.hold_in (newList_K F9 N9 ?_)
  clear F9 N9
  intro l1 hh1 F9 N9 lt1
  k_lt lt1
  k_steps
  rename Fr _ _ _ _ => F9
  rename News _ _ _ _ => N9
  refine Mine.hold_in ?_
  k_dflt (refine' Mine.slice_from F9 N9 ?l9 (.cons 0 _ (.cons 1 _ (.cons 1 _ (.cons 0 _ (.cons 0 _ (.cons 0 _ (.cons 0 _ (.cons 1 _ .nil)))))))) (Nat.le_of_ble_eq_true rfl) ?_ ?s9)
  case l9 => kmk_list
  case s9 => with_unfolding_all rfl
  clear F9 N9
  intro D2 ws2 hh2 F9 N9 lt2 hI2
  clear lt2
  k_steps
  refine Mine.hold_in ?_
  k_dflt (refine' kmk_add_ints F9 N9 ?l9 ?l8 hI8 hI2 ?_ ?zq9)
  case l9 => kmk_list
  case l8 => kmk_list
  case zq9 => simp only [List.length_map, List.length_take, List.length_drop, List.length_cons, List.length_nil, sizeLine_eq]; omega
  clear F9 N9
  intro D3 us hh3 F9 N9 lt3 hu
  have hD3 : s₁.heap.objs.size + 1 + 1 + 1 < D3 := lt3 (s₁.heap.objs.size + 1 + 1 + 1, cP) (.tail _ (.tail _ (.tail _ (.tail _ (.head _)))))
  obtain ⟨he8, heb⟩ := Mine.eight_ok (by rw [List.length_map, List.length_take]; exact Nat.min_le_left _ _) (Mine.coef_ok (l := List.take 8 ns)) rfl
  obtain ⟨a, b, c, d, e, f, g, h, ta, tb, tc, td, te, tf, tg, th, rfl, hee⟩ := Mine.ints_eight hu he8
  rw [hee] at heb
  clear hu hee he8 hI2 hI8 hL8 lt3
  k_steps
  rename Fr _ _ _ _ => F9
  rename News _ _ _ _ => N9
  rename_i DN wsN _ hIN hCN hLN ltN _
  obtain ⟨G, hG⟩ : ∃ G, G = ghostOf s₁.heap [(41, 37), (34, 30)] := ⟨_, rfl⟩
  obtain ⟨LL, hLL⟩ : ∃ LL, LL = s₁.heap.objs.size := ⟨_, rfl⟩
  have hNlen : (List.take (min 16 ns.length - 8) (List.drop 8 ns)).length ≤ 8 := by rw [List.length_take, List.length_drop]; exact Mine.min8 _
  generalize hnu : List.take (min 16 ns.length - 8) (List.drop 8 ns) = nu at hIN hCN hLN hNlen
  refine Mine.hold_in ?_
  refine wpAny_mono (Q := Mine.NumOut (ghostOf s₁.heap [(41, 37), (34, 30)]) s₁.heap.objs.size D3 s₁ ((D3, listOf #[.int a ta, .int b tb, .int c tc, .int d td, .int e te, .int f tf, .int g tg, .int h th] 0) :: (s₁.heap.objs.size + 1 + 1 + 1, cP) :: (s₁.heap.objs.size + 1 + 1, cL) :: (s₁.heap.objs.size + 1, cU) :: Mine.TT none none)) ?zif ?zrest (fun _ _ e => e)
  case zif =>
    k_steps
    · rename Fr _ _ _ _ => F9
      rename_i hlt2 _
      refine Mine.hold_in (newList_K F9 N9 ?_)
      clear F9
      intro l5 hh5 F9 N9 lt5
      clear lt5
      k_steps
      rename Fr _ _ _ _ => F9
      rename News _ _ _ _ => N9
      refine Mine.hold_in ?_
      k_dflt (refine' Mine.slice_from F9 N9 ?l9 (.cons (-2) _ (.cons 3 _ (.cons 4 _ (.cons 0 _ (.cons 1 _ (.cons 6 _ .nil)))))) (Nat.le_of_ble_eq_true rfl) ?_ ?s9)
      case l9 => kmk_list
      case s9 => with_unfolding_all rfl
      clear F9 N9
      intro D6 ws6 hh6 F9 N9 lt6 hI6
      clear lt6
      k_steps
      refine Mine.hold_in ?_
      k_dflt (refine' kmk_add_ints F9 N9 ?l9 ?l8 hIN hI6 ?_ ?zq9)
      case l9 => kmk_list
      case l8 => kmk_list
      case zq9 => simp only [List.length_drop, List.length_cons, List.length_nil, sizeLine_eq]; omega
      clear F9 N9
      intro D7 u7 hh7 F9 N9 lt7 hu7
      k_steps
      rename Fr _ _ _ _ => F9
      rename News _ _ _ _ => N9
      have hl7 : (nu ++ List.drop nu.length [(-2 : Int), 3, 4, 0, 1, 6]).length = 6 := by
        rw [List.length_append, List.length_drop]; simp; omega
      refine ⟨rfl, _, _, D7, u7, _, _, _, rfl, Mine.fr_map2 F9 rfl rfl, Mine.news_sub N9 (List.forall_mem_cons.mpr ⟨(.head _), List.forall_mem_cons.mpr ⟨(.tail _ (.tail _ (.tail _ (.tail _ (.head _))))), List.forall_mem_cons.mpr ⟨(.tail _ (.tail _ (.tail _ (.tail _ (.tail _ (.tail _ (.tail _ (.tail _ (.tail _ (.head _)))))))))), List.forall_mem_cons.mpr ⟨(.tail _ (.tail _ (.tail _ (.tail _ (.tail _ (.tail _ (.tail _ (.tail _ (.tail _ (.tail _ (.head _))))))))))), List.forall_mem_cons.mpr ⟨(.tail _ (.tail _ (.tail _ (.tail _ (.tail _ (.tail _ (.tail _ (.tail _ (.tail _ (.tail _ (.tail _ (.head _)))))))))))), List.forall_mem_cons.mpr ⟨(.tail _ (.tail _ (.tail _ (.tail _ (.tail _ (.tail _ (.tail _ (.tail _ (.tail _ (.tail _ (.tail _ (.tail _ (.tail _ (.head _)))))))))))))), List.forall_mem_cons.mpr ⟨(.tail _ (.tail _ (.tail _ (.tail _ (.tail _ (.tail _ (.tail _ (.tail _ (.tail _ (.tail _ (.tail _ (.tail _ (.head _))))))))))))), fun _ h => nomatch h⟩⟩⟩⟩⟩⟩⟩), fun q hq => Nat.ne_of_lt (lt7 q ((List.forall_mem_cons.mpr ⟨(.tail _ (.tail _ (.tail _ (.head _)))), List.forall_mem_cons.mpr ⟨(.tail _ (.tail _ (.tail _ (.tail _ (.tail _ (.tail _ (.tail _ (.tail _ (.head _))))))))), List.forall_mem_cons.mpr ⟨(.tail _ (.tail _ (.tail _ (.tail _ (.tail _ (.tail _ (.tail _ (.tail _ (.tail _ (.head _)))))))))), List.forall_mem_cons.mpr ⟨(.tail _ (.tail _ (.tail _ (.tail _ (.tail _ (.tail _ (.tail _ (.tail _ (.tail _ (.tail _ (.head _))))))))))), List.forall_mem_cons.mpr ⟨(.tail _ (.tail _ (.tail _ (.tail _ (.tail _ (.tail _ (.tail _ (.tail _ (.tail _ (.tail _ (.tail _ (.tail _ (.head _))))))))))))), List.forall_mem_cons.mpr ⟨(.tail _ (.tail _ (.tail _ (.tail _ (.tail _ (.tail _ (.tail _ (.tail _ (.tail _ (.tail _ (.tail _ (.head _)))))))))))), fun _ h => nomatch h⟩⟩⟩⟩⟩⟩) q hq)), hu7, by omega, by omega⟩
    · rename_i hlt2 _
      rename Fr _ _ _ _ => F9
      refine ⟨rfl, _, _, DN, wsN, nu, _, _, rfl, Mine.fr_map2 F9 rfl rfl, Mine.news_sub N9 (List.forall_mem_cons.mpr ⟨(.head _), List.forall_mem_cons.mpr ⟨(.tail _ (.head _)), List.forall_mem_cons.mpr ⟨(.tail _ (.tail _ (.tail _ (.tail _ (.tail _ (.tail _ (.head _))))))), List.forall_mem_cons.mpr ⟨(.tail _ (.tail _ (.tail _ (.tail _ (.tail _ (.tail _ (.tail _ (.head _)))))))), List.forall_mem_cons.mpr ⟨(.tail _ (.tail _ (.tail _ (.tail _ (.tail _ (.tail _ (.tail _ (.tail _ (.head _))))))))), List.forall_mem_cons.mpr ⟨(.tail _ (.tail _ (.tail _ (.tail _ (.tail _ (.tail _ (.tail _ (.tail _ (.tail _ (.tail _ (.head _))))))))))), List.forall_mem_cons.mpr ⟨(.tail _ (.tail _ (.tail _ (.tail _ (.tail _ (.tail _ (.tail _ (.tail _ (.tail _ (.head _)))))))))), fun _ h => nomatch h⟩⟩⟩⟩⟩⟩⟩), ?apN, hIN, by omega, hNlen⟩
      intro q hq
      simp only [Mine.TT, Mine.tabL, List.cons_append, List.nil_append, List.mem_cons, List.not_mem_nil, or_false] at hq
      rcases hq with rfl | rfl | rfl | rfl | rfl | rfl <;> (refine Nat.ne_of_lt ?_; dsimp only; omega)
  case zrest =>
    clear F9 N9 hIN hCN hLN ltN hNlen hnu lt1
    have mk := Mine.Marker.mk
    rintro ff ss ⟨rfl, h9, tk9, DN, vs, nu, n, mr, rfl, F9, N9, apN, hnu, hn2, hn8⟩
    have hvl : vs.length ≤ 8 := by rw [hnu.length]; exact hn8
    match nu, hn2, hn8, hnu with
    | n0 :: n1 :: nr, hn2, hn8, hnu =>
    have hxi : IntsAre (Mine.evens vs) (n0 :: Mine.evens nr) := Mine.ints_evens hnu
    have hyi : IntsAre (Mine.odds vs) (n1 :: Mine.odds nr) := Mine.ints_odds hnu
    have hnr : nr.length ≤ 6 := by simp only [List.length_cons] at hn8; omega
    have hxl : (Mine.evens nr).length ≤ 3 := by rw [Mine.evens_length]; exact Mine.half3s hnr
    have hyl : (Mine.odds nr).length ≤ 3 := by rw [Mine.odds_length]; exact Mine.half3 hnr
    have hxy : (Mine.odds nr).length ≤ (Mine.evens nr).length ∧ (Mine.evens nr).length ≤ (Mine.odds nr).length + 1 := by rw [Mine.odds_length, Mine.evens_length]; exact Mine.halves _
    clear hn2 hn8 hnu
    have hT1 : ∀ q ∈ Mine.TT none none, q.1 ≠ s₁.heap.objs.size + 1 := by
      intro q hq
      simp only [Mine.TT, Mine.tabL, List.cons_append, List.nil_append, List.mem_cons, List.not_mem_nil, or_false] at hq
      rcases hq with rfl | rfl <;> (refine Nat.ne_of_lt ?_; dsimp only; omega)
    have hT2 : ∀ q ∈ Mine.TT none none, q.1 ≠ s₁.heap.objs.size + 1 + 1 := by
      intro q hq
      simp only [Mine.TT, Mine.tabL, List.cons_append, List.nil_append, List.mem_cons, List.not_mem_nil, or_false] at hq
      rcases hq with rfl | rfl <;> (refine Nat.ne_of_lt ?_; dsimp only; omega)
    have hT3 : ∀ q ∈ Mine.TT none none, q.1 ≠ s₁.heap.objs.size + 1 + 1 + 1 := by
      intro q hq
      simp only [Mine.TT, Mine.tabL, List.cons_append, List.nil_append, List.mem_cons, List.not_mem_nil, or_false] at hq
      rcases hq with rfl | rfl <;> (refine Nat.ne_of_lt ?_; dsimp only; omega)
    generalize hTL : Mine.TT none none = TL at N9 apN hT1 hT2 hT3
    dsimp only
    k_steps
    rename Fr _ _ _ _ => F9
    refine Mine.hold_in ?_
    k_dflt (refine' kmk_slice3_lit F9 N9 ?l9 (.int _ _) .none (.int _ _) ?o9 (Mine.pick_evens vs hvl) ?_ ?s9 ?t9 ?z9)
    case l9 => kmk_list
    case o9 => decide
    case s9 => with_unfolding_all rfl
    case t9 => kmk_pure
    case z9 => rw [sizeLine_eq, List.size_toArray]; omega
    clear F9 N9
    intro DX hh6 F9 N9 ltX
    k_steps
    refine Mine.hold_in ?_
    k_dflt (refine' Mine.Meet.use (Mine.law_row _ DX (Mine.evens vs) n0 (Mine.evens nr) 0 ((DN, listOf vs.toArray n) :: (D3, listOf #[.int a ta, .int b tb, .int c tc, .int d td, .int e te, .int f tf, .int g tg, .int h th] 0) :: (s₁.heap.objs.size + 1 + 1 + 1, cP) :: (s₁.heap.objs.size + 1 + 1, cL) :: (s₁.heap.objs.size + 1, cU) :: TL) hxi (by omega) ?hr4) ?k1 ?k2 ?k3 ?k4 ?k5 ?k6 ?k7 ?kK ?kd ?ku ?_; (case k1 => k_asm); (case k2 => k_asm); (case k3 => k_asm); (case k4 => exact N9); (case k5 => k_asm); (case k6 => k_asm); (case k7 => k_asm); (case kK => exact rfl); (case kd => ktr_room); (case ku => ktr_units))
    case hr4 =>
      intro q hq r hr
      rw [List.mem_singleton] at hr
      subst hr
      exact Nat.ne_of_lt (ltX q hq)
    clear F9 N9
    rintro r1 led1 hh1 tk1 ⟨lx, xvs, rfl, hxr, rfl, apX, ltx2⟩ F9 N9
    simp only [List.cons_append, List.nil_append] at N9
    dsimp only
    k_steps
    rename Fr _ _ _ _ => F9
    rename News _ _ _ _ => N9
    refine Mine.hold_in ?_
    have N9 := Mine.news_sub (l' := (DN, listOf vs.toArray n) :: (lx, listOf (List.toArray xvs) 0) :: (D3, listOf #[.int a ta, .int b tb, .int c tc, .int d td, .int e te, .int f tf, .int g tg, .int h th] 0) :: (s₁.heap.objs.size + 1 + 1 + 1, cP) :: (s₁.heap.objs.size + 1 + 1, cL) :: (s₁.heap.objs.size + 1, cU) :: TL) N9 (List.forall_mem_cons.mpr ⟨(.tail _ (.tail _ (.head _))), List.forall_mem_cons.mpr ⟨(.head _), List.forall_mem_cons.mpr ⟨(.tail _ (.tail _ (.tail _ (.head _)))), List.forall_mem_cons.mpr ⟨(.tail _ (.tail _ (.tail _ (.tail _ (.head _))))), List.forall_mem_cons.mpr ⟨(.tail _ (.tail _ (.tail _ (.tail _ (.tail _ (.head _)))))), List.forall_mem_cons.mpr ⟨(.tail _ (.tail _ (.tail _ (.tail _ (.tail _ (.tail _ (.head _))))))), fun q hq => .tail _ (.tail _ (.tail _ (.tail _ (.tail _ (.tail _ (.tail _ (hq)))))))⟩⟩⟩⟩⟩⟩)
    k_dflt (refine' kmk_slice3_lit F9 N9 ?l9 (.int _ _) .none (.int _ _) ?o9 (Mine.pick_odds vs hvl) ?_ ?s9 ?t9 ?z9)
    case l9 => kmk_list
    case o9 => decide
    case s9 => with_unfolding_all rfl
    case t9 => kmk_pure
    case z9 => rw [sizeLine_eq, List.size_toArray]; omega
    clear F9 N9
    intro DY hh6 F9 N9 ltY
    k_steps
    refine Mine.hold_in ?_
    k_dflt (refine' Mine.Meet.use (Mine.law_row _ DY (Mine.odds vs) n1 (Mine.odds nr) 0 ((DN, listOf vs.toArray n) :: (lx, listOf (List.toArray xvs) 0) :: (D3, listOf #[.int a ta, .int b tb, .int c tc, .int d td, .int e te, .int f tf, .int g tg, .int h th] 0) :: (s₁.heap.objs.size + 1 + 1 + 1, cP) :: (s₁.heap.objs.size + 1 + 1, cL) :: (s₁.heap.objs.size + 1, cU) :: TL) hyi (by omega) ?hr5) ?k1 ?k2 ?k3 ?k4 ?k5 ?k6 ?k7 ?kK ?kd ?ku ?_; (case k1 => k_asm); (case k2 => k_asm); (case k3 => k_asm); (case k4 => exact N9); (case k5 => k_asm); (case k6 => k_asm); (case k7 => k_asm); (case kK => exact rfl); (case kd => ktr_room); (case ku => ktr_units))
    case hr5 =>
      intro q hq r hr
      rw [List.mem_singleton] at hr
      subst hr
      exact Nat.ne_of_lt (ltY q hq)
    clear F9 N9
    rintro r1 led1 hh1 tk1 ⟨ly, yvs, rfl, hyr, rfl, apY, lty2⟩ F9 N9
    simp only [List.cons_append, List.nil_append] at N9
    dsimp only
    have hTx : ∀ q ∈ TL, q.1 ≠ lx := fun q hq => apX q (.tail _ (.tail _ (.tail _ (.tail _ (.tail _ hq)))))
    have hTy : ∀ q ∈ TL, q.1 ≠ ly := fun q hq => apY q (.tail _ (.tail _ (.tail _ (.tail _ (.tail _ (.tail _ hq))))))
    have px : Mine.Hold ((@Ne Nat (s₁.heap.objs.size + 1) lx ∧ @Ne Nat (s₁.heap.objs.size + 1 + 1) lx ∧ @Ne Nat (s₁.heap.objs.size + 1 + 1 + 1) lx) ∧ (@Ne Nat (s₁.heap.objs.size + 1) ly ∧ @Ne Nat (s₁.heap.objs.size + 1 + 1) ly ∧ @Ne Nat (s₁.heap.objs.size + 1 + 1 + 1) ly) ∧ @Ne Nat lx ly) := ⟨⟨apX (s₁.heap.objs.size + 1, cU) (.tail _ (.tail _ (.tail _ (.tail _ (.head _))))), apX (s₁.heap.objs.size + 1 + 1, cL) (.tail _ (.tail _ (.tail _ (.head _)))), apX (s₁.heap.objs.size + 1 + 1 + 1, cP) (.tail _ (.tail _ (.head _)))⟩, ⟨apY (s₁.heap.objs.size + 1, cU) (.tail _ (.tail _ (.tail _ (.tail _ (.tail _ (.head _)))))), apY (s₁.heap.objs.size + 1 + 1, cL) (.tail _ (.tail _ (.tail _ (.tail _ (.head _))))), apY (s₁.heap.objs.size + 1 + 1 + 1, cP) (.tail _ (.tail _ (.tail _ (.head _))))⟩, apY (lx, _) (.tail _ (.head _))⟩
    clear apX apY lty2 ltx2 ltX ltY apN
    have N9 := Mine.news_sub (l' := (D3, listOf #[.int a ta, .int b tb, .int c tc, .int d td, .int e te, .int f tf, .int g tg, .int h th] 0) :: (lx, listOf (List.toArray xvs) 0) :: (ly, listOf (List.toArray yvs) 0) :: (s₁.heap.objs.size + 1 + 1 + 1, cP) :: (s₁.heap.objs.size + 1 + 1, cL) :: (s₁.heap.objs.size + 1, cU) :: TL) N9 (List.forall_mem_cons.mpr ⟨(.tail _ (.tail _ (.tail _ (.tail _ (.head _))))), List.forall_mem_cons.mpr ⟨(.tail _ (.tail _ (.tail _ (.head _)))), List.forall_mem_cons.mpr ⟨(.head _), List.forall_mem_cons.mpr ⟨(.tail _ (.tail _ (.tail _ (.tail _ (.tail _ (.head _)))))), List.forall_mem_cons.mpr ⟨(.tail _ (.tail _ (.tail _ (.tail _ (.tail _ (.tail _ (.head _))))))), List.forall_mem_cons.mpr ⟨(.tail _ (.tail _ (.tail _ (.tail _ (.tail _ (.tail _ (.tail _ (.head _)))))))), fun q hq => .tail _ (.tail _ (.tail _ (.tail _ (.tail _ (.tail _ (.tail _ (.tail _ (hq))))))))⟩⟩⟩⟩⟩⟩)
    obtain ⟨⟨px1, px2, px3⟩, ⟨py1, py2, py3⟩, pxy⟩ := px
    have qx1 := px1.symm
    have qx2 := px2.symm
    have qx3 := px3.symm
    have qy1 := py1.symm
    have qy2 := py2.symm
    have qy3 := py3.symm
    k_steps
    rename_i _ LU _ ltU _ oU dU' LV _ ltV _ oV F9 N9 dV'
    have hTU : ∀ q ∈ TL, q.1 ≠ LU := fun q hq => Nat.ne_of_lt (Mine.allLt_mem ltU.2.2.2.2.2.2 q hq)
    have hTV : ∀ q ∈ TL, q.1 ≠ LV := fun q hq => Nat.ne_of_lt (Mine.allLt_mem ltV.2.2.2.2.2.2.2 q hq)
    obtain ⟨u1, u2, u3, u4, u5, u6, -⟩ := ltU
    obtain ⟨v1, v2, v3, v4, v5, v6, v7, -⟩ := ltV
    obtain ⟨bx1, bx2⟩ := Mine.rowOf_bound (n0 := n0) (ns := Mine.evens nr)
    obtain ⟨by1, by2⟩ := Mine.rowOf_bound (n0 := n1) (ns := Mine.odds nr)
    have lX : (Mine.rowOf n0 (Mine.evens nr)).length ≤ 4 := by rw [Mine.rowOf_length]; omega
    have lY : (Mine.rowOf n1 (Mine.odds nr)).length ≤ 4 := by rw [Mine.rowOf_length]; omega
    have lXY : (Mine.rowOf n1 (Mine.odds nr)).length ≤ (Mine.rowOf n0 (Mine.evens nr)).length := by rw [Mine.rowOf_length, Mine.rowOf_length]; omega
    clear hxy hxl hyl hxi hyi hnr
    generalize Mine.rowOf n0 (Mine.evens nr) = X at hxr bx1 bx2 lX lXY
    generalize Mine.rowOf n1 (Mine.odds nr) = Y at hyr by1 by2 lY lXY
    obtain ⟨wx1, wx2⟩ := Mine.worth_fin bx1 lX
    obtain ⟨wy1, wy2⟩ := Mine.worth_fin by1 lY
    have N9 := Mine.news_sub (l' := [(lx, listOf (List.toArray xvs) 0)] ++ ((ly, listOf (List.toArray yvs) 0) :: Mine.L4 LU a b c d ta tb tc td 0 :: Mine.L4 LV e f g h te tf tg th 0 :: (s₁.heap.objs.size + 1 + 1 + 1, cP) :: (s₁.heap.objs.size + 1 + 1, oV) :: (s₁.heap.objs.size + 1, oU) :: TL)) N9 (List.forall_mem_cons.mpr ⟨(.tail _ (.tail _ (.tail _ (.head _)))), List.forall_mem_cons.mpr ⟨(.tail _ (.tail _ (.tail _ (.tail _ (.head _))))), List.forall_mem_cons.mpr ⟨(.tail _ (.head _)), List.forall_mem_cons.mpr ⟨(.head _), List.forall_mem_cons.mpr ⟨(.tail _ (.tail _ (.tail _ (.tail _ (.tail _ (.head _)))))), List.forall_mem_cons.mpr ⟨(.tail _ (.tail _ (.tail _ (.tail _ (.tail _ (.tail _ (.head _))))))), List.forall_mem_cons.mpr ⟨(.tail _ (.tail _ (.tail _ (.tail _ (.tail _ (.tail _ (.tail _ (.head _)))))))), fun q hq => .tail _ (.tail _ (.tail _ (.tail _ (.tail _ (.tail _ (.tail _ (.tail _ (hq))))))))⟩⟩⟩⟩⟩⟩⟩)
    refine Mine.hold_in ?_
    k_dflt (refine' Mine.Meet.use (Mine.law_worth _ lx xvs X 0 ((ly, listOf (List.toArray yvs) 0) :: Mine.L4 LU a b c d ta tb tc td 0 :: Mine.L4 LV e f g h te tf tg th 0 :: (s₁.heap.objs.size + 1 + 1 + 1, cP) :: (s₁.heap.objs.size + 1 + 1, oV) :: (s₁.heap.objs.size + 1, oU) :: TL) hxr ?hw6 ?hr6) ?k1 ?k2 ?k3 ?k4 ?k5 ?k6 ?k7 ?kK ?kd ?ku ?_; (case k1 => k_asm); (case k2 => k_asm); (case k3 => k_asm); (case k4 => exact N9); (case k5 => k_asm); (case k6 => k_asm); (case k7 => k_asm); (case kK => exact rfl); (case kd => ktr_room); (case ku => ktr_units))
    case hw6 =>
      intro q hq
      have := bx1 q hq
      omega
    case hr6 =>
      intro q hq r hr
      rw [List.mem_singleton] at hr
      subst hr
      simp only [List.mem_cons] at hq
      rcases hq with rfl | rfl | rfl | rfl | rfl | rfl | hq
      · exact fun e => pxy e.symm
      · exact Nat.ne_of_gt u2
      · exact Nat.ne_of_gt v3
      · exact px3
      · exact px2
      · exact px1
      · exact hTx q hq
    clear F9 N9
    rintro r1 led1 hh1 tk1 ⟨x8, tp, tq, rfl, rfl, ap8, -⟩ F9 N9
    simp only [List.cons_append, List.nil_append] at N9
    dsimp only
    k_steps
    rename Fr _ _ _ _ => F9
    rename News _ _ _ _ => N9
    have N9 := Mine.news_sub (l' := [(ly, listOf (List.toArray yvs) 0)] ++ ((lx, listOf (List.toArray xvs) 0) :: Mine.L4 LU a b c d ta tb tc td 0 :: Mine.L4 LV e f g h te tf tg th 0 :: (s₁.heap.objs.size + 1 + 1 + 1, cP) :: (s₁.heap.objs.size + 1 + 1, oV) :: (s₁.heap.objs.size + 1, oU) :: TL)) N9 (List.forall_mem_cons.mpr ⟨(.tail _ (.tail _ (.head _))), List.forall_mem_cons.mpr ⟨(.tail _ (.head _)), List.forall_mem_cons.mpr ⟨(.tail _ (.tail _ (.tail _ (.head _)))), List.forall_mem_cons.mpr ⟨(.tail _ (.tail _ (.tail _ (.tail _ (.head _))))), List.forall_mem_cons.mpr ⟨(.tail _ (.tail _ (.tail _ (.tail _ (.tail _ (.head _)))))), List.forall_mem_cons.mpr ⟨(.tail _ (.tail _ (.tail _ (.tail _ (.tail _ (.tail _ (.head _))))))), List.forall_mem_cons.mpr ⟨(.tail _ (.tail _ (.tail _ (.tail _ (.tail _ (.tail _ (.tail _ (.head _)))))))), fun q hq => .tail _ (.tail _ (.tail _ (.tail _ (.tail _ (.tail _ (.tail _ (.tail _ (hq))))))))⟩⟩⟩⟩⟩⟩⟩)
    refine Mine.hold_in ?_
    k_dflt (refine' Mine.Meet.use (Mine.law_worth _ ly yvs Y 0 ((lx, listOf (List.toArray xvs) 0) :: Mine.L4 LU a b c d ta tb tc td 0 :: Mine.L4 LV e f g h te tf tg th 0 :: (s₁.heap.objs.size + 1 + 1 + 1, cP) :: (s₁.heap.objs.size + 1 + 1, oV) :: (s₁.heap.objs.size + 1, oU) :: TL) hyr ?hw7 ?hr7) ?k1 ?k2 ?k3 ?k4 ?k5 ?k6 ?k7 ?kK ?kd ?ku ?_; (case k1 => k_asm); (case k2 => k_asm); (case k3 => k_asm); (case k4 => exact N9); (case k5 => k_asm); (case k6 => k_asm); (case k7 => k_asm); (case kK => exact rfl); (case kd => ktr_room); (case ku => ktr_units))
    case hw7 =>
      intro q hq
      have := by1 q hq
      omega
    case hr7 =>
      intro q hq r hr
      rw [List.mem_singleton] at hr
      subst hr
      simp only [List.mem_cons] at hq
      rcases hq with rfl | rfl | rfl | rfl | rfl | rfl | hq
      · exact pxy
      · exact Nat.ne_of_gt u3
      · exact Nat.ne_of_gt v4
      · exact py3
      · exact py2
      · exact py1
      · exact hTy q hq
    clear F9 N9
    rintro r1 led1 hh1 tk1 ⟨x9, ts, tt, rfl, rfl, ap9, -⟩ F9 N9
    simp only [List.cons_append, List.nil_append] at N9
    dsimp only
    k_steps
    refine Mine.hold_in (PyProof.Rows.mul_int ?_ (PySem.IntMulOk.of_right (Mine.bits_abs (by first | exact Mine.w64 wy1 | exact Mine.w64 wy2))))
    k_steps
    refine Mine.hold_in (PyProof.Rows.mul_int ?_ (PySem.IntMulOk.of_right (Mine.bits_abs (by first | exact Mine.w64 wy1 | exact Mine.w64 wy2))))
    k_steps
    refine Mine.hold_in (PyProof.Rows.mul_int ?_ (PySem.IntMulOk.of_right (Mine.bits_abs (by first | exact Mine.w64 wy1 | exact Mine.w64 wy2))))
    k_steps
    refine Mine.hold_in (PyProof.Rows.mul_int ?_ (PySem.IntMulOk.of_right (Mine.bits_abs (by first | exact Mine.w64 wy1 | exact Mine.w64 wy2))))
    k_steps
    rename News _ _ _ _ => N9
    rename Fr _ _ _ _ => F9
    have N9 := Mine.news_sub (l' := (lx, listOf (List.toArray xvs) 0) :: (ly, listOf (List.toArray yvs) 0) :: Mine.L4 LU a b c d ta tb tc td 0 :: Mine.L4 LV e f g h te tf tg th 0 :: (s₁.heap.objs.size + 1 + 1 + 1, cP) :: (s₁.heap.objs.size + 1 + 1, oV) :: (s₁.heap.objs.size + 1, oU) :: TL) N9 (List.forall_mem_cons.mpr ⟨(.tail _ (.tail _ (.head _))), List.forall_mem_cons.mpr ⟨(.tail _ (.head _)), List.forall_mem_cons.mpr ⟨(.tail _ (.tail _ (.tail _ (.head _)))), List.forall_mem_cons.mpr ⟨(.tail _ (.tail _ (.tail _ (.tail _ (.head _))))), List.forall_mem_cons.mpr ⟨(.tail _ (.tail _ (.tail _ (.tail _ (.tail _ (.head _)))))), List.forall_mem_cons.mpr ⟨(.tail _ (.tail _ (.tail _ (.tail _ (.tail _ (.tail _ (.head _))))))), List.forall_mem_cons.mpr ⟨(.tail _ (.tail _ (.tail _ (.tail _ (.tail _ (.tail _ (.tail _ (.head _)))))))), fun q hq => .tail _ (.tail _ (.tail _ (.tail _ (.tail _ (.tail _ (.tail _ (.tail _ (hq))))))))⟩⟩⟩⟩⟩⟩⟩)
    refine Mine.hold_in (newList_K F9 N9 ?_)
    clear F9 N9
    intro LP hh4 F9 N9 ltP
    have hP3 : @LT.lt Nat _ (s₁.heap.objs.size + 1 + 1 + 1) LP := ltP (s₁.heap.objs.size + 1 + 1 + 1, cP) (.tail _ (.tail _ (.tail _ (.tail _ (.head _)))))
    clear ltP
    k_steps
    obtain ⟨leU, leV⟩ := Mine.le4_of heb
    have pkx : Mine.Hold ((@Ne Nat (s₁.heap.objs.size + 1) lx ∧ @Ne Nat (s₁.heap.objs.size + 1 + 1) lx ∧ @Ne Nat (s₁.heap.objs.size + 1 + 1 + 1) lx) ∧ (@Ne Nat (s₁.heap.objs.size + 1) ly ∧ @Ne Nat (s₁.heap.objs.size + 1 + 1) ly ∧ @Ne Nat (s₁.heap.objs.size + 1 + 1 + 1) ly) ∧ @Ne Nat lx ly) := ⟨⟨px1, px2, px3⟩, ⟨py1, py2, py3⟩, pxy⟩
    clear px1 px2 px3 py1 py2 py3 pxy qx1 qx2 qx3 qy1 qy2 qy3
    rename_i h8 oP F8 N8 dP' _ _ _ _ _ hR9 F9 N9 hk9
    refine Mine.hold_in ?_
    k_dflt (refine' LCg.CompSrc.range (n := 4) ?c1 F9 N9 hR9 ?c2 ?c3 ?c4 ?_)
    case c1 => rfl
    case c2 => decide
    case c3 => rfl
    case c4 => decide
    intro g9
    obtain ⟨LD, hLD⟩ : ∃ l, l = _ ∧ News _ _ _ l := ⟨_, rfl, N9⟩
    refine Mine.compRest_ind (n := 4) (fun i ys news => IntsAre ys (Mine.prods [a, b, c, d] [(Mine.worth X).1 * (Mine.worth Y).1, (Mine.worth X).1 * (Mine.worth Y).2, (Mine.worth X).2 * (Mine.worth Y).1, (Mine.worth X).2 * (Mine.worth Y).2] i) ∧ news = LD) ?turnX ?doneX 4 0 [] _ rfl ⟨.nil, hLD.1.symm⟩
    case turnX =>
      clear F9 N9 hR9 hk9
      obtain ⟨hLD, -⟩ := hLD
      subst hLD
      rintro i ys news hi ⟨hys, rfl⟩ v I oI C oC D m₂ h9 tk9 E' ⟨t9, rfl⟩ hC hx F9 N9 off9 ne9
      rw [Int.zero_add] at hx
      have hA := Mine.le4_getD leU i hi
      k_steps
      refine Mine.hold_in (Mine.item_nat (ns := [a, b, c, d]) (PySem.IsL.isList (n := 0) (N9 (LU, _) (by k_mem)).1) (.cons _ _ (.cons _ _ (.cons _ _ (.cons _ _ .nil)))) hi (Mine.i63 hi (Nat.le_refl 4)) ?_)
      intro t8
      k_steps
      refine Mine.hold_in (Mine.item_nat (ns := [(Mine.worth X).1 * (Mine.worth Y).1, (Mine.worth X).1 * (Mine.worth Y).2, (Mine.worth X).2 * (Mine.worth Y).1, (Mine.worth X).2 * (Mine.worth Y).2]) (PySem.IsL.isList (n := 0) (N9 (LP, _) (by k_mem)).1) (.cons _ _ (.cons _ _ (.cons _ _ (.cons _ _ .nil)))) hi (Mine.i63 hi (Nat.le_refl 4)) ?_)
      intro u8
      k_steps
      refine Mine.hold_in (PyProof.Rows.mul_int ?_ (PySem.IntMulOk.of_left (Mine.bits_abs (by omega))))
      k_steps
      refine Mine.hold_in (LCg.CompEnd.intro F9 N9 _ (fun p hp => hp) off9 trivial ⟨by rw [Mine.prods_snoc]; exact Mine.ints_append hys (.cons _ _ .nil), rfl⟩)
    case doneX =>
      rintro ys news ⟨hys, rfl⟩
      clear F9 N9 hR9 hk9
      obtain ⟨hLD, -⟩ := hLD
      subst hLD
      rw [Mine.prods_four] at hys
      unfold LCg.FinE
      intro DS hh3 tk3 F9 N9 offS
      clear offS
      k_steps
      rename_i hR9 F9 N9 hk9
      refine Mine.hold_in ?_
      k_dflt (refine' LCg.CompSrc.range (n := 4) ?c1 F9 N9 hR9 ?c2 ?c3 ?c4 ?_)
      case c1 => rfl
      case c2 => decide
      case c3 => rfl
      case c4 => decide
      intro g9
      obtain ⟨LD2, hLD2⟩ : ∃ l, l = _ ∧ News _ _ _ l := ⟨_, rfl, N9⟩
      refine Mine.compRest_ind (n := 4) (fun i ys news => IntsAre ys (Mine.prods [e, f, g, h] [(Mine.worth X).1 * (Mine.worth Y).1, (Mine.worth X).1 * (Mine.worth Y).2, (Mine.worth X).2 * (Mine.worth Y).1, (Mine.worth X).2 * (Mine.worth Y).2] i) ∧ news = LD2) ?turnY ?doneY 4 0 [] _ rfl ⟨.nil, hLD2.1.symm⟩
      case turnY =>
        clear F9 N9 hR9 hk9
        obtain ⟨hLD2, -⟩ := hLD2
        subst hLD2
        rintro i ys news hi ⟨hys, rfl⟩ v I oI C oC D m₂ h9 tk9 E' ⟨t9, rfl⟩ hC hx F9 N9 off9 ne9
        rw [Int.zero_add] at hx
        have hA := Mine.le4_getD leV i hi
        k_steps
        refine Mine.hold_in (Mine.item_nat (ns := [e, f, g, h]) (PySem.IsL.isList (n := 0) (N9 (LV, _) (by k_mem)).1) (.cons _ _ (.cons _ _ (.cons _ _ (.cons _ _ .nil)))) hi (Mine.i63 hi (Nat.le_refl 4)) ?_)
        intro t8
        k_steps
        refine Mine.hold_in (Mine.item_nat (ns := [(Mine.worth X).1 * (Mine.worth Y).1, (Mine.worth X).1 * (Mine.worth Y).2, (Mine.worth X).2 * (Mine.worth Y).1, (Mine.worth X).2 * (Mine.worth Y).2]) (PySem.IsL.isList (n := 0) (N9 (LP, _) (by k_mem)).1) (.cons _ _ (.cons _ _ (.cons _ _ (.cons _ _ .nil)))) hi (Mine.i63 hi (Nat.le_refl 4)) ?_)
        intro u8
        k_steps
        refine Mine.hold_in (PyProof.Rows.mul_int ?_ (PySem.IntMulOk.of_left (Mine.bits_abs (by omega))))
        k_steps
        refine Mine.hold_in (LCg.CompEnd.intro F9 N9 _ (fun p hp => hp) off9 trivial ⟨by rw [Mine.prods_snoc]; exact Mine.ints_append hys (.cons _ _ .nil), rfl⟩)
      case doneY =>
        rintro ys news ⟨hys, rfl⟩
        clear F9 N9 hR9 hk9
        obtain ⟨hLD2, -⟩ := hLD2
        subst hLD2
        rw [Mine.prods_four] at hys
        unfold LCg.FinE
        intro DS2 hh4 tk4 F9 N9 offS
        clear offS
        k_steps
        rename Fr _ _ _ _ => F9
        rename News _ _ _ _ => N9
        have N9 := Mine.news_sub (l' := (lx, listOf (List.toArray xvs) 0) :: (ly, listOf (List.toArray yvs) 0) :: Mine.L4 LU a b c d ta tb tc td 0 :: Mine.L4 LV e f g h te tf tg th 0 :: (s₁.heap.objs.size + 1 + 1 + 1, oP) :: (s₁.heap.objs.size + 1 + 1, oV) :: (s₁.heap.objs.size + 1, oU) :: TL) N9 (List.forall_mem_cons.mpr ⟨(.tail _ (.tail _ (.tail _ (.head _)))), List.forall_mem_cons.mpr ⟨(.tail _ (.tail _ (.tail _ (.tail _ (.head _))))), List.forall_mem_cons.mpr ⟨(.tail _ (.tail _ (.tail _ (.tail _ (.tail _ (.head _)))))), List.forall_mem_cons.mpr ⟨(.tail _ (.tail _ (.tail _ (.tail _ (.tail _ (.tail _ (.head _))))))), List.forall_mem_cons.mpr ⟨(.tail _ (.tail _ (.tail _ (.tail _ (.tail _ (.tail _ (.tail _ (.head _)))))))), List.forall_mem_cons.mpr ⟨(.tail _ (.tail _ (.tail _ (.tail _ (.tail _ (.tail _ (.tail _ (.tail _ (.head _))))))))), List.forall_mem_cons.mpr ⟨(.tail _ (.tail _ (.tail _ (.tail _ (.tail _ (.tail _ (.tail _ (.tail _ (.tail _ (.head _)))))))))), fun q hq => .tail _ (.tail _ (.tail _ (.tail _ (.tail _ (.tail _ (.tail _ (.tail _ (.tail _ (.tail _ (hq))))))))))⟩⟩⟩⟩⟩⟩⟩)
        refine Mine.hold_in (newList_K F9 N9 ?_)
        clear F9 N9
        intro LDU hh5 F9 N9 ltD
        have hdu : ∀ q ∈ (lx, listOf (List.toArray xvs) 0) :: (ly, listOf (List.toArray yvs) 0) :: Mine.L4 LU a b c d ta tb tc td 0 :: Mine.L4 LV e f g h te tf tg th 0 :: (s₁.heap.objs.size + 1 + 1 + 1, oP) :: (s₁.heap.objs.size + 1 + 1, oV) :: (s₁.heap.objs.size + 1, oU) :: TL, @Ne Nat q.1 LDU := fun q hq => Nat.ne_of_lt (ltD q hq)
        clear ltD
        obtain ⟨due, hdue⟩ : ∃ l, l = Mine.euclid (Mine.fW a b c d X Y) (Mine.fW e f g h X Y) := ⟨_, rfl⟩
        have hF0 : (Mine.fW e f g h X Y).natAbs < 2 ^ 60 := Mine.form_bound leV wx1 wx2 wy1 wy2
        have hdl : due.length < 2 ^ 10 := by rw [hdue]; exact Mine.due_short hF0
        k_steps
        rename Fr _ _ _ _ => F9
        rename News _ _ _ _ => N9
        refine Mine.hold_in (While_inv2 (Mine.DueJ due LDU lx ly ((lx, listOf (List.toArray xvs) 0) :: (ly, listOf (List.toArray yvs) 0) :: Mine.L4 LU a b c d ta tb tc td 0 :: Mine.L4 LV e f g h te tf tg th 0 :: (s₁.heap.objs.size + 1 + 1 + 1, oP) :: (s₁.heap.objs.size + 1 + 1, oV) :: (s₁.heap.objs.size + 1, oU) :: TL)) (n₀ := (Mine.euclid (Mine.fW a b c d X Y) (Mine.fW e f g h X Y)).length) F9 N9 ?startD ?turnD ?passD)
        case passD => passes_own
        case startD =>
          refine ⟨_, _, _, _, _, [], [], 0, Mine.map5 rfl rfl rfl rfl rfl, rfl, .nil, ?e1, ?e2, ?e3⟩
          case e1 =>
            rw [hdue]
            show Mine.euclid _ _ = Mine.euclid _ _
            congr 1 <;> (unfold Mine.fW Mine.form; omega)
          case e2 =>
            refine Nat.lt_of_le_of_lt (Nat.le_of_eq ?_) hF0
            congr 1
            unfold Mine.fW Mine.form; omega
          case e3 =>
            congr 2 <;> (unfold Mine.fW Mine.form; omega)
        case turnD =>
          clear F9 N9
          rintro nn m2 news2 h5 tk5 F9 N9 ⟨mr2, top, foot, tt2, tf2, dvs, ds, dn, rfl, rfl, hds, hdd, hft, rfl⟩
          k_steps
          · rename_i hne
            have hdsl := Mine.len_le_of hdd
            refine Mine.hold_in (floordiv_int hne ?_ (Or.inl (Mine.cor_pylong (M := 2 ^ 60) (by decide) ⟨by omega, by omega⟩)))
            k_steps
            rename Fr _ _ _ _ => F9
            refine Mine.hold_in ?_
            k_dflt (refine' append_K F9 N9 (.head hdu) ?_ ?zq9; (case zq9 => (rw [sizeLine_eq, List.size_toArray, hds.length]; omega)))
            clear F9 N9
            intro hh6 F9 N9
            rw [List.push_toArray] at N9
            k_steps
            rename Fr _ _ _ _ => F9
            rename News _ _ _ _ => N9
            refine Mine.hold_in ?_
            refine ⟨_, _, _, _, _, rfl, F9, Mine.news_sub N9 (fun q hq => List.mem_cons_of_mem _ hq), ?lt8, ⟨_, foot, top.fmod foot, _, _, dvs ++ [.int (top.fdiv foot) _], ds ++ [top.fdiv foot], dn + 1, Mine.map5 rfl rfl rfl rfl rfl, rfl, Mine.ints_append hds (.cons _ _ .nil), ?e8, ?b8, rfl⟩⟩
            case lt8 => rw [Mine.euclid_cons hne, List.length_cons]; exact Nat.lt_succ_self _
            case e8 => rw [← hdd, Mine.euclid_cons hne]; simp
            case b8 => exact Nat.lt_trans (Mine.fmod_natAbs hne) hft
          · rename_i h0
            subst h0
            rw [Mine.euclid_zero, List.append_nil] at hdd
            subst hdd
            have mk2 := Mine.Marker2.mk
            rename Fr _ _ _ _ => F9
            refine Mine.hold_in (newList_K F9 N9 ?_)
            clear F9 N9
            intro LR hh6 F9 N9 ltR
            k_steps
            rename_i hR9 F9 N9 hk9
            refine Mine.hold_in ?_
            have hsm : ∀ n : Nat, n ≤ 4 → Builtin.Range.small 0 (n : Int) 1 = true ∧ Builtin.Range.rangeSize 0 (n : Int) 1 = (n : Int) := by
              intro n hn
              match n, hn with
              | 0, _ => decide
              | 1, _ => decide
              | 2, _ => decide
              | 3, _ => decide
              | 4, _ => decide
              | n + 5, h => omega
            have N9 := Mine.news_sub (l' := (s₁.heap.objs.size + 1, oU) :: (s₁.heap.objs.size + 1 + 1, oV) :: Mine.L4 LU a b c d ta tb tc td 0 :: Mine.L4 LV e f g h te tf tg th 0 :: (LR, listOf (List.toArray []) 0) :: (lx, listOf (List.toArray xvs) 0) :: (ly, listOf (List.toArray yvs) 0) :: (LDU, listOf (List.toArray dvs) dn) :: (s₁.heap.objs.size + 1 + 1 + 1, oP) :: TL) N9 (List.forall_mem_cons.mpr ⟨(.tail _ (.tail _ (.tail _ (.tail _ (.tail _ (.tail _ (.tail _ (.tail _ (.head _))))))))), List.forall_mem_cons.mpr ⟨(.tail _ (.tail _ (.tail _ (.tail _ (.tail _ (.tail _ (.tail _ (.head _)))))))), List.forall_mem_cons.mpr ⟨(.tail _ (.tail _ (.tail _ (.tail _ (.head _))))), List.forall_mem_cons.mpr ⟨(.tail _ (.tail _ (.tail _ (.tail _ (.tail _ (.head _)))))), List.forall_mem_cons.mpr ⟨(.head _), List.forall_mem_cons.mpr ⟨(.tail _ (.tail _ (.head _))), List.forall_mem_cons.mpr ⟨(.tail _ (.tail _ (.tail _ (.head _)))), List.forall_mem_cons.mpr ⟨(.tail _ (.head _)), List.forall_mem_cons.mpr ⟨(.tail _ (.tail _ (.tail _ (.tail _ (.tail _ (.tail _ (.head _))))))), fun q hq => .tail _ (.tail _ (.tail _ (.tail _ (.tail _ (.tail _ (.tail _ (.tail _ (.tail _ (hq)))))))))⟩⟩⟩⟩⟩⟩⟩⟩⟩)
            refine iter_rangeUnr (n := X.length) rfl hR9 (hsm _ lX).1 (hsm _ lX).2 F9 N9 ?_
            clear hsm
            intro I lI
            have APs : Mine.ApL I LU LV LR (s₁.heap.objs.size + 1) (s₁.heap.objs.size + 1 + 1) [(lx, listOf (List.toArray xvs) 0), (ly, listOf (List.toArray yvs) 0), (LDU, listOf (List.toArray dvs) dn), (s₁.heap.objs.size + 1 + 1 + 1, oP)] TL := by
              refine ⟨Nat.ne_of_lt v1, Nat.ne_of_lt (ltR (LU, _) (.tail _ (.tail _ (.tail _ (.head _))))), Nat.ne_of_lt (ltR (LV, _) (.tail _ (.tail _ (.tail _ (.tail _ (.head _)))))), Nat.ne_of_gt (lI (LU, _) (.tail _ (.tail _ (.head _)))), Nat.ne_of_gt (lI (LV, _) (.tail _ (.tail _ (.tail _ (.head _))))), Nat.ne_of_gt (lI (LR, _) (.tail _ (.tail _ (.tail _ (.tail _ (.head _)))))), Nat.ne_of_gt u6, Nat.ne_of_gt v7, Nat.ne_of_gt (ltR (s₁.heap.objs.size + 1, _) (.tail _ (.tail _ (.tail _ (.tail _ (.tail _ (.tail _ (.tail _ (.head _))))))))), Nat.ne_of_gt u5, Nat.ne_of_gt v6, Nat.ne_of_gt (ltR (s₁.heap.objs.size + 1 + 1, _) (.tail _ (.tail _ (.tail _ (.tail _ (.tail _ (.tail _ (.head _)))))))), Nat.ne_of_gt (lI (s₁.heap.objs.size + 1, _) (.head _)), Nat.ne_of_gt (lI (s₁.heap.objs.size + 1 + 1, _) (.tail _ (.head _))), Nat.ne_of_lt (Nat.lt_succ_self _), ?_, ?_⟩
              · intro q hq
                simp only [List.mem_cons, List.not_mem_nil, or_false] at hq
                rcases hq with rfl | rfl | rfl | rfl
                · exact ⟨Nat.ne_of_lt u2, Nat.ne_of_lt v3, Nat.ne_of_lt (ltR (lx, _) (.tail _ (.head _))), Nat.ne_of_lt (lI (lx, _) (.tail _ (.tail _ (.tail _ (.tail _ (.tail _ (.head _))))))), fun e => pkx.1.1 e.symm, fun e => pkx.1.2.1 e.symm, fun r hr e => hTx r hr e.symm⟩
                · exact ⟨Nat.ne_of_lt u3, Nat.ne_of_lt v4, Nat.ne_of_lt (ltR (ly, _) (.tail _ (.tail _ (.head _)))), Nat.ne_of_lt (lI (ly, _) (.tail _ (.tail _ (.tail _ (.tail _ (.tail _ (.tail _ (.head _)))))))), fun e => pkx.2.1.1 e.symm, fun e => pkx.2.1.2.1 e.symm, fun r hr e => hTy r hr e.symm⟩
                · exact ⟨fun e => hdu (LU, _) (.tail _ (.tail _ (.head _))) e.symm, fun e => hdu (LV, _) (.tail _ (.tail _ (.tail _ (.head _)))) e.symm, Nat.ne_of_lt (ltR (LDU, _) (.head _)), Nat.ne_of_lt (lI (LDU, _) (.tail _ (.tail _ (.tail _ (.tail _ (.tail _ (.tail _ (.tail _ (.head _))))))))), fun e => hdu (s₁.heap.objs.size + 1, _) (.tail _ (.tail _ (.tail _ (.tail _ (.tail _ (.tail _ (.head _))))))) e.symm, fun e => hdu (s₁.heap.objs.size + 1 + 1, _) (.tail _ (.tail _ (.tail _ (.tail _ (.tail _ (.head _)))))) e.symm, fun r hr e => hdu r (.tail _ (.tail _ (.tail _ (.tail _ (.tail _ (.tail _ (.tail _ (hr)))))))) e.symm⟩
                · exact ⟨Nat.ne_of_lt u4, Nat.ne_of_lt v5, Nat.ne_of_lt (ltR (s₁.heap.objs.size + 1 + 1 + 1, _) (.tail _ (.tail _ (.tail _ (.tail _ (.tail _ (.head _))))))), Nat.ne_of_lt (lI (s₁.heap.objs.size + 1 + 1 + 1, _) (.tail _ (.tail _ (.tail _ (.tail _ (.tail _ (.tail _ (.tail _ (.tail _ (.head _)))))))))), Nat.ne_of_gt (Nat.lt_succ_of_lt (Nat.lt_succ_self _)), Nat.ne_of_gt (Nat.lt_succ_self _), fun r hr e => hT3 r hr e.symm⟩
              · exact fun r hr => ⟨hTU r hr, hTV r hr, Nat.ne_of_lt (ltR r (.tail _ (.tail _ (.tail _ (.tail _ (.tail _ (.tail _ (.tail _ (.tail _ (hr)))))))))), Nat.ne_of_lt (lI r (.tail _ (.tail _ (.tail _ (.tail _ (.tail _ (.tail _ (.tail _ (.tail _ (.tail _ (hr))))))))))), hT1 r hr, hT2 r hr⟩
            have hIG : Mine.Ing (X.drop 0) (Y.drop 0) ds (9 * 160000 ^ 0) a b c d e f g h [] := ⟨leU, leV, by rw [hdue]; rfl⟩
            have hds10 : ds.length < 2 ^ 10 := hdl
            clear ltR lI hTU hTV hTx hTy hT1 hT2 hT3 u1 u2 u3 u4 u5 u6 v1 v2 v3 v4 v5 v6 v7 hdu leU leV hR9 hk9
            subst hTL
            refine Mine.rangeRest_ind (Mine.RowJ X Y ds [(lx, listOf (List.toArray xvs) 0), (ly, listOf (List.toArray yvs) 0), (LDU, listOf (List.toArray dvs) dn), (s₁.heap.objs.size + 1 + 1 + 1, oP)] I LR lx ly LDU (s₁.heap.objs.size + 1) (s₁.heap.objs.size + 1 + 1)) ?turnR ?doneR X.length 0 _ _ (Nat.zero_add _) ?startR
            case startR =>
              exact ⟨_, _, LU, LV, a, b, c, d, e, f, g, h, ta, tb, tc, td, te, tf, tg, th, 0, 0, oU, oV, [], [], 0, none, none, Mine.map5 rfl rfl rfl rfl rfl, rfl, dU', dV', .nil, trivial, trivial, hIG, APs⟩
            case turnR =>
              clear F9 N9 hIG APs dU' dV' dP'
              rintro i m9 news9 hi ⟨mr9, uk, LU, LV, a, b, c, d, e, f, g, h, ta, tb, tc, td, te, tf, tg, th, n1, n2, oU, oV, rvs, row, pn, v1, v2, rfl, rfl, dU, dV, hrv, k1, k2, IG, AP⟩ tt9 h9 tk9 it F9 N9
              simp only [Int.zero_add] at F9
              simp only [List.cons_append, List.nil_append] at N9
              have N9 := Mine.news_sub (l' := (s₁.heap.objs.size + 1, oU) :: (s₁.heap.objs.size + 1 + 1, oV) :: Mine.L4 LU a b c d ta tb tc td n1 :: Mine.L4 LV e f g h te tf tg th n2 :: (I, it) :: (LR, listOf (List.toArray rvs) pn) :: (lx, listOf (List.toArray xvs) 0) :: (ly, listOf (List.toArray yvs) 0) :: (LDU, listOf (List.toArray dvs) dn) :: (s₁.heap.objs.size + 1 + 1 + 1, oP) :: Mine.TT v1 v2) N9 (List.forall_mem_cons.mpr ⟨(.tail _ (.head _)), List.forall_mem_cons.mpr ⟨(.tail _ (.tail _ (.head _))), List.forall_mem_cons.mpr ⟨(.tail _ (.tail _ (.tail _ (.head _)))), List.forall_mem_cons.mpr ⟨(.tail _ (.tail _ (.tail _ (.tail _ (.head _))))), List.forall_mem_cons.mpr ⟨(.head _), List.forall_mem_cons.mpr ⟨(.tail _ (.tail _ (.tail _ (.tail _ (.tail _ (.head _)))))), List.forall_mem_cons.mpr ⟨(.tail _ (.tail _ (.tail _ (.tail _ (.tail _ (.tail _ (.head _))))))), List.forall_mem_cons.mpr ⟨(.tail _ (.tail _ (.tail _ (.tail _ (.tail _ (.tail _ (.tail _ (.head _)))))))), List.forall_mem_cons.mpr ⟨(.tail _ (.tail _ (.tail _ (.tail _ (.tail _ (.tail _ (.tail _ (.tail _ (.head _))))))))), List.forall_mem_cons.mpr ⟨(.tail _ (.tail _ (.tail _ (.tail _ (.tail _ (.tail _ (.tail _ (.tail _ (.tail _ (.head _)))))))))), fun q hq => .tail _ (.tail _ (.tail _ (.tail _ (.tail _ (.tail _ (.tail _ (.tail _ (.tail _ (.tail _ (hq))))))))))⟩⟩⟩⟩⟩⟩⟩⟩⟩⟩)
              have hxd : X.drop i = X.getD i 0 :: X.drop (i + 1) := Mine.getD_drop hi
              have hxb : -99 ≤ X.getD i 0 ∧ X.getD i 0 ≤ 99 := bx1 _ (Mine.getD_mem hi)
              rw [hxd] at IG
              have IG := IG.first hxb
              k_steps
              refine Mine.hold_in (Mine.item_nat (ns := X) (PySem.IsL.isList (n := 0) (N9 (lx, _) (by k_mem)).1) hxr hi (Mine.i63 hi lX) ?_)
              intro tx
              k_steps
              refine Mine.hold_in ?_
              k_dflt (refine' Mine.Meet.use (Mine.law_first _ LU (a) (b) (c) (d) (X.getD i 0) ta tb tc td tx n1 ((s₁.heap.objs.size + 1, oU) :: (s₁.heap.objs.size + 1 + 1, oV) :: Mine.L4 LV (e) (f) (g) (h) te tf tg th n2 :: (I, it) :: (LR, listOf (List.toArray rvs) pn) :: (lx, listOf (List.toArray xvs) 0) :: (ly, listOf (List.toArray yvs) 0) :: (LDU, listOf (List.toArray dvs) dn) :: (s₁.heap.objs.size + 1 + 1 + 1, oP) :: Mine.TT v1 v2) (Mine.q64 hxb) AP.atU) ?k1 ?k2 ?k3 ?k4 ?k5 ?k6 ?k7 ?kK ?kd ?ku ?_; (case k1 => k_asm); (case k2 => k_asm); (case k3 => k_asm); (case k4 => exact Mine.news_sub N9 (List.forall_mem_cons.mpr ⟨(.tail _ (.tail _ (.head _))), List.forall_mem_cons.mpr ⟨(.head _), List.forall_mem_cons.mpr ⟨(.tail _ (.head _)), List.forall_mem_cons.mpr ⟨(.tail _ (.tail _ (.tail _ (.head _)))), List.forall_mem_cons.mpr ⟨(.tail _ (.tail _ (.tail _ (.tail _ (.head _))))), List.forall_mem_cons.mpr ⟨(.tail _ (.tail _ (.tail _ (.tail _ (.tail _ (.head _)))))), List.forall_mem_cons.mpr ⟨(.tail _ (.tail _ (.tail _ (.tail _ (.tail _ (.tail _ (.head _))))))), List.forall_mem_cons.mpr ⟨(.tail _ (.tail _ (.tail _ (.tail _ (.tail _ (.tail _ (.tail _ (.head _)))))))), List.forall_mem_cons.mpr ⟨(.tail _ (.tail _ (.tail _ (.tail _ (.tail _ (.tail _ (.tail _ (.tail _ (.head _))))))))), List.forall_mem_cons.mpr ⟨(.tail _ (.tail _ (.tail _ (.tail _ (.tail _ (.tail _ (.tail _ (.tail _ (.tail _ (.head _)))))))))), fun q hq => .tail _ (.tail _ (.tail _ (.tail _ (.tail _ (.tail _ (.tail _ (.tail _ (.tail _ (.tail _ (hq))))))))))⟩⟩⟩⟩⟩⟩⟩⟩⟩⟩)); (case k5 => k_asm); (case k6 => k_asm); (case k7 => k_asm); (case kK => exact rfl); (case kd => ktr_room); (case ku => ktr_units))
              clear N9
              rintro r4 led4 hhA tkA ⟨lA, yA0, yA1, yA2, yA3, mA, rfl, rfl, fr, -⟩ F9 N9
              have AP := AP.setU fr
              clear fr
              simp only [List.cons_append, List.nil_append] at N9
              have N9 := Mine.news_sub (l' := (s₁.heap.objs.size + 1, oU) :: (s₁.heap.objs.size + 1 + 1, oV) :: Mine.L4 lA ((a) * (X.getD i 0) + (c)) ((b) * (X.getD i 0) + (d)) (a) (b) yA0 yA1 yA2 yA3 mA :: Mine.L4 LV (e) (f) (g) (h) te tf tg th n2 :: (I, it) :: (LR, listOf (List.toArray rvs) pn) :: (lx, listOf (List.toArray xvs) 0) :: (ly, listOf (List.toArray yvs) 0) :: (LDU, listOf (List.toArray dvs) dn) :: (s₁.heap.objs.size + 1 + 1 + 1, oP) :: Mine.TT v1 v2) N9 (List.forall_mem_cons.mpr ⟨(.tail _ (.tail _ (.head _))), List.forall_mem_cons.mpr ⟨(.tail _ (.tail _ (.tail _ (.head _)))), List.forall_mem_cons.mpr ⟨(.head _), List.forall_mem_cons.mpr ⟨(.tail _ (.tail _ (.tail _ (.tail _ (.head _))))), List.forall_mem_cons.mpr ⟨(.tail _ (.tail _ (.tail _ (.tail _ (.tail _ (.head _)))))), List.forall_mem_cons.mpr ⟨(.tail _ (.tail _ (.tail _ (.tail _ (.tail _ (.tail _ (.head _))))))), List.forall_mem_cons.mpr ⟨(.tail _ (.tail _ (.tail _ (.tail _ (.tail _ (.tail _ (.tail _ (.head _)))))))), List.forall_mem_cons.mpr ⟨(.tail _ (.tail _ (.tail _ (.tail _ (.tail _ (.tail _ (.tail _ (.tail _ (.head _))))))))), List.forall_mem_cons.mpr ⟨(.tail _ (.tail _ (.tail _ (.tail _ (.tail _ (.tail _ (.tail _ (.tail _ (.tail _ (.head _)))))))))), List.forall_mem_cons.mpr ⟨(.tail _ (.tail _ (.tail _ (.tail _ (.tail _ (.tail _ (.tail _ (.tail _ (.tail _ (.tail _ (.head _))))))))))), fun q hq => .tail _ (.tail _ (.tail _ (.tail _ (.tail _ (.tail _ (.tail _ (.tail _ (.tail _ (.tail _ (.tail _ (hq)))))))))))⟩⟩⟩⟩⟩⟩⟩⟩⟩⟩)
              dsimp only
              k_steps
              rename Fr _ _ _ _ => F9
              refine Mine.hold_in ?_
              k_dflt (refine' storeX_C F9 N9 ?hc8 (.head AP.at1) dU ?_ ?a8 ?b8; (case hc8 => rfl); (case a8 => rfl); (case b8 => rfl))
              clear F9 N9
              intro hsA oA F9 N9 dA
              (try dsimp only at N9)
              k_steps
              refine Mine.hold_in (Mine.item_nat (ns := X) (PySem.IsL.isList (n := 0) (N9 (lx, _) (by k_mem)).1) hxr hi (Mine.i63 hi lX) ?_)
              intro tx
              k_steps
              refine Mine.hold_in ?_
              k_dflt (refine' Mine.Meet.use (Mine.law_first _ LV (e) (f) (g) (h) (X.getD i 0) te tf tg th tx n2 ((s₁.heap.objs.size + 1, oA) :: (s₁.heap.objs.size + 1 + 1, oV) :: Mine.L4 lA ((a) * (X.getD i 0) + (c)) ((b) * (X.getD i 0) + (d)) (a) (b) yA0 yA1 yA2 yA3 mA :: (I, it) :: (LR, listOf (List.toArray rvs) pn) :: (lx, listOf (List.toArray xvs) 0) :: (ly, listOf (List.toArray yvs) 0) :: (LDU, listOf (List.toArray dvs) dn) :: (s₁.heap.objs.size + 1 + 1 + 1, oP) :: Mine.TT v1 v2) (Mine.q64 hxb) AP.atV) ?k1 ?k2 ?k3 ?k4 ?k5 ?k6 ?k7 ?kK ?kd ?ku ?_; (case k1 => k_asm); (case k2 => k_asm); (case k3 => k_asm); (case k4 => exact Mine.news_sub N9 (List.forall_mem_cons.mpr ⟨(.tail _ (.tail _ (.tail _ (.head _)))), List.forall_mem_cons.mpr ⟨(.head _), List.forall_mem_cons.mpr ⟨(.tail _ (.head _)), List.forall_mem_cons.mpr ⟨(.tail _ (.tail _ (.head _))), List.forall_mem_cons.mpr ⟨(.tail _ (.tail _ (.tail _ (.tail _ (.head _))))), List.forall_mem_cons.mpr ⟨(.tail _ (.tail _ (.tail _ (.tail _ (.tail _ (.head _)))))), List.forall_mem_cons.mpr ⟨(.tail _ (.tail _ (.tail _ (.tail _ (.tail _ (.tail _ (.head _))))))), List.forall_mem_cons.mpr ⟨(.tail _ (.tail _ (.tail _ (.tail _ (.tail _ (.tail _ (.tail _ (.head _)))))))), List.forall_mem_cons.mpr ⟨(.tail _ (.tail _ (.tail _ (.tail _ (.tail _ (.tail _ (.tail _ (.tail _ (.head _))))))))), List.forall_mem_cons.mpr ⟨(.tail _ (.tail _ (.tail _ (.tail _ (.tail _ (.tail _ (.tail _ (.tail _ (.tail _ (.head _)))))))))), fun q hq => .tail _ (.tail _ (.tail _ (.tail _ (.tail _ (.tail _ (.tail _ (.tail _ (.tail _ (.tail _ (hq))))))))))⟩⟩⟩⟩⟩⟩⟩⟩⟩⟩)); (case k5 => k_asm); (case k6 => k_asm); (case k7 => k_asm); (case kK => exact rfl); (case kd => ktr_room); (case ku => ktr_units))
              clear N9
              rintro r4 led4 hhB tkB ⟨lB, yB0, yB1, yB2, yB3, mB, rfl, rfl, fr, -⟩ F9 N9
              have AP := AP.setV fr
              clear fr
              simp only [List.cons_append, List.nil_append] at N9
              have N9 := Mine.news_sub (l' := (s₁.heap.objs.size + 1 + 1, oV) :: (s₁.heap.objs.size + 1, oA) :: Mine.L4 lA ((a) * (X.getD i 0) + (c)) ((b) * (X.getD i 0) + (d)) (a) (b) yA0 yA1 yA2 yA3 mA :: Mine.L4 lB ((e) * (X.getD i 0) + (g)) ((f) * (X.getD i 0) + (h)) (e) (f) yB0 yB1 yB2 yB3 mB :: (I, it) :: (LR, listOf (List.toArray rvs) pn) :: (lx, listOf (List.toArray xvs) 0) :: (ly, listOf (List.toArray yvs) 0) :: (LDU, listOf (List.toArray dvs) dn) :: (s₁.heap.objs.size + 1 + 1 + 1, oP) :: Mine.TT v1 v2) N9 (List.forall_mem_cons.mpr ⟨(.tail _ (.tail _ (.tail _ (.head _)))), List.forall_mem_cons.mpr ⟨(.tail _ (.tail _ (.head _))), List.forall_mem_cons.mpr ⟨(.tail _ (.tail _ (.tail _ (.tail _ (.head _))))), List.forall_mem_cons.mpr ⟨(.head _), List.forall_mem_cons.mpr ⟨(.tail _ (.tail _ (.tail _ (.tail _ (.tail _ (.head _)))))), List.forall_mem_cons.mpr ⟨(.tail _ (.tail _ (.tail _ (.tail _ (.tail _ (.tail _ (.head _))))))), List.forall_mem_cons.mpr ⟨(.tail _ (.tail _ (.tail _ (.tail _ (.tail _ (.tail _ (.tail _ (.head _)))))))), List.forall_mem_cons.mpr ⟨(.tail _ (.tail _ (.tail _ (.tail _ (.tail _ (.tail _ (.tail _ (.tail _ (.head _))))))))), List.forall_mem_cons.mpr ⟨(.tail _ (.tail _ (.tail _ (.tail _ (.tail _ (.tail _ (.tail _ (.tail _ (.tail _ (.head _)))))))))), List.forall_mem_cons.mpr ⟨(.tail _ (.tail _ (.tail _ (.tail _ (.tail _ (.tail _ (.tail _ (.tail _ (.tail _ (.tail _ (.head _))))))))))), fun q hq => .tail _ (.tail _ (.tail _ (.tail _ (.tail _ (.tail _ (.tail _ (.tail _ (.tail _ (.tail _ (.tail _ (hq)))))))))))⟩⟩⟩⟩⟩⟩⟩⟩⟩⟩)
              dsimp only
              k_steps
              rename Fr _ _ _ _ => F9
              refine Mine.hold_in ?_
              k_dflt (refine' storeX_C F9 N9 ?hc8 (.head AP.at2) dV ?_ ?a8 ?b8; (case hc8 => rfl); (case a8 => rfl); (case b8 => rfl))
              clear F9 N9
              intro hsB oB F9 N9 dB
              (try dsimp only at N9)
              have N9 := Mine.news_sub (l' := (s₁.heap.objs.size + 1, oA) :: (s₁.heap.objs.size + 1 + 1, oB) :: Mine.L4 lA ((a) * (X.getD i 0) + (c)) ((b) * (X.getD i 0) + (d)) (a) (b) yA0 yA1 yA2 yA3 mA :: Mine.L4 lB ((e) * (X.getD i 0) + (g)) ((f) * (X.getD i 0) + (h)) (e) (f) yB0 yB1 yB2 yB3 mB :: (I, it) :: (LR, listOf (List.toArray rvs) pn) :: (lx, listOf (List.toArray xvs) 0) :: (ly, listOf (List.toArray yvs) 0) :: (LDU, listOf (List.toArray dvs) dn) :: (s₁.heap.objs.size + 1 + 1 + 1, oP) :: Mine.TT v1 v2) N9 (List.forall_mem_cons.mpr ⟨(.tail _ (.head _)), List.forall_mem_cons.mpr ⟨(.head _), List.forall_mem_cons.mpr ⟨(.tail _ (.tail _ (.head _))), List.forall_mem_cons.mpr ⟨(.tail _ (.tail _ (.tail _ (.head _)))), List.forall_mem_cons.mpr ⟨(.tail _ (.tail _ (.tail _ (.tail _ (.head _))))), List.forall_mem_cons.mpr ⟨(.tail _ (.tail _ (.tail _ (.tail _ (.tail _ (.head _)))))), List.forall_mem_cons.mpr ⟨(.tail _ (.tail _ (.tail _ (.tail _ (.tail _ (.tail _ (.head _))))))), List.forall_mem_cons.mpr ⟨(.tail _ (.tail _ (.tail _ (.tail _ (.tail _ (.tail _ (.tail _ (.head _)))))))), List.forall_mem_cons.mpr ⟨(.tail _ (.tail _ (.tail _ (.tail _ (.tail _ (.tail _ (.tail _ (.tail _ (.head _))))))))), List.forall_mem_cons.mpr ⟨(.tail _ (.tail _ (.tail _ (.tail _ (.tail _ (.tail _ (.tail _ (.tail _ (.tail _ (.head _)))))))))), fun q hq => .tail _ (.tail _ (.tail _ (.tail _ (.tail _ (.tail _ (.tail _ (.tail _ (.tail _ (.tail _ (hq))))))))))⟩⟩⟩⟩⟩⟩⟩⟩⟩⟩)
              k_steps
              refine Mine.hold_in ?_
              rename Fr _ _ _ _ => F9
              obtain ⟨MM, hMM, F9⟩ : ∃ MM, MM = _ ∧ Fr (ghostOf s₁.heap [(41, 37), (34, 30)]) s₁.heap.objs.size _ MM := ⟨_, rfl, F9⟩
              refine wpAny_mono (Q := Mine.SecOut (X.drop (i + 1)) (Y.drop (i + 1)) ds (100 * (100 * (9 * 160000 ^ i))) row (ghostOf s₁.heap [(41, 37), (34, 30)]) s₁.heap.objs.size MM s₁ I LR (s₁.heap.objs.size + 1) (s₁.heap.objs.size + 1 + 1) it (listOf (List.toArray rvs) pn) [(lx, listOf (List.toArray xvs) 0), (ly, listOf (List.toArray yvs) 0), (LDU, listOf (List.toArray dvs) dn), (s₁.heap.objs.size + 1 + 1 + 1, oP)] (Mine.TT v1 v2)) ?zif2 ?zrest2 (fun _ _ e => e)
              case zif2 =>
                obtain ⟨a1, b1, c1, d1, e1, f1, g1, h1, IG, N9⟩ : ∃ a1 b1 c1 d1 e1 f1 g1 h1, Mine.Ing (X.drop (i + 1)) (Y.drop i) ds (100 * (9 * 160000 ^ i)) a1 b1 c1 d1 e1 f1 g1 h1 row ∧ News (ghostOf s₁.heap [(41, 37), (34, 30)]) s₁.heap.objs.size _ ((s₁.heap.objs.size + 1, oA) :: (s₁.heap.objs.size + 1 + 1, oB) :: Mine.L4 lA a1 b1 c1 d1 yA0 yA1 yA2 yA3 mA :: Mine.L4 lB e1 f1 g1 h1 yB0 yB1 yB2 yB3 mB :: (I, it) :: (LR, listOf (List.toArray rvs) pn) :: (lx, listOf (List.toArray xvs) 0) :: (ly, listOf (List.toArray yvs) 0) :: (LDU, listOf (List.toArray dvs) dn) :: (s₁.heap.objs.size + 1 + 1 + 1, oP) :: Mine.TT v1 v2) := ⟨_, _, _, _, _, _, _, _, IG, N9⟩
                subst hMM
                k_steps
                · rename_i hiy
                  have hiy : i < Y.length := by omega
                  have hyb : -99 ≤ Y.getD i 0 ∧ Y.getD i 0 ≤ 99 := by1 _ (Mine.getD_mem hiy)
                  rw [Mine.getD_drop hiy] at IG
                  have IG := IG.second hyb
                  refine Mine.hold_in (Mine.item_nat (ns := Y) (PySem.IsL.isList (n := 0) (N9 (ly, _) (by k_mem)).1) hyr hiy (Mine.i63 hiy lY) ?_)
                  intro tx
                  k_steps
                  refine Mine.hold_in ?_
                  k_dflt (refine' Mine.Meet.use (Mine.law_second _ lA (a1) (b1) (c1) (d1) (Y.getD i 0) yA0 yA1 yA2 yA3 tx mA ((s₁.heap.objs.size + 1, oA) :: (s₁.heap.objs.size + 1 + 1, oB) :: Mine.L4 lB (e1) (f1) (g1) (h1) yB0 yB1 yB2 yB3 mB :: (I, it) :: (LR, listOf (List.toArray rvs) pn) :: (lx, listOf (List.toArray xvs) 0) :: (ly, listOf (List.toArray yvs) 0) :: (LDU, listOf (List.toArray dvs) dn) :: (s₁.heap.objs.size + 1 + 1 + 1, oP) :: Mine.TT v1 v2) (Mine.q64 hyb) AP.atU) ?k1 ?k2 ?k3 ?k4 ?k5 ?k6 ?k7 ?kK ?kd ?ku ?_; (case k1 => k_asm); (case k2 => k_asm); (case k3 => k_asm); (case k4 => exact Mine.news_sub N9 (List.forall_mem_cons.mpr ⟨(.tail _ (.tail _ (.head _))), List.forall_mem_cons.mpr ⟨(.head _), List.forall_mem_cons.mpr ⟨(.tail _ (.head _)), List.forall_mem_cons.mpr ⟨(.tail _ (.tail _ (.tail _ (.head _)))), List.forall_mem_cons.mpr ⟨(.tail _ (.tail _ (.tail _ (.tail _ (.head _))))), List.forall_mem_cons.mpr ⟨(.tail _ (.tail _ (.tail _ (.tail _ (.tail _ (.head _)))))), List.forall_mem_cons.mpr ⟨(.tail _ (.tail _ (.tail _ (.tail _ (.tail _ (.tail _ (.head _))))))), List.forall_mem_cons.mpr ⟨(.tail _ (.tail _ (.tail _ (.tail _ (.tail _ (.tail _ (.tail _ (.head _)))))))), List.forall_mem_cons.mpr ⟨(.tail _ (.tail _ (.tail _ (.tail _ (.tail _ (.tail _ (.tail _ (.tail _ (.head _))))))))), List.forall_mem_cons.mpr ⟨(.tail _ (.tail _ (.tail _ (.tail _ (.tail _ (.tail _ (.tail _ (.tail _ (.tail _ (.head _)))))))))), fun q hq => .tail _ (.tail _ (.tail _ (.tail _ (.tail _ (.tail _ (.tail _ (.tail _ (.tail _ (.tail _ (hq))))))))))⟩⟩⟩⟩⟩⟩⟩⟩⟩⟩)); (case k5 => k_asm); (case k6 => k_asm); (case k7 => k_asm); (case kK => exact rfl); (case kd => ktr_room); (case ku => ktr_units))
                  clear N9
                  rintro r4 led4 hhC tkC ⟨lC, yC0, yC1, yC2, yC3, mC, rfl, rfl, fr, -⟩ F9 N9
                  have AP := AP.setU fr
                  clear fr
                  simp only [List.cons_append, List.nil_append] at N9
                  have N9 := Mine.news_sub (l' := (s₁.heap.objs.size + 1, oA) :: (s₁.heap.objs.size + 1 + 1, oB) :: Mine.L4 lC ((a1) * (Y.getD i 0) + (b1)) (a1) ((c1) * (Y.getD i 0) + (d1)) (c1) yC0 yC1 yC2 yC3 mC :: Mine.L4 lB (e1) (f1) (g1) (h1) yB0 yB1 yB2 yB3 mB :: (I, it) :: (LR, listOf (List.toArray rvs) pn) :: (lx, listOf (List.toArray xvs) 0) :: (ly, listOf (List.toArray yvs) 0) :: (LDU, listOf (List.toArray dvs) dn) :: (s₁.heap.objs.size + 1 + 1 + 1, oP) :: Mine.TT v1 v2) N9 (List.forall_mem_cons.mpr ⟨(.tail _ (.tail _ (.head _))), List.forall_mem_cons.mpr ⟨(.tail _ (.tail _ (.tail _ (.head _)))), List.forall_mem_cons.mpr ⟨(.head _), List.forall_mem_cons.mpr ⟨(.tail _ (.tail _ (.tail _ (.tail _ (.head _))))), List.forall_mem_cons.mpr ⟨(.tail _ (.tail _ (.tail _ (.tail _ (.tail _ (.head _)))))), List.forall_mem_cons.mpr ⟨(.tail _ (.tail _ (.tail _ (.tail _ (.tail _ (.tail _ (.head _))))))), List.forall_mem_cons.mpr ⟨(.tail _ (.tail _ (.tail _ (.tail _ (.tail _ (.tail _ (.tail _ (.head _)))))))), List.forall_mem_cons.mpr ⟨(.tail _ (.tail _ (.tail _ (.tail _ (.tail _ (.tail _ (.tail _ (.tail _ (.head _))))))))), List.forall_mem_cons.mpr ⟨(.tail _ (.tail _ (.tail _ (.tail _ (.tail _ (.tail _ (.tail _ (.tail _ (.tail _ (.head _)))))))))), List.forall_mem_cons.mpr ⟨(.tail _ (.tail _ (.tail _ (.tail _ (.tail _ (.tail _ (.tail _ (.tail _ (.tail _ (.tail _ (.head _))))))))))), fun q hq => .tail _ (.tail _ (.tail _ (.tail _ (.tail _ (.tail _ (.tail _ (.tail _ (.tail _ (.tail _ (.tail _ (hq)))))))))))⟩⟩⟩⟩⟩⟩⟩⟩⟩⟩)
                  dsimp only
                  k_steps
                  rename Fr _ _ _ _ => F9
                  refine Mine.hold_in ?_
                  k_dflt (refine' storeX_C F9 N9 ?hc8 (.head AP.at1) dA ?_ ?a8 ?b8; (case hc8 => rfl); (case a8 => rfl); (case b8 => rfl))
                  clear F9 N9
                  intro hsC oC F9 N9 dC
                  (try dsimp only at N9)
                  k_steps
                  refine Mine.hold_in (Mine.item_nat (ns := Y) (PySem.IsL.isList (n := 0) (N9 (ly, _) (by k_mem)).1) hyr hiy (Mine.i63 hiy lY) ?_)
                  intro tx
                  k_steps
                  refine Mine.hold_in ?_
                  k_dflt (refine' Mine.Meet.use (Mine.law_second _ lB (e1) (f1) (g1) (h1) (Y.getD i 0) yB0 yB1 yB2 yB3 tx mB ((s₁.heap.objs.size + 1, oC) :: (s₁.heap.objs.size + 1 + 1, oB) :: Mine.L4 lC ((a1) * (Y.getD i 0) + (b1)) (a1) ((c1) * (Y.getD i 0) + (d1)) (c1) yC0 yC1 yC2 yC3 mC :: (I, it) :: (LR, listOf (List.toArray rvs) pn) :: (lx, listOf (List.toArray xvs) 0) :: (ly, listOf (List.toArray yvs) 0) :: (LDU, listOf (List.toArray dvs) dn) :: (s₁.heap.objs.size + 1 + 1 + 1, oP) :: Mine.TT v1 v2) (Mine.q64 hyb) AP.atV) ?k1 ?k2 ?k3 ?k4 ?k5 ?k6 ?k7 ?kK ?kd ?ku ?_; (case k1 => k_asm); (case k2 => k_asm); (case k3 => k_asm); (case k4 => exact Mine.news_sub N9 (List.forall_mem_cons.mpr ⟨(.tail _ (.tail _ (.tail _ (.head _)))), List.forall_mem_cons.mpr ⟨(.head _), List.forall_mem_cons.mpr ⟨(.tail _ (.head _)), List.forall_mem_cons.mpr ⟨(.tail _ (.tail _ (.head _))), List.forall_mem_cons.mpr ⟨(.tail _ (.tail _ (.tail _ (.tail _ (.head _))))), List.forall_mem_cons.mpr ⟨(.tail _ (.tail _ (.tail _ (.tail _ (.tail _ (.head _)))))), List.forall_mem_cons.mpr ⟨(.tail _ (.tail _ (.tail _ (.tail _ (.tail _ (.tail _ (.head _))))))), List.forall_mem_cons.mpr ⟨(.tail _ (.tail _ (.tail _ (.tail _ (.tail _ (.tail _ (.tail _ (.head _)))))))), List.forall_mem_cons.mpr ⟨(.tail _ (.tail _ (.tail _ (.tail _ (.tail _ (.tail _ (.tail _ (.tail _ (.head _))))))))), List.forall_mem_cons.mpr ⟨(.tail _ (.tail _ (.tail _ (.tail _ (.tail _ (.tail _ (.tail _ (.tail _ (.tail _ (.head _)))))))))), fun q hq => .tail _ (.tail _ (.tail _ (.tail _ (.tail _ (.tail _ (.tail _ (.tail _ (.tail _ (.tail _ (hq))))))))))⟩⟩⟩⟩⟩⟩⟩⟩⟩⟩)); (case k5 => k_asm); (case k6 => k_asm); (case k7 => k_asm); (case kK => exact rfl); (case kd => ktr_room); (case ku => ktr_units))
                  clear N9
                  rintro r4 led4 hhD tkD ⟨lD, yD0, yD1, yD2, yD3, mD, rfl, rfl, fr, -⟩ F9 N9
                  have AP := AP.setV fr
                  clear fr
                  simp only [List.cons_append, List.nil_append] at N9
                  have N9 := Mine.news_sub (l' := (s₁.heap.objs.size + 1 + 1, oB) :: (s₁.heap.objs.size + 1, oC) :: Mine.L4 lC ((a1) * (Y.getD i 0) + (b1)) (a1) ((c1) * (Y.getD i 0) + (d1)) (c1) yC0 yC1 yC2 yC3 mC :: Mine.L4 lD ((e1) * (Y.getD i 0) + (f1)) (e1) ((g1) * (Y.getD i 0) + (h1)) (g1) yD0 yD1 yD2 yD3 mD :: (I, it) :: (LR, listOf (List.toArray rvs) pn) :: (lx, listOf (List.toArray xvs) 0) :: (ly, listOf (List.toArray yvs) 0) :: (LDU, listOf (List.toArray dvs) dn) :: (s₁.heap.objs.size + 1 + 1 + 1, oP) :: Mine.TT v1 v2) N9 (List.forall_mem_cons.mpr ⟨(.tail _ (.tail _ (.tail _ (.head _)))), List.forall_mem_cons.mpr ⟨(.tail _ (.tail _ (.head _))), List.forall_mem_cons.mpr ⟨(.tail _ (.tail _ (.tail _ (.tail _ (.head _))))), List.forall_mem_cons.mpr ⟨(.head _), List.forall_mem_cons.mpr ⟨(.tail _ (.tail _ (.tail _ (.tail _ (.tail _ (.head _)))))), List.forall_mem_cons.mpr ⟨(.tail _ (.tail _ (.tail _ (.tail _ (.tail _ (.tail _ (.head _))))))), List.forall_mem_cons.mpr ⟨(.tail _ (.tail _ (.tail _ (.tail _ (.tail _ (.tail _ (.tail _ (.head _)))))))), List.forall_mem_cons.mpr ⟨(.tail _ (.tail _ (.tail _ (.tail _ (.tail _ (.tail _ (.tail _ (.tail _ (.head _))))))))), List.forall_mem_cons.mpr ⟨(.tail _ (.tail _ (.tail _ (.tail _ (.tail _ (.tail _ (.tail _ (.tail _ (.tail _ (.head _)))))))))), List.forall_mem_cons.mpr ⟨(.tail _ (.tail _ (.tail _ (.tail _ (.tail _ (.tail _ (.tail _ (.tail _ (.tail _ (.tail _ (.head _))))))))))), fun q hq => .tail _ (.tail _ (.tail _ (.tail _ (.tail _ (.tail _ (.tail _ (.tail _ (.tail _ (.tail _ (.tail _ (hq)))))))))))⟩⟩⟩⟩⟩⟩⟩⟩⟩⟩)
                  dsimp only
                  k_steps
                  rename Fr _ _ _ _ => F9
                  refine Mine.hold_in ?_
                  k_dflt (refine' storeX_C F9 N9 ?hc8 (.head AP.at2) dB ?_ ?a8 ?b8; (case hc8 => rfl); (case a8 => rfl); (case b8 => rfl))
                  clear F9 N9
                  intro hsD oD F9 N9 dD
                  (try dsimp only at N9)
                  have N9 := Mine.news_sub (l' := (s₁.heap.objs.size + 1, oC) :: (s₁.heap.objs.size + 1 + 1, oD) :: Mine.L4 lC ((a1) * (Y.getD i 0) + (b1)) (a1) ((c1) * (Y.getD i 0) + (d1)) (c1) yC0 yC1 yC2 yC3 mC :: Mine.L4 lD ((e1) * (Y.getD i 0) + (f1)) (e1) ((g1) * (Y.getD i 0) + (h1)) (g1) yD0 yD1 yD2 yD3 mD :: (I, it) :: (LR, listOf (List.toArray rvs) pn) :: (lx, listOf (List.toArray xvs) 0) :: (ly, listOf (List.toArray yvs) 0) :: (LDU, listOf (List.toArray dvs) dn) :: (s₁.heap.objs.size + 1 + 1 + 1, oP) :: Mine.TT v1 v2) N9 (List.forall_mem_cons.mpr ⟨(.tail _ (.head _)), List.forall_mem_cons.mpr ⟨(.head _), List.forall_mem_cons.mpr ⟨(.tail _ (.tail _ (.head _))), List.forall_mem_cons.mpr ⟨(.tail _ (.tail _ (.tail _ (.head _)))), List.forall_mem_cons.mpr ⟨(.tail _ (.tail _ (.tail _ (.tail _ (.head _))))), List.forall_mem_cons.mpr ⟨(.tail _ (.tail _ (.tail _ (.tail _ (.tail _ (.head _)))))), List.forall_mem_cons.mpr ⟨(.tail _ (.tail _ (.tail _ (.tail _ (.tail _ (.tail _ (.head _))))))), List.forall_mem_cons.mpr ⟨(.tail _ (.tail _ (.tail _ (.tail _ (.tail _ (.tail _ (.tail _ (.head _)))))))), List.forall_mem_cons.mpr ⟨(.tail _ (.tail _ (.tail _ (.tail _ (.tail _ (.tail _ (.tail _ (.tail _ (.head _))))))))), List.forall_mem_cons.mpr ⟨(.tail _ (.tail _ (.tail _ (.tail _ (.tail _ (.tail _ (.tail _ (.tail _ (.tail _ (.head _)))))))))), fun q hq => .tail _ (.tail _ (.tail _ (.tail _ (.tail _ (.tail _ (.tail _ (.tail _ (.tail _ (.tail _ (hq))))))))))⟩⟩⟩⟩⟩⟩⟩⟩⟩⟩)
                  k_steps
                  rename Fr _ _ _ _ => F9
                  exact ⟨rfl, _, _, lC, lD, _, _, _, _, _, _, _, _, _, _, _, _, _, _, _, _, _, _, oC, oD, rfl, F9, N9, dC, dD, IG, AP⟩
                · rename_i hiy
                  exact ⟨rfl, _, _, lA, lB, _, _, _, _, _, _, _, _, _, _, _, _, _, _, _, _, _, _, oA, oB, rfl, F9, N9, dA, dB, IG.none (by omega), AP⟩
              case zrest2 =>
                clear F9 N9 IG AP dU dV dA dB
                rintro ff ss ⟨rfl, h8, tk8, LU, LV, a, b, c, d, e, f, g, h, ta, tb, tc, td, te, tf, tg, th, n1, n2, oU, oV, rfl, F9, N9, dU, dV, IG, AP⟩
                subst hMM
                simp only [List.cons_append, List.nil_append] at N9
                dsimp only
                k_steps
                refine Mine.hold_in ?_
                k_dflt (refine' Mine.Meet.use (Mine.law_come_out _ LU LV LR a b c d e f g h ta tb tc td te tf tg th n1 n2 rvs row pn v1 v2 ((s₁.heap.objs.size + 1, oU) :: (s₁.heap.objs.size + 1 + 1, oV) :: (I, it) :: [(lx, listOf (List.toArray xvs) 0), (ly, listOf (List.toArray yvs) 0), (LDU, listOf (List.toArray dvs) dn), (s₁.heap.objs.size + 1 + 1 + 1, oP)]) _ _ _ _ (4 * (100 * (100 * (9 * 160000 ^ i)))) ds k1 k2 hrv (Mine.bnd4 i (by omega)) (Mine.wX_ok (bx2 i) (by2 i)) (by omega) IG.out AP.uv AP.ur AP.vr (fun r hr => (AP.ot r hr).2.2.1) (fun r hr => (AP.ot r hr).2.1) (fun r hr => (AP.ot r hr).1) AP.atO) ?k1 ?k2 ?k3 ?k4 ?k5 ?k6 ?k7 ?kK ?kd ?ku ?_; (case k1 => k_asm); (case k2 => k_asm); (case k3 => k_asm); (case k4 => exact Mine.news_sub N9 (fun q hq => by have hq' := Mine.mem_mid hq; exact hq')); (case k5 => k_asm); (case k6 => k_asm); (case k7 => k_asm); (case kK => exact rfl); (case kd => ktr_room); (case ku => ktr_units))
                clear N9
                rintro r6 led6 h6 tk6 ⟨x6, LU', LV', a', b', c', d', e', f', g', h', ta', tb', tc', td', te', tf', tg', th', n1', n2', rvs', row', pn', u1, u2, rfl, hrv', q1, q2, O', rfl, hap, z1, z2, z3, z4⟩ F9 N9
                have AP := AP.out hap z1 z2 z3 z4
                have N9 := Mine.news_sub N9 (fun q hq => Mine.mem_mid2 hq)
                simp only [List.cons_append, List.nil_append] at N9
                clear hap z1 z2 z3 z4
                dsimp only
                k_steps
                rename Fr _ _ _ _ => F9
                rename News _ _ _ _ => N9
                have mk3 := Mine.Marker3.mk
                refine Mine.hold_in ?_
                have N9 := Mine.news_sub (l' := (s₁.heap.objs.size + 1, oU) :: (s₁.heap.objs.size + 1 + 1, oV) :: Mine.L4 LU' a' b' c' d' ta' tb' tc' td' n1' :: Mine.L4 LV' e' f' g' h' te' tf' tg' th' n2' :: (I, it) :: (LR, listOf (List.toArray rvs') pn') :: (lx, listOf (List.toArray xvs) 0) :: (ly, listOf (List.toArray yvs) 0) :: (LDU, listOf (List.toArray dvs) dn) :: (s₁.heap.objs.size + 1 + 1 + 1, oP) :: Mine.TT u1 u2) N9 (List.forall_mem_cons.mpr ⟨(.tail _ (.head _)), List.forall_mem_cons.mpr ⟨(.tail _ (.tail _ (.head _))), List.forall_mem_cons.mpr ⟨(.tail _ (.tail _ (.tail _ (.head _)))), List.forall_mem_cons.mpr ⟨(.tail _ (.tail _ (.tail _ (.tail _ (.head _))))), List.forall_mem_cons.mpr ⟨(.tail _ (.tail _ (.tail _ (.tail _ (.tail _ (.head _)))))), List.forall_mem_cons.mpr ⟨(.tail _ (.tail _ (.tail _ (.tail _ (.tail _ (.tail _ (.head _))))))), List.forall_mem_cons.mpr ⟨(.tail _ (.tail _ (.tail _ (.tail _ (.tail _ (.tail _ (.tail _ (.head _)))))))), List.forall_mem_cons.mpr ⟨(.tail _ (.tail _ (.tail _ (.tail _ (.tail _ (.tail _ (.tail _ (.tail _ (.head _))))))))), List.forall_mem_cons.mpr ⟨(.tail _ (.tail _ (.tail _ (.tail _ (.tail _ (.tail _ (.tail _ (.tail _ (.tail _ (.head _)))))))))), List.forall_mem_cons.mpr ⟨(.tail _ (.tail _ (.tail _ (.tail _ (.tail _ (.tail _ (.tail _ (.tail _ (.tail _ (.tail _ (.head _))))))))))), fun q hq => .tail _ (.tail _ (.tail _ (.tail _ (.tail _ (.tail _ (.tail _ (.tail _ (.tail _ (.tail _ (.tail _ (hq)))))))))))⟩⟩⟩⟩⟩⟩⟩⟩⟩⟩)
                k_dflt (refine' storeX_C F9 N9 ?hc8 (.head AP.at1) dU ?_ ?a8 ?b8; (case hc8 => rfl); (case a8 => rfl); (case b8 => rfl))
                clear F9 N9
                intro hsE oE F9 N9 dE
                (try dsimp only at N9)
                k_steps
                rename Fr _ _ _ _ => F9
                refine Mine.hold_in ?_
                have N9 := Mine.news_sub (l' := (s₁.heap.objs.size + 1 + 1, oV) :: (s₁.heap.objs.size + 1, oE) :: Mine.L4 LU' a' b' c' d' ta' tb' tc' td' n1' :: Mine.L4 LV' e' f' g' h' te' tf' tg' th' n2' :: (I, it) :: (LR, listOf (List.toArray rvs') pn') :: (lx, listOf (List.toArray xvs) 0) :: (ly, listOf (List.toArray yvs) 0) :: (LDU, listOf (List.toArray dvs) dn) :: (s₁.heap.objs.size + 1 + 1 + 1, oP) :: Mine.TT u1 u2) N9 (List.forall_mem_cons.mpr ⟨(.tail _ (.head _)), List.forall_mem_cons.mpr ⟨(.head _), List.forall_mem_cons.mpr ⟨(.tail _ (.tail _ (.head _))), List.forall_mem_cons.mpr ⟨(.tail _ (.tail _ (.tail _ (.head _)))), List.forall_mem_cons.mpr ⟨(.tail _ (.tail _ (.tail _ (.tail _ (.head _))))), List.forall_mem_cons.mpr ⟨(.tail _ (.tail _ (.tail _ (.tail _ (.tail _ (.head _)))))), List.forall_mem_cons.mpr ⟨(.tail _ (.tail _ (.tail _ (.tail _ (.tail _ (.tail _ (.head _))))))), List.forall_mem_cons.mpr ⟨(.tail _ (.tail _ (.tail _ (.tail _ (.tail _ (.tail _ (.tail _ (.head _)))))))), List.forall_mem_cons.mpr ⟨(.tail _ (.tail _ (.tail _ (.tail _ (.tail _ (.tail _ (.tail _ (.tail _ (.head _))))))))), List.forall_mem_cons.mpr ⟨(.tail _ (.tail _ (.tail _ (.tail _ (.tail _ (.tail _ (.tail _ (.tail _ (.tail _ (.head _)))))))))), fun q hq => .tail _ (.tail _ (.tail _ (.tail _ (.tail _ (.tail _ (.tail _ (.tail _ (.tail _ (.tail _ (hq))))))))))⟩⟩⟩⟩⟩⟩⟩⟩⟩⟩)
                k_dflt (refine' storeX_C F9 N9 ?hc8 (.head AP.at2) dV ?_ ?a8 ?b8; (case hc8 => rfl); (case a8 => rfl); (case b8 => rfl))
                clear F9 N9
                intro hsF oF F9 N9 dF
                (try dsimp only at N9)
                have N9 := Mine.news_sub (l' := (s₁.heap.objs.size + 1, oE) :: (s₁.heap.objs.size + 1 + 1, oF) :: Mine.L4 LU' a' b' c' d' ta' tb' tc' td' n1' :: Mine.L4 LV' e' f' g' h' te' tf' tg' th' n2' :: (I, it) :: (LR, listOf (List.toArray rvs') pn') :: (lx, listOf (List.toArray xvs) 0) :: (ly, listOf (List.toArray yvs) 0) :: (LDU, listOf (List.toArray dvs) dn) :: (s₁.heap.objs.size + 1 + 1 + 1, oP) :: Mine.TT u1 u2) N9 (List.forall_mem_cons.mpr ⟨(.tail _ (.head _)), List.forall_mem_cons.mpr ⟨(.head _), List.forall_mem_cons.mpr ⟨(.tail _ (.tail _ (.head _))), List.forall_mem_cons.mpr ⟨(.tail _ (.tail _ (.tail _ (.head _)))), List.forall_mem_cons.mpr ⟨(.tail _ (.tail _ (.tail _ (.tail _ (.head _))))), List.forall_mem_cons.mpr ⟨(.tail _ (.tail _ (.tail _ (.tail _ (.tail _ (.head _)))))), List.forall_mem_cons.mpr ⟨(.tail _ (.tail _ (.tail _ (.tail _ (.tail _ (.tail _ (.head _))))))), List.forall_mem_cons.mpr ⟨(.tail _ (.tail _ (.tail _ (.tail _ (.tail _ (.tail _ (.tail _ (.head _)))))))), List.forall_mem_cons.mpr ⟨(.tail _ (.tail _ (.tail _ (.tail _ (.tail _ (.tail _ (.tail _ (.tail _ (.head _))))))))), List.forall_mem_cons.mpr ⟨(.tail _ (.tail _ (.tail _ (.tail _ (.tail _ (.tail _ (.tail _ (.tail _ (.tail _ (.head _)))))))))), fun q hq => .tail _ (.tail _ (.tail _ (.tail _ (.tail _ (.tail _ (.tail _ (.tail _ (.tail _ (.tail _ (hq))))))))))⟩⟩⟩⟩⟩⟩⟩⟩⟩⟩)
                k_steps
                rename Fr _ _ _ _ => F9
                refine Mine.hold_in (newList_K F9 N9 ?_)
                clear F9 N9
                intro l9 hh9 F9 N9 lt9
                clear lt9
                k_steps
                rename Fr _ _ _ _ => F9
                rename News _ _ _ _ => N9
                refine Mine.hold_in (eq_intsK (ns := [a', b', c', d']) (ms := []) (PySem.IsL.isList (n := n1') (N9 (LU', _) (.tail _ (.tail _ (.tail _ (.head _))))).1) (.cons _ _ (.cons _ _ (.cons _ _ (.cons _ _ .nil)))) (PySem.IsL.isList (n := 0) (N9 (l9, _) (.head _)).1) .nil (by units_room) ?_)
                rw [decide_eq_false (by simp)]
                k_steps
                rename Fr _ _ _ _ => F9
                refine Mine.hold_in ?_
                have IGn := O'.ing
                rw [Mine.bnd_next] at IGn
                refine UnrEnd.intro F9 N9 ((s₁.heap.objs.size + 1, oE) :: (s₁.heap.objs.size + 1 + 1, oF) :: Mine.L4 LU' a' b' c' d' ta' tb' tc' td' n1' :: Mine.L4 LV' e' f' g' h' te' tf' tg' th' n2' :: (LR, listOf (List.toArray rvs') pn') :: (lx, listOf (List.toArray xvs) 0) :: (ly, listOf (List.toArray yvs) 0) :: (LDU, listOf (List.toArray dvs) dn) :: (s₁.heap.objs.size + 1 + 1 + 1, oP) :: Mine.TT u1 u2) (List.forall_mem_cons.mpr ⟨(.tail _ (.tail _ (.tail _ (.tail _ (.tail _ (.head _)))))), List.forall_mem_cons.mpr ⟨(.tail _ (.head _)), List.forall_mem_cons.mpr ⟨(.tail _ (.tail _ (.head _))), List.forall_mem_cons.mpr ⟨(.tail _ (.tail _ (.tail _ (.head _)))), List.forall_mem_cons.mpr ⟨(.tail _ (.tail _ (.tail _ (.tail _ (.head _))))), List.forall_mem_cons.mpr ⟨(.tail _ (.tail _ (.tail _ (.tail _ (.tail _ (.tail _ (.head _))))))), List.forall_mem_cons.mpr ⟨(.tail _ (.tail _ (.tail _ (.tail _ (.tail _ (.tail _ (.tail _ (.head _)))))))), List.forall_mem_cons.mpr ⟨(.tail _ (.tail _ (.tail _ (.tail _ (.tail _ (.tail _ (.tail _ (.tail _ (.head _))))))))), List.forall_mem_cons.mpr ⟨(.tail _ (.tail _ (.tail _ (.tail _ (.tail _ (.tail _ (.tail _ (.tail _ (.tail _ (.head _)))))))))), List.forall_mem_cons.mpr ⟨(.tail _ (.tail _ (.tail _ (.tail _ (.tail _ (.tail _ (.tail _ (.tail _ (.tail _ (.tail _ (.head _))))))))))), fun q hq => .tail _ (.tail _ (.tail _ (.tail _ (.tail _ (.tail _ (.tail _ (.tail _ (.tail _ (.tail _ (.tail _ (hq)))))))))))⟩⟩⟩⟩⟩⟩⟩⟩⟩⟩) AP.off (show Mine.RowJ X Y ds [(lx, listOf (List.toArray xvs) 0), (ly, listOf (List.toArray yvs) 0), (LDU, listOf (List.toArray dvs) dn), (s₁.heap.objs.size + 1 + 1 + 1, oP)] I LR lx ly LDU (s₁.heap.objs.size + 1) (s₁.heap.objs.size + 1 + 1) (i + 1) _ _ from ⟨_, _, LU', LV', a', b', c', d', e', f', g', h', ta', tb', tc', td', te', tf', tg', th', n1', n2', oE, oF, rvs', row', pn', u1, u2, Mine.map5 rfl rfl rfl rfl rfl, rfl, dE, dF, hrv', q1, q2, IGn, AP⟩)
            case doneR =>
              clear F9 N9 hIG APs dU' dV' dP'
              rintro m9 news9 ⟨mr9, uk, LU, LV, a, b, c, d, e, f, g, h, ta, tb, tc, td, te, tf, tg, th, n1, n2, oU, oV, rvs, row, pn, v1, v2, rfl, rfl, dU, dV, hrv, k1, k2, IG, AP⟩ h9 tk9 F9 N9
              have eX : X.drop X.length = [] := List.drop_eq_nil_of_le (Nat.le_refl _)
              have eY : Y.drop X.length = [] := List.drop_eq_nil_of_le lXY
              rw [eX, eY] at IG
              obtain ⟨leU, leV, hrow⟩ := IG
              unfold Mine.fW at hrow
              simp only [Mine.worth] at hrow
              rw [Mine.form_one, Mine.form_one] at hrow
              simp only [List.cons_append, List.nil_append] at N9
              dsimp only
              k_steps
              rename Fr _ _ _ _ => F9
              rename News _ _ _ _ => N9
              have hapD : @Ne Nat LDU LR := (AP.ox _ (.tail _ (.tail _ (.head _)))).2.2.1
              have hapT : ∀ q ∈ Mine.TT v1 v2, q.1 ≠ LR ∧ q.1 ≠ LDU := fun q hq => ⟨(AP.ot q hq).2.2.1, fun e => (AP.ox (LDU, listOf (List.toArray dvs) dn) (.tail _ (.tail _ (.head _)))).2.2.2.2.2.2 q hq e.symm⟩
              have N9 := Mine.news_sub (l' := (LR, listOf (List.toArray rvs) pn) :: (LDU, listOf (List.toArray dvs) dn) :: Mine.TT v1 v2) N9 (List.forall_mem_cons.mpr ⟨(.tail _ (.tail _ (.tail _ (.tail _ (.head _))))), List.forall_mem_cons.mpr ⟨(.tail _ (.tail _ (.tail _ (.tail _ (.tail _ (.tail _ (.tail _ (.head _)))))))), fun q hq => .tail _ (.tail _ (.tail _ (.tail _ (.tail _ (.tail _ (.tail _ (.tail _ (.tail _ (hq)))))))))⟩⟩)
              have hbn := Mine.bnd5 X.length lX
              obtain ⟨ua, -, -, -⟩ := leU
              obtain ⟨ue, -, -, -⟩ := leV
              clear AP dU dV eX eY
              refine Mine.hold_in (While_inv2 (Mine.WJ ds LR LDU (listOf (List.toArray dvs) dn)) (n₀ := (Mine.euclid a e).length) F9 N9 ?startW ?turnW ?passW)
              case passW => passes_own
              case startW => exact ⟨_, _, _, a, e, _, _, rvs, row, pn, v1, v2, Mine.map6 rfl rfl rfl rfl rfl rfl, rfl, hrv, k1, k2, hrow, Mine.n190 ua hbn, Mine.n190 ue hbn, rfl, hapD, hapT⟩
              case turnW =>
                clear F9 N9 hapD hapT hrow hrv k1 k2 ua ue hbn
                rintro nn m2 news2 h5 tk5 F9 N9 ⟨mr2, uq, ur, top, foot, tt2, tf2, rvs, row, pn, v1, v2, rfl, rfl, hrv, k1, k2, hrow, hb1, hb2, rfl, hapD, hapT⟩
                k_steps
                · rename_i hne
                  have hrl := Mine.len_le_of hrow
                  refine Mine.hold_in ?_
                  have hap2 : ∀ q ∈ [(LR, listOf (List.toArray rvs) pn), (LDU, listOf (List.toArray dvs) dn)], ∀ r ∈ Mine.TT v1 v2, q.1 ≠ r.1 := by
                    intro q hq r hr
                    simp only [List.mem_cons, List.not_mem_nil, or_false] at hq
                    rcases hq with rfl | rfl
                    · exact fun e => (hapT r hr).1 e.symm
                    · exact fun e => (hapT r hr).2 e.symm
                  k_dflt (refine' Mine.Meet.use (Mine.int_divmod _ top foot _ _ [(LR, listOf (List.toArray rvs) pn), (LDU, listOf (List.toArray dvs) dn)] v1 v2 k1 k2 (Mine.lo200 hb1) (Mine.hi200 hb1) hne (Mine.lo200 hb2) (Mine.hi200 hb2) hap2) ?k1 ?k2 ?k3 ?k4 ?k5 ?k6 ?k7 ?kK ?kd ?ku ?_; (case k1 => k_asm); (case k2 => k_asm); (case k3 => k_asm); (case k4 => exact Mine.news_sub N9 (fun q hq => by have hq' := Mine.mem_swap2 hq; exact hq')); (case k5 => k_asm); (case k6 => k_asm); (case k7 => k_asm); (case kK => exact rfl); (case kd => ktr_room); (case ku => ktr_units))
                  clear F9 N9 hap2
                  rintro r6 led6 h6 tk6 ⟨x6, y1, y2, c1, c2, rfl, q1, q2, rfl, hap4, hx4⟩ F9 N9
                  replace N9 := Mine.news_sub N9 (fun q hq => Mine.mem_swap3 hq)
                  have hT4 : ∀ q ∈ Mine.TT (some c1) (some c2), q.1 ≠ LR ∧ q.1 ≠ LDU := fun q hq => ⟨fun e => hap4 (LR, _) (.head _) q hq e.symm, fun e => hap4 (LDU, _) (.tail _ (.head _)) q hq e.symm⟩
                  clear hap4 hx4 hapT
                  clear k1 k2
                  generalize hTL : Mine.TT (some c1) (some c2) = TL at N9 hT4
                  dsimp only
                  k_steps
                  rename Fr _ _ _ _ => F9
                  rename News _ _ _ _ => N9
                  refine Mine.hold_in ?_
                  replace N9 := Mine.news_sub (l' := (LR, listOf (List.toArray rvs) pn) :: (LDU, listOf (List.toArray dvs) dn) :: TL) N9 (fun q hq => List.mem_cons_of_mem _ hq)
                  k_dflt (refine' append_K F9 N9 (.head (List.forall_mem_cons.mpr ⟨hapD, fun q hq => (hT4 q hq).1⟩)) ?_ ?zq9; (case zq9 => (rw [sizeLine_eq, List.size_toArray, hrv.length]; omega)))
                  clear F9 N9
                  intro hh6 F9 N9
                  rw [List.push_toArray] at N9
                  k_steps
                  rename Fr _ _ _ _ => F9
                  rename News _ _ _ _ => N9
                  refine Mine.hold_in ?_
                  subst hTL
                  refine ⟨_, _, _, _, _, rfl, F9, Mine.news_sub N9 (fun q hq => List.mem_cons_of_mem _ hq), ?lt8, ⟨_, _, _, foot, top.fmod foot, _, _, rvs ++ [.int (top.fdiv foot) _], row ++ [top.fdiv foot], pn + 1, some c1, some c2, Mine.map6 rfl rfl rfl rfl rfl rfl, rfl, Mine.ints_append hrv (.cons _ _ .nil), q1, q2, ?e8, hb2, ?b8, rfl, hapD, hT4⟩⟩
                  case lt8 => rw [Mine.euclid_cons hne, List.length_cons]; exact Nat.lt_succ_self _
                  case e8 => rw [← hrow, Mine.euclid_cons hne]; simp
                  case b8 => exact Nat.lt_trans (Mine.fmod_natAbs hne) hb2
                · rename_i h0
                  subst h0
                  rw [Mine.euclid_zero, List.append_nil] at hrow
                  subst hrow
                  clear mk2
                  have mk4 := Mine.Marker4.mk
                  generalize hTL : Mine.TT v1 v2 = TL at N9 hapT
                  k_steps
                  rename Fr _ _ _ _ => F9
                  rename News _ _ _ _ => N9
                  refine Mine.hold_in (eq_intsK (ns := row) (ms := row) (PySem.IsL.isList (n := pn) (N9 (LR, _) (.head _)).1) hrv (PySem.IsL.isList (n := dn) (N9 (LDU, _) (.tail _ (.head _))).1) hds (by units_room) ?_)
                  rw [decide_eq_true rfl]
                  k_steps
                  refine Mine.hold_in ?_
                  k_dflt (refine LCt.ListComp_T (F₀ := by k_asm) (by with_unfolding_all rfl) (by decide) (by rfl) (by decide) (by rfl) ?_)
                  k_steps
                  refine Mine.hold_in ?_
                  k_dflt (refine LCt.CompSrcT.ledger (its := List.toArray rvs) (k := pn) (by rfl) F9 N9 (.head _) (by rw [sizeLine_eq, List.size_toArray, hrv.length]; omega) ?_)
                  intro g9
                  obtain ⟨LD, hLD⟩ : ∃ l, l = _ ∧ News _ _ _ l := ⟨_, rfl, N9⟩
                  refine Mine.compRestT_ind (n := (List.toArray rvs).size) (fun i ys news => ys = [] ∧ news = LD) ?turnZ ?doneZ (List.toArray rvs).size 0 [] _ (Nat.zero_add _) ⟨rfl, hLD.1.symm⟩
                  case turnZ =>
                    clear F9 N9
                    obtain ⟨hLD, -⟩ := hLD
                    subst hLD
                    rintro i ys news hi ⟨rfl, rfl⟩ v I oI C oC D m₂ h9 tk9 E' hv hC hx F9 N9 off9 ne9
                    rw [List.getElem?_toArray] at hv
                    obtain ⟨n9, t9, rfl, -⟩ := hrv.at _ _ hv
                    clear hv
                    k_steps
                    refine Mine.hold_in (LCg.CompEnd.intro F9 N9 _ (fun p hp => hp) off9 (.inr ⟨_, (.head _), rfl, _, rfl⟩) ⟨trivial, rfl⟩)
                  case doneZ =>
                    rintro ys news ⟨rfl, rfl⟩
                    clear F9 N9
                    obtain ⟨hLD, -⟩ := hLD
                    subst hLD
                    unfold LCg.FinE
                    intro DS hh3 tk3 F9 N9 offS
                    clear offS
                    k_steps
                    refine Mine.hold_in (newList_K F9 N9 ?_)
                    clear F9 N9
                    intro l9 hh9 F9 N9 lt9
                    clear lt9
                    k_steps
                    rename Fr _ _ _ _ => F9
                    rename News _ _ _ _ => N9
                    refine Mine.hold_in (eq_intsK (ns := []) (ms := []) (PySem.IsL.isList (n := 0) (N9 (DS, _) (.tail _ (.head _))).1) .nil (PySem.IsL.isList (n := 0) (N9 (l9, _) (.head _)).1) .nil (by units_room) ?_)
                    rw [decide_eq_true rfl]
                    subst hTL
                    have hgr := Mine.grown0 (Mine.news_sub N9 (fun q hq => .tail _ (.tail _ (.tail _ (.tail _ hq)))))
                    exact ⟨_, rfl, F9, rfl, rfl, hgr⟩
  )
end
end

theorem PySem.Challenge.cw_mq0470_02_holds : PySem.Challenge.rw_mq0470_02.Holds :=
  Mine.whole
