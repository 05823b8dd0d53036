import PyProof.Rows.All
import Wide.All
import OpenK.AllK
import Wide.FinOn
import PySem.Challenge.RW_ty0047_01
open PySem PySem.W PyProof.Rows PySem.Calls PySem.Flt
open PySem.Challenge (pw_ty0047_01)
set_option Elab.async false
set_option maxRecDepth 100000
set_option maxHeartbeats 8000000
set_option linter.unusedVariables false
set_option linter.unusedSimpArgs false
set_option compiler.extract_closed false
namespace Mine
local macro_rules | `(tactic| o_law) => `(tactic| refine holds_law (by decide +kernel) fun said => ?_)
set_option synthInstance.maxSize 1 in
open_top hd for PySem.Challenge.rw_ty0047_01
theorem walk_off : True := by (w_top off; exact trivial)
local macro_rules | `(tactic| omega) => `(tactic| k_extra "omega")
local macro_rules | `(tactic| walk_at "k_opq") => `(tactic| first | (with_reducible assumption) | exact rfl | (repeat (first | (with_reducible assumption) | exact if_pos rfl | refine (if_neg (by decide)).trans ?_)))
local macro_rules | `(tactic| walk_at "z_sub") => `(tactic| ((repeat (refine List.forall_mem_cons.mpr ⟨by k_mem,?_⟩)); first | exact List.forall_mem_nil _ | (intro q hq; (repeat (first | exact hq | refine List.mem_cons_of_mem _ ?_)))))
theorem ne_World : Nonempty World := ⟨⟨fun _ _ => 0,{ strHash := fun _ => 0,shareClass := fun _ => 0,mergeTok := id,idOf := fun _ => 0,idOfShared := fun _ _ => 0,followText := fun _ => false,idOfImm := fun _ => 0 }⟩⟩
theorem ne_Shared : Nonempty Shared := ⟨{}⟩
noncomputable def pick {α : Type} (h : Nonempty α) (P : α → Prop) : α := @Classical.epsilon α h fun v => ¬ P v
theorem pick_all {α : Type} {h : Nonempty α} {P : α → Prop} (k : P (pick h P)) (v : α) : P v := Classical.byContradiction fun hv => (@Classical.epsilon_spec α (fun v => ¬ P v) ⟨v,hv⟩) k
noncomputable abbrev addrs (l : List (Addr × Obj)) : List Addr := l.map (·.1)
section
variable {prog : Program} {w : World} {A A₀ : Around} {s : Shared} {K : Frag} {L : Addr} {h₀ base : Heap} {m mg mb : Str → Option Value} {news : List (Addr × Obj)} {p : Program} {loose : List Str} {mean : ExcName → Option Value}
theorem code_defX {env : Env} {outer : List Env} {R : Result → Shared → Prop} {name qual : Str} {params : Arguments} {body : List Stmt} {scope : Scope} {dV kV doc pm cdv ct oc : Value} {an od : Option Addr} {osl : Array (Option Value)} {f : Addr} {args : Args} {binds : List (Str × Value)}
    (B : Below A₀ base outer h₀) (F : Fr h₀ L s.heap m) (X₀ : K.In h₀) (N : News h₀ L s.heap news) (T : Top p loose mean mg mb h₀) (hA : A.frames = some (env::outer)) (hf : env.frame = some L) (hke : env.scope.kind = .function)
    (ho : K.lookup f = some ⟨oc,od,.func (fnOf name qual params body scope dV kV doc pm an cdv ct),osl⟩) (hcd : codeIn K cdv qual = true) (hroom : A.depth < recursionLimit)
    (hbind : BindsTo s (fnOf name qual params body scope dV kV doc pm an cdv ct) args binds) (hloc : ∀ y ∈ binds,scope.names.lookup y.1 = some .local)
    (h : ∀ g L' h₁,(∀ b o,s.heap.get? b = some o → b ∉ addrs news → g.get? b = some o) → Fr h₀ L g m → Fr g L' h₁ (fun y => binds.reverse.lookup y) → News g L' h₁ news → Below A base (env::outer) g → K.In g → Top p loose mean mg mb g →
      wpAny (model prog w) (A.deeper (envOf qual scope L' f cdv)) (execs body (envOf qual scope L' f cdv))
        (fun fl s' => LeaveK h₀ L m g R (match fl with | .ret v => v | _ => .none) s')
        (fun e s' => wpAny (model prog w) (A.deeper (envOf qual scope L' f cdv)) (leaving (envOf qual scope L' f cdv) e) (fun _ s'' => R (.error e) s'') (fun e' s'' => R (.error e') s'') s')
        { s with heap := h₁,toks := s.toks + binds.length })
    (hco : scope.isCoroutine = false) (hgen : scope.isGenerator = false) (hk : scope.kind = .function)
    (hcell : ∀ x ∈ scope.names,x.2 ≠ .cell) : codeAny (model prog w) A (.call (.ref f) args) R s := by
  obtain ⟨FG,BG,st,lv⟩ := groundX (R := R) B F N hA hf hke
  have X : K.In s.heap := X₀.keeps F.keep
  refine codeAny_call_def (fd := fnOf name qual params body scope dV kV doc pm an cdv ct) (body := body) (binds := binds) hroom (X _ _ ho) rfl (T.nolimit.keeps F.keep) (codeRec_of X hcd) rfl hbind hcell hloc (fun h₁ hns hk₁ => ?_) hco hgen hk
  exact wpAny_mono (h _ s.heap.objs.size h₁ (fun b o e hb => hideAll_get _ e hb) FG ⟨hns,fun b o e => hk₁ b o (of_hideAll _ e),Nat.le_of_eq (hideAll_size _ _)⟩
    (fun p hp => ⟨hk₁ _ _ (N p hp).1,Nat.ne_of_lt (Heap.lt_size (N p hp).1),hideAll_none _ (List.mem_map_of_mem hp)⟩) BG (X₀.keeps st) (T.keeps st)) (fun fl s' hl => lv _ _ hl) fun _ _ y => y
end
noncomputable def Ctr (prog : Program) (w : World) (K : Frag) (p : Program) (loose : List Str) (mean : ExcName → Option Value) (mg mb : Str → Option Value)
    (f : Addr) (vs : List Value) (kw : List (Str × Value)) (mt : List (Addr × Obj)) (D U : Nat) (Pre : Heap → Prop) (Post : Value → List (Addr × Obj) → Prop) : Prop :=
  ∀ (dp un : Nat) (gd : Option (List Code)) (cn : Str) (cs : Scope) (a : Addr) (ccd : Value) (cl : List (Str × Addr)) (outer : List Env) (A₀ : Around) (base h₀ : Heap) (L : Addr) (m : Str → Option Value) (s : Shared) (Q E : Value → Shared → Prop),
    Below A₀ base outer h₀ → Fr h₀ L s.heap m → K.In h₀ → News h₀ L s.heap mt → Top p loose mean mg mb h₀ → cs.kind = .function → Pre s.heap → dp + D < recursionLimit → un + U < cLine →
    (∀ r tl h' tk',(∀ b o,s.heap.get? b = some o → b ∉ addrs mt → h'.get? b = some o) → (∀ q ∈ tl,h'.get? q.1 = some q.2 ∧ (q.1 ∈ addrs mt ∨ s.heap.get? q.1 = none)) → Post r tl → Q r { s with heap := h',toks := tk' }) →
    wpAny (model prog w) (ktrTop dp un gd cn cs L a ccd cl outer) (call (.ref f) vs kw) Q E s
theorem ctr_ret {g : Heap} {s : Shared} {mt : List (Addr × Obj)} {L' : Addr} {h' : Heap} {m' : Str → Option Value} {tl : List (Addr × Obj)} {tk' : Nat} {r : Value} {Post : Value → List (Addr × Obj) → Prop} {Q : Value → Shared → Prop}
    (hret : ∀ r tl h' tk',(∀ b o,s.heap.get? b = some o → b ∉ addrs mt → h'.get? b = some o) → (∀ q ∈ tl,h'.get? q.1 = some q.2 ∧ (q.1 ∈ addrs mt ∨ s.heap.get? q.1 = none)) → Post r tl → Q r { s with heap := h',toks := tk' })
    (hg : ∀ b o,s.heap.get? b = some o → b ∉ addrs mt → g.get? b = some o) (F : Fr g L' h' m') (N : News g L' h' tl) (hp : Post r tl) : Q r { s with heap := h',toks := tk' } := by
  refine hret r tl h' tk' (fun b o e hb => F.keep b o (hg b o e hb)) (fun q hq => ⟨(N q hq).1,?_⟩) hp
  by_cases hm : q.1 ∈ addrs mt
  · exact .inl hm
  · right
    cases e : s.heap.get? q.1 with
    | none => rfl
    | some o => have := (N q hq).2.2; rw [hg _ _ e hm] at this; cases this
noncomputable def AllNe (d : Addr) : List (Addr × Obj) → Prop
  | [] => True
  | p::r => @Ne Nat p.1 d ∧ AllNe d r
theorem allNe_of {d : Addr} : ∀ {l : List (Addr × Obj)},(∀ p ∈ l,p.1 ≠ d) → AllNe d l
  | [],_ => trivial
  | p::_,h => ⟨h p (.head _),allNe_of fun q hq => h q (.tail _ hq)⟩
theorem ctr_use {prog : Program} {w : World} {K : Frag} {p : Program} {loose : List Str} {mean : ExcName → Option Value} {mg mb : Str → Option Value}
    {f : Addr} {vs : List Value} {kw : List (Str × Value)} {mt : List (Addr × Obj)} {D U : Nat} {Pre : Heap → Prop} {Post : Value → List (Addr × Obj) → Prop}
    (C : Ctr prog w K p loose mean mg mb f vs kw mt D U Pre Post)
    {dp un : Nat} {gd : Option (List Code)} {cn : Str} {cs : Scope} {a : Addr} {ccd : Value} {cl : List (Str × Addr)} {outer : List Env} {A₀ : Around} {base h₀ : Heap} {L : Addr} {m : Str → Option Value} {s : Shared} {Q E : Value → Shared → Prop} {news : List (Addr × Obj)} (rest : List (Addr × Obj))
    (B : Below A₀ base outer h₀) (F : Fr h₀ L s.heap m) (X : K.In h₀) (N : News h₀ L s.heap news) (T : Top p loose mean mg mb h₀) (hk : cs.kind = .function)
    (hm : ∀ q ∈ mt,q ∈ news) (hr : ∀ q ∈ rest,q ∈ news ∧ q.1 ∉ addrs mt) (hp : Pre s.heap) (hd : dp + D < recursionLimit) (hu : un + U < cLine)
    (ret : ∀ r tl h' tk',Fr h₀ L h' m → News h₀ L h' (tl ++ rest) → (∀ q ∈ tl,AllNe q.1 rest) → Post r tl → Q r { s with heap := h',toks := tk' }) :
    wpAny (model prog w) (ktrTop dp un gd cn cs L a ccd cl outer) (call (.ref f) vs kw) Q E s := by
  have Nm : News h₀ L s.heap mt := fun q hq => N q (hm q hq)
  have off : ∀ b,b ∈ addrs mt → b ≠ L ∧ h₀.get? b = none := fun b hb => by
    obtain ⟨q,hq,rfl⟩ := List.mem_map.mp hb
    exact (Nm q hq).2
  refine C dp un gd cn cs a ccd cl outer A₀ base h₀ L m s Q E B F X Nm T hk hp hd hu fun r tl h' tk' hkeep htl hpost => ?_
  have hL : L ∉ addrs mt := fun q => (off L q).1 rfl
  have F' : Fr h₀ L h' m := ⟨F.ns.at' fun o e => hkeep L o e hL,fun b o e => hkeep b o (F.keep b o e) (fun q => by rw [(off b q).2] at e; cases e),F.above⟩
  refine ret r tl h' tk' F' (fun q hq => ?_) (fun q hq => allNe_of fun q' hq' => ?_) hpost
  · rcases List.mem_append.mp hq with hq | hq
    · refine ⟨(htl q hq).1,?_⟩
      rcases (htl q hq).2 with h | h
      · exact off _ h
      · refine ⟨fun e => ?_,?_⟩
        · obtain ⟨oL,_,_,hoL,_⟩ := F.ns
          rw [e,hoL] at h; cases h
        · cases e : h₀.get? q.1 with
          | none => rfl
          | some o => rw [F.keep _ _ e] at h; cases h
    · have z := hr q hq
      exact ⟨hkeep _ _ (N q z.1).1 z.2,(N q z.1).2⟩
  · intro e
    have z := hr q' hq'
    rcases (htl q hq).2 with h | h
    · exact z.2 (e ▸ h)
    · rw [← e,(N q' z.1).1] at h; cases h
section
variable {prog : Program} {w : World} {A A₀ : Around} {s : Shared} {K : Frag} {L : Addr} {h₀ base : Heap} {m mg mb : Str → Option Value} {news : List (Addr × Obj)} {p : Program} {loose : List Str} {mean : ExcName → Option Value}
theorem code_defCX {env : Env} {outer : List Env} {R : Result → Shared → Prop} {name qual : Str} {params : Arguments} {body : List Stmt} {scope : Scope} {dV kV doc pm cdv ct oc : Value} {an od : Option Addr} {osl : Array (Option Value)} {f : Addr} {args : Args} {binds : List (Str × Value)}
    (B : Below A₀ base outer h₀) (F : Fr h₀ L s.heap m) (X₀ : K.In h₀) (N : News h₀ L s.heap news) (T : Top p loose mean mg mb h₀) (hA : A.frames = some (env::outer)) (hf : env.frame = some L) (hke : env.scope.kind = .function)
    (ho : K.lookup f = some ⟨oc,od,.func (fnOf name qual params body scope dV kV doc pm an cdv ct),osl⟩) (hcd : codeIn K cdv qual = true) (hroom : A.depth < recursionLimit)
    (hbind : BindsTo s (fnOf name qual params body scope dV kV doc pm an cdv ct) args binds) (hkind : (binds.all fun y => scope.names.lookup y.1 == some .local || scope.names.lookup y.1 == some .cell) = true)
    (hnd : ((cellsFrom 0 scope.names []).map (·.1)).Nodup)
    (h : ∀ g L' h₁ tk cells,(∀ b o,s.heap.get? b = some o → b ∉ addrs news → g.get? b = some o) → Fr h₀ L g m → Fr g L' h₁ (bindL (envOfC qual scope L' f cdv).kindOf binds fun _ => none) → News g L' h₁ (cells ++ news) →
      CellsAre (bindC (envOfC qual scope L' f cdv).kindOf binds fun _ => none) (cellsFrom (L'+1) scope.names []) cells → Below A base (env::outer) g → K.In g → Top p loose mean mg mb g → (∀ p ∈ news,p.1 < L') →
      wpAny (model prog w) (A.deeper (envOfC qual scope L' f cdv)) (execs body (envOfC qual scope L' f cdv))
        (fun fl s' => LeaveK h₀ L m g R (match fl with | .ret v => v | _ => .none) s')
        (fun e s' => wpAny (model prog w) (A.deeper (envOfC qual scope L' f cdv)) (leaving (envOfC qual scope L' f cdv) e) (fun _ s'' => R (.error e) s'') (fun e' s'' => R (.error e') s'') s')
        { s with heap := h₁,toks := tk })
    (hco : scope.isCoroutine = false) (hgen : scope.isGenerator = false) (hk : scope.kind = .function) : codeAny (model prog w) A (.call (.ref f) args) R s := by
  have X : K.In s.heap := X₀.keeps F.keep
  obtain ⟨FG,BG,st,lv⟩ := groundX (R := R) B F N hA hf hke
  refine codeAny_call_function hroom (X _ _ ho) rfl hco hgen rfl (codeRec_of X hcd) (hbind _ _ _ _ ?_)
  refine wpAny_newFunctionEnv_cells hk (kindsX hkind _) fun env' he s' x => ?_
  subst he
  refine ⟨(T.nolimit.keeps F.keep).keeps x.toInCall.keep,codeAny_func ?_⟩
  obtain ⟨h₁,tk,rfl,_⟩ := x.done
  have hk₁ := x.toInCall.keep
  obtain ⟨cells,NC,Y⟩ := Cl.news (h₀ := s.heap) (Nat.le_refl _) fun n c hm => ⟨x.cell n c (lookup_of_mem_nodup (cellsFrom_names scope.names 0 (s.heap.objs.size+1) [] [] rfl ▸ hnd) hm),x.above n c hm⟩
  refine wpAny_mono (h _ s.heap.objs.size h₁ tk cells (fun b o e hb => hideAll_get _ e hb) FG ⟨x.toInCall.ns,fun b o e => hk₁ b o (of_hideAll _ e),Nat.le_of_eq (hideAll_size _ _)⟩ (fun p hp => ?_) Y BG (X₀.keeps st) (T.keeps st) (fun p hp => Heap.lt_size (N p hp).1)) (fun fl s' hl => lv _ _ hl) fun _ _ y => y
  rcases List.mem_append.mp hp with hp | hp
  · refine ⟨(NC p hp).1,(NC p hp).2.1,?_⟩
    cases q : (hideAll s.heap (news.map (·.1))).get? p.1 with
    | none => rfl
    | some o => have := of_hideAll _ q; rw [(NC p hp).2.2] at this; cases this
  · exact ⟨hk₁ _ _ (N p hp).1,Nat.ne_of_lt (Heap.lt_size (N p hp).1),hideAll_none _ (List.mem_map_of_mem hp)⟩
end
theorem codeHd_at {h h' : Heap} {c P : Addr} (x : CodeHd h c P) (k : ∀ o,h.get? c = some o → h'.get? c = some o) : CodeHd h' c P := by
  obtain ⟨o,vs,file,tf,flags,tg,inF,text,tt,e,r⟩ := x
  exact ⟨o,vs,file,tf,flags,tg,inF,text,tt,k _ e,r⟩
theorem words_a1 : True := by
  k_with_none
  k_with "omega" => lia
  exact trivial
theorem and_shl (x c k : Nat) (h : c < 2 ^ k) : (x * 2 ^ k) &&& c = 0 := by
  apply Nat.eq_of_testBit_eq
  intro i
  rw [Nat.testBit_and,Nat.zero_testBit,Nat.mul_comm,Nat.testBit_two_pow_mul]
  by_cases hi : k ≤ i
  · rw [Nat.testBit_lt_two_pow (Nat.lt_of_lt_of_le h (Nat.pow_le_pow_right (by decide) hi)),Bool.and_false]
  · simp [hi]
theorem and_hi (x k : Nat) : x &&& (x / 2 ^ k * 2 ^ k) = x / 2 ^ k * 2 ^ k := by
  apply Nat.eq_of_testBit_eq
  intro i
  rw [Nat.testBit_and,Nat.mul_comm,Nat.testBit_two_pow_mul]
  by_cases hi : k ≤ i
  · simp only [hi,decide_true,Bool.true_and,Nat.testBit_div_two_pow,Nat.sub_add_cancel hi,Bool.and_self]
  · simp [hi]
theorem pow_cast (k : Nat) : ((2 : Int) ^ k) = ((2 ^ k : Nat) : Int) := by simp
theorem pow_pos' (k : Nat) : (0 : Int) < 2 ^ k := by rw [pow_cast]; exact Int.natCast_pos.mpr (Nat.pos_of_ne_zero (by simp))
theorem bitAnd_nat (x y : Nat) : Builtin.bitAnd (x : Int) (y : Int) = ((x &&& y : Nat) : Int) := by
  unfold Builtin.bitAnd
  simp
theorem or_low {x c : Int} {k : Nat} (hx : 0 ≤ x) (hc : 0 ≤ c) (hc' : c < 2 ^ k) : Builtin.bitOr (x * 2 ^ k) c = x * 2 ^ k + c := by
  obtain ⟨x,rfl⟩ := Int.eq_ofNat_of_zero_le hx
  obtain ⟨c,rfl⟩ := Int.eq_ofNat_of_zero_le hc
  rw [pow_cast] at hc' ⊢
  rw [bitOr_and,← Int.natCast_mul,bitAnd_nat,and_shl x c k (by exact_mod_cast hc')]
  simp
theorem and_mask {x : Int} {k : Nat} (hx : 0 ≤ x) : Builtin.bitAnd x (1 * 2 ^ k - 1) = x.fmod (2 ^ k) := by
  obtain ⟨x,rfl⟩ := Int.eq_ofNat_of_zero_le hx
  have e : (1 * 2 ^ k - 1 : Int) = ((2 ^ k - 1 : Nat) : Int) := by
    rw [Int.one_mul,pow_cast,Int.natCast_sub (Nat.pos_of_ne_zero (by simp))]; rfl
  rw [e,bitAnd_nat,Nat.and_two_pow_sub_one_eq_mod,pow_cast,Int.fmod_eq_emod_of_nonneg _ (Int.natCast_nonneg _),Int.natCast_emod]
theorem xor_high {x : Int} {k : Nat} (hx : 0 ≤ x) : Builtin.bitXor x (x.fdiv (2 ^ k) * 2 ^ k) = x.fmod (2 ^ k) := by
  obtain ⟨x,rfl⟩ := Int.eq_ofNat_of_zero_le hx
  have e : ((x : Int).fdiv (2 ^ k) * 2 ^ k) = ((x / 2 ^ k * 2 ^ k : Nat) : Int) := by
    rw [pow_cast,Int.fdiv_eq_ediv_of_nonneg _ (Int.natCast_nonneg _),Int.natCast_mul,Int.natCast_ediv]
  unfold Builtin.bitXor
  rw [bitOr_and,e,bitAnd_nat,and_hi,pow_cast,Int.fmod_eq_emod_of_nonneg _ (Int.natCast_nonneg _),← Int.natCast_emod]
  have := Nat.div_add_mod x (2 ^ k)
  rw [Nat.mul_comm] at this
  omega
theorem fdm_unique {A b q r : Int} (hb : 0 < b) (h : q * b + r = A) (h0 : 0 ≤ r) (h1 : r < b) : A.fdiv b = q ∧ A.fmod b = r := by
  have e1 : A.fdiv b = q := by
    rw [Int.fdiv_eq_ediv_of_nonneg _ (Int.le_of_lt hb),← h,Int.add_comm,Int.add_mul_ediv_right _ _ (Int.ne_of_gt hb),Int.ediv_eq_zero_of_lt h0 h1,Int.zero_add]
  refine ⟨e1,?_⟩
  have := Int.mul_fdiv_add_fmod A b
  rw [e1,Int.mul_comm] at this
  omega
theorem intBits_lt {x : Int} {m : Nat} (h0 : 0 ≤ x) (h : x < 2 ^ m) : Builtin.Int.intBits x ≤ m := by
  rw [intBits_le_iff]
  obtain ⟨x,rfl⟩ := Int.eq_ofNat_of_zero_le h0
  rw [pow_cast] at h
  have h : x < 2 ^ m := by exact_mod_cast h
  simpa using h
theorem lt_intBits {x : Int} {m : Nat} (h0 : 0 ≤ x) (h : Builtin.Int.intBits x ≤ m) : x < 2 ^ m := by
  rw [intBits_le_iff] at h
  obtain ⟨x,rfl⟩ := Int.eq_ofNat_of_zero_le h0
  rw [pow_cast]
  have : x < 2 ^ m := by simpa using h
  exact_mod_cast this
theorem log2_of_lt {x : Int} {m : Nat} (hm : 0 < m) (h0 : 0 ≤ x) (h : x < 2 ^ m) : x.natAbs.log2 < m := by
  obtain ⟨x,rfl⟩ := Int.eq_ofNat_of_zero_le h0
  rw [pow_cast] at h
  have h : x < 2 ^ m := by exact_mod_cast h
  show x.log2 < m
  by_cases hx : x = 0
  · subst hx; simpa using hm
  · exact (Nat.log2_lt hx).mpr h
theorem d3_start1 {a c b b1 b2 P : Int} (hP : 0 < P) (hb : b = b1 * P + b2) (h2 : 0 ≤ b2) (h2' : b2 < P) (hc : 0 ≤ c) (hc' : c < P) (ha : 0 ≤ a) (hab : a * P + c < b * P) (hq : a.fdiv P = b1) :
    (P - 1) * b + ((a - b1 * P + b1) * P + c - (P - 1) * b2) = a * P + c ∧ (a - b1 * P + b1) * P + c - (P - 1) * b2 < b := by
  have e : (P - 1) * b + ((a - b1 * P + b1) * P + c - (P - 1) * b2) = a * P + c := by
    subst hb
    simp only [Int.sub_mul,Int.add_mul,Int.mul_add,Int.one_mul]
    have : P * (b1 * P) = b1 * P * P := by rw [Int.mul_comm]
    omega
  refine ⟨e,?_⟩
  have : (P - 1) * b = b * P - b := by rw [Int.sub_mul,Int.one_mul,Int.mul_comm]
  omega
theorem d3_start2 {a c b b1 b2 P : Int} (hP : 0 < P) (hb : b = b1 * P + b2) (hb1 : 0 < b1) (h2 : 0 ≤ b2) (hc : 0 ≤ c) (hc' : c < P) (ha : 0 ≤ a) :
    (a.fdiv b1) * b + (a.fmod b1 * P + c - a.fdiv b1 * b2) = a * P + c ∧ a.fmod b1 * P + c - a.fdiv b1 * b2 < b := by
  have d := Int.mul_fdiv_add_fmod a b1
  have q0 : 0 ≤ a.fdiv b1 := by rw [Int.fdiv_eq_ediv_of_nonneg _ (Int.le_of_lt hb1)]; exact Int.ediv_nonneg ha (Int.le_of_lt hb1)
  have r1 : a.fmod b1 < b1 := by rw [Int.fmod_eq_emod_of_nonneg _ (Int.le_of_lt hb1)]; exact Int.emod_lt_of_pos a hb1
  generalize a.fdiv b1 = q at *
  generalize a.fmod b1 = r at *
  subst d hb
  constructor
  · simp only [Int.mul_add,Int.add_mul]
    have : q * (b1 * P) = b1 * q * P := by rw [← Int.mul_assoc,Int.mul_comm q b1]
    omega
  · have h1 : r * P ≤ (b1 - 1) * P := Int.mul_le_mul_of_nonneg_right (by omega) (Int.le_of_lt hP)
    have h2' : 0 ≤ q * b2 := Int.mul_nonneg q0 h2
    rw [Int.sub_mul,Int.one_mul] at h1
    omega
theorem d3_turn {A b q r : Int} (h : q * b + r = A ∧ r < b) (h0 : r < 0) : (q - 1) * b + (r + b) = A ∧ r + b < b := by
  rw [Int.sub_mul,Int.one_mul]
  omega
theorem d3_facts {a c b b1 b2 : Int} {k : Nat} (hk : k ≤ 4000) (hb : b = b1 * 2 ^ k + b2) (h2 : 0 ≤ b2) (h2' : b2 < 2 ^ k) (h1 : 0 < b1) (h1' : b1 < 2 ^ k)
    (hc : 0 ≤ c) (hc' : c < 2 ^ k) (ha : 0 ≤ a) (hab : a * 2 ^ k + c < b * 2 ^ k) :
    0 < b ∧ Builtin.Int.intBits a ≤ k + k ∧ Builtin.Int.intBits b ≤ 9000 ∧ Builtin.Int.intBits a ≤ 9000 ∧ Builtin.Int.intBits b1 ≤ 9000 ∧ Builtin.Int.intBits b2 ≤ 9000 ∧ b1.natAbs.log2 < 9000 := by
  have hP := pow_pos' k
  have hbb : b < 2 ^ (k + k) := by
    rw [Int.pow_add,hb]
    have := Int.mul_le_mul_of_nonneg_right (show b1 ≤ 2 ^ k - 1 by omega) (Int.le_of_lt hP)
    rw [Int.sub_mul,Int.one_mul] at this
    omega
  have hb0 : 0 < b := by
    have := Int.mul_pos h1 hP
    omega
  have hab' : a < b := by
    have : a * 2 ^ k < b * 2 ^ k := by omega
    exact Int.lt_of_mul_lt_mul_right this (Int.le_of_lt hP)
  have iak : Builtin.Int.intBits a ≤ k + k := intBits_lt ha (Int.lt_trans hab' hbb)
  refine ⟨hb0,iak,Nat.le_trans (intBits_lt (Int.le_of_lt hb0) hbb) (by omega),Nat.le_trans iak (by omega),Nat.le_trans (intBits_lt (Int.le_of_lt h1) h1') (by omega),Nat.le_trans (intBits_lt h2 h2') (by omega),?_⟩
  exact Nat.lt_of_lt_of_le (log2_of_lt (m := k+1) (Nat.succ_pos k) (Int.le_of_lt h1) (by rw [Int.pow_succ]; omega)) (by omega)
theorem d3_s1 {a c b b1 b2 : Int} {k : Nat} (hb : b = b1 * 2 ^ k + b2) (h2 : 0 ≤ b2) (h2' : b2 < 2 ^ k) (h1 : 0 < b1)
    (hc : 0 ≤ c) (hc' : c < 2 ^ k) (ha : 0 ≤ a) (hab : a * 2 ^ k + c < b * 2 ^ k) (hq : a.fdiv (2 ^ k) = b1) :
    (1 * 2 ^ k - 1) * b + (Builtin.bitOr ((a - b1 * 2 ^ k + b1) * 2 ^ k) c - (1 * 2 ^ k - 1) * b2) = a * 2 ^ k + c ∧ Builtin.bitOr ((a - b1 * 2 ^ k + b1) * 2 ^ k) c - (1 * 2 ^ k - 1) * b2 < b := by
  have hP := pow_pos' k
  have d := Int.mul_fdiv_add_fmod a (2 ^ k)
  have m0 : 0 ≤ a.fmod (2 ^ k) := by rw [Int.fmod_eq_emod_of_nonneg _ (Int.le_of_lt hP)]; exact Int.emod_nonneg _ (Int.ne_of_gt hP)
  rw [hq,Int.mul_comm] at d
  rw [or_low (by omega) hc hc',Int.one_mul]
  exact d3_start1 hP hb h2 h2' hc hc' ha hab hq
theorem d3_s2 {a c b b1 b2 : Int} {k : Nat} (hb : b = b1 * 2 ^ k + b2) (h2 : 0 ≤ b2) (h1 : 0 < b1)
    (hc : 0 ≤ c) (hc' : c < 2 ^ k) (ha : 0 ≤ a) :
    a.fdiv b1 * b + (Builtin.bitOr (a.fmod b1 * 2 ^ k) c - a.fdiv b1 * b2) = a * 2 ^ k + c ∧ Builtin.bitOr (a.fmod b1 * 2 ^ k) c - a.fdiv b1 * b2 < b := by
  rw [or_low (by rw [Int.fmod_eq_emod_of_nonneg _ (Int.le_of_lt h1)]; exact Int.emod_nonneg _ (Int.ne_of_gt h1)) hc hc']
  exact d3_start2 (pow_pos' k) hb h1 h2 hc hc' ha
theorem fdiv_nn {a b : Int} (ha : 0 ≤ a) (hb : 0 < b) : 0 ≤ a.fdiv b := by rw [Int.fdiv_eq_ediv_of_nonneg _ (Int.le_of_lt hb)]; exact Int.ediv_nonneg ha (Int.le_of_lt hb)
theorem fmod_nn {a b : Int} (hb : 0 < b) : 0 ≤ a.fmod b := by rw [Int.fmod_eq_emod_of_nonneg _ (Int.le_of_lt hb)]; exact Int.emod_nonneg _ (Int.ne_of_gt hb)
theorem fmod_lt {a b : Int} (hb : 0 < b) : a.fmod b < b := by rw [Int.fmod_eq_emod_of_nonneg _ (Int.le_of_lt hb)]; exact Int.emod_lt_of_pos _ hb
theorem fdm (a b : Int) : a = a.fdiv b * b + a.fmod b := by
  have := Int.mul_fdiv_add_fmod a b
  rw [Int.mul_comm] at this
  exact this.symm
theorem fdiv_lt_of {a b c : Int} (hb : 0 < b) (h : a < c * b) : a.fdiv b < c := by
  have e := fdm a b
  have m := fmod_nn (a := a) hb
  have : a.fdiv b * b < c * b := by omega
  exact Int.lt_of_mul_lt_mul_right this (Int.le_of_lt hb)
theorem d2_split {A P : Int} (hP : 0 < P) (hA : 0 ≤ A) : A.fdiv P = A.fdiv (P * P) * P + (A.fdiv P).fmod P := by
  have e1 := fdm A P
  have e2 := fdm (A.fdiv P) P
  have h1 := fmod_nn (a := A) hP
  have h2 := fmod_lt (a := A) hP
  have h3 := fmod_nn (a := A.fdiv P) hP
  have h4 := fmod_lt (a := A.fdiv P) hP
  have hPP : 0 < P * P := Int.mul_pos hP hP
  have k : A.fdiv (P * P) = (A.fdiv P).fdiv P := by
    refine (fdm_unique hPP (q := (A.fdiv P).fdiv P) (r := (A.fdiv P).fmod P * P + A.fmod P) ?_ ?_ ?_).1
    · generalize (A.fdiv P).fdiv P = q at *
      generalize (A.fdiv P).fmod P = r at *
      generalize A.fdiv P = X at *
      subst e2
      rw [Int.add_mul,Int.mul_assoc] at e1
      omega
    · have := Int.mul_nonneg h3 (Int.le_of_lt hP); omega
    · have := Int.mul_le_mul_of_nonneg_right (show (A.fdiv P).fmod P ≤ P - 1 by omega) (Int.le_of_lt hP)
      rw [Int.sub_mul,Int.one_mul] at this
      omega
  rw [k]; exact e2
theorem d2_join {A B P : Int} (hP : 0 < P) (hB : 0 < B) (hA : 0 ≤ A) {X q1 r1 q2 r2 : Int} (hX : X = A.fdiv P) (h1 : q1 = X.fdiv B) (h2 : r1 = X.fmod B) (h3 : q2 = (r1 * P + A.fmod P).fdiv B) (h4 : r2 = (r1 * P + A.fmod P).fmod B) :
    0 ≤ q2 ∧ q2 < P ∧ 0 ≤ q1 ∧ q1 * P + q2 = A.fdiv B ∧ r2 = A.fmod B := by
  have e1 := fdm A P
  have e2 := fdm X B
  have e3 := fdm (r1 * P + A.fmod P) B
  rw [← h3,← h4] at e3
  rw [← h1,← h2] at e2
  have m1 := fmod_nn (a := A) hP
  have m2 := fmod_lt (a := A) hP
  have r0 : 0 ≤ r1 := h2 ▸ fmod_nn hB
  have r1' : r1 < B := h2 ▸ fmod_lt hB
  have s0 : 0 ≤ r2 := h4 ▸ fmod_nn hB
  have s1 : r2 < B := h4 ▸ fmod_lt hB
  have x0 : 0 ≤ X := hX ▸ fdiv_nn hA hP
  have q0 : 0 ≤ q1 := h1 ▸ fdiv_nn x0 hB
  have y0 : 0 ≤ r1 * P + A.fmod P := by have := Int.mul_nonneg r0 (Int.le_of_lt hP); omega
  have y1 : r1 * P + A.fmod P < P * B := by
    have := Int.mul_le_mul_of_nonneg_right (show r1 ≤ B - 1 by omega) (Int.le_of_lt hP)
    rw [Int.sub_mul,Int.one_mul,Int.mul_comm B P] at this
    omega
  have t0 : 0 ≤ q2 := h3 ▸ fdiv_nn y0 hB
  have t1 : q2 < P := h3 ▸ fdiv_lt_of hB y1
  have u := fdm_unique hB (A := A) (q := q1 * P + q2) (r := r2) (by
    rw [← hX] at e1
    rw [e2,Int.add_mul] at e1
    have c1 : q1 * B * P = q1 * P * B := by rw [Int.mul_assoc,Int.mul_comm B P,← Int.mul_assoc]
    rw [Int.add_mul]
    omega) s0 s1
  exact ⟨t0,t1,q0,u.1.symm,u.2.symm⟩
theorem half_even {k : Nat} : Builtin.bitAnd (2 * (k : Int)) 1 = 0 := by
  have : (2 * (k : Int)) = ((2 * k : Nat) : Int) := by simp
  rw [this,show (1 : Int) = ((1 : Nat) : Int) from rfl,bitAnd_nat,Nat.and_one_is_mod]
  omega
theorem half_odd {k : Nat} (hk : 0 < k) : Builtin.bitAnd (2 * (k : Int) - 1) 1 = 1 := by
  have : (2 * (k : Int) - 1) = ((2 * k - 1 : Nat) : Int) := by omega
  rw [this,show (1 : Int) = ((1 : Nat) : Int) from rfl,bitAnd_nat,Nat.and_one_is_mod]
  omega
theorem d2_B {B : Int} {h : Nat} (h0 : 0 < h) (hB : 2 ^ (h + h - 1) ≤ B) (hB' : B < 2 ^ (h + h)) : 0 < B.fdiv (2 ^ h) ∧ B.fdiv (2 ^ h) < 2 ^ h := by
  have hP := pow_pos' h
  constructor
  · have e := fdm B (2 ^ h)
    have m := fmod_lt (a := B) hP
    have c : (2 : Int) ^ h ≤ 2 ^ (h + h - 1) := by
      rw [pow_cast,pow_cast]; exact_mod_cast Nat.pow_le_pow_right (by decide) (by omega)
    rcases Int.lt_or_le 0 (B.fdiv (2 ^ h)) with q | q
    · exact q
    · have := Int.mul_le_mul_of_nonneg_right q (Int.le_of_lt hP)
      rw [Int.zero_mul] at this
      omega
  · exact fdiv_lt_of hP (by rw [← Int.pow_add]; exact hB')
@[reducible] noncomputable def rhsOf {α : Type} {a b : α} (_ : a = b) : α := b
noncomputable def lawStmt : Stmt := pw_ty0047_01.main.body.getLast!
noncomputable def lawBody : List Stmt := match lawStmt with | .FunctionDef _ _ b _ _ _ _ _ _ _ => b | _ => []
noncomputable def lawSc0 : Scope := match lawStmt with | .FunctionDef _ _ _ _ _ _ s _ _ _ => s | _ => default
noncomputable def lawAt (i : Nat) : Stmt := lawBody.getD i (.Pass default)
noncomputable def lawSc1 : Scope := by
  have e := Eq.refl lawSc0
  conv at e => rhs; whnf
  exact rhsOf e
noncomputable def defAt (i : Nat) : Stmt := pw_ty0047_01.main.body.getD i (.Pass default)
noncomputable def bodyOf : Stmt → List Stmt
  | .FunctionDef _ _ b _ _ _ _ _ _ _ => b
  | _ => []
noncomputable def scopeOf : Stmt → Scope
  | .FunctionDef _ _ _ _ _ _ s _ _ _ => s
  | _ => default
noncomputable def paramsOf : Stmt → Arguments
  | .FunctionDef _ a _ _ _ _ _ _ _ _ => a
  | _ => default
noncomputable def posOf : Stmt → Pos
  | .FunctionDef _ _ _ _ _ _ _ _ _ p => p
  | _ => default
noncomputable def nameOf : Stmt → Str
  | .FunctionDef n _ _ _ _ _ _ _ _ _ => n
  | _ => default
noncomputable def i2dI : Stmt := (bodyOf (defAt 4)).getD 1 (.Pass default)
noncomputable def d2iI : Stmt := (bodyOf (defAt 5)).getD 0 (.Pass default)
@[reducible] noncomputable def i2dBody : List Stmt := by
  have e := Eq.refl (bodyOf i2dI)
  conv at e => rhs; whnf
  exact rhsOf e
@[reducible] noncomputable def i2dScope : Scope := by
  have e := Eq.refl (scopeOf i2dI)
  conv at e => rhs; whnf
  exact rhsOf e
@[reducible] noncomputable def i2dParams : Arguments := by
  have e := Eq.refl (paramsOf i2dI)
  conv at e => rhs; whnf
  exact rhsOf e
@[reducible] noncomputable def d2iBody : List Stmt := by
  have e := Eq.refl (bodyOf d2iI)
  conv at e => rhs; whnf
  exact rhsOf e
@[reducible] noncomputable def d2iScope : Scope := by
  have e := Eq.refl (scopeOf d2iI)
  conv at e => rhs; whnf
  exact rhsOf e
@[reducible] noncomputable def d2iParams : Arguments := by
  have e := Eq.refl (paramsOf d2iI)
  conv at e => rhs; whnf
  exact rhsOf e
noncomputable abbrev i2dQual : Str := Str.ofString "_int2digits.<locals>.inner"
noncomputable abbrev d2iQual : Str := Str.ofString "_digits2int.<locals>.inner"
theorem words_a2 : True := by
  k_with_none
  exact trivial
section
variable {prog : Program} {w : World} {A : Around} {E : Value → Shared → Prop} {s : Shared} {Q : Value → Shared → Prop} {a n y : Int} {t u : Tok}
theorem rshift_to (hn : 0 ≤ n) (e : a.fdiv (2 ^ n.toNat) = y) (h : Q (.int y s.toks) { s with toks := s.toks+1 }) : wpAny (model prog w) A (binaryOp .RShift (.int a t) (.int n u)) Q E s := by subst e; exact rshift_int hn h
theorem irshift_to (hn : 0 ≤ n) (e : a.fdiv (2 ^ n.toNat) = y) (h : Q (.int y s.toks) { s with toks := s.toks+1 }) : wpAny (model prog w) A (inplaceOp .RShift (.int a t) (.int n u)) Q E s := by subst e; exact irshift_int hn h
theorem lshift_to (hn : 0 ≤ n) (hz : (Builtin.Int.intBits a : Int) + n ≤ 2 ^ 27) (e : a * 2 ^ n.toNat = y) (h : Q (.int y s.toks) { s with toks := s.toks+1 }) : wpAny (model prog w) A (binaryOp .LShift (.int a t) (.int n u)) Q E s := by subst e; exact lshift_int hn hz h
theorem ilshift_to (hn : 0 ≤ n) (hz : (Builtin.Int.intBits a : Int) + n ≤ 2 ^ 27) (e : a * 2 ^ n.toNat = y) (h : Q (.int y s.toks) { s with toks := s.toks+1 }) : wpAny (model prog w) A (inplaceOp .LShift (.int a t) (.int n u)) Q E s := by subst e; exact ilshift_int hn hz h
theorem and_to (e : Builtin.bitAnd a n = y) (h : Q (.int y s.toks) { s with toks := s.toks+1 }) : wpAny (model prog w) A (binaryOp .BitAnd (.int a t) (.int n u)) Q E s := by subst e; exact and_int h
theorem or_to (e : Builtin.bitOr a n = y) (h : Q (.int y s.toks) { s with toks := s.toks+1 }) : wpAny (model prog w) A (binaryOp .BitOr (.int a t) (.int n u)) Q E s := by subst e; exact or_int h
theorem xor_to (e : Builtin.bitXor a n = y) (h : Q (.int y s.toks) { s with toks := s.toks+1 }) : wpAny (model prog w) A (binaryOp .BitXor (.int a t) (.int n u)) Q E s := by subst e; exact xor_int h
theorem mul_to (e : a * n = y) (hm : IntMulOk a n) (h : Q (.int y s.toks) { s with toks := s.toks+1 }) : wpAny (model prog w) A (binaryOp .Mult (.int a t) (.int n u)) Q E s := by subst e; exact AutoIntOps.mul_0 h hm
theorem fdiv_to (hn : n ≠ 0) (hl : n.natAbs.log2 < 9000) (e : a.fdiv n = y) (h : Q (.int y s.toks) { s with toks := s.toks+1 }) : wpAny (model prog w) A (binaryOp .FloorDiv (.int a t) (.int n u)) Q E s := by subst e; exact floordiv_int hn h (Or.inl (PyProof.noPylong_of_log2 hl))
end
theorem kx_drop {α : Type} {a : α} {nx r : List α} : ∀ p ∈ a::r,p ∈ a::(nx ++ r) := fun p hp => by
  rcases List.mem_cons.mp hp with rfl | hp
  · exact .head _
  · exact .tail _ (List.mem_append_right _ hp)
noncomputable def valD (P : Int) : List Int → Int
  | [] => 0
  | z::zs => z + P * valD P zs
theorem valD_append (P : Int) (xs ys : List Int) : valD P (xs ++ ys) = valD P xs + P ^ xs.length * valD P ys := by
  induction xs with
  | nil => simp [valD]
  | cons x xs ih => simp only [List.cons_append,valD,ih,List.length_cons,Int.pow_succ,Int.mul_add]; rw [Int.mul_comm (P ^ xs.length) P,Int.mul_assoc,Int.add_assoc]
theorem set_mid {α : Type} : ∀ (l : List α) (i : Nat) (x : α),i < l.length → l.set i x = l.take i ++ [x] ++ l.drop (i+1)
  | [],_,_,h => absurd h (Nat.not_lt_zero _)
  | a::l,0,x,_ => by simp
  | a::l,i+1,x,h => by
    rw [List.set_cons_succ,set_mid l i x (Nat.lt_of_succ_lt_succ h)]
    simp
theorem valD_bound {n : Nat} : ∀ {zs : List Int},(∀ z ∈ zs,0 ≤ z ∧ z < 2 ^ n) → 0 ≤ valD (2 ^ n) zs ∧ valD (2 ^ n) zs < 2 ^ (n * zs.length)
  | [],_ => by simp [valD]
  | z::zs,h => by
    have h1 := h z (.head _)
    have h2 := valD_bound (fun y hy => h y (.tail _ hy))
    have hP := pow_pos' n
    simp only [valD,List.length_cons,Nat.mul_succ,Int.pow_add]
    have a := Int.mul_nonneg (Int.le_of_lt hP) h2.1
    have b := Int.mul_le_mul_of_nonneg_left (show valD (2 ^ n) zs ≤ 2 ^ (n * zs.length) - 1 by omega) (Int.le_of_lt hP)
    rw [Int.mul_sub,Int.mul_one,Int.mul_comm (2 ^ n) (2 ^ (n * zs.length))] at b
    omega
noncomputable abbrev seg (ns : List Int) (Lo d : Nat) : List Int := (ns.drop Lo).take d
theorem seg_split (ns : List Int) (Lo a b : Nat) : seg ns Lo (a + b) = seg ns Lo a ++ seg ns (Lo + a) b := by
  simp only [seg,List.take_add,List.drop_drop]
theorem seg_one (ns : List Int) (Lo : Nat) (h : Lo < ns.length) : seg ns Lo 1 = [ns.getD Lo 0] := by
  have e : ns.getD Lo 0 = ns[Lo] := by rw [List.getD_eq_getElem?_getD,List.getElem?_eq_getElem h]; rfl
  unfold seg
  rw [List.drop_eq_getElem_cons h,e]
  rfl
theorem seg_len (ns : List Int) (Lo d : Nat) (h : Lo + d ≤ ns.length) : (seg ns Lo d).length = d := by
  rw [List.length_take,List.length_drop]; omega
theorem seg_mem {ns : List Int} {Lo d : Nat} {z : Int} (h : z ∈ seg ns Lo d) : z ∈ ns := List.mem_of_mem_drop (List.mem_of_mem_take h)
noncomputable def TabSt (ps : Array Value) (pos : Pos) (qual : Str) (c1 : Addr) (o1 : Obj) : Prop :=
  ps = #[] ∨ (ps = #[rawInt pos.line,rawInt pos.col,.ref c1] ∧ ∃ vs t,o1.data = .fields vs ∧ vs[1]? = some (.str qual t))
theorem codeAmong_one (pos : Pos) (c : Addr) : codeAmong pos [rawInt pos.line,rawInt pos.col,.ref c] = some (.ref c) := by
  unfold codeAmong rawInt
  simp
theorem nest_any {M : Model} {A : Around} {E : Value → Shared → Prop} {s : Shared} {h₀ : Heap} {L a c P : Addr} {m mg mb : Str → Option Value} {cn : Str} {cs : Scope} {ccd : Value} {cl clos : List (Str × Addr)} {news : List (Addr × Obj)} {g : Obj → List (Addr × Obj)} {p : Program} {loose : List Str} {mean : ExcName → Option Value}
    {ps : Array Value} {name qual : Str} {params : Arguments} {body : List Stmt} {scope : Scope} {pos : Pos} {firstLine : Nat} {c1 : Addr} {o1 : Obj} {Q : Value → Shared → Prop}
    (F : Fr h₀ L s.heap m) (N : News h₀ L s.heap news) (T : Top p loose mean mg mb h₀) (C : CodeHd h₀ c P) (hcd : ccd = .ref c) (U : UpdF P (tabObj ps) news g) (hm1 : (c1,o1) ∈ news) (hst : TabSt ps pos qual c1 o1)
    (hcl : closureFor scope (envX cn cs L a ccd cl) = pure clos)
    (h : ∀ f c' oc vs t ctv doc h' tk,Fr h₀ L h' m →
      News h₀ L h' ((f,fnMade name qual params body scope clos doc ((mg "__name__").getD .none) c' ctv)::(c',oc)::g (tabObj #[rawInt pos.line,rawInt pos.col,.ref c'])) →
      oc.data = .fields vs → vs[1]? = some (.str qual t) → (∀ q ∈ news,q.1 < f) → (ps ≠ #[] → c' = c1 ∧ oc = o1) → (@LT.lt Nat _ c' f) → ((@Eq Nat c' c1) ∨ AllLt c' news) → Q (.ref f) { s with heap := h',toks := tk }) :
    wpAny M A (makeFunction name qual params (.stmts body) scope (envX cn cs L a ccd cl) [] [] [] pos firstLine) Q E s := by
  rcases hst with rfl | ⟨rfl,vs,t,hd,hv⟩
  · refine nest_K F N T C hcd U (by exact True.intro) rfl hcl fun f c' oc vs t ctv doc h' tk F' N' d1 d2 l1 l2 => ?_
    refine h f c' oc vs t ctv doc h' tk F' N' d1 d2 (fun q hq => Nat.lt_trans (l1 q hq) l2) (fun hne => absurd rfl hne) l2 (.inr (allLt_of l1))
  · obtain ⟨pre,post,e1,e2,_,_⟩ := U.split
    have hmem : (P,tabObj #[rawInt pos.line,rawInt pos.col,.ref c1]) ∈ news := by rw [e1]; exact List.mem_append_right _ (.head _)
    refine nestHit_K F N T C hcd hmem True.intro (codeAmong_one pos c1) hcl fun f ctv doc h' tk F' N' l1 => ?_
    refine h f c1 o1 vs t ctv doc h' tk F' (fun q hq => ?_) hd hv l1 (fun _ => ⟨rfl,rfl⟩) (l1 _ hm1) (.inl rfl)
    rw [e2,← e1] at hq
    rcases List.mem_cons.mp hq with rfl | hq
    · exact N' _ (.head _)
    · rcases List.mem_cons.mp hq with rfl | hq
      · exact N' _ (.tail _ hm1)
      · exact N' _ (.tail _ hq)
theorem news_ne {h₀ h : Heap} {L a b : Addr} {o o' : Obj} {news : List (Addr × Obj)} (N : News h₀ L h news) (h1 : (a,o) ∈ news) (h2 : (b,o') ∈ news) (hd : o.data ≠ o'.data) : @Ne Nat a b := fun e => by
  subst e
  have e1 := (N _ h1).1
  rw [(N _ h2).1] at e1
  cases e1
  exact hd rfl
@[reducible] noncomputable def i2dPos : Pos := by
  have e := Eq.refl (posOf i2dI)
  conv at e => rhs; whnf
  exact rhsOf e
@[reducible] noncomputable def d2iPos : Pos := by
  have e := Eq.refl (posOf d2iI)
  conv at e => rhs; whnf
  exact rhsOf e
noncomputable abbrev pairObj (x y : Int) (u v : Tok) : Obj := { cls := .type "tuple", data := .seq #[.int x u,.int y v] }
theorem ne_Around : Nonempty Around := ⟨ktrTop 0 0 none (Str.ofString "law") default 0 0 .none [] []⟩
section
local macro_rules | `(tactic| walk_at $s:str) => `(tactic| k_extra $s)
noncomputable abbrev lawN : Str := Str.ofString "law"
noncomputable abbrev lawCl (L : Addr) : List (Str × Addr) := [(Str.ofString "numbers", L+1+1+1+1+1+1+1+1),(Str.ofString "parts", L+1+1+1+1+1+1+1),(Str.ofString "row", L+1+1+1+1+1+1),(Str.ofString "table", L+1+1+1+1+1),(Str.ofString "unit", L+1+1+1+1),(Str.ofString "white", L+1+1+1),(Str.ofString "side", L+1+1),(Str.ofString "script", L+1)]
noncomputable abbrev lawEnv (L fa : Addr) : Env := envX lawN lawSc1 L fa (.ref 136) (lawCl L)
noncomputable abbrev lawA (dp un : Nat) (gd : Option (List Code)) (L fa : Addr) : Around := ktrTop dp un gd lawN lawSc1 L fa (.ref 136) (lawCl L) []
theorem AllNe.mem {d : Addr} {p : Addr × Obj} {l : List (Addr × Obj)} (h : AllNe d l) (hp : p ∈ l) : @Ne Nat p.1 d := by
  induction hp with
  | head => exact h.1
  | tail _ _ ih => exact ih h.2
noncomputable def tokOf : Value → Tok
  | .int _ t => t
  | _ => (0 : Nat)
noncomputable def zOf : Value → Int
  | .int z _ => z
  | _ => 0
noncomputable def tagN (vs : List Value) : Nat → List Int → List Value
  | _,[] => []
  | i,n::ns => .int n (tokOf (vs.getD i .none))::tagN vs (i+1) ns
theorem ints_tags {vs : List Value} {ns : List Int} (h : IntsAre vs ns) : ∀ pre : List Value,vs = tagN (pre ++ vs) pre.length ns := by
  induction h with
  | nil => intro pre; rfl
  | cons n t h ih =>
    rename_i vs ns
    intro pre
    have e := ih (pre ++ [.int n t])
    rw [List.append_assoc,List.length_append] at e
    have g : (pre ++ Value.int n t::vs).getD pre.length .none = .int n t := by simp
    unfold tagN
    rw [g]
    exact congrArg (Value.int n t::·) e
theorem ints_tag {vs : List Value} {ns : List Int} (h : IntsAre vs ns) : vs = tagN vs 0 ns := ints_tags h []
theorem ints_of {vs : List Value} (h : ∀ y ∈ vs,∃ z t,y = Value.int z t) : IntsAre vs (vs.map zOf) := by
  induction vs with
  | nil => exact .nil
  | cons v vs ih =>
    obtain ⟨z,t,rfl⟩ := h v (.head _)
    exact .cons z t (ih fun y hy => h y (.tail _ hy))
noncomputable def tagZ (ys : List Value) : Nat → Nat → List Int
  | _,0 => []
  | i,n+1 => zOf (ys.getD i .none)::tagZ ys (i+1) n
theorem map_tags (vs : List Value) : ∀ pre : List Value,vs.map zOf = tagZ (pre ++ vs) pre.length vs.length := by
  induction vs with
  | nil => intro pre; rfl
  | cons v vs ih =>
    intro pre
    have e := ih (pre ++ [v])
    rw [List.append_assoc,List.length_append] at e
    have g : (pre ++ v::vs).getD pre.length .none = v := by simp
    show zOf v::vs.map zOf = zOf ((pre ++ v::vs).getD pre.length .none)::tagZ (pre ++ v::vs) (pre.length+1) vs.length
    rw [g]
    exact congrArg (zOf v::·) e
theorem AllNe.sub {d : Addr} {l l' : List (Addr × Obj)} (h : AllNe d l) (hs : ∀ q ∈ l',q ∈ l) : AllNe d l' := allNe_of fun q hq => AllNe.mem h (hs q hq)
theorem clo {L a x : Nat} (h : 134 < L) (ha : a ≤ 134) (hx : L ≤ x) : x ≠ a := Nat.ne_of_gt (Nat.lt_of_le_of_lt ha (Nat.lt_of_lt_of_le h hx))
theorem cl0 {L x : Nat} (h : 134 < L) (hx : L ≤ x) : x ≠ 134 := clo h (Nat.le_refl _) hx
theorem cl1 {L x : Nat} (h : 134 < L) (hx : L ≤ x) : x ≠ 37 := clo h (by decide) hx
theorem cl2 {L x : Nat} (h : 134 < L) (hx : L ≤ x) : x ≠ 30 := clo h (by decide) hx
theorem nn37 : (37 : Nat) ≠ 134 := by decide
theorem nn30 : (30 : Nat) ≠ 134 := by decide
theorem n134a : (134 : Nat) ≠ 37 := by decide
theorem n134b : (134 : Nat) ≠ 30 := by decide
theorem AllNe.all {d : Addr} {l : List (Addr × Obj)} (h : AllNe d l) : ∀ q ∈ l,@Ne Nat q.1 d := fun _ hq => AllNe.mem h hq
theorem AllNe.app {d : Addr} {zs : List (Addr × Obj)} : ∀ {a : List (Addr × Obj)},AllNe d a → (∀ q ∈ zs,@Ne Nat q.1 d) → AllNe d (a ++ zs)
  | [],_,h => allNe_of h
  | _::_,h,hz => ⟨h.1,AllNe.app h.2 hz⟩
noncomputable abbrev cellO (v : Option Value) : Obj := { cls := .type "cell", data := .cell v }
@[reducible] noncomputable def lst0 : Stmt := by
  have e := Eq.refl (lawAt 0)
  conv at e => rhs; whnf
  exact rhsOf e
@[reducible] noncomputable def lst1 : Stmt := by
  have e := Eq.refl (lawAt 1)
  conv at e => rhs; whnf
  exact rhsOf e
@[reducible] noncomputable def lst2 : Stmt := by
  have e := Eq.refl (lawAt 2)
  conv at e => rhs; whnf
  exact rhsOf e
@[reducible] noncomputable def lst3 : Stmt := by
  have e := Eq.refl (lawAt 3)
  conv at e => rhs; whnf
  exact rhsOf e
@[reducible] noncomputable def lst4 : Stmt := by
  have e := Eq.refl (lawAt 4)
  conv at e => rhs; whnf
  exact rhsOf e
@[reducible] noncomputable def lst5 : Stmt := by
  have e := Eq.refl (lawAt 5)
  conv at e => rhs; whnf
  exact rhsOf e
@[reducible] noncomputable def lst6 : Stmt := by
  have e := Eq.refl (lawAt 6)
  conv at e => rhs; whnf
  exact rhsOf e
@[reducible] noncomputable def lst7 : Stmt := by
  have e := Eq.refl (lawAt 7)
  conv at e => rhs; whnf
  exact rhsOf e
@[reducible] noncomputable def lst8 : Stmt := by
  have e := Eq.refl (lawAt 8)
  conv at e => rhs; whnf
  exact rhsOf e
@[reducible] noncomputable def lst9 : Stmt := by
  have e := Eq.refl (lawAt 9)
  conv at e => rhs; whnf
  exact rhsOf e
@[reducible] noncomputable def lst10 : Stmt := by
  have e := Eq.refl (lawAt 10)
  conv at e => rhs; whnf
  exact rhsOf e
@[reducible] noncomputable def lst11 : Stmt := by
  have e := Eq.refl (lawAt 11)
  conv at e => rhs; whnf
  exact rhsOf e
@[reducible] noncomputable def lst12 : Stmt := by
  have e := Eq.refl (lawAt 12)
  conv at e => rhs; whnf
  exact rhsOf e
@[reducible] noncomputable def lst13 : Stmt := by
  have e := Eq.refl (lawAt 13)
  conv at e => rhs; whnf
  exact rhsOf e
@[reducible] noncomputable def lst14 : Stmt := by
  have e := Eq.refl (lawAt 14)
  conv at e => rhs; whnf
  exact rhsOf e
@[reducible] noncomputable def lst15 : Stmt := by
  have e := Eq.refl (lawAt 15)
  conv at e => rhs; whnf
  exact rhsOf e
@[reducible] noncomputable def lst16 : Stmt := by
  have e := Eq.refl (lawAt 16)
  conv at e => rhs; whnf
  exact rhsOf e
@[reducible] noncomputable def lst17 : Stmt := by
  have e := Eq.refl (lawAt 17)
  conv at e => rhs; whnf
  exact rhsOf e
@[reducible] noncomputable def lst18 : Stmt := by
  have e := Eq.refl (lawAt 18)
  conv at e => rhs; whnf
  exact rhsOf e
@[reducible] noncomputable def lst19 : Stmt := by
  have e := Eq.refl (lawAt 19)
  conv at e => rhs; whnf
  exact rhsOf e
@[reducible] noncomputable def lst20 : Stmt := by
  have e := Eq.refl (lawAt 20)
  conv at e => rhs; whnf
  exact rhsOf e
@[reducible] noncomputable def lst21 : Stmt := by
  have e := Eq.refl (lawAt 21)
  conv at e => rhs; whnf
  exact rhsOf e
@[reducible] noncomputable def lst22 : Stmt := by
  have e := Eq.refl (lawAt 22)
  conv at e => rhs; whnf
  exact rhsOf e
@[reducible] noncomputable def lst23 : Stmt := by
  have e := Eq.refl (lawAt 23)
  conv at e => rhs; whnf
  exact rhsOf e
@[reducible] noncomputable def lcElt : Stmt → Expr
  | .Assign _ (.ListComp e _ _ _) _ => e
  | _ => .Constant .none 0 default
noncomputable def lcScope : Stmt → Scope
  | .Assign _ (.ListComp _ _ s _) _ => s
  | _ => default
noncomputable def lcIter : Stmt → Expr
  | .Assign _ (.ListComp _ [⟨_,i,_,_⟩] _ _) _ => i
  | _ => .Constant .none 0 default
@[reducible] noncomputable def elt0 : Expr := by
  have e := Eq.refl (lcElt (lawAt 0))
  conv at e => rhs; whnf
  exact rhsOf e
@[reducible] noncomputable def scope0 : Scope := by
  have e := Eq.refl (lcScope (lawAt 0))
  conv at e => rhs; whnf
  exact rhsOf e
@[reducible] noncomputable def iter0 : Expr := by
  have e := Eq.refl (lcIter (lawAt 0))
  conv at e => rhs; whnf
  exact rhsOf e
theorem ld_freeC {M : Model} {A : Around} {E : Value → Shared → Prop} {s : Shared} {h₀ : Heap} {L C c : Addr} {news : List (Addr × Obj)} {scope : Scope} {cl : List (Str × Addr)} {env : Env} {x : Str} {pos : Pos} {v : Value} {o : Obj} {Q : Value → Shared → Prop}
    (N : News h₀ L s.heap news) (hc : cl.lookup x = some c) (hm : (c,o) ∈ news) (hd : o.data = .cell (some v)) (h : Q v s)
    (hk : (compEnvC scope cl C env).scope.kind = .function := by rfl) (hx : (compEnvC scope cl C env).kindOf x = some .cell := by rfl) (hb : (x == ("__debug__" : Str)) = false := by decide) :
    wpAny M A (eval (.Name x pos) (compEnvC scope cl C env)) Q E s := wpAny_Name (wpAny_loadName_cell hk hx hc ⟨o,N.get hm,hd⟩ h) hb
open PyProof.Rows.LCg in
theorem law_e0 {w : World} {p : Program} {loose : List Str} {mean : ExcName → Option Value} {mg mb : Str → Option Value}
    {dp un : Nat} {gd : Option (List Code)} {L fa : Addr} {A₀ : Around} {base h₀ : Heap} {s : Shared} {Q : Value → Shared → Prop} {E : Value → Shared → Prop}
    (B : Below A₀ base [] h₀) (X : (Mine.hd.heap_1 w.params).In h₀) (T : Top p loose mean mg mb h₀) (hd : dp+100 < recursionLimit) (hu : un+600 < cLine)
    (ch1 : CodeHd h₀ 41 37) (ch2 : CodeHd h₀ 34 30) (ch3 : CodeHd h₀ 136 134)
   {m : Str → Option Value} {C S cS : Addr} {oC oS : Obj} {m₂ : Str → Option Value} {zs : List (Addr × Obj)} {vs : List Value} {ns : List Int} {k : Nat} {x1 : Int} {t tx : Tok} (F : Fr h₀ L s.heap m) (N : News h₀ L s.heap ((C,oC)::zs)) (hS : h₀.IsList S vs.toArray) (hI : IntsAre vs ns) (hn : ns.length ≤ 63) (hk : k < 6)
   (hC : NsObj oC m₂) (mk : m₂ (Str.ofString "k") = some (.int (k : Int) t)) (mx : m₂ (Str.ofString "x") = some (.int x1 tx)) (cSm : (cS,oS) ∈ zs) (cSd : oS.data = .cell (some (.ref S)))
   (fin : ∀ v t h tk',Fr h₀ L h m → News h₀ L h ((C,oC)::zs) → Q (.int v t) { s with heap := h,toks := tk' })
   : wpAny (model pw_ty0047_01 w) (lawA dp un gd L fa) (eval elt0 (compEnvC scope0 [(Str.ofString "script", cS)] C (lawEnv L fa))) Q E s := by
  w_top off
  iterate 7 (first | walk1 | (dsimp only; walk1))
  refine' ld_freeC (h₀ := h₀) (L := L) (news := (C,oC)::zs) (c := cS) (o := oS) (v := .ref S) ?n ?a ?b ?c ?_ ?d ?e ?f
  case n => exact N
  case a => exact rfl
  case b => exact .tail _ cSm
  case c => exact cSd
  case d => exact rfl
  case e => exact rfl
  case f => decide
  iterate 6 (first | walk1 | (dsimp only; walk1))
  have hlen := hI.length
  have hpk := hI.pick (some (k : Int)) none (some 6)
  have hpl := length_pickNums_le hI (some (k : Int)) none (some 6)
  have hS2 : s.heap.IsList S vs.toArray := hS.at fun o e => F.keep _ _ e
  refine slice_list3 (s := { s with toks := s.toks+1 }) (items := vs.toArray) F N hS2 (.int _ _) .none (.int _ _) (by decide) ?_ (by with_unfolding_all rfl) (by intro _; with_unfolding_all rfl) (Nat.le_trans (show vs.toArray.size ≤ 63 by rw [List.size_toArray]; omega) (by decide))
  intro h9 F9 N9
  generalize hDs : s.heap.objs.size+1 = D at *
  clear F N
  k_steps
  rename Fr h₀ L _ _ => F8
  rename News h₀ L _ _ => N8
  exact fin _ _ _ _ F8 (fun q hq => N8 q (.tail _ hq))
theorem ints6 {ys : List Value} (h : ys.length = 6) (hY : ∀ (i : Nat) y,ys[i]? = some y → ∃ z t,y = Value.int z t) : ∃ a0 a1 a2 a3 a4 a5 t0 t1 t2 t3 t4 t5,ys = [.int a0 t0,.int a1 t1,.int a2 t2,.int a3 t3,.int a4 t4,.int a5 t5] := by
  have e := map_tags ys []
  rw [h] at e
  have k := ints_tag (ints_of fun y hy => (List.mem_iff_getElem?.mp hy).elim fun i hi => hY i y hi)
  rw [e] at k
  exact ⟨_,_,_,_,_,_,_,_,_,_,_,_,k⟩
noncomputable def lucasL (a b : Int) : List Int :=
  let u2 := a * 1 - b * 0
  let u3 := a * u2 - b * 1
  let u4 := a * u3 - b * u2
  let u5 := a * u4 - b * u3
  let u6 := a * u5 - b * u4
  let u7 := a * u6 - b * u5
  let u8 := a * u7 - b * u6
  let u9 := a * u8 - b * u7
  [0,1,u2,u3,u4,u5,u6,u7,u8,u9]
theorem words_a3 : True := by
  k_with "omega" => lia
  exact trivial
theorem lucas_ctr (w : World) (p : Program) (loose : List Str) (mean : ExcName → Option Value) (mg mb : Str → Option Value) (a b : Int) (ta tb : Tok) (ha : a.natAbs ≤ 20) (hb : b.natAbs ≤ 1) :
   Ctr pw_ty0047_01 w (Mine.hd.heap_1 w.params) p loose mean mg mb 111 [.int a ta,.int b tb] [] [] 1 8 (fun _ => True)
     (fun r tl => ∃ l vs n,r = .ref l ∧ tl = [(l,listOf vs.toArray n)] ∧ IntsAre vs (lucasL a b)) := by
  w_top off
  intro dp un gd cn cs ad ccd cl outer A₀ base h₀ L m s Q E B F X N T hk hp hd hu hret
  refine wpAny_call ?_
  (k_dflt (refine' code_defX ?k1 ?k2 ?k3 ?k4 ?k5 ?kA ?kF ?kK ?k6 ?k7 ?k8 ?k9 ?kB ?_ ?c2 ?c3 ?c4 ?c5; (case kA => exact rfl); (case kF => exact rfl); (case kK => assumption); (case k1 => k_asm); (case k2 => k_asm); (case k3 => k_asm); (case k4 => k_asm); (case k5 => k_asm); (case k6 => k_is); (case k7 => k_is); (case k8 => ktr_room); (case k9 => first | exact BindsTo.of_eq rfl | exact binds_K (by k_in) rfl (by k_is) rfl rfl rfl); (case c5 => decide); (case kB => exact locs rfl); (case c2 => exact rfl); (case c3 => exact rfl); (case c4 => exact rfl); k_whole; intro _ _ _ _ _ _ _ _ _ _; (try dsimp only); (try k_fold)))
  k_steps
  exact ctr_ret hret (by assumption) (by assumption) (by assumption) ⟨_,[_,_,_,_,_,_,_,_,_,_],_,rfl,rfl,by unfold lucasL; l_ints⟩
theorem words_a4 : True := by
  k_with_none
  exact trivial
theorem sc_ctr (w : World) (p : Program) (loose : List Str) (mean : ExcName → Option Value) (mg mb : Str → Option Value) (ta tb : Tok) :
   Ctr pw_ty0047_01 w (Mine.hd.heap_1 w.params) p loose mean mg mb 97 [.str (Str.ofString "b") ta,.str (Str.ofString "a") tb] [] [] 3 30 (fun _ => True)
     (fun r tl => ∃ t,r = .int 2 t ∧ tl = []) := by
  w_top off
  intro dp un gd cn cs ad ccd cl outer A₀ base h₀ L m s Q E B F X N T hk hp hd hu hret
  refine wpAny_call ?_
  (k_dflt (refine' code_defX ?k1 ?k2 ?k3 ?k4 ?k5 ?kA ?kF ?kK ?k6 ?k7 ?k8 ?k9 ?kB ?_ ?c2 ?c3 ?c4 ?c5; (case kA => exact rfl); (case kF => exact rfl); (case kK => assumption); (case k1 => k_asm); (case k2 => k_asm); (case k3 => k_asm); (case k4 => k_asm); (case k5 => k_asm); (case k6 => k_is); (case k7 => k_is); (case k8 => ktr_room); (case k9 => first | exact BindsTo.of_eq rfl | exact binds_K (by k_in) rfl (by k_is) rfl rfl rfl); (case c5 => decide); (case kB => exact locs rfl); (case c2 => exact rfl); (case c3 => exact rfl); (case c4 => exact rfl); k_whole; intro _ _ _ _ _ _ _ _ _ _; (try dsimp only); (try k_fold)))
  rename_i gg LL _ hg FGx _ _ Bx Xx Tx
  k_steps
  rename Fr gg LL _ _ => F9
  rename News gg LL _ _ => N9
  exact ctr_ret hret hg F9 N9 ⟨_,rfl,rfl⟩
theorem sc_ctr2 (w : World) (p : Program) (loose : List Str) (mean : ExcName → Option Value) (mg mb : Str → Option Value) (ta tb : Tok) :
   Ctr pw_ty0047_01 w (Mine.hd.heap_1 w.params) p loose mean mg mb 97 [.str (Str.ofString "a") ta,.str (Str.ofString "b") tb] [] [] 3 30 (fun _ => True)
     (fun r tl => ∃ t,r = .int 2 t ∧ tl = []) := by
  w_top off
  intro dp un gd cn cs ad ccd cl outer A₀ base h₀ L m s Q E B F X N T hk hp hd hu hret
  refine wpAny_call ?_
  (k_dflt (refine' code_defX ?k1 ?k2 ?k3 ?k4 ?k5 ?kA ?kF ?kK ?k6 ?k7 ?k8 ?k9 ?kB ?_ ?c2 ?c3 ?c4 ?c5; (case kA => exact rfl); (case kF => exact rfl); (case kK => assumption); (case k1 => k_asm); (case k2 => k_asm); (case k3 => k_asm); (case k4 => k_asm); (case k5 => k_asm); (case k6 => k_is); (case k7 => k_is); (case k8 => ktr_room); (case k9 => first | exact BindsTo.of_eq rfl | exact binds_K (by k_in) rfl (by k_is) rfl rfl rfl); (case c5 => decide); (case kB => exact locs rfl); (case c2 => exact rfl); (case c3 => exact rfl); (case c4 => exact rfl); k_whole; intro _ _ _ _ _ _ _ _ _ _; (try dsimp only); (try k_fold)))
  rename_i gg LL _ hg FGx _ _ Bx Xx Tx
  k_steps
  rename Fr gg LL _ _ => F9
  rename News gg LL _ _ => N9
  exact ctr_ret hret hg F9 N9 ⟨_,rfl,rfl⟩
theorem ctr_use0 {prog : Program} {w : World} {K : Frag} {p : Program} {loose : List Str} {mean : ExcName → Option Value} {mg mb : Str → Option Value}
    {f : Addr} {vs : List Value} {kw : List (Str × Value)} {D U : Nat} {Pre : Heap → Prop} {Post : Value → List (Addr × Obj) → Prop}
    (C : Ctr prog w K p loose mean mg mb f vs kw [] D U Pre Post)
    {dp un : Nat} {gd : Option (List Code)} {cn : Str} {cs : Scope} {a : Addr} {ccd : Value} {cl : List (Str × Addr)} {outer : List Env} {A₀ : Around} {base h₀ : Heap} {L : Addr} {m : Str → Option Value} {s : Shared} {Q E : Value → Shared → Prop} {news : List (Addr × Obj)}
    (B : Below A₀ base outer h₀) (F : Fr h₀ L s.heap m) (X : K.In h₀) (N : News h₀ L s.heap news) (T : Top p loose mean mg mb h₀) (hk : cs.kind = .function)
    (hp : Pre s.heap) (hd : dp + D < recursionLimit) (hu : un + U < cLine)
    (ret : ∀ r tl h' tk',Fr h₀ L h' m → News h₀ L h' (tl ++ news) → (∀ q ∈ tl,AllNe q.1 news) → Post r tl → Q r { s with heap := h',toks := tk' }) :
    wpAny (model prog w) (ktrTop dp un gd cn cs L a ccd cl outer) (call (.ref f) vs kw) Q E s :=
  ctr_use C news B F X N T hk (fun _ h => nomatch h) (fun _ h => ⟨h,fun h => nomatch h⟩) hp hd hu ret
noncomputable def bnd60 (x : Int) : Prop := -(2 ^ 60) < x ∧ x < 2 ^ 60
theorem words_a5 : True := by
  k_with "omega" => lia
  exact trivial
theorem tab_ok {a c : Int} (h : bnd60 a) : IntMulOk a c := by
  unfold bnd60 at h
  exact IntMulOk.of_left (intBits_le_64 (by omega) (by omega))
noncomputable def NextOk (us : List Int) (b : Int) (i : Nat) (p l : List Int) : Prop := ∃ l1 l2 l3 l4 l5,l = [1,l1,l2,l3,l4,l5] ∧
  l1 = us.getD 2 0 * p.getD 1 0 - b * us.getD (i - 1) 0 * 1 ∧ l2 = us.getD 3 0 * p.getD 2 0 - b * us.getD (i - 1) 0 * l1 ∧ l3 = us.getD 4 0 * p.getD 3 0 - b * us.getD (i - 1) 0 * l2 ∧
  l4 = us.getD 5 0 * p.getD 4 0 - b * us.getD (i - 1) 0 * l3 ∧ l5 = us.getD 6 0 * p.getD 5 0 - b * us.getD (i - 1) 0 * l4
noncomputable def tfb : Stmt → List Stmt
  | .For _ _ b _ _ => b
  | _ => []
@[reducible] noncomputable def tbScope : Scope := by
  have e := Eq.refl (scopeOf (defAt 22))
  conv at e => rhs; whnf
  exact rhsOf e
@[reducible] noncomputable def tbIn : Stmt := by
  have e := Eq.refl ((tfb ((bodyOf (defAt 22)).getD 1 (.Pass default))).getD 1 (.Pass default))
  conv at e => rhs; whnf
  exact rhsOf e
@[reducible] noncomputable def tbElt : Stmt := by
  have e := Eq.refl ((tfb tbIn).getD 0 (.Pass default))
  conv at e => rhs; whnf
  exact rhsOf e
@[reducible] noncomputable def tbB0 : Stmt := by
  have e := Eq.refl ((tfb ((bodyOf (defAt 22)).getD 1 (.Pass default))).getD 0 (.Pass default))
  conv at e => rhs; whnf
  exact rhsOf e
@[reducible] noncomputable def tbB2 : Stmt := by
  have e := Eq.refl ((tfb ((bodyOf (defAt 22)).getD 1 (.Pass default))).getD 2 (.Pass default))
  conv at e => rhs; whnf
  exact rhsOf e
noncomputable abbrev tbEnv (L : Addr) : Env := envOf (Str.ofString "_law_table") tbScope L 118 (.ref 117)
theorem tb_int {prog : Program} {w : World} {A : Around} {E : Value → Shared → Prop} {s : Shared} {h₀ : Heap} {L U : Addr} {led : List (Addr × Obj)} {vs : List Value} {us : List Int} {kU : Nat} {i : Int} {u : Tok} {value slice : PySem.Expr} {Q : Value → Shared → Prop}
    (N : News h₀ L s.heap led) (hU : (U,listOf vs.toArray kU) ∈ led) (hI : IntsAre vs us) (h0 : 0 ≤ i) (h1 : i < us.length) (h2 : i < 20) (h : ∀ t,Q (.int (us.getD i.toNat 0) t) s)
    (hs' : subscripted slice false (.ref U) (.int i u) = operate [.ref U,.int i u] (getItem (.ref U) (.int i u)) := by with_unfolding_all rfl) :
    wpAny (model prog w) A (subscriptTail value slice (.ref U) (.int i u)) Q E s :=
  item_anyK ⟨_,(N _ hU).1,rfl,_,rfl⟩ hI h0 h1 (by omega) h hs'
theorem tb_last {prog : Program} {w : World} {A : Around} {E : Value → Shared → Prop} {s : Shared} {h₀ : Heap} {L U : Addr} {led : List (Addr × Obj)} {vi : List Value} {v : Value} {kU : Nat} {u : Tok} {value slice : PySem.Expr} {Q : Value → Shared → Prop}
    (N : News h₀ L s.heap led) (hU : (U,listOf (vi ++ [v]).toArray kU) ∈ led) (h : Q v s)
    (hs : subscripted slice false (.ref U) (.int (-1) u) = operate [.ref U,.int (-1) u] (getItem (.ref U) (.int (-1) u)) := by with_unfolding_all rfl) (hg : ∀ r,letTemporaryGo value (.ref U) r = pure () := by intro _; with_unfolding_all rfl) :
    wpAny (model prog w) A (subscriptTail value slice (.ref U) (.int (-1) u)) Q E s :=
  item_last ⟨_,(N _ hU).1,rfl,_,rfl⟩ h hs hg
theorem listOf_push {vs : List Value} {y : Value} {k : Nat} : listOf (vs.toArray.push y) k = listOf (vs ++ [y]).toArray k := by rw [List.push_toArray]
theorem swap2 {α : Type} {a zs : List α} {x : α} : ∀ q ∈ x::(a ++ zs),q ∈ a ++ x::zs := fun q hq => by
  rcases List.mem_cons.mp hq with rfl | hq
  · exact List.mem_append_right _ (.head _)
  · rcases List.mem_append.mp hq with hq | hq
    · exact List.mem_append_left _ hq
    · exact List.mem_append_right _ (.tail _ hq)
theorem tab_fin {h₀ h : Heap} {L : Addr} {q5 q4 q3 q2 q1 qT q0 x qU : Addr × Obj} (N : News h₀ L h [qT,q5,q4,q3,q2,q1,q0,x,qU]) : News h₀ L h [q5,q4,q3,q2,q1,q0,qT,qU] :=
  cb_drop N (by lcg_sub)
section
local macro_rules | `(tactic| k_all) => `(tactic| assumption)
theorem words_a6 : True := by
  k_with "eval Name" => (name_kind "local"; k_dflt (refine' ld ?F ?v ?_; (case F => k_asm); (case v => walk_at "k_opq")))
  k_with "subscriptTail" => ((with_reducible show wpAny _ _ (subscriptTail _ _ (Value.ref _) (Value.int _ _)) _ _ _); (with_reducible rename News _ _ _ _ => N'); first
  | (refine tb_last N' (by with_reducible assumption) ?_)
  | (refine tb_int N' (by with_reducible assumption) (by with_reducible assumption) (by omega) (by omega) (by omega) ?_; intro _))
  k_with "binaryOp Mult int int" => ((with_reducible refine mul_to rfl (tab_ok (by with_reducible assumption)) ?_))
  exact trivial
theorem tab_b0 {w : World} {p : Program} {loose : List Str} {mean : ExcName → Option Value} {mg mb : Str → Option Value}
    {dp un : Nat} {gd : Option (List Code)} {cn : Str} {cs : Scope} {ad : Addr} {ccd : Value} {cl : List (Str × Addr)} {outer : List Env} {L : Addr} {base h₀ : Heap} {L' : Addr} {s : Shared} {Q : Flow → Shared → Prop} {E : Value → Shared → Prop} (hk : cs.kind = .function)
    (B : Below (ktrTop dp un gd cn cs L ad ccd cl outer) base (envX cn cs L ad ccd cl::outer) h₀) (X : (Mine.hd.heap_1 w.params).In h₀) (T : Top p loose mean mg mb h₀) (hd : dp+10 < recursionLimit) (hu : un+60 < cLine)
   {m : Str → Option Value} {led : List (Addr × Obj)} (F : Fr h₀ L' s.heap m) (N : News h₀ L' s.heap led)
   (fin : ∀ h tk Lr t k,Fr h₀ L' h (fun y => if y = Str.ofString "line" then some (.ref Lr) else m y) → News h₀ L' h ((Lr,listOf [Value.int 1 t].toArray k)::led) → (∀ q ∈ led,@Ne Nat q.1 Lr) → Q .next { s with heap := h,toks := tk })
   : wpAny (model pw_ty0047_01 w) ((ktrTop dp un gd cn cs L ad ccd cl outer).deeper (tbEnv L')) (exec tbB0 (tbEnv L')) Q E s := by
  w_top off
  k_steps
  rename News h₀ L' _ _ => N9
  rename ∀ p,p ∈ led → _ => l1
  exact fin _ _ _ _ _ (by assumption) N9 (fun q hq => Nat.ne_of_lt (l1 q hq))
theorem tab_b2 {w : World} {p : Program} {loose : List Str} {mean : ExcName → Option Value} {mg mb : Str → Option Value}
    {dp un : Nat} {gd : Option (List Code)} {cn : Str} {cs : Scope} {ad : Addr} {ccd : Value} {cl : List (Str × Addr)} {outer : List Env} {L : Addr} {base h₀ : Heap} {L' : Addr} {s : Shared} {Q : Flow → Shared → Prop} {E : Value → Shared → Prop} (hk : cs.kind = .function)
    (B : Below (ktrTop dp un gd cn cs L ad ccd cl outer) base (envX cn cs L ad ccd cl::outer) h₀) (X : (Mine.hd.heap_1 w.params).In h₀) (T : Top p loose mean mg mb h₀) (hd : dp+10 < recursionLimit) (hu : un+60 < cLine)
   {m : Str → Option Value} {TT Lr : Addr} {xs : List Value} {kT : Nat} {led : List (Addr × Obj)} (F : Fr h₀ L' s.heap m) (N : News h₀ L' s.heap ((TT,listOf xs.toArray kT)::led)) (hTz : ∀ q ∈ led,q.1 ≠ TT)
   (mt : m (Str.ofString "table") = some (.ref TT)) (ml : m (Str.ofString "line") = some (.ref Lr)) (hsz : xs.length ≤ 8)
   (fin : ∀ h tk,Fr h₀ L' h m → News h₀ L' h ((TT,listOf (xs ++ [Value.ref Lr]).toArray (kT+1))::led) → Q .next { s with heap := h,toks := tk })
   : wpAny (model pw_ty0047_01 w) ((ktrTop dp un gd cn cs L ad ccd cl outer).deeper (tbEnv L')) (exec tbB2 (tbEnv L')) Q E s := by
  w_top off
  k_steps
  rename News h₀ L' _ _ => N9
  rw [listOf_push] at N9
  exact fin _ _ (by assumption) N9
end
@[reducible] noncomputable def lvBody : List Stmt := by
  have e := Eq.refl (bodyOf (defAt 19))
  conv at e => rhs; whnf
  exact rhsOf e
@[reducible] noncomputable def lvScope : Scope := by
  have e := Eq.refl (scopeOf (defAt 19))
  conv at e => rhs; whnf
  exact rhsOf e
noncomputable def whTest : Stmt → Expr
  | .While t _ _ _ => t
  | _ => .Constant .none 0 default
noncomputable def whBody : Stmt → List Stmt
  | .While _ b _ _ => b
  | _ => []
@[reducible] noncomputable def lvTest1 : Expr := by
  have e := Eq.refl (whTest (lvBody.getD 2 (.Pass default)))
  conv at e => rhs; whnf
  exact rhsOf e
@[reducible] noncomputable def lvTest2 : Expr := by
  have e := Eq.refl (whTest (lvBody.getD 6 (.Pass default)))
  conv at e => rhs; whnf
  exact rhsOf e
@[reducible] noncomputable def lvStep1 : List Stmt := by
  have e := Eq.refl (whBody (lvBody.getD 2 (.Pass default)))
  conv at e => rhs; whnf
  exact rhsOf e
@[reducible] noncomputable def lvStep2 : List Stmt := by
  have e := Eq.refl (whBody (lvBody.getD 6 (.Pass default)))
  conv at e => rhs; whnf
  exact rhsOf e
noncomputable abbrev lvEnv (L : Addr) : Env := envOf (Str.ofString "_levenshtein_distance") lvScope L 104 (.ref 103)
@[reducible] noncomputable def lvWhile1 : Stmt := by
  have e := Eq.refl (lvBody.getD 2 (.Pass default))
  conv at e => rhs; whnf
  exact rhsOf e
@[reducible] noncomputable def lvWhile2 : Stmt := by
  have e := Eq.refl (lvBody.getD 6 (.Pass default))
  conv at e => rhs; whnf
  exact rhsOf e
@[reducible] noncomputable def lvS0 : Stmt := by
  have e := Eq.refl (lvBody.getD 0 (.Pass default))
  conv at e => rhs; whnf
  exact rhsOf e
@[reducible] noncomputable def lvS1 : Stmt := by
  have e := Eq.refl (lvBody.getD 1 (.Pass default))
  conv at e => rhs; whnf
  exact rhsOf e
@[reducible] noncomputable def lvS2 : Stmt := by
  have e := Eq.refl (lvBody.getD 2 (.Pass default))
  conv at e => rhs; whnf
  exact rhsOf e
@[reducible] noncomputable def lvS3 : Stmt := by
  have e := Eq.refl (lvBody.getD 3 (.Pass default))
  conv at e => rhs; whnf
  exact rhsOf e
@[reducible] noncomputable def lvS4 : Stmt := by
  have e := Eq.refl (lvBody.getD 4 (.Pass default))
  conv at e => rhs; whnf
  exact rhsOf e
@[reducible] noncomputable def lvS5 : Stmt := by
  have e := Eq.refl (lvBody.getD 5 (.Pass default))
  conv at e => rhs; whnf
  exact rhsOf e
@[reducible] noncomputable def lvS6 : Stmt := by
  have e := Eq.refl (lvBody.getD 6 (.Pass default))
  conv at e => rhs; whnf
  exact rhsOf e
@[reducible] noncomputable def lvS7 : Stmt := by
  have e := Eq.refl (lvBody.getD 7 (.Pass default))
  conv at e => rhs; whnf
  exact rhsOf e
@[reducible] noncomputable def lvS8 : Stmt := by
  have e := Eq.refl (lvBody.getD 8 (.Pass default))
  conv at e => rhs; whnf
  exact rhsOf e
@[reducible] noncomputable def lvS9 : Stmt := by
  have e := Eq.refl (lvBody.getD 9 (.Pass default))
  conv at e => rhs; whnf
  exact rhsOf e
@[reducible] noncomputable def lvS10 : Stmt := by
  have e := Eq.refl (lvBody.getD 10 (.Pass default))
  conv at e => rhs; whnf
  exact rhsOf e
@[reducible] noncomputable def lvS11 : Stmt := by
  have e := Eq.refl (lvBody.getD 11 (.Pass default))
  conv at e => rhs; whnf
  exact rhsOf e
@[reducible] noncomputable def lvS12 : Stmt := by
  have e := Eq.refl (lvBody.getD 12 (.Pass default))
  conv at e => rhs; whnf
  exact rhsOf e
@[reducible] noncomputable def lvS13 : Stmt := by
  have e := Eq.refl (lvBody.getD 13 (.Pass default))
  conv at e => rhs; whnf
  exact rhsOf e
@[reducible] noncomputable def lvS14 : Stmt := by
  have e := Eq.refl (lvBody.getD 14 (.Pass default))
  conv at e => rhs; whnf
  exact rhsOf e
@[reducible] noncomputable def lvS15 : Stmt := by
  have e := Eq.refl (lvBody.getD 15 (.Pass default))
  conv at e => rhs; whnf
  exact rhsOf e
@[reducible] noncomputable def lvS16 : Stmt := by
  have e := Eq.refl (lvBody.getD 16 (.Pass default))
  conv at e => rhs; whnf
  exact rhsOf e
@[reducible] noncomputable def lvTail : List Stmt := by
  have e := Eq.refl (lvBody.drop 9)
  conv at e => rhs; whnf
  exact rhsOf e
noncomputable def preB (a b : Str) (k : Nat) : Bool := decide (k < a.length) && decide (k < b.length) && (Txt.item a (k : Int) == Txt.item b (k : Int))
theorem words_a7 : True := by
  k_with_none
  k_with "eval Name" => (name_kind "local"; k_dflt (refine' ld ?F ?v ?_; (case F => k_asm); (case v => walk_at "k_opq")))
  k_with "omega" => lia
  exact trivial
theorem lv_test1 {w : World} {p : Program} {loose : List Str} {mean : ExcName → Option Value} {mg mb : Str → Option Value}
    {dp un : Nat} {gd : Option (List Code)} {cn : Str} {cs : Scope} {ad : Addr} {ccd : Value} {cl : List (Str × Addr)} {outer : List Env} {L : Addr} {base h₀ : Heap} {L' : Addr} {s : Shared} {Q : Bool → Shared → Prop} {E : Value → Shared → Prop} (hk : cs.kind = .function)
    (B : Below (ktrTop dp un gd cn cs L ad ccd cl outer) base (envX cn cs L ad ccd cl::outer) h₀) (X : (Mine.hd.heap_1 w.params).In h₀) (T : Top p loose mean mg mb h₀) (hd : dp+10 < recursionLimit) (hu : un+60 < cLine)
    {m : Str → Option Value} {news : List (Addr × Obj)} {a b : Str} {k : Nat} {ta tb tk : Tok} (F : Fr h₀ L' s.heap m) (N : News h₀ L' s.heap news)
    (ma : m (Str.ofString "a") = some (.str a ta)) (mb' : m (Str.ofString "b") = some (.str b tb)) (mp : m (Str.ofString "pre") = some (.int k tk)) (hk8 : k ≤ 20) (ha : a.length ≤ 20) (hb : b.length ≤ 20)
    (fin : ∀ c h tk',Fr h₀ L' h m → News h₀ L' h news → c = preB a b k → Q c { s with heap := h,toks := tk' }) :
    wpAny (model pw_ty0047_01 w) ((ktrTop dp un gd cn cs L ad ccd cl outer).deeper (lvEnv L')) (isTrue lvTest1 (lvEnv L') (eval lvTest1 (lvEnv L'))) Q E s := by
  w_top off
  k_steps
  all_goals (refine fin _ _ _ (by assumption) (by assumption) ?_; unfold preB)
  all_goals first
    | (have h1 : k < a.length := by omega
       have h2 : k < b.length := by omega
       simp only [h1,h2,decide_true,Bool.true_and]
       exact Eq.symm (by assumption))
    | (have h1 : ¬ k < a.length := by omega
       simp only [h1,decide_false,Bool.false_and])
    | (have h1 : ¬ k < b.length := by omega
       simp only [h1,decide_false,Bool.false_and,Bool.and_false])
theorem str_len (x : Str) : x.length = x.cps.toList.length := by simp [Str.length]
open PySem.Builtin PySem.Builtin.Str in
theorem slice_all (x : Str) : Txt.slice x none none = x := by
  have h : (strSliceIndices none none 1 x.length).length = x.length := by
    unfold strSliceIndices sliceRange
    simp only [show (1 : Int) > 0 by decide,if_true,List.length_map,List.length_range]
    split <;> (try split) <;> (try simp only [Int.ediv_one]) <;> omega
  unfold Txt.slice
  rw [h]
  simp
theorem cut_len {x : Str} {k : Nat} (h0 : 0 < k) (h1 : k ≤ x.length) : (Txt.slice x none (some (-(k : Int)))).length = x.length - k := by
  have h := slice_closes_to_neg (x := x) (j := -(k : Int)) (k := -(k : Int) + x.length) (by omega) (by omega) rfl
  rw [eq_of_beq h]
  have := str_len x
  simp [Str.length] at *
  omega
noncomputable def postB (a b : Str) (k : Nat) : Bool := decide (k < a.length) && decide (k < b.length) && (Txt.item a (-(k : Int) - 1) == Txt.item b (-(k : Int) - 1))
theorem words_a8 : True := by
  k_with "loadName" => (k_dflt (refine' ldn ?F ?v ?_; (case F => k_asm); (case v => walk_at "k_opq")))
  exact trivial
theorem lv_loop1 {w : World} {p : Program} {loose : List Str} {mean : ExcName → Option Value} {mg mb : Str → Option Value}
    {dp un : Nat} {gd : Option (List Code)} {cn : Str} {cs : Scope} {ad : Addr} {ccd : Value} {cl : List (Str × Addr)} {outer : List Env} {L : Addr} {base h₀ : Heap} {L' : Addr} {s : Shared} {Q : Flow → Shared → Prop} {E : Value → Shared → Prop} (hk : cs.kind = .function)
    (B : Below (ktrTop dp un gd cn cs L ad ccd cl outer) base (envX cn cs L ad ccd cl::outer) h₀) (X : (Mine.hd.heap_1 w.params).In h₀) (T : Top p loose mean mg mb h₀) (hd : dp+10 < recursionLimit) (hu : un+60 < cLine)
    (hE : PassesOwn (model pw_ty0047_01 w) ((ktrTop dp un gd cn cs L ad ccd cl outer).deeper (lvEnv L')) (lvEnv L') E)
    {m : Str → Option Value} {news : List (Addr × Obj)} {a b : Str} {K : Nat} {ta tb tc tk : Tok} {mc : Value} (F : Fr h₀ L' s.heap m) (N : News h₀ L' s.heap news)
    (ma : m (Str.ofString "a") = some (.str a ta)) (mb' : m (Str.ofString "b") = some (.str b tb)) (mc' : m (Str.ofString "max_cost") = some mc) (mp : m (Str.ofString "pre") = some (.int 0 tk)) (hK20 : K ≤ 20) (hKa : K ≤ a.length) (hKb : K ≤ b.length) (ha : a.length ≤ 20) (hb : b.length ≤ 20)
    (hK : ∀ k < K,preB a b k = true) (hK2 : preB a b K = false)
    (fin : ∀ h tk' m' tk2,Fr h₀ L' h m' → News h₀ L' h news → m' (Str.ofString "a") = some (.str a ta) → m' (Str.ofString "b") = some (.str b tb) → m' (Str.ofString "max_cost") = some mc → m' (Str.ofString "pre") = some (.int (K : Int) tk2) → Q .next { s with heap := h,toks := tk' }) :
    wpAny (model pw_ty0047_01 w) ((ktrTop dp un gd cn cs L ad ccd cl outer).deeper (lvEnv L')) (exec lvWhile1 (lvEnv L')) Q E s := by
  w_top off
  refine While_inv (fun n m₁ news₁ => news₁ = news ∧ ∃ k tk',k + n = K ∧ m₁ (Str.ofString "a") = some (.str a ta) ∧ m₁ (Str.ofString "b") = some (.str b tb) ∧ m₁ (Str.ofString "max_cost") = some mc ∧ m₁ (Str.ofString "pre") = some (.int (k : Int) tk')) F N ⟨rfl,0,tk,Nat.zero_add K,ma,mb',mc',mp⟩ ?_ hE
  rintro n m₁ news₁ h₁ tk₁ F₁ N₁ ⟨rfl,k,tk',hn,ma1,mb1,mc1,mp1⟩
  refine lv_test1 hk B X T hd hu F₁ N₁ ma1 mb1 mp1 (by omega) ha hb ?_
  intro c h2 tk2 F2 N2 hc
  by_cases hlt : k < K
  · rw [hK k hlt] at hc
    subst hc
    rw [if_pos rfl]
    clear F N F₁ N₁ ma mb' mc' mp
    k_steps
    rename Fr _ _ _ _ => F3
    rename News _ _ _ _ => N3
    refine WhileStep.intro F3 N3 (n' := K - (k+1)) (by omega) ⟨rfl,k+1,_,by omega,by walk_at "k_opq", by walk_at "k_opq", by walk_at "k_opq", (if_pos rfl).trans (congrArg (fun z => some (Value.int z _)) (show (k : Int)+1 = (((k+1 : Nat)) : Int) by omega))⟩
  · have hkK : k = K := by omega
    subst hkK
    rw [hK2] at hc
    subst hc
    exact fin _ _ m₁ _ F2 N2 ma1 mb1 mc1 mp1
theorem words_a9 : True := by
  k_with "subscriptTail Name Slice str ref" => ((with_reducible show wpAny _ _ (subscriptTail _ (Expr.Slice none (some (Expr.BoolOp _ _ _)) none _) _ _) _ _ _); (with_reducible rename Fr _ _ _ _ => F'); (with_reducible rename News _ _ _ _ => N'); (refine slice_strN_nn (hsz := ?hsz) (s := ⟨_,_,_,_,_⟩) F' N' ?_); (case hsz => size_fits); intro _ _ _ _ _)
  exact trivial
theorem lv_mid {w : World} {p : Program} {loose : List Str} {mean : ExcName → Option Value} {mg mb : Str → Option Value}
    {dp un : Nat} {gd : Option (List Code)} {cn : Str} {cs : Scope} {ad : Addr} {ccd : Value} {cl : List (Str × Addr)} {outer : List Env} {L : Addr} {base h₀ : Heap} {L' : Addr} {s : Shared} {Q : Flow → Shared → Prop} {E : Value → Shared → Prop} (hk : cs.kind = .function)
    (B : Below (ktrTop dp un gd cn cs L ad ccd cl outer) base (envX cn cs L ad ccd cl::outer) h₀) (X : (Mine.hd.heap_1 w.params).In h₀) (T : Top p loose mean mg mb h₀) (hd : dp+10 < recursionLimit) (hu : un+60 < cLine)
    {m : Str → Option Value} {news : List (Addr × Obj)} {a b : Str} {K : Nat} {ta tb tc tk : Tok} {mc : Value} (rest : List Stmt) (F : Fr h₀ L' s.heap m) (N : News h₀ L' s.heap news)
    (ma : m (Str.ofString "a") = some (.str a ta)) (mb' : m (Str.ofString "b") = some (.str b tb)) (mc' : m (Str.ofString "max_cost") = some mc) (mp : m (Str.ofString "pre") = some (.int (K : Int) tk)) (hKa : K ≤ a.length) (hKb : K ≤ b.length) (ha : a.length ≤ 20) (hb : b.length ≤ 20)
    (fin : ∀ h tk' m' ta' tb' tp',Fr h₀ L' h m' → News h₀ L' h news → m' (Str.ofString "a") = some (.str (Txt.slice a (some (K : Int)) none) ta') → m' (Str.ofString "b") = some (.str (Txt.slice b (some (K : Int)) none) tb') → m' (Str.ofString "max_cost") = some mc → m' (Str.ofString "post") = some (.int 0 tp') → wpAny (model pw_ty0047_01 w) ((ktrTop dp un gd cn cs L ad ccd cl outer).deeper (lvEnv L')) (execs rest (lvEnv L')) Q E { s with heap := h,toks := tk' }) :
    wpAny (model pw_ty0047_01 w) ((ktrTop dp un gd cn cs L ad ccd cl outer).deeper (lvEnv L')) (execs (lvS3::lvS4::lvS5::rest) (lvEnv L')) Q E s := by
  w_top off
  k_steps
  exact fin _ _ _ _ _ _ (by assumption) (by assumption) (by walk_at "k_opq") (by walk_at "k_opq") (by walk_at "k_opq") (by walk_at "k_opq")
theorem lv_head {w : World} {p : Program} {loose : List Str} {mean : ExcName → Option Value} {mg mb : Str → Option Value}
    {dp un : Nat} {gd : Option (List Code)} {cn : Str} {cs : Scope} {ad : Addr} {ccd : Value} {cl : List (Str × Addr)} {outer : List Env} {L : Addr} {base h₀ : Heap} {L' : Addr} {s : Shared} {Q : Flow → Shared → Prop} {E : Value → Shared → Prop} (hk : cs.kind = .function)
    (B : Below (ktrTop dp un gd cn cs L ad ccd cl outer) base (envX cn cs L ad ccd cl::outer) h₀) (X : (Mine.hd.heap_1 w.params).In h₀) (T : Top p loose mean mg mb h₀) (hd : dp+10 < recursionLimit) (hu : un+60 < cLine)
    {m : Str → Option Value} {news : List (Addr × Obj)} {a b : Str} {ta tb tc tk : Tok} {mc : Value} (rest : List Stmt) (F : Fr h₀ L' s.heap m) (N : News h₀ L' s.heap news)
    (ma : m (Str.ofString "a") = some (.str a ta)) (mb' : m (Str.ofString "b") = some (.str b tb)) (mc' : m (Str.ofString "max_cost") = some mc) (ha : a.length ≤ 20) (hb : b.length ≤ 20) (ne : (a == b) = false)
    (fin : ∀ h tk' m' ta' tb' tp',Fr h₀ L' h m' → News h₀ L' h news → m' (Str.ofString "a") = some (.str a ta') → m' (Str.ofString "b") = some (.str b tb') → m' (Str.ofString "max_cost") = some mc → m' (Str.ofString "pre") = some (.int 0 tp') → wpAny (model pw_ty0047_01 w) ((ktrTop dp un gd cn cs L ad ccd cl outer).deeper (lvEnv L')) (execs rest (lvEnv L')) Q E { s with heap := h,toks := tk' }) :
    wpAny (model pw_ty0047_01 w) ((ktrTop dp un gd cn cs L ad ccd cl outer).deeper (lvEnv L')) (execs (lvS0::lvS1::rest) (lvEnv L')) Q E s := by
  w_top off
  k_steps
  all_goals first
    | exact fin _ _ _ _ _ _ (by assumption) (by assumption) (by walk_at "k_opq") (by walk_at "k_opq") (by walk_at "k_opq") (by walk_at "k_opq")
    | (exfalso; simp_all; done)
theorem lv_tail0 {w : World} {p : Program} {loose : List Str} {mean : ExcName → Option Value} {mg mb : Str → Option Value}
    {dp un : Nat} {gd : Option (List Code)} {cn : Str} {cs : Scope} {ad : Addr} {ccd : Value} {cl : List (Str × Addr)} {outer : List Env} {L : Addr} {base h₀ : Heap} {L' : Addr} {s : Shared} {Q : Flow → Shared → Prop} {E : Value → Shared → Prop} (hk : cs.kind = .function)
    (B : Below (ktrTop dp un gd cn cs L ad ccd cl outer) base (envX cn cs L ad ccd cl::outer) h₀) (X : (Mine.hd.heap_1 w.params).In h₀) (T : Top p loose mean mg mb h₀) (hd : dp+10 < recursionLimit) (hu : un+60 < cLine)
    {m : Str → Option Value} {news : List (Addr × Obj)} {a b : Str} {ta tb tc tk : Tok} {mc : Value} (F : Fr h₀ L' s.heap m) (N : News h₀ L' s.heap news)
    (ma : m (Str.ofString "a") = some (.str a ta)) (mb' : m (Str.ofString "b") = some (.str b tb)) (ha : a.length ≤ 20) (hb : b.length ≤ 20) (hz : a.length = 0 ∨ b.length = 0)
    (fin : ∀ h tk' m' t',Fr h₀ L' h m' → News h₀ L' h news → Q (.ret (.int (2 * ((a.length : Int) + b.length)) t')) { s with heap := h,toks := tk' }) :
    wpAny (model pw_ty0047_01 w) ((ktrTop dp un gd cn cs L ad ccd cl outer).deeper (lvEnv L')) (execs lvTail (lvEnv L')) Q E s := by
  w_top off
  k_steps
  all_goals first
    | (exfalso; omega)
    | exact fin _ _ m _ (by assumption) (by assumption)
theorem list_rng2 {prog : Program} {w : World} {A : Around} {E : Value → Shared → Prop} {s : Shared} {h₀ : Heap} {L r : Addr} {m : Str → Option Value} {news : List (Addr × Obj)} {b : Int} {t₀ u₀ v₀ : Tok} {Q : Value → Shared → Prop}
   (hh : A.handled = none) (F : Fr h₀ L s.heap m) (N : News h₀ L s.heap news) (hr : IsRange s.heap r 2 b 2 t₀ u₀ v₀) (hb : b = 4)
   (h : ∀ D t c h' tk,Fr h₀ L h' m → News h₀ L h' ((D,listOf #[.int 2 t] c)::news) → (∀ p ∈ news,p.1 < D) → Q (.ref D) { s with heap := h',toks := tk }) :
    wpAny (model prog w) A (call (.type "list") [.ref r]) Q E s := by
  subst hb
  refine call_list_range (n := 1) hh hr (by decide) (by decide) (by decide) fun h' tk acc c hk hD hI => ?_
  have hs : acc.size = 1 := hI.1
  obtain ⟨t,ht⟩ := hI.2 0 acc[0] (by simp [hs])
  have ha : acc = #[.int 2 t] := by
    apply Array.ext
    · simp [hs]
    · intro i h1 h2
      have : i = 0 := by omega
      subst this
      simpa using ht
  subst ha
  exact h _ t c h' tk (F.keeps hk) (news_pushed F N hk hD rfl) (fun p hp => Heap.lt_size (N p hp).1)
theorem store_norm {prog : Program} {w : World} {A : Around} {E : Value → Shared → Prop} {s : Shared} {Q : Unit → Shared → Prop} {env : Env} {x : Str} {e : Int} {t : Tok} (v : Int) (h : e = v)
   (hq : wpAny (model prog w) A (storeName env x (.int v t)) Q E s) : wpAny (model prog w) A (storeName env x (.int e t)) Q E s := by subst h; exact hq
structure LevF (a b : Str) (K M : Nat) (a1 b1 a2 b2 : Str) : Prop where
  ne : (a == b) = false
  la : a.length ≤ 20
  lb : b.length ≤ 20
  hK20 : K ≤ 20
  hK : ∀ k < K,preB a b k = true
  hK2 : preB a b K = false
  Ka : K ≤ a.length
  Kb : K ≤ b.length
  a1e : Txt.slice a (some (K : Int)) none = a1
  b1e : Txt.slice b (some (K : Int)) none = b1
  l1a : a1.length ≤ 20
  l1b : b1.length ≤ 20
  hM20 : M ≤ 20
  hM : ∀ k < M,postB a1 b1 k = true
  hM2 : postB a1 b1 M = false
  Ma : M ≤ a1.length
  Mb : M ≤ b1.length
  a2e : (if M = 0 then Txt.slice a1 none none else Txt.slice a1 none (some (-(M : Int)))) = a2
  b2e : (if M = 0 then Txt.slice b1 none none else Txt.slice b1 none (some (-(M : Int)))) = b2
  l2a : a2.length ≤ 20
  l2b : b2.length ≤ 20
noncomputable def levR (a2 b2 : Str) : Option Int :=
  if a2.length = 0 ∨ b2.length = 0 then some (2 * ((a2.length : Int) + b2.length))
  else if a2 = Str.ofString "a" ∧ b2 = Str.ofString "b" then some 2
  else if a2 = Str.ofString "b" ∧ b2 = Str.ofString "a" then some 2 else none
theorem words_a10 : True := by
  k_with_none
  k_with "omega" => lia
  exact trivial
theorem lv_eq (w : World) (p : Program) (loose : List Str) (mean : ExcName → Option Value) (mg mb : Str → Option Value) (a : Str) (ta tb tn : Tok) (la : a.length ≤ 20) :
   Ctr pw_ty0047_01 w (Mine.hd.heap_1 w.params) p loose mean mg mb 104 [.str a ta,.str a tb,.int 2 tn] [] [] 12 80 (fun _ => True)
     (fun r tl => ∃ t,r = .int 0 t ∧ tl = []) := by
  w_top off
  intro dp un gd cn cs ad ccd cl outer A₀ base h₀ L m s Q E B F X N T hk hp hd hu hret
  refine wpAny_call ?_
  (k_dflt (refine' code_defX ?k1 ?k2 ?k3 ?k4 ?k5 ?kA ?kF ?kK ?k6 ?k7 ?k8 ?k9 ?kB ?_ ?c2 ?c3 ?c4 ?c5; (case kA => exact rfl); (case kF => exact rfl); (case kK => assumption); (case k1 => k_asm); (case k2 => k_asm); (case k3 => k_asm); (case k4 => k_asm); (case k5 => k_asm); (case k6 => k_is); (case k7 => k_is); (case k8 => ktr_room); (case k9 => first | exact BindsTo.of_eq rfl | exact binds_K (by k_in) rfl (by k_is) rfl rfl rfl); (case c5 => decide); (case kB => exact locs rfl); (case c2 => exact rfl); (case c3 => exact rfl); (case c4 => exact rfl); k_whole; intro _ _ _ _ _ _ _ _ _ _; (try dsimp only); (try k_fold)))
  rename_i gg LL _ hg FGx _ _ Bx Xx Tx
  have haa : (a == a) = true := by simp
  show wpAny _ _ (execs (lvS0::lvS1::lvWhile1::lvS3::lvS4::lvS5::lvWhile2::lvS7::lvS8::lvTail) _) _ _ _
  generalize (lvS1::lvWhile1::lvS3::lvS4::lvS5::lvWhile2::lvS7::lvS8::lvTail) = rest
  refine wpAny_execs_cons ?_
  k_steps
  rename Fr gg LL _ _ => F9
  rename News gg LL _ _ => N9
  exact ctr_ret hret hg F9 N9 ⟨_,rfl,rfl⟩
noncomputable abbrev wd (i j : Int) : Str := Txt.mul (Str.ofString "a") i ++ Txt.mul (Str.ofString "b") j
noncomputable def preK (a b : Str) : Nat := ((List.range 20).find? fun k => !preB a b k).getD 0
noncomputable def postK (a b : Str) : Nat := ((List.range 20).find? fun k => !postB a b k).getD 0
noncomputable def lvA1 (a b : Str) : Str := Txt.slice a (some (preK a b : Int)) none
noncomputable def lvB1 (a b : Str) : Str := Txt.slice b (some (preK a b : Int)) none
noncomputable def lvCut (a : Str) (M : Nat) : Str := if M = 0 then Txt.slice a none none else Txt.slice a none (some (-(M : Int)))
noncomputable def lvM (a b : Str) : Nat := postK (lvA1 a b) (lvB1 a b)
noncomputable def lvC (a b : Str) : Bool :=
  !(a == b) && decide (a.length ≤ 20) && decide (b.length ≤ 20) && decide (preK a b ≤ 20) && decide (∀ k < preK a b,preB a b k = true) && !preB a b (preK a b) &&
  decide (preK a b ≤ a.length) && decide (preK a b ≤ b.length) && decide ((lvA1 a b).length ≤ 20) && decide ((lvB1 a b).length ≤ 20) &&
  decide (lvM a b ≤ 20) && decide (∀ k < lvM a b,postB (lvA1 a b) (lvB1 a b) k = true) && !postB (lvA1 a b) (lvB1 a b) (lvM a b) &&
  decide (lvM a b ≤ (lvA1 a b).length) && decide (lvM a b ≤ (lvB1 a b).length) && decide ((lvCut (lvA1 a b) (lvM a b)).length ≤ 20) && decide ((lvCut (lvB1 a b) (lvM a b)).length ≤ 20)
theorem levF_of {a b : Str} (h : lvC a b = true) : LevF a b (preK a b) (lvM a b) (lvA1 a b) (lvB1 a b) (lvCut (lvA1 a b) (lvM a b)) (lvCut (lvB1 a b) (lvM a b)) := by
  unfold lvC at h
  simp only [Bool.and_eq_true,decide_eq_true_eq,Bool.not_eq_true'] at h
  obtain ⟨⟨⟨⟨⟨⟨⟨⟨⟨⟨⟨⟨⟨⟨⟨⟨h1,h2⟩,h3⟩,h4⟩,h5⟩,h6⟩,h7⟩,h8⟩,h9⟩,h10⟩,h11⟩,h12⟩,h13⟩,h14⟩,h15⟩,h16⟩,h17⟩ := h
  exact ⟨h1,h2,h3,h4,h5,h6,h7,h8,rfl,rfl,h9,h10,h11,h12,h13,h14,h15,rfl,rfl,h16,h17⟩
noncomputable def levD (di dj : Int) : Int := if di = 0 ∧ dj = 0 then 0 else if di * dj = 1 then 4 else 2
theorem lev_fin : ∀ p : Fin 4,∀ q : Fin 4,∀ i : Fin 3,∀ j : Fin 3,(i.val = 1 ∧ j.val = 1) ∨ (lvC (wd (p.val+1) (q.val+1)) (wd (p.val + i.val) (q.val + j.val)) = true ∧
    levR (lvCut (lvA1 (wd (p.val+1) (q.val+1)) (wd (p.val + i.val) (q.val + j.val))) (lvM (wd (p.val+1) (q.val+1)) (wd (p.val + i.val) (q.val + j.val)))) (lvCut (lvB1 (wd (p.val+1) (q.val+1)) (wd (p.val + i.val) (q.val + j.val))) (lvM (wd (p.val+1) (q.val+1)) (wd (p.val + i.val) (q.val + j.val)))) = some (levD ((i.val : Int) - 1) ((j.val : Int) - 1))) := by
  decide +kernel
theorem wd_len : ∀ p : Fin 6,∀ q : Fin 6,(wd p.val q.val).length ≤ 20 := by decide +kernel
noncomputable def fmx (x y : UInt64) : UInt64 := if (Float64.cmp x y == some .lt) = true then y else x
noncomputable def fmn (x y : UInt64) : UInt64 := if (Float64.cmp y x == some .lt) = true then y else x
section
variable {prog : Program} {w : World} {A : Around} {E : Value → Shared → Prop} {s : Shared} {Q : Value → Shared → Prop} {x y z : UInt64} {t u v : Tok} {h₀ : Heap} {L : Addr} {m : Str → Option Value} {news : List (Addr × Obj)}
theorem max3_keeps {a b c : Value} (hh : A.handled = none) (ha : NumV a) (hb : NumV b) (hc : NumV c)
    (h : ∀ h' tk,(∀ d o,s.heap.get? d = some o → h'.get? d = some o) → Q (if ltV a b then (if ltV b c then c else b) else (if ltV a c then c else a)) { s with heap := h',toks := tk }) :
    wpAny (model prog w) A (call (.builtin "max") [a,b,c]) Q E s := by
  let T : Obj := { cls := .type "tuple", data := .seq #[a,b,c] }
  have sz : (s.heap.push T).objs.size = s.heap.objs.size+1 := Heap.size_push ..
  have tup : (s.heap.push T).IsTuple s.heap.objs.size #[a,b,c] := ⟨_,Heap.get?_push_size _ rfl,rfl,0,rfl⟩
  refine call_max_three (wpAny_pyIter_tuple tup ?_)
  refine ⟨_,[_,s.heap.objs.size],[_],_,_,_,_,rfl,Walks.tuple (A := A.in1) hh _ s.heap.objs.size (by rw [sz]; exact Nat.ne_of_lt (Nat.lt_succ_self _)) #[a,b,c],
    ⟨⟨_,Heap.get?_push_size _ rfl,rfl,rfl⟩,tup.push _⟩,?_,by simp,cmpOf_gt #[a,b,c] (by simp [ha,hb,hc]),?_⟩
  · intro d hd
    show d < ((s.heap.push T).push _).objs.size
    rw [Heap.size_push,sz]
    simp only [List.mem_cons,List.not_mem_nil,or_false] at hd
    rcases hd with e | e
    · rw [e,sz]; exact Nat.lt_succ_self _
    · rw [e]; exact Nat.lt_succ_of_lt (Nat.lt_succ_self _)
  · intro vv h' tk hP hk
    have keep : ∀ d o,s.heap.get? d = some o → h'.get? d = some o := by
      intro d o e
      refine hk d o (fun hm => ?_) (Heap.get?_push_of_some _ (Heap.get?_push_of_some _ e))
      have l := Heap.lt_size e
      have e1 := List.mem_singleton.mp hm
      rw [sz] at e1
      exact absurd l (by rw [e1]; exact Nat.not_lt.mpr (Nat.le_succ _))
    have r := h h' tk keep
    have hv : vv = if ltV a b then (if ltV b c then c else b) else (if ltV a c then c else a) := by
      cases h1 : ltV a b <;> cases h2 : ltV b c <;> cases h3 : ltV a c <;> simp [argBest,h1,h2,h3] at hP <;> simp [hP]
    rw [hv]; exact r
theorem min3_keeps {a b c : Value} (hh : A.handled = none) (ha : NumV a) (hb : NumV b) (hc : NumV c)
    (h : ∀ h' tk,(∀ d o,s.heap.get? d = some o → h'.get? d = some o) → Q (if ltV b a then (if ltV c b then c else b) else (if ltV c a then c else a)) { s with heap := h',toks := tk }) :
    wpAny (model prog w) A (call (.builtin "min") [a,b,c]) Q E s := by
  let T : Obj := { cls := .type "tuple", data := .seq #[a,b,c] }
  have sz : (s.heap.push T).objs.size = s.heap.objs.size+1 := Heap.size_push ..
  have tup : (s.heap.push T).IsTuple s.heap.objs.size #[a,b,c] := ⟨_,Heap.get?_push_size _ rfl,rfl,0,rfl⟩
  refine call_min_three (wpAny_pyIter_tuple tup ?_)
  refine ⟨_,[_,s.heap.objs.size],[_],_,_,_,_,rfl,Walks.tuple (A := A.in1) hh _ s.heap.objs.size (by rw [sz]; exact Nat.ne_of_lt (Nat.lt_succ_self _)) #[a,b,c],
    ⟨⟨_,Heap.get?_push_size _ rfl,rfl,rfl⟩,tup.push _⟩,?_,by simp,cmpOf_lt #[a,b,c] (by simp [ha,hb,hc]),?_⟩
  · intro d hd
    show d < ((s.heap.push T).push _).objs.size
    rw [Heap.size_push,sz]
    simp only [List.mem_cons,List.not_mem_nil,or_false] at hd
    rcases hd with e | e
    · rw [e,sz]; exact Nat.lt_succ_self _
    · rw [e]; exact Nat.lt_succ_of_lt (Nat.lt_succ_self _)
  · intro vv h' tk hP hk
    have keep : ∀ d o,s.heap.get? d = some o → h'.get? d = some o := by
      intro d o e
      refine hk d o (fun hm => ?_) (Heap.get?_push_of_some _ (Heap.get?_push_of_some _ e))
      have l := Heap.lt_size e
      have e1 := List.mem_singleton.mp hm
      rw [sz] at e1
      exact absurd l (by rw [e1]; exact Nat.not_lt.mpr (Nat.le_succ _))
    have r := h h' tk keep
    have hv : vv = if ltV b a then (if ltV c b then c else b) else (if ltV c a then c else a) := by
      cases h1 : ltV b a <;> cases h2 : ltV c b <;> cases h3 : ltV c a <;> simp [argBest,h1,h2,h3] at hP <;> simp [hP]
    rw [hv]; exact r
theorem max3_fff (hh : A.handled = none) (F : Fr h₀ L s.heap m) (N : News h₀ L s.heap news)
    (h : ∀ h' tk q,Fr h₀ L h' m → News h₀ L h' news → Q (.float (fmx (fmx x y) z) q) { s with heap := h',toks := tk }) :
    wpAny (model prog w) A (call (.builtin "max") [.float x t,.float y u,.float z v]) Q E s := by
  refine max3_keeps hh (.float x t) (.float y u) (.float z v) fun h' tk kp => ?_
  have r := fun q => h h' tk q (F.grownK kp) (N.grown kp)
  have e : ∃ q,(if ltV (.float x t) (.float y u) then (if ltV (.float y u) (.float z v) then Value.float z v else .float y u) else (if ltV (.float x t) (.float z v) then .float z v else .float x t)) = .float (fmx (fmx x y) z) q := by
    cases h1 : (Float64.cmp x y == some .lt)
    · cases h2 : (Float64.cmp x z == some .lt)
      · exact ⟨t,by simp only [fmx,ltV,h1,h2,if_true,Bool.false_eq_true,if_false]⟩
      · exact ⟨v,by simp only [fmx,ltV,h1,h2,if_true,Bool.false_eq_true,if_false]⟩
    · cases h2 : (Float64.cmp y z == some .lt)
      · exact ⟨u,by simp only [fmx,ltV,h1,h2,if_true,Bool.false_eq_true,if_false]⟩
      · exact ⟨v,by simp only [fmx,ltV,h1,h2,if_true,Bool.false_eq_true,if_false]⟩
  obtain ⟨q,e⟩ := e
  rw [e]; exact r q
theorem min3_fff (hh : A.handled = none) (F : Fr h₀ L s.heap m) (N : News h₀ L s.heap news)
    (h : ∀ h' tk q,Fr h₀ L h' m → News h₀ L h' news → Q (.float (fmn (fmn x y) z) q) { s with heap := h',toks := tk }) :
    wpAny (model prog w) A (call (.builtin "min") [.float x t,.float y u,.float z v]) Q E s := by
  refine min3_keeps hh (.float x t) (.float y u) (.float z v) fun h' tk kp => ?_
  have r := fun q => h h' tk q (F.grownK kp) (N.grown kp)
  have e : ∃ q,(if ltV (.float y u) (.float x t) then (if ltV (.float z v) (.float y u) then Value.float z v else .float y u) else (if ltV (.float z v) (.float x t) then .float z v else .float x t)) = .float (fmn (fmn x y) z) q := by
    cases h1 : (Float64.cmp y x == some .lt)
    · cases h2 : (Float64.cmp z x == some .lt)
      · exact ⟨t,by simp only [fmn,ltV,h1,h2,if_true,Bool.false_eq_true,if_false]⟩
      · exact ⟨v,by simp only [fmn,ltV,h1,h2,if_true,Bool.false_eq_true,if_false]⟩
    · cases h2 : (Float64.cmp z y == some .lt)
      · exact ⟨u,by simp only [fmn,ltV,h1,h2,if_true,Bool.false_eq_true,if_false]⟩
      · exact ⟨v,by simp only [fmn,ltV,h1,h2,if_true,Bool.false_eq_true,if_false]⟩
  obtain ⟨q,e⟩ := e
  rw [e]; exact r q
end
theorem words_a11 : True := by
  k_with_none
  k_with "call builtin:max" => ((with_reducible show wpAny _ _ (call _ [Value.float _ _,Value.float _ _,Value.float _ _]) _ _ _); (rename News _ _ _ _ => N'); (rename Fr _ _ _ _ => F'); refine max3_fff rfl F' N' ?_; clear N'; intro _ _ _ _ _)
  k_with "call builtin:min" => ((with_reducible show wpAny _ _ (call _ [Value.float _ _,Value.float _ _,Value.float _ _]) _ _ _); (rename News _ _ _ _ => N'); (rename Fr _ _ _ _ => F'); refine min3_fff rfl F' N' ?_; clear N'; intro _ _ _ _ _)
  exact trivial
noncomputable abbrev f2 : UInt64 := 4611686018427387904
noncomputable abbrev f1 : UInt64 := 4607182418800017408
noncomputable abbrev f05 : UInt64 := 4602678819172646912
noncomputable abbrev f4 : UInt64 := 4616189618054758400
noncomputable abbrev f6 : UInt64 := 4618441417868443648
noncomputable def feq (x y : UInt64) : Bool := Float64.cmp x y == some .eq
noncomputable def fle (x y : UInt64) : Bool := Float64.cmp x y == some .lt || Float64.cmp x y == some .eq
noncomputable abbrev fmax3 (x y z : UInt64) : UInt64 := fmx (fmx x y) z
noncomputable abbrev fmin3 (x y z : UInt64) : UInt64 := fmn (fmn x y) z
noncomputable def hlsL (x y z : UInt64) : UInt64 := Float64.div (Float64.add (fmax3 x y z) (fmin3 x y z)) f2
noncomputable def hlsS (x y z : UInt64) : UInt64 :=
  if feq (fmin3 x y z) (fmax3 x y z) = true then 0 else
  if fle (hlsL x y z) f05 = true then Float64.div (Float64.sub (fmax3 x y z) (fmin3 x y z)) (Float64.add (fmax3 x y z) (fmin3 x y z))
  else Float64.div (Float64.sub (fmax3 x y z) (fmin3 x y z)) (Float64.sub (Float64.sub f2 (fmax3 x y z)) (fmin3 x y z))
noncomputable def hlsC (x y z c : UInt64) : UInt64 := Float64.div (Float64.sub (fmax3 x y z) c) (Float64.sub (fmax3 x y z) (fmin3 x y z))
noncomputable def hlsH (x y z : UInt64) : UInt64 :=
  if feq (fmin3 x y z) (fmax3 x y z) = true then 0 else
  if feq x (fmax3 x y z) = true then (Float64.divmod (Float64.div (Float64.sub (hlsC x y z z) (hlsC x y z y)) f6) f1).2 else
  if feq y (fmax3 x y z) = true then (Float64.divmod (Float64.div (Float64.sub (Float64.add f2 (hlsC x y z x)) (hlsC x y z z)) f6) f1).2
  else (Float64.divmod (Float64.div (Float64.sub (Float64.add f4 (hlsC x y z y)) (hlsC x y z x)) f6) f1).2
theorem nt {b : Bool} (h : b = false) : ¬ b = true := by rw [h]; exact Bool.false_ne_true
theorem tup3_eq {D : Addr} {a b c : Tok} {e1 e2 e3 h1 h2 h3 : UInt64} (x : e1 = h1) (y : e2 = h2) (z : e3 = h3) :
    ([(D,{ cls := .type "tuple", data := .seq #[.float e1 a,.float e2 b,.float e3 c] })] : List (Addr × Obj)) = [(D,{ cls := .type "tuple", data := .seq #[.float h1 a,.float h2 b,.float h3 c] })] := by
  subst x y z; rfl
theorem tup3_ex {D : Addr} {a b c : Tok} {e1 e2 e3 h1 h2 h3 : UInt64} (x : e1 = h1) (y : e2 = h2) (z : e3 = h3) (hb : b ≠ 0) :
    ∃ t a' b' c',Value.ref D = .ref t ∧ b' ≠ 0 ∧ ([(D,{ cls := .type "tuple", data := .seq #[.float e1 a,.float e2 b,.float e3 c] })] : List (Addr × Obj)) = [(t,{ cls := .type "tuple", data := .seq #[.float h1 a',.float h2 b',.float h3 c'] })] :=
  ⟨D,a,b,c,rfl,hb,tup3_eq x y z⟩
theorem hls_ctr2 (w : World) (p : Program) (loose : List Str) (mean : ExcName → Option Value) (mg mb : Str → Option Value) (x y z : UInt64) (tx ty tz : Tok)
    (hz : feq (fmin3 x y z) (fmax3 x y z) = false → Float64.isZero (Float64.sub (fmax3 x y z) (fmin3 x y z)) = false ∧
      (fle (hlsL x y z) f05 = true → Float64.isZero (Float64.add (fmax3 x y z) (fmin3 x y z)) = false) ∧
      (fle (hlsL x y z) f05 = false → Float64.isZero (Float64.sub (Float64.sub f2 (fmax3 x y z)) (fmin3 x y z)) = false)) :
   Ctr pw_ty0047_01 w (Mine.hd.heap_1 w.params) p loose mean mg mb 90 [.float x tx,.float y ty,.float z tz] [] [] 1 8 (fun _ => True)
     (fun r tl => ∃ t a b c,r = .ref t ∧ b ≠ 0 ∧ tl = [(t,{ cls := .type "tuple", data := .seq #[.float (hlsH x y z) a,.float (hlsL x y z) b,.float (hlsS x y z) c] })]) := by
  w_top off
  intro dp un gd cn cs ad ccd cl outer A₀ base h₀ L m s Q E B F X N T hk hp hd hu hret
  refine wpAny_call ?_
  (k_dflt (refine' code_defX ?k1 ?k2 ?k3 ?k4 ?k5 ?kA ?kF ?kK ?k6 ?k7 ?k8 ?k9 ?kB ?_ ?c2 ?c3 ?c4 ?c5; (case kA => exact rfl); (case kF => exact rfl); (case kK => assumption); (case k1 => k_asm); (case k2 => k_asm); (case k3 => k_asm); (case k4 => k_asm); (case k5 => k_asm); (case k6 => k_is); (case k7 => k_is); (case k8 => ktr_room); (case k9 => first | exact BindsTo.of_eq rfl | exact binds_K (by k_in) rfl (by k_is) rfl rfl rfl); (case c5 => decide); (case kB => exact locs rfl); (case c2 => exact rfl); (case c3 => exact rfl); (case c4 => exact rfl); k_whole; intro _ _ _ _ _ _ _ _ _ _; (try dsimp only); (try k_fold)))
  k_steps
  all_goals first
    | exact absurd ((hz (by assumption)).1.symm.trans (by assumption)) Bool.false_ne_true
    | exact absurd (((hz (by assumption)).2.1 (by assumption)).symm.trans (by assumption)) Bool.false_ne_true
    | exact absurd (((hz (by assumption)).2.2 (by assumption)).symm.trans (by assumption)) Bool.false_ne_true
    | skip
  all_goals (refine ctr_ret hret (by assumption) (by assumption) (by assumption) ?_)
  all_goals (refine tup3_ex ?_ ?_ ?_ ?_)
  all_goals (first
    | exact Nat.succ_ne_zero _
    | (unfold hlsL; rfl)
    | (unfold hlsS; first
      | exact (if_pos (by assumption)).symm
      | exact ((if_neg (nt (by assumption))).trans (if_pos (by assumption))).symm
      | exact ((if_neg (nt (by assumption))).trans (if_neg (nt (by assumption)))).symm)
    | (unfold hlsH; first
      | exact (if_pos (by assumption)).symm
      | exact ((if_neg (nt (by assumption))).trans (if_pos (by assumption))).symm
      | exact ((if_neg (nt (by assumption))).trans ((if_neg (nt (by assumption))).trans (if_pos (by assumption)))).symm
      | exact ((if_neg (nt (by assumption))).trans ((if_neg (nt (by assumption))).trans (if_neg (nt (by assumption))))).symm))
theorem hls_ctr (w : World) (p : Program) (loose : List Str) (mean : ExcName → Option Value) (mg mb : Str → Option Value) (x y z : UInt64) (tx ty tz : Tok)
    (hz : feq (fmin3 x y z) (fmax3 x y z) = false → Float64.isZero (Float64.sub (fmax3 x y z) (fmin3 x y z)) = false ∧
      (fle (hlsL x y z) f05 = true → Float64.isZero (Float64.add (fmax3 x y z) (fmin3 x y z)) = false) ∧
      (fle (hlsL x y z) f05 = false → Float64.isZero (Float64.sub (Float64.sub f2 (fmax3 x y z)) (fmin3 x y z)) = false)) :
   Ctr pw_ty0047_01 w (Mine.hd.heap_1 w.params) p loose mean mg mb 90 [.float x tx,.float y ty,.float z tz] [] [] 1 8 (fun _ => True)
     (fun r tl => ∃ t a b c,r = .ref t ∧ tl = [(t,{ cls := .type "tuple", data := .seq #[.float (hlsH x y z) a,.float (hlsL x y z) b,.float (hlsS x y z) c] })]) :=
  fun dp un gd cn cs ad ccd cl outer A₀ base h₀ L m s Q E B F X N T hk hp hd hu hret =>
    hls_ctr2 w p loose mean mg mb x y z tx ty tz hz dp un gd cn cs ad ccd cl outer A₀ base h₀ L m s Q E B F X N T hk hp hd hu fun r tl h' tk' a b ⟨t,u,v,q,e1,_,e2⟩ => hret r tl h' tk' a b ⟨t,u,v,q,e1,e2⟩
noncomputable abbrev lamArgs (p : Pos) : Arguments := { posonlyargs := [],args := [{ arg := Str.ofString "one", annotation := none,pos := p }],vararg := none,kwonlyargs := [],kw_defaults := [],kwarg := none,defaults := [] }
noncomputable abbrev lamBody (p1 p2 p3 : Pos) : Expr := .Subscript (.Name (Str.ofString "one") p1) (.Constant (.int 0) 0 p2) p3
noncomputable abbrev lamScope : Scope := { kind := .function,names := [(Str.ofString "one", .local)],isGenerator := false,isCoroutine := false,more := [] }
noncomputable abbrev lamQual : Str := Str.ofString "law.<locals>.<lambda>"
noncomputable abbrev lamO (p0 p1 p2 p3 : Pos) (pm : Value) (c : Addr) (ctv : Value) : Obj := kla_obj (Str.ofString "<lambda>") lamQual (lamArgs p0) (lamBody p1 p2 p3) lamScope [] pm c ctv
noncomputable abbrev triO (h : UInt64) (t : Tok) (u v : Value) : Obj := { cls := .type "tuple", data := .seq #[.float h t,u,v] }
theorem triO_tup {h : Heap} {T : Addr} {x : UInt64} {t : Tok} {u v : Value} (hh : h.get? T = some (triO x t u v)) : IsTup h T [.float x t,u,v].toArray := by
  refine ⟨_,hh,rfl,?_⟩
  exact ⟨_,rfl⟩
theorem words_a12 : True := by
  k_with_none
  exact trivial
theorem lam_call (w : World) (p : Program) (loose : List Str) (mean : ExcName → Option Value) (mg mb : Str → Option Value)
   (p0 p1 p2 p3 : Pos) (pm ctv : Value) (K c T : Addr) (oc : Obj) (cvs : Array Value) (tc : Tok) (x : UInt64) (tx : Tok) (u v : Value) (led : List (Addr × Obj))
   (hoc : oc.data = .fields cvs) (hcv : cvs[1]? = some (.str lamQual tc)) (hK : (K,lamO p0 p1 p2 p3 pm c ctv) ∈ led) (hc : (c,oc) ∈ led) (hT : (T,triO x tx u v) ∈ led)
   {dp un : Nat} {gd : Option (List Code)} {cn : Str} {cs : Scope} {a : Addr} {ccd : Value} {cl : List (Str × Addr)} {outer : List Env} {A₀ : Around} {base h₀ : Heap} {L : Addr} {m : Str → Option Value} {s : Shared} {Q E : Value → Shared → Prop}
   (B : Below A₀ base outer h₀) (F : Fr h₀ L s.heap m) (X : (Mine.hd.heap_1 w.params).In h₀) (N : News h₀ L s.heap led) (T' : Top p loose mean mg mb h₀) (hk : cs.kind = .function)
   (hd : dp+1 < recursionLimit) (hu : un+8 < cLine)
   (hret : ∀ h' tk',Fr h₀ L h' m → News h₀ L h' led → Q (.float x tx) { s with heap := h',toks := tk' }) :
   wpAny (model pw_ty0047_01 w) (ktrTop dp un gd cn cs L a ccd cl outer) (call (.ref K) [.ref T]) Q E s := by
  w_top off
  refine wpAny_call ?_
  refine kla_code (cl := []) (scope := lamScope) (body := lamBody p1 p2 p3) (params := lamArgs p0) (qual := lamQual) (name := Str.ofString "<lambda>") (binds := [(Str.ofString "one", .ref T)]) B F X N T' rfl rfl hk hK (codeRec_news N hc hoc hcv) (by ktr_room) rfl (locs rfl) ?_ rfl rfl rfl (by decide)
  intro g' L' h' FG F1' N1' B1' X1' T1'
  clear N F B
  k_fold
  k_steps
  exact hret _ _ (by assumption) (by assumption)
noncomputable def elsesOf : Stmt → List Stmt
  | .If _ _ e _ => e
  | _ => []
@[reducible] noncomputable def bsrScope : Scope := by
  have e := Eq.refl (scopeOf (defAt 10))
  conv at e => rhs; whnf
  exact rhsOf e
@[reducible] noncomputable def bsrWhile : Stmt := by
  have e := Eq.refl ((elsesOf ((bodyOf (defAt 10)).getD 2 (.Pass default))).getD 0 (.Pass default))
  conv at e => rhs; whnf
  exact rhsOf e
@[reducible] noncomputable def bslScope : Scope := by
  have e := Eq.refl (scopeOf (defAt 11))
  conv at e => rhs; whnf
  exact rhsOf e
@[reducible] noncomputable def bslWhile : Stmt := by
  have e := Eq.refl ((elsesOf ((bodyOf (defAt 11)).getD 2 (.Pass default))).getD 0 (.Pass default))
  conv at e => rhs; whnf
  exact rhsOf e
noncomputable abbrev bsrEnv (L : Addr) : Env := envOf (Str.ofString "bisect_right") bsrScope L 74 (.ref 73)
noncomputable abbrev bslEnv (L : Addr) : Env := envOf (Str.ofString "bisect_left") bslScope L 83 (.ref 82)
noncomputable def flt (x y : UInt64) : Bool := Float64.cmp x y == some .lt
noncomputable def bisR (x : UInt64) (hs : List UInt64) : Nat → Nat → Nat → Nat
  | 0,lo,_ => lo
  | n+1,lo,hi => if lo < hi then (if flt x (hs.getD ((lo + hi) / 2) 0) then bisR x hs n lo ((lo + hi) / 2) else bisR x hs n ((lo + hi) / 2+1) hi) else lo
noncomputable def bisLf (x : UInt64) (hs : List UInt64) : Nat → Nat → Nat → Nat
  | 0,lo,_ => lo
  | n+1,lo,hi => if lo < hi then (if flt (hs.getD ((lo + hi) / 2) 0) x then bisLf x hs n ((lo + hi) / 2+1) hi else bisLf x hs n lo ((lo + hi) / 2)) else lo
structure HueL (led : List (Addr × Obj)) (D : Addr) (xs : List Value) (k : Nat) (hs : List UInt64) : Prop where
  D : (D,listOf xs.toArray k) ∈ led
  len : xs.length = hs.length
  sm : hs.length ≤ 20
  at' : ∀ i,i < hs.length → ∃ T t u v,xs[i]? = some (.ref T) ∧ (T,triO (hs.getD i 0) t u v) ∈ led
structure LamL (led : List (Addr × Obj)) (K : Addr) : Prop where
  ex : ∃ p0 p1 p2 p3 pm c ctv oc cvs tc,oc.data = .fields cvs ∧ cvs[1]? = some (.str lamQual tc) ∧ (K,lamO p0 p1 p2 p3 pm c ctv) ∈ led ∧ (c,oc) ∈ led
theorem words_a13 : True := by
  k_with "omega" => lia
  exact trivial
theorem fdiv2 (a b : Nat) : ((a : Int) + (b : Int)).fdiv 2 = (((a + b) / 2 : Nat) : Int) := by
  rw [Int.fdiv_eq_ediv_of_nonneg _ (by decide)]; omega
noncomputable def setElse : Stmt → Stmt → Stmt
  | .If t b _ p,W => .If t b [W] p
  | s,_ => s
@[reducible] noncomputable def bsr0 : Stmt := by
  have e := Eq.refl ((bodyOf (defAt 10)).getD 0 (.Pass default))
  conv at e => rhs; whnf
  exact rhsOf e
@[reducible] noncomputable def bsr1 : Stmt := by
  have e := Eq.refl ((bodyOf (defAt 10)).getD 1 (.Pass default))
  conv at e => rhs; whnf
  exact rhsOf e
@[reducible] noncomputable def bsr2 (W : Stmt) : Stmt := by
  have e := Eq.refl (setElse ((bodyOf (defAt 10)).getD 2 (.Pass default)) W)
  conv at e => rhs; whnf
  exact rhsOf e
@[reducible] noncomputable def bsr3 : Stmt := by
  have e := Eq.refl ((bodyOf (defAt 10)).getD 3 (.Pass default))
  conv at e => rhs; whnf
  exact rhsOf e
@[reducible] noncomputable def bsl0 : Stmt := by
  have e := Eq.refl ((bodyOf (defAt 11)).getD 0 (.Pass default))
  conv at e => rhs; whnf
  exact rhsOf e
@[reducible] noncomputable def bsl1 : Stmt := by
  have e := Eq.refl ((bodyOf (defAt 11)).getD 1 (.Pass default))
  conv at e => rhs; whnf
  exact rhsOf e
@[reducible] noncomputable def bsl2 (W : Stmt) : Stmt := by
  have e := Eq.refl (setElse ((bodyOf (defAt 11)).getD 2 (.Pass default)) W)
  conv at e => rhs; whnf
  exact rhsOf e
@[reducible] noncomputable def bsl3 : Stmt := by
  have e := Eq.refl ((bodyOf (defAt 11)).getD 3 (.Pass default))
  conv at e => rhs; whnf
  exact rhsOf e
theorem len_led {prog : Program} {w : World} {A : Around} {E : Value → Shared → Prop} {s : Shared} {h₀ : Heap} {L D : Addr} {led : List (Addr × Obj)} {xs : List Value} {lk n : Nat} {Q : Value → Shared → Prop}
   (N : News h₀ L s.heap led) (hD : (D,listOf xs.toArray lk) ∈ led) (hn : xs.length = n) (h20 : n ≤ 20) (h : ∀ t k,Q (.int (n : Int) t) { s with toks := k }) :
   wpAny (model prog w) A (call (.builtin "len") [.ref D]) Q E s := by
  refine PyProof.Rows.len_list (items := xs.toArray) ⟨_,(N _ hD).1,rfl,_,rfl⟩ (by simp only [List.size_toArray]; omega) ?_
  simp only [List.size_toArray,hn]
  exact h _ _
theorem words_a14 : True := by
  k_with_none
  exact trivial
theorem bisR_le (x : UInt64) (hs : List UInt64) : ∀ n lo hi,lo ≤ hi → bisR x hs n lo hi ≤ hi
  | 0,lo,hi,h => h
  | n+1,lo,hi,h => by
    rw [bisR]
    split
    · split
      · exact Nat.le_trans (bisR_le x hs n _ _ (by omega)) (by omega)
      · exact bisR_le x hs n _ _ (by omega)
    · exact h
noncomputable def TabZ (zs : List (Addr × Obj)) (ps : Array Value) : Prop := TriplesOk ps.toList ∧ ∀ pos cv,codeAmong pos ps.toList = some cv → ∃ (c' : Addr) (oc : Obj) (cvs : Array Value) (t : Tok),cv = .ref c' ∧ (c',oc) ∈ zs ∧ oc.data = .fields cvs ∧ cvs[1]? = some (.str lamQual t)
theorem TabZ.nil {zs : List (Addr × Obj)} : TabZ zs #[] := ⟨trivial,fun _ _ h => by simp [codeAmong] at h⟩
theorem TabZ.mono {zs zs' : List (Addr × Obj)} {ps : Array Value} (h : TabZ zs ps) (hs : ∀ q ∈ zs,q ∈ zs') : TabZ zs' ps :=
  ⟨h.1,fun pos cv e => let ⟨c',oc,cvs,t,a,b,c,d⟩ := h.2 pos cv e; ⟨c',oc,cvs,t,a,hs _ b,c,d⟩⟩
theorem triples_snoc {a b : Int} {c : Value} (l : List Value) (h : TriplesOk l) : TriplesOk (l ++ [rawInt a,rawInt b,c]) := by
  fun_induction TriplesOk l with
  | case1 => simp [TriplesOk,rawInt]
  | case2 _ _ _ _ _ rest ih => exact ih h
  | case3 => cases h
theorem among_snoc {pos : Pos} {a b : Int} {c cv : Value} (l : List Value) (h : TriplesOk l) (e : codeAmong pos (l ++ [rawInt a,rawInt b,c]) = some cv) : codeAmong pos l = some cv ∨ cv = c := by
  fun_induction TriplesOk l with
  | case1 =>
    right
    simp only [List.nil_append,codeAmong,rawInt] at e
    split at e
    · exact (Option.some.inj e).symm
    · cases e
  | case2 x _ y _ z rest ih =>
    simp only [List.cons_append,codeAmong] at e ⊢
    split at e
    · rename_i hq
      rw [if_pos hq]
      exact .inl e
    · rename_i hq
      rw [if_neg hq]
      exact ih h e
  | case3 => cases h
theorem lam_mk {M : Model} {A : Around} {E : Value → Shared → Prop} {s : Shared} {h₀ : Heap} {L : Addr} {m mg mb : Str → Option Value} {p : Program} {loose : List Str} {mean : ExcName → Option Value} {env : Env} {pre post zs : List (Addr × Obj)} {ps : Array Value} {p0 p1 p2 p3 pos : Pos} {ln : Nat} {Q : Value → Shared → Prop}
    (hcl : closureFor lamScope env = pure []) (hge : env.globals = mainGlobals) (hcode : env.code = .ref 136)
    (F : Fr h₀ L s.heap m) (N : News h₀ L s.heap (pre ++ (134,tabObj ps)::post)) (h1 : ∀ q ∈ pre,@Ne Nat q.1 134) (h2 : ∀ q ∈ post,@Ne Nat q.1 134) (T : Top p loose mean mg mb h₀) (C : CodeHd h₀ 136 134) (TZ : TabZ zs ps) (hzs : ∀ q ∈ zs,q ∈ pre ++ (134,tabObj ps)::post)
    (hln : ln = pos.line)
    (h : ∀ K lo new pm c' ctv oc cvs t ps' h' tk,lo = lamO p0 p1 p2 p3 pm c' ctv → Fr h₀ L h' m → News h₀ L h' ((K,lo)::(new ++ (pre ++ (134,tabObj ps')::post))) → (c',oc) ∈ new ++ zs → oc.data = .fields cvs → cvs[1]? = some (.str lamQual t) → TabZ (new ++ zs) ps' →
      (∀ q ∈ new ++ (pre ++ (134,tabObj ps')::post),@Ne Nat q.1 K) → (∀ q ∈ new,AllNe q.1 (pre ++ (134,tabObj ps')::post)) → Q (.ref K) { s with heap := h',toks := tk }) :
    wpAny M A (makeFunction (Str.ofString "<lambda>") lamQual (lamArgs p0) (.expr (lamBody p1 p2 p3)) lamScope env [] [] [] pos pos.line) Q E s := by
  have hm := N (134,tabObj ps) (List.mem_append_right _ (.head _))
  have hgs := T.g.keeps F.keep
  obtain ⟨bm,ob,b1,b2,b3,b4,b5,b6⟩ := T.bmain
  have hgP : mainGlobals ≠ 134 := fun q => by
    obtain ⟨o,es,ep,e,hd,_⟩ := hgs
    rw [q,hm.1] at e; cases e; cases hd
  have hbP : bm ≠ 134 := fun q => by
    have e := F.keep _ _ b3
    rw [q,hm.1] at e; cases e; cases b4
  have hbG : bm ≠ mainGlobals := fun q => by
    obtain ⟨o,es,ep,e,hd,_⟩ := T.g
    rw [q,e] at b3; cases b3; rw [hd] at b6; cases b6
  have hLs : L < s.heap.objs.size := F.ns.lt
  have fresh : ∀ b,L < b → h₀.get? b = none := fun b hb => Heap.get?_none_of_le (Nat.le_trans F.above (Nat.le_of_lt hb))
  have N' : ∀ q ∈ pre ++ post,s.heap.get? q.1 = some q.2 ∧ q.1 ≠ L ∧ h₀.get? q.1 = none := fun q hq => N q (by
    rcases List.mem_append.mp hq with hq | hq
    · exact List.mem_append_left _ hq
    · exact List.mem_append_right _ (.tail _ hq))
  cases hamong : codeAmong pos ps.toList with
  | none =>
    refine kla_makeFunction (mg := mg) hcl hge hgs hcode (C.keeps F.keep) hm.1 TZ.1 hamong hgP ⟨bm,ob,b1,b2,hbG,hbP,F.keep _ _ b3,b4,b5,b6⟩ fun c' ctv h' tk hx hge' hlt hrec htb => ?_
    obtain ⟨c₂,oc,vs,t,e2,hoc,hd,hv⟩ := hrec
    cases e2
    have hLc : L < c' := Nat.lt_of_lt_of_le hLs hge'
    have old : ∀ b o,h₀.get? b = some o → h'.get? b = some o := fun b o e => hx b o (fun q => by rw [q,hm.2.2] at e; cases e) (F.keep b o e)
    have lo : ∀ q ∈ pre ++ (134,tabObj (ps ++ #[rawInt pos.line,rawInt pos.col,.ref c']))::post,@LT.lt Nat _ q.1 s.heap.objs.size := fun q hq => by
      rcases List.mem_append.mp hq with hq | hq
      · exact Heap.lt_size (N' q (List.mem_append_left _ hq)).1
      · rcases List.mem_cons.mp hq with rfl | hq
        · exact Heap.lt_size hm.1
        · exact Heap.lt_size (N' q (List.mem_append_right _ hq)).1
    refine h h'.objs.size _ [(c',oc)] ((mg "__name__").getD .none) c' ctv oc vs t (ps ++ #[rawInt pos.line,rawInt pos.col,.ref c']) _ tk rfl ⟨(F.ns.extBut hx hm.2.1.symm).push _,fun b o e => Heap.get?_push_of_some _ (old b o e),F.above⟩ (fun q hq => ?_) (List.mem_append_left _ (.head _)) hd hv ⟨?_,fun pos' cv e => ?_⟩ (fun q hq => ?_) (fun q hq => ?_)
    · rcases List.mem_cons.mp hq with rfl | hq
      · exact ⟨Heap.get?_push_size _ rfl,Nat.ne_of_gt (Nat.lt_trans hLc hlt),fresh _ (Nat.lt_trans hLc hlt)⟩
      · rcases List.mem_cons.mp hq with rfl | hq
        · exact ⟨Heap.get?_push_of_some _ hoc,Nat.ne_of_gt hLc,fresh _ hLc⟩
        · replace hq : q ∈ pre ++ (134,tabObj (ps ++ #[rawInt pos.line,rawInt pos.col,.ref c']))::post := hq
          rcases List.mem_append.mp hq with hq | hq
          · have n := N' q (List.mem_append_left _ hq)
            exact ⟨Heap.get?_push_of_some _ (hx _ _ (h1 q hq) n.1),n.2⟩
          · rcases List.mem_cons.mp hq with rfl | hq
            · exact ⟨Heap.get?_push_of_some _ htb,hm.2⟩
            · have n := N' q (List.mem_append_right _ hq)
              exact ⟨Heap.get?_push_of_some _ (hx _ _ (h2 q hq) n.1),n.2⟩
    · rw [Array.toList_append]
      exact triples_snoc _ TZ.1
    · rw [Array.toList_append] at e
      rcases among_snoc _ TZ.1 e with e | rfl
      · obtain ⟨c3,o3,v3,t3,a,b,c,d⟩ := TZ.2 pos' cv e
        exact ⟨c3,o3,v3,t3,a,List.mem_append_right _ b,c,d⟩
      · exact ⟨c',oc,vs,t,rfl,List.mem_append_left _ (.head _),hd,hv⟩
    · rcases List.mem_cons.mp hq with rfl | hq
      · exact Nat.ne_of_lt hlt
      · exact Nat.ne_of_lt (Nat.lt_trans (Nat.lt_of_lt_of_le (lo q hq) hge') hlt)
    · rw [List.mem_singleton.mp hq]
      exact allNe_of fun q hq => Nat.ne_of_lt (Nat.lt_of_lt_of_le (lo q hq) hge')
  | some cv =>
    obtain ⟨c',oc,vs,t,rfl,hmc,hd,hv⟩ := TZ.2 pos cv hamong
    refine kla_makeFunctionHit (mg := mg) hcl hge hgs hcode (C.keeps F.keep) hm.1 TZ.1 hamong ⟨bm,ob,b1,b2,hbG,hbP,F.keep _ _ b3,b4,b5,b6⟩ fun ctv h' tk hk hsz => ?_
    have hL' : L < h'.objs.size := Nat.lt_of_lt_of_le hLs hsz
    refine h h'.objs.size _ [] ((mg "__name__").getD .none) c' ctv oc vs t ps _ tk rfl ⟨(F.ns.keeps hk).push _,fun b o e => Heap.get?_push_of_some _ (hk b o (F.keep b o e)),F.above⟩ (fun q hq => ?_) (List.mem_append_right _ hmc) hd hv TZ (fun q hq => ?_) (fun q hq => nomatch hq)
    · rcases List.mem_cons.mp hq with rfl | hq
      · exact ⟨Heap.get?_push_size _ rfl,Nat.ne_of_gt hL',fresh _ hL'⟩
      · exact ⟨Heap.get?_push_of_some _ (hk _ _ (N q hq).1),(N q hq).2⟩
    · exact Nat.ne_of_lt (Nat.lt_of_lt_of_le (Heap.lt_size (N q hq).1) hsz)
theorem booked_none {w : World} {h : Heap} (X : (Mine.hd.heap_1 w.params).In h) : NoneBooked h := by
  have hX : h.get? cStatics = some { cls := Value.none,data := Data.dict #[] } := X _ _ (by rfl)
  exact ⟨fun _ => none,⟨_,_,_,hX,rfl,(by intro e he; simp at he),fun _ => rfl⟩,rfl⟩
open PySem.SeqAt in
theorem eqAt_fi {A : Around} {s : Shared} {a : UInt64} {n : Int} {t u : Tok} (h : (Float64.cmpInt a n == some .eq) = true) : EqAt A s (.float a t) (.int n u) true := fun prog w E Q hq => by
  unfold eqBool
  refine wpAny_holding ?_
  refine wpAny_ite_split (fun hab => ?_) (fun _ => ?_)
  · exact wpAny_bind (wpAny_rule (wpAny_pure hq))
  · refine wpAny_bind ?_
    refine PyProof.Rows.eq_fi ?_
    rw [h]
    exact wpAny_truthy_bool hq
theorem isSame_ff {M : Model} {A : Around} {E : Value → Shared → Prop} {s : Shared} {y z : UInt64} {u v : Tok} {Q : Bool → Shared → Prop}
    (h0 : u ≠ 0) (h1 : v ≠ 0) (hb : NoneBooked s.heap) (hq : ∀ b,Q b s) : wpAny M A (isSame (.float y u) (.float z v)) Q E s := by
  show wpAny M A (isSame.created (y == z && !Float64.isNaN y) u v) Q E s
  unfold isSame.created
  refine wpAny_ite ?_
  split
  · rename_i h
    rcases Bool.or_eq_true _ _ ▸ h with h | h
    · exact absurd (beq_iff_eq.mp h) h0
    · exact absurd (beq_iff_eq.mp h) h1
  refine wpAny_ite ?_
  split
  · exact wpAny_pure (hq _)
  refine wpAny_ite ?_
  split
  · exact wpAny_pure (hq _)
  refine wpAny_bind (wpAny_sharingNotTold_none hb ?_)
  first | rw [if_neg Bool.false_ne_true] | simp only [Bool.false_eq_true,if_false]
  refine wpAny_bind (wpAny_sharingNotTold_none hb ?_)
  first | rw [if_neg Bool.false_ne_true] | simp only [Bool.false_eq_true,if_false]
  exact wpAny_bind (wpAny_rule (wpAny_bind (wpAny_askSetting (wpAny_pure (hq _)))))
open PySem.SeqAt in
theorem eqAt_ff {A : Around} {s : Shared} {a b : UInt64} {t u : Tok} (h0 : t ≠ 0) (h1 : u ≠ 0) (hb : NoneBooked s.heap) (h : feq a b = true) : EqAt A s (.float a t) (.float b u) true := fun prog w E Q hq => by
  unfold eqBool
  refine wpAny_holding ?_
  refine wpAny_ite_split (fun hab => ?_) (fun _ => ?_)
  · exact wpAny_bind (wpAny_rule (wpAny_pure hq))
  · refine wpAny_bind (isSame_ff h0 h1 hb fun c => ?_)
    cases c with
    | true => exact wpAny_pure hq
    | false =>
      refine wpAny_bind ?_
      refine AutoFloatOps.eq_0 ?_
      rw [show (Float64.cmp a b == some .eq) = true from h]
      exact wpAny_truthy_bool hq
open PySem.SeqAt
theorem eqAt_ii {A : Around} {s : Shared} {a : Int} {t u : Tok} : EqAt A s (.int a t) (.int a u) true := by
  have h := EqAt.int_int (A := A) (s := s) a t a u
  rw [beq_self_eq_true] at h
  exact h
theorem ne_grey {prog : Program} {w : World} {A : Around} {E : Value → Shared → Prop} {s : Shared} {h₀ : Heap} {L G D : Addr} {led : List (Addr × Obj)} {xl y : UInt64} {g1 g2 g3 a b c : Tok} {Q : Value → Shared → Prop}
    (N : News h₀ L s.heap led) (hG : (G,({ cls := .type "tuple", data := .seq #[.float 0 g1,.float xl g2,.float 0 g3] } : Obj)) ∈ led) (hD : (D,({ cls := .type "tuple", data := .seq #[.int 0 a,.float y b,.int 0 c] } : Obj)) ∈ led)
    (hu : A.units < cLine) (hb : NoneBooked s.heap) (hg : g2 ≠ 0) (hbb : b ≠ 0) (he : feq xl y = true) (h : Q (.bool false) s) : wpAny (model prog w) A (compareOp .NotEq (.ref G) (.ref D)) Q E s := by
  have hl : s.heap.IsTuple G #[.float 0 g1,.float xl g2,.float 0 g3] := ⟨_,(N _ hG).1,rfl,_,rfl⟩
  have hr : s.heap.IsTuple D #[.int 0 a,.float y b,.int 0 c] := ⟨_,(N _ hD).1,rfl,_,rfl⟩
  refine RcNeAt.tuples (e := fun _ => true) hl hr hu (fun j h1 h2 => ?_) prog w E Q h
  match j,h1,h2 with
  | 0,_,_ => exact eqAt_fi (by decide +kernel)
  | 1,_,_ => exact eqAt_ff hg hbb hb he
  | 2,_,_ => exact eqAt_fi (by decide +kernel)
  | n+3,h1,_ => exact absurd h1 (by simp)
theorem ne_laid {prog : Program} {w : World} {A : Around} {E : Value → Shared → Prop} {s : Shared} {h₀ : Heap} {L T0 T1 T2 T3 T4 T5 Ta D Ld X : Addr} {kL : Nat} {led : List (Addr × Obj)} {P Q' : Int} {u3 u4 u5 a b c : Tok} {Q : Value → Shared → Prop}
    (N : News h₀ L s.heap led) (hT : (Ta,triO 0 u3 (.int P u4) (.int Q' u5)) ∈ led) (hD : (D,({ cls := .type "tuple", data := .seq #[.int 0 a,.int P b,.int Q' c] } : Obj)) ∈ led)
    (hL : (Ld,listOf #[.ref T0,.ref Ta,.ref T1,.ref T2,.ref T3,.ref T4,.ref T5] kL) ∈ led) (hX : s.heap.IsList X #[.ref T0,.ref D,.ref T1,.ref T2,.ref T3,.ref T4,.ref T5])
    (hne : Ta ≠ D) (hu : A.units+4 < cLine) (h : Q (.bool false) s) : wpAny (model prog w) A (compareOp .NotEq (.ref Ld) (.ref X)) Q E s := by
  have hl : s.heap.IsList Ld #[.ref T0,.ref Ta,.ref T1,.ref T2,.ref T3,.ref T4,.ref T5] := ⟨_,(N _ hL).1,rfl,_,rfl⟩
  have ht : s.heap.IsTuple Ta #[.float 0 u3,.int P u4,.int Q' u5] := ⟨_,(N _ hT).1,rfl,_,rfl⟩
  have hd : s.heap.IsTuple D #[.int 0 a,.int P b,.int Q' c] := ⟨_,(N _ hD).1,rfl,_,rfl⟩
  refine RcNeAt.lists (e := fun _ => true) hl hX rfl (by omega) (fun j h1 h2 => ?_) prog w E Q h
  match j,h1,h2 with
  | 0,_,_ => exact EqAt.same _
  | 1,_,_ =>
    refine EqAt.of_refs hne ?_
    refine RcAt.tuples (e := fun _ => true) ht hd (by show A.in1.units < cLine; simp only [Around.in1]; omega) (fun j h1 h2 => ?_)
    match j,h1,h2 with
    | 0,_,_ => exact eqAt_fi (by decide +kernel)
    | 1,_,_ => exact eqAt_ii
    | 2,_,_ => exact eqAt_ii
    | n+3,h1,_ => exact absurd h1 (by simp)
  | 2,_,_ => exact EqAt.same _
  | 3,_,_ => exact EqAt.same _
  | 4,_,_ => exact EqAt.same _
  | 5,_,_ => exact EqAt.same _
  | 6,_,_ => exact EqAt.same _
  | n+7,h1,_ => exact absurd h1 (by simp)
section
local macro_rules | `(tactic| bits_by_make) => `(tactic| with_reducible assumption)
theorem words_a15 : True := by
  k_with_none
  k_with "call builtin:divmod" => ((with_reducible show wpAny _ _ (call (Value.builtin _) [Value.int _ _,Value.int _ _]) _ _ _); refine divmod_N (by assumption) (by assumption) (by omega) ?_ (Or.inl (PyProof.noPylong_of_log2 (by assumption))); intro _ _ _)
  k_with "omega" => lia
  exact trivial
theorem div2_base (w : World) (p : Program) (loose : List Str) (mean : ExcName → Option Value) (mg mb : Str → Option Value) (a b n : Int) (ta tb tn : Tok)
    (ha : 0 ≤ a) (hb : 0 < b) (hbl : b.natAbs.log2 < 9000) (hsm : (Builtin.Int.intBits a : Int) - n ≤ 4000) :
   Ctr pw_ty0047_01 w (Mine.hd.heap_1 w.params) p loose mean mg mb 21 [.int a ta,.int b tb,.int n tn] [] [] 1 8 (fun _ => True)
     (fun r tl => ∃ t u v,r = .ref t ∧ tl = [(t,pairObj (a.fdiv b) (a.fmod b) u v)]) := by
  w_top off
  intro dp un gd cn cs ad ccd cl outer A₀ base h₀ L m s Q E B F X N T hk hp hd hu hret
  refine wpAny_call ?_
  (k_dflt (refine' code_defX ?k1 ?k2 ?k3 ?k4 ?k5 ?kA ?kF ?kK ?k6 ?k7 ?k8 ?k9 ?kB ?_ ?c2 ?c3 ?c4 ?c5; (case kA => exact rfl); (case kF => exact rfl); (case kK => assumption); (case k1 => k_asm); (case k2 => k_asm); (case k3 => k_asm); (case k4 => k_asm); (case k5 => k_asm); (case k6 => k_is); (case k7 => k_is); (case k8 => ktr_room); (case k9 => first | exact BindsTo.of_eq rfl | exact binds_K (by k_in) rfl (by k_is) rfl rfl rfl); (case c5 => decide); (case kB => exact locs rfl); (case c2 => exact rfl); (case c3 => exact rfl); (case c4 => exact rfl); k_whole; intro _ _ _ _ _ _ _ _ _ _; (try dsimp only); (try k_fold)))
  k_steps
  all_goals exact ctr_ret hret (by assumption) (by assumption) (by assumption) ⟨_,_,_,rfl,rfl⟩
theorem words_a16 : True := by
  k_with "call ref" => ((with_reducible show wpAny _ _ (call (Value.ref 21) _ _) _ _ _); k_dflt (refine ctr_use (div2_base _ _ _ _ _ _ _ _ _ _ _ _ (by assumption) (by assumption) (by assumption) (by assumption)) _ (by k_asm) (by k_asm) (by k_asm) (by k_asm) (by k_asm) (by first | exact rfl | assumption) (fun _ h => nomatch h) (fun q hq => ⟨hq,List.not_mem_nil⟩) trivial (by ktr_room) (by ktr_units) ?_); intro r' tl' h' tk' F' N' ne' hp'; (obtain ⟨t',u',v',e1',e2'⟩ := hp'); subst e1'; subst e2'; (simp only [List.cons_append,List.nil_append] at N'); clear ne'; (try dsimp only))
  exact trivial
theorem div3_ctr (w : World) (p : Program) (loose : List Str) (mean : ExcName → Option Value) (mg mb : Str → Option Value) (a c b b1 b2 n : Int) (ta tc tb t1 t2 tn : Tok)
    (hn0 : 0 < n) (hn : n ≤ 4000) (hb : b = b1 * 2 ^ n.toNat + b2) (h2 : 0 ≤ b2) (h2' : b2 < 2 ^ n.toNat) (h1 : 0 < b1) (h1' : b1 < 2 ^ n.toNat)
    (hc : 0 ≤ c) (hc' : c < 2 ^ n.toNat) (ha : 0 ≤ a) (hab : a * 2 ^ n.toNat + c < b * 2 ^ n.toNat) :
   Ctr pw_ty0047_01 w (Mine.hd.heap_1 w.params) p loose mean mg mb 28 [.int a ta,.int c tc,.int b tb,.int b1 t1,.int b2 t2,.int n tn] [] [] 2 16 (fun _ => True)
     (fun r tl => ∃ t u v nx,r = .ref t ∧ tl = (t,pairObj ((a * 2 ^ n.toNat + c).fdiv b) ((a * 2 ^ n.toNat + c).fmod b) u v)::nx) := by
  w_top off
  obtain ⟨hb0,iak,ib,ia,ib1,ib2,hl1⟩ := d3_facts (k := n.toNat) (by omega) hb h2 h2' h1 h1' hc hc' ha hab
  have hsm : (Builtin.Int.intBits a : Int) - n ≤ 4000 := by omega
  have s1 := d3_s1 hb h2 h2' h1 hc hc' ha hab
  have s2 := d3_s2 (a := a) hb h2 h1 hc hc' ha
  intro dp un gd cn cs ad ccd cl outer A₀ base h₀ L m s Q E B F X N T hk hp hd hu hret
  refine wpAny_call ?_
  (k_dflt (refine' code_defX ?k1 ?k2 ?k3 ?k4 ?k5 ?kA ?kF ?kK ?k6 ?k7 ?k8 ?k9 ?kB ?_ ?c2 ?c3 ?c4 ?c5; (case kA => exact rfl); (case kF => exact rfl); (case kK => assumption); (case k1 => k_asm); (case k2 => k_asm); (case k3 => k_asm); (case k4 => k_asm); (case k5 => k_asm); (case k6 => k_is); (case k7 => k_is); (case k8 => ktr_room); (case k9 => first | exact BindsTo.of_eq rfl | exact binds_K (by k_in) rfl (by k_is) rfl rfl rfl); (case c5 => decide); (case kB => exact locs rfl); (case c2 => exact rfl); (case c3 => exact rfl); (case c4 => exact rfl); k_whole; intro _ _ _ _ _ _ _ _ _ _; (try dsimp only); (try k_fold)))
  k_with "exec While Compare cons nil" => k_while (fun _ q r => q * b + r = a * 2 ^ n.toNat + c ∧ r < b) (fun _ q r => (-r).toNat) "q" "r"
  k_with "state" => first | exact s1 (by assumption) | exact s2 | (dsimp only; exact d3_turn ⟨by assumption,by assumption⟩ (by assumption))
  k_steps
  all_goals clear s1 s2
  all_goals try (rename News _ _ _ _ => nE'; refine ksw_end ⟨_,_,_,_⟩ (by assumption) nE' (by kst_in) (by kst_facts) (by kst_all) (by ksw_same) (by dsimp only; exact d3_turn ⟨by assumption,by assumption⟩ (by assumption)) (by dsimp only; omega))
  all_goals (
    have kend := fdm_unique hb0 (q := _) (by assumption) (Int.not_lt.mp (by assumption)) (by assumption)
    refine ctr_ret hret (by assumption) (by assumption) (by assumption) ?_
    rw [kend.1,kend.2]
    exact ⟨_,_,_,_,rfl,rfl⟩)
end
theorem div3_to (w : World) (p : Program) (loose : List Str) (mean : ExcName → Option Value) (mg mb : Str → Option Value) (a c b b1 b2 n q r : Int) (ta tc tb t1 t2 tn : Tok)
    (hn0 : 0 < n) (hn : n ≤ 4000) (hb : b = b1 * 2 ^ n.toNat + b2) (h2 : 0 ≤ b2) (h2' : b2 < 2 ^ n.toNat) (h1 : 0 < b1) (h1' : b1 < 2 ^ n.toNat)
    (hc : 0 ≤ c) (hc' : c < 2 ^ n.toNat) (ha : 0 ≤ a) (hab : a * 2 ^ n.toNat + c < b * 2 ^ n.toNat) (hq : (a * 2 ^ n.toNat + c).fdiv b = q) (hr : (a * 2 ^ n.toNat + c).fmod b = r) :
   Ctr pw_ty0047_01 w (Mine.hd.heap_1 w.params) p loose mean mg mb 28 [.int a ta,.int c tc,.int b tb,.int b1 t1,.int b2 t2,.int n tn] [] [] 2 16 (fun _ => True)
     (fun r' tl => ∃ t u v nx,r' = .ref t ∧ tl = (t,pairObj q r u v)::nx) := by
  subst hq hr
  exact div3_ctr w p loose mean mg mb a c b b1 b2 n ta tc tb t1 t2 tn hn0 hn hb h2 h2' h1 h1' hc hc' ha hab
structure D2 (A B : Int) (k : Nat) (P B1 B2 A1 A2 M2 M0 q1 r1 q2 r2 Q : Int) : Prop where
  f1 : (1 : Int) * 2 ^ (k : Int).toNat = P
  f2 : B.fdiv (2 ^ (k : Int).toNat) = B1
  f3 : Builtin.bitAnd B (P - 1) = B2
  f5 : A.fdiv (2 ^ (k : Int).toNat) = A2
  f6 : Builtin.bitAnd A2 (P - 1) = M2
  f7 : Builtin.bitAnd A (P - 1) = M0
  f4 : A.fdiv (2 ^ (2 * (k : Int)).toNat) = A1
  g0 : (0 : Int) < k
  g1 : (k : Int) ≤ 4000
  g2 : B = B1 * 2 ^ (k : Int).toNat + B2
  g3 : 0 ≤ B2
  g4 : B2 < 2 ^ (k : Int).toNat
  g5 : 0 < B1
  g6 : B1 < 2 ^ (k : Int).toNat
  g7 : 0 ≤ M2
  g8 : M2 < 2 ^ (k : Int).toNat
  g9 : 0 ≤ A1
  g10 : A1 * 2 ^ (k : Int).toNat + M2 < B * 2 ^ (k : Int).toNat
  g11 : (A1 * 2 ^ (k : Int).toNat + M2).fdiv B = q1
  g12 : (A1 * 2 ^ (k : Int).toNat + M2).fmod B = r1
  g13 : 0 ≤ M0
  g14 : M0 < 2 ^ (k : Int).toNat
  g15 : 0 ≤ r1
  g16 : r1 * 2 ^ (k : Int).toNat + M0 < B * 2 ^ (k : Int).toNat
  g17 : (r1 * 2 ^ (k : Int).toNat + M0).fdiv B = q2
  g18 : (r1 * 2 ^ (k : Int).toNat + M0).fmod B = r2
  g19 : q1 * 2 ^ (k : Int).toNat = Q
  g20 : Builtin.bitOr Q q2 = A.fdiv B
  g21 : r2 = A.fmod B
  z1 : (Builtin.Int.intBits 1 : Int) + k ≤ 2 ^ 27
  z2 : (Builtin.Int.intBits q1 : Int) + k ≤ 2 ^ 27
theorem d2_all {A B : Int} {k : Nat} (h0 : 0 < k) (hk : k ≤ 4000) (hB : 2 ^ (k + k - 1) ≤ B) (hB' : B < 2 ^ (k + k)) (hA : 0 ≤ A) (hAB : A < B * 2 ^ (k + k)) :
    ∃ P B1 B2 A1 A2 M2 M0 q1 r1 q2 r2 Q,D2 A B k P B1 B2 A1 A2 M2 M0 q1 r1 q2 r2 Q := by
  have hP := pow_pos' k
  have hB0 : 0 < B := Int.lt_of_lt_of_le (pow_pos' _) hB
  have b1 := d2_B h0 hB hB'
  have sp := d2_split hP hA
  have hPP : (2 : Int) ^ k * 2 ^ k = 2 ^ (k + k) := by rw [Int.pow_add]
  have e2k : (2 * (k : Int)).toNat = k + k := by omega
  have A2n : 0 ≤ A.fdiv (2 ^ k) := fdiv_nn hA hP
  have A1n : 0 ≤ A.fdiv (2 ^ k * 2 ^ k) := fdiv_nn hA (Int.mul_pos hP hP)
  have A1B : A.fdiv (2 ^ k) < B * 2 ^ k := fdiv_lt_of hP (by rw [Int.mul_assoc,hPP]; exact hAB)
  have jn := d2_join hP hB0 hA (X := A.fdiv (2 ^ k)) rfl rfl rfl rfl rfl
  have r0 : 0 ≤ (A.fdiv (2 ^ k)).fmod B := fmod_nn hB0
  have r1 : (A.fdiv (2 ^ k)).fmod B < B := fmod_lt hB0
  have q1b : (A.fdiv (2 ^ k)).fdiv B < 2 ^ k := fdiv_lt_of hB0 (by rw [Int.mul_comm]; exact A1B)
  refine ⟨_,_,_,_,_,_,_,_,_,_,_,_,rfl,rfl,rfl,rfl,rfl,rfl,rfl,?_,?_,?_,?_,?_,?_,?_,?_,?_,?_,?_,rfl,rfl,?_,?_,?_,?_,rfl,rfl,rfl,?_,?_,?_,?_⟩ <;> (try simp only [Int.toNat_natCast,e2k])
  · exact_mod_cast h0
  · exact_mod_cast hk
  · rw [and_mask (Int.le_of_lt hB0)]; exact fdm _ _
  · rw [and_mask (Int.le_of_lt hB0)]; exact fmod_nn hP
  · rw [and_mask (Int.le_of_lt hB0)]; exact fmod_lt hP
  · exact b1.1
  · exact b1.2
  · rw [and_mask A2n]; exact fmod_nn hP
  · rw [and_mask A2n]; exact fmod_lt hP
  · rw [← hPP]; exact A1n
  · rw [and_mask A2n,← hPP,← sp]; exact A1B
  · rw [and_mask hA]; exact fmod_nn hP
  · rw [and_mask hA]; exact fmod_lt hP
  · rw [and_mask A2n,← hPP,← sp]; exact r0
  · rw [and_mask hA,and_mask A2n,← hPP,← sp]
    have := Int.mul_le_mul_of_nonneg_right (show (A.fdiv (2 ^ k)).fmod B ≤ B - 1 by omega) (Int.le_of_lt hP)
    have m := fmod_lt (a := A) hP
    rw [Int.sub_mul,Int.one_mul] at this
    omega
  · rw [and_mask hA,and_mask A2n,← hPP,← sp,or_low jn.2.2.1 jn.1 jn.2.1]; exact jn.2.2.2.1
  · rw [and_mask hA,and_mask A2n,← hPP,← sp]; exact jn.2.2.2.2
  · have : Builtin.Int.intBits 1 ≤ 64 := intBits_le_64 (by decide) (by decide)
    have e : (2 : Int) ^ 27 = 134217728 := by decide
    rw [e]; omega
  · rw [and_mask A2n,← hPP,← sp]
    have := intBits_lt (fdiv_nn A2n hB0) q1b
    have e : (2 : Int) ^ 27 = 134217728 := by decide
    rw [e]; omega
theorem words_a17 : True := by
  k_with_none
  k_with "binaryOp RShift int int" => ((with_reducible refine rshift_to ?_ (by assumption) ?_); (focus first | assumption | omega))
  k_with "inplaceOp RShift int int" => ((with_reducible refine irshift_to ?_ (by assumption) ?_); (focus first | assumption | omega))
  k_with "binaryOp LShift int int" => ((with_reducible refine lshift_to ?_ (by assumption) (by assumption) ?_); (focus first | assumption | omega))
  k_with "inplaceOp LShift int int" => ((with_reducible refine ilshift_to ?_ (by assumption) (by assumption) ?_); (focus first | assumption | omega))
  k_with "binaryOp BitAnd int int" => (with_reducible refine and_to (by assumption) ?_)
  k_with "binaryOp BitOr int int" => (with_reducible refine or_to (by assumption) ?_)
  k_with "binaryOp BitXor int int" => (with_reducible refine xor_to (by assumption) ?_)
  k_with "call ref" => ((with_reducible show wpAny _ _ (call (Value.ref 28) _ _) _ _ _); k_dflt (refine ctr_use (div3_to _ _ _ _ _ _ _ _ _ _ _ _ _ _ _ _ _ _ _ _ (by with_reducible assumption) (by with_reducible assumption) (by with_reducible assumption) (by with_reducible assumption) (by with_reducible assumption) (by with_reducible assumption) (by with_reducible assumption) (by with_reducible assumption) (by with_reducible assumption) (by with_reducible assumption) (by with_reducible assumption) (by with_reducible assumption) (by with_reducible assumption)) _ (by k_asm) (by k_asm) (by k_asm) (by k_asm) (by k_asm) (by first | exact rfl | assumption) (fun _ h => nomatch h) (fun q hq => ⟨hq,List.not_mem_nil⟩) trivial (by ktr_room) (by ktr_units) ?_); intro r' tl' h' tk' F' N' ne' hp'; (obtain ⟨t',u',v',nx',e1',e2'⟩ := hp'); subst e1'; subst e2'; (simp only [List.cons_append,List.nil_append] at N'); (replace N' := cb_drop N' kx_drop); clear ne'; (try dsimp only))
  k_with "omega" => lia
  exact trivial
theorem div2_even (w : World) (p : Program) (loose : List Str) (mean : ExcName → Option Value) (mg mb : Str → Option Value) (a b : Int) (k : Nat) (ta tb tn : Tok)
    (hs : ¬ (Builtin.Int.intBits a : Int) - 2 * (k : Int) ≤ 4000) {P B1 B2 A1 A2 M2 M0 q1 r1 q2 r2 Q : Int} (D : D2 a b k P B1 B2 A1 A2 M2 M0 q1 r1 q2 r2 Q) :
   Ctr pw_ty0047_01 w (Mine.hd.heap_1 w.params) p loose mean mg mb 21 [.int a ta,.int b tb,.int (2 * (k : Int)) tn] [] [] 3 24 (fun _ => True)
     (fun r tl => ∃ t u v nx,r = .ref t ∧ tl = (t,pairObj (a.fdiv b) (a.fmod b) u v)::nx) := by
  w_top off
  obtain ⟨f1,f2,f3,f5,f6,f7,f4,g0,g1,g2,g3,g4,g5,g6,g7,g8,g9,g10,g11,g12,g13,g14,g15,g16,g17,g18,g19,g20,g21,z1,z2⟩ := D
  have f0 : (2 * (k : Int)).fdiv (2 ^ Int.toNat 1) = k := by
    rw [show (2 : Int) ^ Int.toNat 1 = 2 from rfl,Int.fdiv_eq_ediv_of_nonneg _ (by decide)]; omega
  have fp : Builtin.bitAnd (2 * (k : Int)) 1 = 0 := half_even
  intro dp un gd cn cs ad ccd cl outer A₀ base h₀ L m s Q' E B F X N T hk hp hd hu hret
  refine wpAny_call ?_
  (k_dflt (refine' code_defX ?k1 ?k2 ?k3 ?k4 ?k5 ?kA ?kF ?kK ?k6 ?k7 ?k8 ?k9 ?kB ?_ ?c2 ?c3 ?c4 ?c5; (case kA => exact rfl); (case kF => exact rfl); (case kK => assumption); (case k1 => k_asm); (case k2 => k_asm); (case k3 => k_asm); (case k4 => k_asm); (case k5 => k_asm); (case k6 => k_is); (case k7 => k_is); (case k8 => ktr_room); (case k9 => first | exact BindsTo.of_eq rfl | exact binds_K (by k_in) rfl (by k_is) rfl rfl rfl); (case c5 => decide); (case kB => exact locs rfl); (case c2 => exact rfl); (case c3 => exact rfl); (case c4 => exact rfl); k_whole; intro _ _ _ _ _ _ _ _ _ _; (try dsimp only); (try k_fold)))
  k_steps
  subst g21
  exact ctr_ret hret (by assumption) (by assumption) (by assumption) ⟨_,_,_,_,rfl,rfl⟩
theorem div2_odd (w : World) (p : Program) (loose : List Str) (mean : ExcName → Option Value) (mg mb : Str → Option Value) (a b : Int) (k : Nat) (ta tb tn : Tok)
    (hs : ¬ (Builtin.Int.intBits a : Int) - (2 * (k : Int) - 1) ≤ 4000) {P B1 B2 A1 A2 M2 M0 q1 r1 q2 r2 Q : Int} (D : D2 (a * 2) (b * 2) k P B1 B2 A1 A2 M2 M0 q1 r1 q2 r2 Q) (za : Builtin.Int.intBits a ≤ 20000) (zb : Builtin.Int.intBits b ≤ 20000) :
   Ctr pw_ty0047_01 w (Mine.hd.heap_1 w.params) p loose mean mg mb 21 [.int a ta,.int b tb,.int (2 * (k : Int) - 1) tn] [] [] 3 24 (fun _ => True)
     (fun r tl => ∃ t u v nx,r = .ref t ∧ tl = (t,pairObj ((a * 2).fdiv (b * 2)) (((a * 2).fmod (b * 2)).fdiv 2) u v)::nx) := by
  w_top off
  obtain ⟨f1,f2,f3,f5,f6,f7,f4,g0,g1,g2,g3,g4,g5,g6,g7,g8,g9,g10,g11,g12,g13,g14,g15,g16,g17,g18,g19,g20,g21,z1,z2⟩ := D
  have f0 : (2 * (k : Int) - 1+1).fdiv (2 ^ Int.toNat 1) = k := by
    rw [show (2 : Int) ^ Int.toNat 1 = 2 from rfl,Int.fdiv_eq_ediv_of_nonneg _ (by decide)]; omega
  have f4' : (a * 2).fdiv (2 ^ (2 * (k : Int) - 1+1).toNat) = A1 := by rw [show 2 * (k : Int) - 1+1 = 2 * k by omega]; exact f4
  have fp : Builtin.bitAnd (2 * (k : Int) - 1) 1 = 1 := half_odd (by omega)
  have fa : a * 2 ^ Int.toNat 1 = a * 2 := rfl
  have fb : b * 2 ^ Int.toNat 1 = b * 2 := rfl
  have sa : (Builtin.Int.intBits a : Int)+1 ≤ 2 ^ 27 := by rw [show (2 : Int) ^ 27 = 134217728 from rfl]; omega
  have sb : (Builtin.Int.intBits b : Int)+1 ≤ 2 ^ 27 := by rw [show (2 : Int) ^ 27 = 134217728 from rfl]; omega
  have fr : r2.fdiv (2 ^ Int.toNat 1) = r2.fdiv 2 := rfl
  clear f4
  intro dp un gd cn cs ad ccd cl outer A₀ base h₀ L m s Q' E B F X N T hk hp hd hu hret
  refine wpAny_call ?_
  (k_dflt (refine' code_defX ?k1 ?k2 ?k3 ?k4 ?k5 ?kA ?kF ?kK ?k6 ?k7 ?k8 ?k9 ?kB ?_ ?c2 ?c3 ?c4 ?c5; (case kA => exact rfl); (case kF => exact rfl); (case kK => assumption); (case k1 => k_asm); (case k2 => k_asm); (case k3 => k_asm); (case k4 => k_asm); (case k5 => k_asm); (case k6 => k_is); (case k7 => k_is); (case k8 => ktr_room); (case k9 => first | exact BindsTo.of_eq rfl | exact binds_K (by k_in) rfl (by k_is) rfl rfl rfl); (case c5 => decide); (case kB => exact locs rfl); (case c2 => exact rfl); (case c3 => exact rfl); (case c4 => exact rfl); k_whole; intro _ _ _ _ _ _ _ _ _ _; (try dsimp only); (try k_fold)))
  k_steps
  subst g21
  exact ctr_ret hret (by assumption) (by assumption) (by assumption) ⟨_,_,_,_,rfl,rfl⟩
theorem dbl_fdm {a b : Int} (hb : 0 < b) : (a * 2).fdiv (b * 2) = a.fdiv b ∧ ((a * 2).fmod (b * 2)).fdiv 2 = a.fmod b := by
  have e := fdm a b
  have h1 := fmod_nn (a := a) hb
  have h2 := fmod_lt (a := a) hb
  have u := fdm_unique (A := a * 2) (b := b * 2) (q := a.fdiv b) (r := a.fmod b * 2) (by omega) (by
    rw [← Int.mul_assoc,← Int.add_mul,← e]) (by omega) (by omega)
  refine ⟨u.1,?_⟩
  rw [u.2]
  exact (fdm_unique (A := a.fmod b * 2) (b := 2) (q := a.fmod b) (r := 0) (by decide) (by omega) (by decide) (by decide)).1
theorem div2_ctr (w : World) (p : Program) (loose : List Str) (mean : ExcName → Option Value) (mg mb : Str → Option Value) (a b : Int) (n : Nat) (ta tb tn : Tok)
    (hn0 : 0 < n) (hn : n ≤ 7999) (hb : 2 ^ (n - 1) ≤ b) (hb' : b < 2 ^ n) (ha : 0 ≤ a) (hab : a < b * 2 ^ n) :
   Ctr pw_ty0047_01 w (Mine.hd.heap_1 w.params) p loose mean mg mb 21 [.int a ta,.int b tb,.int (n : Int) tn] [] [] 3 24 (fun _ => True)
     (fun r tl => ∃ t u v nx,r = .ref t ∧ tl = (t,pairObj (a.fdiv b) (a.fmod b) u v)::nx) := by
  have hb0 : 0 < b := Int.lt_of_lt_of_le (pow_pos' _) hb
  by_cases hs : (Builtin.Int.intBits a : Int) - (n : Int) ≤ 4000
  · intro dp un gd cn cs ad ccd cl outer A₀ base h₀ L m s Q E B F X N T hk hp hd hu hret
    refine div2_base w p loose mean mg mb a b n ta tb tn ha hb0 (Nat.lt_of_lt_of_le (log2_of_lt hn0 (Int.le_of_lt hb0) hb') (by omega)) hs dp un gd cn cs ad ccd cl outer A₀ base h₀ L m s Q E B F X N T hk hp (by omega) (by omega) fun r tl h' tk' k1 k2 k3 => ?_
    obtain ⟨t,u,v,rfl,rfl⟩ := k3
    exact hret _ _ h' tk' k1 k2 ⟨_,_,_,_,rfl,rfl⟩
  · obtain ⟨k,hk⟩ : ∃ k,n = 2 * k ∨ n+1 = 2 * k := ⟨(n+1) / 2,by omega⟩
    rcases hk with hk | hk
    · subst hk
      obtain ⟨_,_,_,_,_,_,_,_,_,_,_,_,D⟩ := d2_all (A := a) (B := b) (k := k) (by omega) (by omega) (by rw [show k + k - 1 = 2 * k - 1 by omega]; exact hb) (by rw [show k + k = 2 * k by omega]; exact hb') ha (by rw [show k + k = 2 * k by omega]; exact hab)
      have := div2_even w p loose mean mg mb a b k ta tb tn (by simpa using hs) D
      simpa using this
    · have e1 : (2 : Int) ^ (k + k) = 2 ^ n * 2 := by rw [show k + k = n+1 by omega,Int.pow_succ]
      have e2 : (2 : Int) ^ (k + k - 1) = 2 ^ (n - 1) * 2 := by rw [show k + k - 1 = (n - 1)+1 by omega,Int.pow_succ]
      have za : Builtin.Int.intBits a ≤ n + n := intBits_lt ha (by
        rw [Int.pow_add]
        have := Int.mul_le_mul_of_nonneg_right (Int.le_of_lt hb') (Int.le_of_lt (pow_pos' n))
        omega)
      have zb : Builtin.Int.intBits b ≤ n := intBits_lt (Int.le_of_lt hb0) hb'
      obtain ⟨_,_,_,_,_,_,_,_,_,_,_,_,D⟩ := d2_all (A := a * 2) (B := b * 2) (k := k) (by omega) (by omega) (by rw [e2]; omega) (by rw [e1]; omega) (by omega) (by
        rw [e1]
        have e3 : b * 2 * (2 ^ n * 2) = b * 2 ^ n * 2 * 2 := by rw [Int.mul_assoc b 2,← Int.mul_assoc 2,Int.mul_comm 2 (2 ^ n),← Int.mul_assoc,← Int.mul_assoc]
        have : 0 < b * 2 ^ n := Int.mul_pos hb0 (pow_pos' n)
        rw [e3]; omega)
      have := div2_odd w p loose mean mg mb a b k ta tb tn (by omega) D (by omega) (by omega)
      rw [(dbl_fdm hb0).1,(dbl_fdm hb0).2,show (2 * (k : Int) - 1) = (n : Int) by omega] at this
      exact this
section
local macro_rules | `(tactic| k_all) => `(tactic| assumption)
noncomputable abbrev mtI (f c D ci ca cn : Addr) (oc oi oa on : Obj) (dc pm ctv : Value) (vs : List Value) (k : Nat) (xs : List (Addr × Obj)) : List (Addr × Obj) :=
  (f,fnMade (Str.ofString "inner") i2dQual i2dParams i2dBody i2dScope [(Str.ofString "n", cn),(Str.ofString "inner", ci),(Str.ofString "a_digits", ca)] dc pm c ctv)::(c,oc)::(D,listOf vs.toArray k)::(ci,oi)::(ca,oa)::(cn,on)::xs
theorem words_a18 : True := by
  k_with_none
  k_with "binaryOp RShift int int" => ((with_reducible refine rshift_to ?_ (by with_reducible assumption) ?_); (focus first | assumption | omega))
  k_with "binaryOp LShift int int" => ((with_reducible refine lshift_to ?_ (by with_reducible assumption) (by with_reducible assumption) ?_); (focus first | assumption | omega))
  k_with "binaryOp BitXor int int" => (with_reducible refine xor_to (by with_reducible assumption) ?_)
  k_with "binaryOp Mult int int" => (with_reducible refine mul_to (by with_reducible assumption) (by with_reducible assumption) ?_)
  k_with "eval Name" => (k_dflt (refine nameX_F (by k_asm) rfl (by k_mem) (by assumption) ?_))
  k_with "setItem ref int" => (k_dflt (refine ksa_set (by k_asm) (by k_asm) (by k_upd) (by assumption) (by omega) (by omega) (by omega) ?_))
  k_with "omega" => lia
  exact trivial
theorem i2d_inner (w : World) (p : Program) (loose : List Str) (mean : ExcName → Option Value) (mg mb : Str → Option Value) (n : Nat) (hn : 0 < n)
    (f c D ci ca cn : Addr) (oc oi oa on : Obj) (dc pm ctv : Value) (cvs : Array Value) (t tn : Tok)
    (hoc : oc.data = .fields cvs) (hcv : cvs[1]? = some (.str i2dQual t)) (hoi : oi.data = .cell (some (.ref f))) (hoa : oa.data = .cell (some (.ref D))) (hon : on.data = .cell (some (.int (n : Int) tn)))
    (n1 : @Ne Nat D f) (n2 : @Ne Nat D c) (n3 : @Ne Nat D ci) (n4 : @Ne Nat D ca) (n5 : @Ne Nat D cn) (xs : List (Addr × Obj)) (hxs : ∀ p ∈ xs,p.1 ≠ D) (hh0 : Heap) (cH : CodeHd hh0 34 30) :
    ∀ j d : Nat,∀ (x : Int) (Lo : Nat) (vs : List Value) (ns : List Int) (k : Nat),1 ≤ d → d ≤ 2 ^ j → 0 ≤ x → x < 2 ^ (n * d) → Lo + d ≤ vs.length → n * d ≤ 2 ^ 26 → vs.length ≤ 9000 → IntsAre vs ns →
    ∀ (dp un : Nat) (gd : Option (List Code)) (cn' : Str) (cs : Scope) (ad : Addr) (ccd : Value) (cl : List (Str × Addr)) (outer : List Env) (A₀ : Around) (base h₀ : Heap) (L : Addr) (m : Str → Option Value) (s : Shared) (Q E : Value → Shared → Prop) (tx tl tr : Tok),
      Below A₀ base outer h₀ → Fr h₀ L s.heap m → (Mine.hd.heap_1 w.params).In h₀ → News h₀ L s.heap (mtI f c D ci ca cn oc oi oa on dc pm ctv vs k xs) → Top p loose mean mg mb h₀ → cs.kind = .function → dp + j+1 < recursionLimit → un+8 * (j+1) < cLine →
      (∀ h' tk' vs' ns' k' ds zs,Fr h₀ L h' m → News h₀ L h' (mtI f c D ci ca cn oc oi oa on dc pm ctv vs' k' xs) → vs' = vs.take Lo ++ ds ++ vs.drop (Lo + d) → IntsAre vs' ns' → IntsAre ds zs → zs.length = d → (∀ z ∈ zs,0 ≤ z ∧ z < 2 ^ n) → valD (2 ^ n) zs = x → Q .none { s with heap := h',toks := tk' }) →
      wpAny (model pw_ty0047_01 w) (ktrTop dp un gd cn' cs L ad ccd cl outer) (call (.ref f) [.int x tx,.int (Lo : Int) tl,.int ((Lo + d : Nat) : Int) tr]) Q E s := by
  w_top off
  intro j
  induction j with
  | zero =>
    intro d x Lo vs ns k hd1 hd2 hx hx' hlen hsz hvl hI dp un gd cn' cs ad ccd cl outer A₀ base h₀ L m s Q E tx tl tr B F X N T hk hd hu hret
    obtain rfl : d = 1 := by simp at hd2; omega
    refine wpAny_call ?_
    refine code_nest (cl := [(Str.ofString "n", cn),(Str.ofString "inner", ci),(Str.ofString "a_digits", ca)]) (scope := i2dScope) (body := i2dBody) (params := i2dParams) (qual := i2dQual) (name := Str.ofString "inner") (binds := [(Str.ofString "x", .int x tx),(Str.ofString "L", .int (Lo : Int) tl),(Str.ofString "R", .int ((Lo+1 : Nat) : Int) tr)]) B F X N T rfl rfl hk (.head _) (codeRec_news N (.tail _ (.head _)) hoc hcv) (by ktr_room) (BindsTo.of_eq rfl) (locs rfl) ?_ rfl rfl rfl (by decide)
    intro g' L' h' FG F1' N1' B1' X1' T1'
    clear N F B
    k_fold
    have hl0 := hI.length
    dsimp only [mtI] at N1'
    k_steps
    all_goals first | (exfalso; omega) | skip
    try dsimp only
    k_steps
    refine hret _ _ (vs.set (Lo : Int).toNat (.int x tx)) _ k [.int x tx] [x] (by assumption) (by assumption) ?_ (by assumption) (.cons _ _ .nil) rfl ?_ ?_
    · rw [Int.toNat_natCast]
      exact set_mid vs Lo _ (by omega)
    · intro z hz
      rw [List.mem_singleton.mp hz]
      exact ⟨hx,by simpa using hx'⟩
    · simp [valD]
  | succ j ih => 
    intro d x Lo vs ns k hd1 hd2 hx hx' hlen hsz hvl hI dp un gd cn' cs ad ccd cl outer A₀ base h₀ L m s Q E tx tl tr B F X N T hk hd hu hret
    by_cases hd1' : d = 1
    · subst hd1'
      exact ih 1 x Lo vs ns k hd1 (Nat.one_le_two_pow) hx hx' hlen hsz hvl hI dp un gd cn' cs ad ccd cl outer A₀ base h₀ L m s Q E tx tl tr B F X N T hk (by omega) (by omega) hret
    have hP := pow_pos' (n * (d / 2))
    obtain ⟨U,hU⟩ : ∃ U,x.fdiv (2 ^ ((n * (d / 2) : Nat) : Int).toNat) = U := ⟨_,rfl⟩
    obtain ⟨W,hW⟩ : ∃ W,U * 2 ^ ((n * (d / 2) : Nat) : Int).toNat = W := ⟨_,rfl⟩
    obtain ⟨V,hV⟩ : ∃ V,Builtin.bitXor x W = V := ⟨_,rfl⟩
    have hmid : ((Lo : Int) + ((Lo + d : Nat) : Int)).fdiv (2 ^ Int.toNat 1) = ((Lo + d / 2 : Nat) : Int) := by
      rw [show (2 : Int) ^ Int.toNat 1 = 2 from rfl,Int.fdiv_eq_ediv_of_nonneg _ (by decide)]; omega
    have hsh : (((Lo + d / 2 : Nat) : Int) - (Lo : Int)) * (n : Int) = ((n * (d / 2) : Nat) : Int) := by
      rw [show ((Lo + d / 2 : Nat) : Int) - (Lo : Int) = ((d / 2 : Nat) : Int) by omega,Int.mul_comm]; rfl
    have hmk : IntMulOk (((Lo + d / 2 : Nat) : Int) - (Lo : Int)) (n : Int) := IntMulOk.of_left (intBits_le_64 (by omega) (by omega))
    have hs0 : (0 : Int) ≤ ((n * (d / 2) : Nat) : Int) := Int.natCast_nonneg _
    have hnd : n * (d / 2) ≤ n * d := Nat.mul_le_mul_left n (Nat.div_le_self d 2)
    have ht : ¬ (Lo : Int)+1 = ((Lo + d : Nat) : Int) := by omega
    have hV2 : V = x.fmod (2 ^ (n * (d / 2))) := by
      subst hV hW hU
      simp only [Int.toNat_natCast]
      exact xor_high hx
    have hU2 : U = x.fdiv (2 ^ (n * (d / 2))) := by subst hU; simp only [Int.toNat_natCast]
    have hU0 : 0 ≤ U := hU2 ▸ fdiv_nn hx hP
    have hU1 : U < 2 ^ (n * (d - d / 2)) := by
      rw [hU2]
      refine fdiv_lt_of hP ?_
      rw [← Int.pow_add,← Nat.mul_add,show d - d / 2 + d / 2 = d by omega]
      exact hx'
    have hz : (Builtin.Int.intBits U : Int) + ((n * (d / 2) : Nat) : Int) ≤ 2 ^ 27 := by
      have := intBits_lt hU0 hU1
      have e : (2 : Int) ^ 27 = 134217728 := by decide
      have e2 : n * (d - d / 2) + n * (d / 2) = n * d := by rw [← Nat.mul_add,show d - d / 2 + d / 2 = d by omega]
      rw [e]
      omega
    refine wpAny_call ?_
    refine code_nest (cl := [(Str.ofString "n", cn),(Str.ofString "inner", ci),(Str.ofString "a_digits", ca)]) (scope := i2dScope) (body := i2dBody) (params := i2dParams) (qual := i2dQual) (name := Str.ofString "inner") (binds := [(Str.ofString "x", .int x tx),(Str.ofString "L", .int (Lo : Int) tl),(Str.ofString "R", .int ((Lo + d : Nat) : Int) tr)]) B F X N T rfl rfl hk (.head _) (codeRec_news N (.tail _ (.head _)) hoc hcv) (by ktr_room) (BindsTo.of_eq rfl) (locs rfl) ?_ rfl rfl rfl (by decide)
    intro g' L' h' FG F1' N1' B1' X1' T1'
    clear N F B
    k_fold
    dsimp only [mtI] at N1'
    k_steps
    all_goals first | (exfalso; omega) | skip
    have c1 : 1 ≤ d / 2 := by omega
    have c2 : d / 2 ≤ 2 ^ j := by rw [Nat.pow_succ] at hd2; omega
    have c3 : 0 ≤ V := by rw [hV2]; exact fmod_nn hP
    have c4 : V < 2 ^ (n * (d / 2)) := by rw [hV2]; exact fmod_lt hP
    k_dflt (refine ih (d / 2) V Lo vs ns k c1 c2 c3 c4 (by omega) (by omega) hvl hI _ _ _ _ _ _ _ _ _ _ _ _ _ _ _ _ _ _ _ _ (by k_asm) (by k_asm) (by k_asm) (by k_asm) (by k_asm) (by first | exact rfl | assumption) (by ktr_room) (by ktr_units) ?_)
    intro h1 tk1 vs1 ns1 k1 ds1 zs1 F1 N1 e1 I1 J1 L1 R1 V1
    have hl1 : vs1.length = vs.length := by
      rw [e1,List.length_append,List.length_append,List.length_take,List.length_drop,J1.length,L1]; omega
    try dsimp only
    k_steps
    obtain ⟨d2,hd2e⟩ : ∃ d2,d = d / 2 + d2 := ⟨d - d / 2,by omega⟩
    have c5 : 1 ≤ d2 := by omega
    have c6 : d2 ≤ 2 ^ j := by rw [Nat.pow_succ] at hd2; omega
    have c7 : U < 2 ^ (n * d2) := by rw [show d2 = d - d / 2 by omega]; exact hU1
    have hnd2 : n * d2 ≤ n * d := Nat.mul_le_mul_left n (by omega)
    rw [show Lo + d = (Lo + d / 2) + d2 by omega]
    k_dflt (refine ih d2 U (Lo + d / 2) vs1 ns1 k1 c5 c6 hU0 c7 (by omega) (by omega) (by omega) I1 _ _ _ _ _ _ _ _ _ _ _ _ _ _ _ _ _ _ _ _ (by k_asm) (by k_asm) (by k_asm) (by k_asm) (by k_asm) (by first | exact rfl | assumption) (by ktr_room) (by ktr_units) ?_)
    intro h2 tk2 vs2 ns2 k2 ds2 zs2 F2 N2 e2 I2 J2 L2 R2 V2
    try dsimp only
    k_steps
    refine hret _ _ vs2 ns2 k2 (ds1 ++ ds2) (zs1 ++ zs2) (by assumption) (by assumption) ?_ I2 (J1.append J2) (by rw [List.length_append,L1,L2]; omega) ?_ ?_
    · rw [e2,e1]
      have a1 : (vs.take Lo ++ ds1).length = Lo + d / 2 := by rw [List.length_append,List.length_take,J1.length,L1]; omega
      rw [List.append_assoc (vs.take Lo),← List.append_assoc,List.take_append_of_le_length (by omega),List.take_of_length_le (Nat.le_of_eq a1)]
      rw [List.drop_append,List.drop_of_length_le (by omega),List.nil_append,a1,List.drop_drop]
      simp only [List.append_assoc]
      congr 4
      omega
    · intro z hz'
      rcases List.mem_append.mp hz' with h | h
      · exact R1 z h
      · exact R2 z h
    · rw [valD_append,V1,V2,L1,hV2,hU2,← Int.pow_mul]
      have := fdm x (2 ^ (n * (d / 2)))
      rw [Int.mul_comm] at this
      omega
end
theorem words_a19 : True := by
  k_with_none
  k_with "binaryOp FloorDiv int int" => (with_reducible refine fdiv_to (by assumption) (by assumption) (by assumption) ?_)
  k_with "exec FunctionDef" => (k_here; kn_here; k_dflt (refine' nestDef_K ?d0 ?k0 ?a0 ?_; (case d0 => exact rfl); (case k0 => exact rfl); (case a0 => exact rfl)); (k_dflt (refine' nest_any ?F ?N ?T ?C ?cd ?U ?m1 ?st ?cl ?_; (case F => k_asm); (case N => k_asm); (case T => k_asm); (case cd => exact rfl); (case C => kn_code); (case U => k_updF); (case st => assumption); (case m1 => k_mem); (case cl => exact rfl); k_whole)); intro f c oc cvs t ctv dc hx1 tk1 F' N' dC1 dC2 lf hH lcf lc; (try dsimp only at N'); (try k_lt lf); (try k_lt2 lcf); (try simp only [AllLt,and_true] at lc))
  k_with "omega" => lia
  exact trivial
theorem i2d_ctr (w : World) (p : Program) (loose : List Str) (mean : ExcName → Option Value) (mg mb : Str → Option Value) (a : Int) (n N : Nat) (ta tb : Tok) (ha : 0 ≤ a) (hn : 0 < n) (hN : ((Builtin.Int.intBits a : Int) + n - 1).fdiv n = (N : Int)) (hN2 : N ≤ 8192) (hnN : n * N ≤ 2 ^ 26) (haN : a < 2 ^ (n * N)) (hn9 : n ≤ 9000)
    (ps : Array Value) (c1 : Addr) (o1 : Obj) (hst : TabSt ps i2dPos i2dQual c1 o1) (hc1 : @Ne Nat c1 30) :
   Ctr pw_ty0047_01 w (Mine.hd.heap_1 w.params) p loose mean mg mb 35 [.int a ta,.int (n : Int) tb] [] [(30,tabObj ps),(c1,o1)] 16 130 (fun h => CodeHd h 34 30 ∧ @Ne Nat c1 34)
     (fun r tl => ∃ l c' oc' vs t lv k zs nx,r = .ref l ∧ tl = (l,listOf lv.toArray k)::(30,tabObj #[rawInt i2dPos.line,rawInt i2dPos.col,.ref c'])::(c',oc')::(c1,o1)::nx ∧ oc'.data = .fields vs ∧ vs[1]? = some (.str i2dQual t) ∧ (ps ≠ #[] → c' = c1 ∧ oc' = o1) ∧ IntsAre lv zs ∧ zs.length = N ∧ (∀ z ∈ zs,0 ≤ z ∧ z < 2 ^ n) ∧ valD (2 ^ n) zs = a) := by
  w_top off
  have hn0 : (n : Int) ≠ 0 := by omega
  have hl : (n : Int).natAbs.log2 < 9000 := by
    by_cases hz : (n : Int).natAbs = 0
    · rw [hz]; decide
    · exact (Nat.log2_lt hz).mpr (Nat.lt_of_lt_of_le (show (n : Int).natAbs < 2 ^ 14 by simp; omega) (Nat.pow_le_pow_right (by decide) (by decide)))
  intro dp un gd cn cs ad ccd cl outer A₀ base h₀ L m s Q E B F X NN T hk hp hd hu hret
  refine wpAny_call ?_
  (k_dflt (refine' code_defCX ?k1 ?k2 ?k3 ?k4 ?k5 ?kA ?kF ?kK ?k6 ?k7 ?k8 ?k9 ?kB ?kD ?_ ?c2 ?c3 ?c4; (case kA => exact rfl); (case kF => exact rfl); (case kK => assumption); (case k1 => k_asm); (case k2 => k_asm); (case k3 => k_asm); (case k4 => k_asm); (case k5 => k_asm); (case k6 => k_is); (case k7 => k_is); (case k8 => ktr_room); (case k9 => first | exact BindsTo.of_eq rfl | exact binds_K (by k_in) rfl (by k_is) rfl rfl rfl); (case kB => exact rfl); (case kD => decide +kernel); (case c2 => exact rfl); (case c3 => exact rfl); (case c4 => exact rfl); k_whole; intro gg LL hh5 tkk1 cells' hg' FGx F' N' Y' Bx Xx Tx l13; (try k_lt l13); k_cells Y'; (try simp only [List.cons_append,List.nil_append] at N'); (try dsimp only); (try k_fold)))
  rename ∀ b o,s.heap.get? b = some o → _ → _ => hg
  have hC := codeHd_at hp.1 (fun o e => hg 34 o e (by simp only [addrs,List.map_cons,List.map_nil,List.mem_cons,List.not_mem_nil,or_false]; intro h; rcases h with h | h; exact absurd h (by decide); exact hp.2 h.symm))
  k_steps
  · rename_i oi0 oa0 on dd1 dd2 dd3 lx hx4 l12 D hx3 I1 n1 s1 e1 e2 e3 l11 hx2 oa dA hx oi Ff Nf dI a0
    have hz : n1 = N := by omega
    subst hz
    have hlen := I1.length
    have nDc : @Ne Nat D c := news_ne (o := listOf _ 0) (o' := oc) Nf (by k_mem) (by k_mem) (by rw [dC1]; intro h; cases h)
    rw [show (n1 : Int) = ((0 + n1 : Nat) : Int) by omega]
    have h1N : 1 ≤ n1 := by
      rcases Nat.eq_zero_or_pos n1 with h | h
      · subst h
        rw [Nat.mul_zero,Int.pow_zero] at haN
        exact absurd (show a = 0 by omega) a0
      · exact h
    k_dflt (refine i2d_inner w p loose mean mg mb n hn f c D (LL+1+1+1) (LL+1+1) (LL+1) oc oi oa on dc ((mg (Str.ofString "__name__")).getD Value.none) ctv cvs t tb dC1 dC2 dI dA dd3 (by omega) nDc (by omega) (by omega) (by omega) [(30,tabObj #[rawInt i2dPos.line,rawInt i2dPos.col,.ref c]),(c1,o1)] (List.forall_mem_cons.mpr ⟨neN (by dsimp only; omega),List.forall_mem_cons.mpr ⟨neN (by dsimp only; omega),List.forall_mem_nil _⟩⟩) gg hC 13 n1 a 0 _ _ 0 h1N (by omega) ha haN (by omega) hnN (by omega) I1 _ _ _ _ _ _ _ _ _ _ _ _ _ _ _ _ _ _ _ _ (by k_asm) (by k_asm) (by k_asm) (cb_drop Nf (by lcg_sub)) (by k_asm) (by exact rfl) (by ktr_room) (by ktr_units) ?_)
    intro h2 tk2 vs2 ns2 k2 ds zs F2 N2 e2' I2 J2 L2 R2 V2
    rw [Nat.zero_add,List.take_zero,List.nil_append,List.drop_of_length_le (by omega),List.append_nil] at e2'
    subst e2'
    try dsimp only
    k_steps
    exact ctr_ret hret (by assumption) F2 (cb_drop (news' := mtI f c D (LL+1+1+1) (LL+1+1) (LL+1) oc oi oa on dc ((mg (Str.ofString "__name__")).getD Value.none) ctv vs2 k2 [(30,tabObj #[rawInt i2dPos.line,rawInt i2dPos.col,.ref c]),(c1,o1)]) N2 (by lcg_sub)) ⟨D,c,oc,cvs,t,vs2,k2,zs,[],rfl,rfl,dC1,dC2,hH,J2,L2,R2,V2⟩
  · rename_i oi0 oa0 on dd1 dd2 dd3 lx hx4 l12 D hx3 I1 n1 s1 e1 e2 e3 l11 hx2 oa dA hx oi Ff Nf dI a0 kF kN Tc kX
    have hz : n1 = N := by omega
    subst hz
    have hn0 : n1 = 0 := by
      have hb0 : (Builtin.Int.intBits a : Int) = 0 := by rw [a0]; rfl
      rw [hb0] at hN
      have := (fdm_unique (A := 0 + (n : Int) - 1) (b := n) (q := 0) (r := n - 1) (by omega) (by omega) (by omega) (by omega)).1
      omega
    subst hn0
    exact ctr_ret hret (by assumption) Ff (cb_drop Nf (by lcg_sub)) ⟨D,c,oc,cvs,t,[],0,[],[],rfl,rfl,dC1,dC2,hH,.nil,rfl,fun _ h => (nomatch h),a0.symm⟩
noncomputable abbrev mtD (f c ci cd cn : Addr) (oc oi od on : Obj) (dc pm ctv : Value) (xs : List (Addr × Obj)) : List (Addr × Obj) :=
  (f,fnMade (Str.ofString "inner") d2iQual d2iParams d2iBody d2iScope [(Str.ofString "n", cn),(Str.ofString "inner", ci),(Str.ofString "digits", cd)] dc pm c ctv)::(c,oc)::(ci,oi)::(cd,od)::(cn,on)::xs
theorem words_a20 : True := by
  k_with_none
  k_with "binaryOp RShift int int" => ((with_reducible refine rshift_to ?_ (by with_reducible assumption) ?_); (focus first | assumption | omega))
  k_with "binaryOp LShift int int" => ((with_reducible refine lshift_to ?_ (by with_reducible assumption) (by with_reducible assumption) ?_); (focus first | assumption | omega))
  k_with "binaryOp BitXor int int" => (with_reducible refine xor_to (by with_reducible assumption) ?_)
  k_with "binaryOp Mult int int" => (with_reducible refine mul_to (by with_reducible assumption) (by with_reducible assumption) ?_)
  k_with "eval Name" => (k_dflt (refine nameX_F (by k_asm) rfl (by k_mem) (by assumption) ?_))
  k_with "setItem ref int" => (k_dflt (refine ksa_set (by k_asm) (by k_asm) (by k_upd) (by assumption) (by omega) (by omega) (by omega) ?_))
  k_with "omega" => lia
  exact trivial
theorem d2i_inner (w : World) (p : Program) (loose : List Str) (mean : ExcName → Option Value) (mg mb : Str → Option Value) (n : Nat) (hn : 0 < n)
    (f c D ci cd cn : Addr) (oc oi od on : Obj) (dc pm ctv : Value) (cvs : Array Value) (t tn : Tok)
    (hoc : oc.data = .fields cvs) (hcv : cvs[1]? = some (.str d2iQual t)) (hoi : oi.data = .cell (some (.ref f))) (hod : od.data = .cell (some (.ref D))) (hon : on.data = .cell (some (.int (n : Int) tn)))
    (vs : List Value) (ns : List Int) (hI : IntsAre vs ns) (hvl : ns.length ≤ 9000) (hB : ∀ z ∈ ns,0 ≤ z ∧ z < 2 ^ n)
    (xs : List (Addr × Obj)) {hc hp0 : Addr} (hh0 : Heap) (cH : CodeHd hh0 hc hp0) :
    ∀ j d : Nat,∀ (Lo : Nat),1 ≤ d → d ≤ 2 ^ j → Lo + d ≤ ns.length → n * d ≤ 2 ^ 26 →
    ∀ (dp un : Nat) (gd : Option (List Code)) (cn' : Str) (cs : Scope) (ad : Addr) (ccd : Value) (cl : List (Str × Addr)) (outer : List Env) (A₀ : Around) (base h₀ : Heap) (L : Addr) (m : Str → Option Value) (s : Shared) (Q E : Value → Shared → Prop) (tl tr : Tok),
      Below A₀ base outer h₀ → Fr h₀ L s.heap m → (Mine.hd.heap_1 w.params).In h₀ → News h₀ L s.heap (mtD f c ci cd cn oc oi od on dc pm ctv xs) → Top p loose mean mg mb h₀ → cs.kind = .function → h₀.IsList D vs.toArray → dp + j+1 < recursionLimit → un+8 * (j+1) < cLine →
      (∀ h' tk' t',Fr h₀ L h' m → News h₀ L h' (mtD f c ci cd cn oc oi od on dc pm ctv xs) → Q (.int (valD (2 ^ n) (seg ns Lo d)) t') { s with heap := h',toks := tk' }) →
      wpAny (model pw_ty0047_01 w) (ktrTop dp un gd cn' cs L ad ccd cl outer) (call (.ref f) [.int (Lo : Int) tl,.int ((Lo + d : Nat) : Int) tr]) Q E s := by
  w_top off
  intro j
  induction j with
  | zero =>
    intro d Lo hd1 hd2 hlen hsz dp un gd cn' cs ad ccd cl outer A₀ base h₀ L m s Q E tl tr B F X N T hk hD hd hu hret
    obtain rfl : d = 1 := by simp at hd2; omega
    refine wpAny_call ?_
    refine code_nest (cl := [(Str.ofString "n", cn),(Str.ofString "inner", ci),(Str.ofString "digits", cd)]) (scope := d2iScope) (body := d2iBody) (params := d2iParams) (qual := d2iQual) (name := Str.ofString "inner") (binds := [(Str.ofString "L", .int (Lo : Int) tl),(Str.ofString "R", .int ((Lo+1 : Nat) : Int) tr)]) B F X N T rfl rfl hk (.head _) (codeRec_news N (.tail _ (.head _)) hoc hcv) (by ktr_room) (BindsTo.of_eq rfl) (locs rfl) ?_ rfl rfl rfl (by decide)
    intro g' L' h' FG F1' N1' B1' X1' T1'
    clear N F B
    k_fold
    have hD' : g'.IsList D vs.toArray := let ⟨o,e,r⟩ := hD; ⟨o,FG.keep _ _ e,r⟩
    have ht : (Lo : Int)+1 = ((Lo+1 : Nat) : Int) := rfl
    have hl0 := hI.length
    dsimp only [mtD] at N1'
    k_steps
    all_goals first | (exfalso; omega) | skip
    try dsimp only
    k_steps
    have hv : valD (2 ^ n) (seg ns Lo 1) = ns.getD Lo 0 := by rw [seg_one _ _ (by omega)]; simp [valD]
    rw [hv] at hret
    exact hret _ _ _ (by assumption) (by assumption)
  | succ j ih => 
    intro d Lo hd1 hd2 hlen hsz dp un gd cn' cs ad ccd cl outer A₀ base h₀ L m s Q E tl tr B F X N T hk hD hd hu hret
    by_cases hd1' : d = 1
    · subst hd1'
      exact ih 1 Lo hd1 (Nat.one_le_two_pow) hlen hsz dp un gd cn' cs ad ccd cl outer A₀ base h₀ L m s Q E tl tr B F X N T hk hD (by omega) (by omega) hret
    have hP := pow_pos' (n * (d / 2))
    have hmid : ((Lo : Int) + ((Lo + d : Nat) : Int)).fdiv (2 ^ Int.toNat 1) = ((Lo + d / 2 : Nat) : Int) := by
      rw [show (2 : Int) ^ Int.toNat 1 = 2 from rfl,Int.fdiv_eq_ediv_of_nonneg _ (by decide)]; omega
    have hsh : (((Lo + d / 2 : Nat) : Int) - (Lo : Int)) * (n : Int) = ((n * (d / 2) : Nat) : Int) := by
      rw [show ((Lo + d / 2 : Nat) : Int) - (Lo : Int) = ((d / 2 : Nat) : Int) by omega,Int.mul_comm]; rfl
    have hmk : IntMulOk (((Lo + d / 2 : Nat) : Int) - (Lo : Int)) (n : Int) := IntMulOk.of_left (intBits_le_64 (by omega) (by omega))
    have hs0 : (0 : Int) ≤ ((n * (d / 2) : Nat) : Int) := Int.natCast_nonneg _
    obtain ⟨d2,hd2e⟩ : ∃ d2,d = d / 2 + d2 := ⟨d - d / 2,by omega⟩
    have ht : ¬ (Lo : Int)+1 = ((Lo + d : Nat) : Int) := by omega
    have hU := valD_bound (n := n) (zs := seg ns (Lo + d / 2) d2) (fun z hz => hB z (seg_mem hz))
    rw [seg_len _ _ _ (by omega)] at hU
    have hz : (Builtin.Int.intBits (valD (2 ^ n) (seg ns (Lo + d / 2) d2)) : Int) + ((n * (d / 2) : Nat) : Int) ≤ 2 ^ 27 := by
      have := intBits_lt hU.1 hU.2
      have e : (2 : Int) ^ 27 = 134217728 := by decide
      have e2 : n * d2 + n * (d / 2) = n * d := by rw [← Nat.mul_add,show d2 + d / 2 = d by omega]
      rw [e]
      omega
    obtain ⟨W,hW⟩ : ∃ W,(valD (2 ^ n) (seg ns (Lo + d / 2) d2)) * 2 ^ ((n * (d / 2) : Nat) : Int).toNat = W := ⟨_,rfl⟩
    have hnd : n * (d / 2) ≤ n * d := Nat.mul_le_mul_left n (Nat.div_le_self d 2)
    have hnd2 : n * d2 ≤ n * d := Nat.mul_le_mul_left n (by omega)
    have hfin : W + valD (2 ^ n) (seg ns Lo (d / 2)) = valD (2 ^ n) (seg ns Lo d) := by
      rw [hd2e,seg_split,← hd2e,valD_append,seg_len _ _ _ (by omega),← Int.pow_mul,← hW,Int.toNat_natCast,Int.mul_comm]
      omega
    refine wpAny_call ?_
    refine code_nest (cl := [(Str.ofString "n", cn),(Str.ofString "inner", ci),(Str.ofString "digits", cd)]) (scope := d2iScope) (body := d2iBody) (params := d2iParams) (qual := d2iQual) (name := Str.ofString "inner") (binds := [(Str.ofString "L", .int (Lo : Int) tl),(Str.ofString "R", .int ((Lo + d : Nat) : Int) tr)]) B F X N T rfl rfl hk (.head _) (codeRec_news N (.tail _ (.head _)) hoc hcv) (by ktr_room) (BindsTo.of_eq rfl) (locs rfl) ?_ rfl rfl rfl (by decide)
    intro g' L' h' FG F1' N1' B1' X1' T1'
    clear N F B
    k_fold
    have hD' : g'.IsList D vs.toArray := let ⟨o,e,r⟩ := hD; ⟨o,FG.keep _ _ e,r⟩
    dsimp only [mtD] at N1'
    k_steps
    all_goals first | (exfalso; omega) | skip
    rw [show Lo + d = (Lo + d / 2) + d2 by omega]
    k_dflt (refine ih d2 (Lo + d / 2) (by omega) (by rw [Nat.pow_succ] at hd2; omega) (by omega) (by omega) _ _ _ _ _ _ _ _ _ _ _ _ _ _ _ _ _ _ _ (by k_asm) (by k_asm) (by k_asm) (by k_asm) (by k_asm) (by first | exact rfl | assumption) (by assumption) (by ktr_room) (by ktr_units) ?_)
    intro h1 tk1 t1 F1 N1
    try dsimp only
    k_steps
    k_dflt (refine ih (d / 2) Lo (by omega) (by rw [Nat.pow_succ] at hd2; omega) (by omega) (by omega) _ _ _ _ _ _ _ _ _ _ _ _ _ _ _ _ _ _ _ (by k_asm) (by k_asm) (by k_asm) (by k_asm) (by k_asm) (by first | exact rfl | assumption) (by assumption) (by ktr_room) (by ktr_units) ?_)
    intro h2 tk2 t2 F2 N2
    try dsimp only
    k_steps
    rw [hfin]
    exact hret _ _ _ (by assumption) (by assumption)
theorem words_a21 : True := by
  k_with_none
  k_with "exec FunctionDef" => (k_here; kn_here; k_dflt (refine' nestDef_K ?d0 ?k0 ?a0 ?_; (case d0 => exact rfl); (case k0 => exact rfl); (case a0 => exact rfl)); (k_dflt (refine' nest_any ?F ?N ?T ?C ?cd ?U ?m1 ?st ?cl ?_; (case F => k_asm); (case N => k_asm); (case T => k_asm); (case cd => exact rfl); (case C => kn_code); (case U => k_updF); (case st => assumption); (case m1 => k_mem); (case cl => exact rfl); k_whole)); intro f c oc cvs t ctv dc hx1 tk1 F' N' dC1 dC2 lf hH lcf lc; (try dsimp only at N'); (try k_lt lf); (try k_lt2 lcf); (try simp only [AllLt,and_true] at lc))
  k_with "omega" => lia
  exact trivial
theorem d2i_ctr (w : World) (p : Program) (loose : List Str) (mean : ExcName → Option Value) (mg mb : Str → Option Value) (D : Addr) (lv : List Value) (zs : List Int) (n : Nat) (tb : Tok) (hn : 0 < n) (hI : IntsAre lv zs) (hlen : zs.length ≤ 8192) (hnN : n * zs.length ≤ 2 ^ 26) (hB : ∀ z ∈ zs,0 ≤ z ∧ z < 2 ^ n)
    (ps : Array Value) (c1 : Addr) (o1 : Obj) (hst : TabSt ps d2iPos d2iQual c1 o1) (hc1 : @Ne Nat c1 37) :
   Ctr pw_ty0047_01 w (Mine.hd.heap_1 w.params) p loose mean mg mb 42 [.ref D,.int (n : Int) tb] [] [(37,tabObj ps),(c1,o1)] 16 130 (fun h => (CodeHd h 41 37 ∧ @Ne Nat c1 41) ∧ h.IsList D lv.toArray ∧ @Ne Nat D 37 ∧ @Ne Nat D c1)
     (fun r tl => ∃ c' oc' vs t tv nx,r = .int (valD (2 ^ n) zs) tv ∧ tl = (37,tabObj #[rawInt d2iPos.line,rawInt d2iPos.col,.ref c'])::(c',oc')::(c1,o1)::nx ∧ oc'.data = .fields vs ∧ vs[1]? = some (.str d2iQual t) ∧ (ps ≠ #[] → c' = c1 ∧ oc' = o1)) := by
  w_top off
  intro dp un gd cn cs ad ccd cl outer A₀ base h₀ L m s Q E B F X NN T hk hp hd hu hret
  refine wpAny_call ?_
  (k_dflt (refine' code_defCX ?k1 ?k2 ?k3 ?k4 ?k5 ?kA ?kF ?kK ?k6 ?k7 ?k8 ?k9 ?kB ?kD ?_ ?c2 ?c3 ?c4; (case kA => exact rfl); (case kF => exact rfl); (case kK => assumption); (case k1 => k_asm); (case k2 => k_asm); (case k3 => k_asm); (case k4 => k_asm); (case k5 => k_asm); (case k6 => k_is); (case k7 => k_is); (case k8 => ktr_room); (case k9 => first | exact BindsTo.of_eq rfl | exact binds_K (by k_in) rfl (by k_is) rfl rfl rfl); (case kB => exact rfl); (case kD => decide +kernel); (case c2 => exact rfl); (case c3 => exact rfl); (case c4 => exact rfl); k_whole; intro gg LL hx2 tkk1 cells' hg' FGx F' N' Y' Bx Xx Tx l11; (try k_lt l11); k_cells Y'; (try simp only [List.cons_append,List.nil_append] at N'); (try dsimp only); (try k_fold)))
  rename ∀ b o,s.heap.get? b = some o → _ → _ => hg
  have hC := codeHd_at hp.1.1 (fun o e => hg 41 o e (by simp only [addrs,List.map_cons,List.map_nil,List.mem_cons,List.not_mem_nil,or_false]; intro h; rcases h with h | h; exact absurd h (by decide); exact hp.1.2 h.symm))
  have hD := (show Heap.IsList _ D lv.toArray from let ⟨o,e,r⟩ := hp.2.1; ⟨o,hg _ _ e (by simp only [addrs,List.map_cons,List.map_nil,List.mem_cons,List.not_mem_nil,or_false]; intro h; rcases h with h | h; exact hp.2.2.1 h; exact hp.2.2.2 h),r⟩)
  have hl0 := hI.length
  k_steps
  · rename_i oi0 on od dd1 dd2 dd3 hx oi Ff Nf dI a0
    rw [show ((zs.length : Nat) : Int) = ((0 + zs.length : Nat) : Int) by omega]
    k_dflt (refine d2i_inner w p loose mean mg mb n hn f c D (LL+1+1+1) (LL+1) (LL+1+1) oc oi od on dc ((mg (Str.ofString "__name__")).getD Value.none) ctv cvs t tb dC1 dC2 dI dd3 dd2 lv zs hI (by omega) hB [(37,tabObj #[rawInt d2iPos.line,rawInt d2iPos.col,.ref c]),(c1,o1)] _ hC 13 zs.length 0 (by omega) (by omega) (by omega) hnN _ _ _ _ _ _ _ _ _ _ _ _ _ _ _ _ _ _ _ (by k_asm) (by k_asm) (by k_asm) (cb_drop Nf (by lcg_sub)) (by k_asm) (by exact rfl) hD (by ktr_room) (by ktr_units) ?_)
    intro h2 tk2 t2 F2 N2
    try dsimp only
    k_steps
    have hseg : seg zs 0 zs.length = zs := by simp [seg]
    rw [hseg]
    exact ctr_ret hret (by assumption) F2 (cb_drop N2 (by lcg_sub)) ⟨c,oc,cvs,t,_,[],rfl,rfl,dC1,dC2,hH⟩
  · rename_i oi0 on od dd1 dd2 dd3 hx oi Ff Nf dI a0 kF kN Tc kX
    have hz : zs = [] := List.eq_nil_of_length_eq_zero (by omega)
    subst hz
    exact ctr_ret hret (by assumption) Ff (cb_drop Nf (by lcg_sub)) ⟨c,oc,cvs,t,_,[],rfl,rfl,dC1,dC2,hH⟩
noncomputable def horner (P : Int) (zs : List Int) : Int := zs.foldl (fun a z => a * P + z) 0
theorem horner_snoc (P : Int) (zs : List Int) (z : Int) : horner P (zs ++ [z]) = horner P zs * P + z := by simp [horner]
theorem horner_acc (P : Int) : ∀ (zs : List Int) (a : Int),zs.foldl (fun a z => a * P + z) a = a * P ^ zs.length + horner P zs
  | [],a => by simp [horner]
  | z::zs,a => by
    have e1 := horner_acc P zs (a * P + z)
    have e2 := horner_acc P zs (0 * P + z)
    unfold horner
    rw [List.foldl_cons,List.foldl_cons,e1,e2,List.length_cons,Int.pow_succ,Int.add_mul,Int.zero_mul,Int.zero_add,Int.mul_assoc,Int.mul_comm P]
    omega
theorem horner_rev (P : Int) (zs : List Int) : horner P zs.reverse = valD P zs := by
  induction zs with
  | nil => rfl
  | cons z zs ih => rw [List.reverse_cons,horner_snoc,ih,valD,Int.mul_comm]; omega
theorem horner_cons (P z : Int) (zs : List Int) : horner P (z::zs) = z * P ^ zs.length + horner P zs := by
  have e := horner_acc P zs z
  unfold horner at e ⊢
  rw [List.foldl_cons,Int.zero_mul,Int.zero_add]
  exact e
@[reducible] noncomputable def dpBody : List Stmt := by
  have e := Eq.refl (bodyOf (defAt 6))
  conv at e => rhs; whnf
  exact rhsOf e
@[reducible] noncomputable def dpScope : Scope := by
  have e := Eq.refl (scopeOf (defAt 6))
  conv at e => rhs; whnf
  exact rhsOf e
noncomputable def forBody : Stmt → List Stmt
  | .For _ _ b _ _ => b
  | _ => []
@[reducible] noncomputable def dpLoop : List Stmt := by
  have e := Eq.refl (forBody (dpBody.getD 4 (.Pass default)))
  conv at e => rhs; whnf
  exact rhsOf e
noncomputable abbrev dpEnv (L : Addr) : Env := envOf (Str.ofString "_divmod_pos") dpScope L 49 (.ref 48)
theorem horner_step {P b r z : Int} {n : Nat} (hP : 2 ^ n = P) (hr0 : 0 ≤ r) (hr : r < b) (hz0 : 0 ≤ z) (hz : z < P) : 0 ≤ r * P + z ∧ r * P + z < b * P := by
  subst hP
  have hP := pow_pos' n
  have h1 := Int.mul_nonneg hr0 (Int.le_of_lt hP)
  have h2 := Int.mul_le_mul_of_nonneg_right (show r ≤ b - 1 by omega) (Int.le_of_lt hP)
  rw [Int.sub_mul,Int.one_mul] at h2
  omega
theorem words_a22 : True := by
  k_with_none
  k_with "binaryOp LShift int int" => ((with_reducible refine lshift_to ?_ (by with_reducible assumption) (by with_reducible assumption) ?_); (focus first | assumption | omega))
  k_with "eval Name" => (name_kind "local"; k_dflt (refine' ld ?F ?v ?_; (case F => k_asm); (case v => walk_at "k_opq")))
  k_with "omega" => lia
  exact trivial
theorem dpos_loop (w : World) (p : Program) (loose : List Str) (mean : ExcName → Option Value) (mg mb : Str → Option Value) (b : Int) (n : Nat) (tb tn : Tok)
    (hn0 : 0 < n) (hn8 : n ≤ 7999) (hb1 : 2 ^ (n - 1) ≤ b) (hb2 : b < 2 ^ n)
    (dp un : Nat) (gd : Option (List Code)) (cn : Str) (cs : Scope) (ad : Addr) (ccd : Value) (cl : List (Str × Addr)) (outer : List Env) (L : Addr) (base h₀ : Heap) (L' : Addr) (s : Shared) (Q : Flow → Shared → Prop) (E : Value → Shared → Prop) (hk : cs.kind = .function)
    (B : Below (ktrTop dp un gd cn cs L ad ccd cl outer) base (envX cn cs L ad ccd cl::outer) h₀) (X : (Mine.hd.heap_1 w.params).In h₀) (T : Top p loose mean mg mb h₀) (hd : dp+20 < recursionLimit) (hu : un+160 < cLine)
    (I D Qa : Addr) (lo : Obj) (rest : List (Addr × Obj)) (hQD : @Ne Nat Qa D) (hID : @Ne Nat I D) (hIQ : @Ne Nat I Qa) (hQr : ∀ q ∈ rest,@Ne Nat q.1 Qa) (hIr : ∀ q ∈ rest,@Ne Nat q.1 I) :
    ∀ (zs : List Int) (lv : List Value),IntsAre lv zs → (∀ z ∈ zs,0 ≤ z ∧ z < 2 ^ n) → ∀ (m : Str → Option Value) (r : Int) (tr : Tok) (qs : List Int) (qv : List Value) (k : Nat),IntsAre qv qs → 0 ≤ r → r < b → qs.length + zs.length ≤ 8192 →
      m (Str.ofString "b") = some (.int b tb) → m (Str.ofString "n") = some (.int n tn) → m (Str.ofString "r") = some (.int r tr) → m (Str.ofString "q_digits") = some (.ref Qa) →
      (∀ (h : Heap) (tk : Nat) (m' : Str → Option Value) (r' : Int) (tr' : Tok) (qs' : List Int) (qv' : List Value) (k' : Nat),Fr h₀ L' h m' → News h₀ L' h ((Qa,listOf (qv ++ qv').toArray k')::(D,lo)::rest) → IntsAre qv' qs' → qs'.length = zs.length → (∀ q ∈ qs',0 ≤ q ∧ q < 2 ^ n) → 0 ≤ r' → r' < b → r * (2 ^ n) ^ zs.length + horner (2 ^ n) zs = b * horner (2 ^ n) qs' + r' →
        m' (Str.ofString "n") = some (.int n tn) → m' (Str.ofString "r") = some (.int r' tr') → m' (Str.ofString "q_digits") = some (.ref Qa) → Q .next { s with heap := h,toks := tk }) →
      RevRest pw_ty0047_01 w ((ktrTop dp un gd cn cs L ad ccd cl outer).deeper (dpEnv L')) E h₀ (dpEnv L') (Str.ofString "a_digit") dpLoop Q s I (D,lo) lv m ((Qa,listOf qv.toArray k)::(D,lo)::rest) := by
  w_top off
  intro zs lv hI
  induction hI with
  | nil =>
    intro hz m r tr qs qv k hqI hr0 hr hlen mb mn mr mq fin
    refine RevRest.zero fun h tk F N => ?_
    exact fin h tk m r tr [] [] k F (by rw [List.append_nil]; exact N) .nil rfl (fun _ h => nomatch h) hr0 hr (by simp [horner]) mn mr mq
  | cons z tz hI ih =>
    rename_i vs' ns'
    intro hz m r tr qs qv k hqI hr0 hr hlen mb' mn mr mq fin
    obtain ⟨R1,hR1⟩ : ∃ R1,r * 2 ^ (n : Int).toNat = R1 := ⟨_,rfl⟩
    have hz1 := hz z (.head _)
    have hst := horner_step (P := 2 ^ n) rfl hr0 hr hz1.1 hz1.2
    have hR1' : r * 2 ^ n = R1 := by rw [Int.toNat_natCast] at hR1; exact hR1
    rw [hR1'] at hst
    have hb0 : 0 < b := Int.lt_of_lt_of_le (pow_pos' _) hb1
    have hsz : (Builtin.Int.intBits r : Int) + n ≤ 2 ^ 27 := by
      have := intBits_lt (m := n) hr0 (by omega)
      omega
    refine RevRest.succ fun it h tk hit F N => ?_
    k_steps
    k_dflt (refine ctr_use (div2_ctr w p loose mean mg mb (R1 + z) b n _ tb tn hn0 hn8 hb1 hb2 hst.1 hst.2) ((I,it)::(Qa,listOf qv.toArray k)::(D,lo)::rest) (by k_asm) F (by k_asm) N (by k_asm) (by exact rfl) (fun _ h => nomatch h) (fun q hq => ⟨hq,List.not_mem_nil⟩) trivial (by ktr_room) (by ktr_units) ?_)
    intro r' tl' h' tk' F' N' ne' hp'
    obtain ⟨t',u',v',nx',rfl,rfl⟩ := hp'
    have ne2 := ne' (t',pairObj ((R1 + z).fdiv b) ((R1 + z).fmod b) u' v') (.head _)
    obtain ⟨e1,e2,e3,e4⟩ := ne2
    simp only [List.cons_append,List.nil_append] at N'
    replace N' := cb_drop N' kx_drop
    clear ne' F N
    obtain ⟨q1,hq1⟩ : ∃ q1,(R1 + z).fdiv b = q1 := ⟨_,rfl⟩
    obtain ⟨r1,hr1⟩ : ∃ r1,(R1 + z).fmod b = r1 := ⟨_,rfl⟩
    rw [hq1,hr1] at N'
    try dsimp only
    k_steps
    dsimp only at e1 e2 e3
    have hql := hqI.length
    rw [List.length_cons] at hlen
    rename News _ _ _ ((t',_)::_) => N2'
    k_dflt (refine append_K (D := Qa) (its := qv.toArray) (n := k) (by k_asm) N2' (.tail (neN (by omega)) (.tail (neN (by omega)) (.head (List.forall_mem_cons.mpr ⟨neN (by dsimp only; omega),hQr⟩)))) ?_ ?_)
    case refine_2 => rw [sizeLine_eq,List.size_toArray]; omega
    intro h2 F2 N2
    rw [List.push_toArray] at N2
    try dsimp only
    k_steps
    refine UnrEnd.intro F2 N2 ((Qa,listOf (qv ++ [Value.int q1 u']).toArray (k+1))::(D,lo)::rest) (fun _ h => .tail _ h) (List.forall_mem_cons.mpr ⟨neN (by dsimp only; omega),List.forall_mem_cons.mpr ⟨neN (by dsimp only; omega),hIr⟩⟩) ⟨.tail _ (.head _),?_⟩
    have hq0 : 0 ≤ q1 := by rw [← hq1]; exact fdiv_nn hst.1 hb0
    have hq2 : q1 < 2 ^ n := by rw [← hq1]; exact fdiv_lt_of hb0 (by rw [Int.mul_comm]; exact hst.2)
    have hr2 : 0 ≤ r1 := by rw [← hr1]; exact fmod_nn hb0
    have hr3 : r1 < b := by rw [← hr1]; exact fmod_lt hb0
    have hfd := fdm (R1 + z) b
    rw [hq1,hr1] at hfd
    refine ih (fun z hz' => hz z (.tail _ hz')) _ r1 v' (qs ++ [q1]) (qv ++ [Value.int q1 u']) (k+1) (hqI.append (.cons _ _ .nil)) hr2 hr3 (by rw [List.length_append,List.length_singleton]; omega) (by walk_at "k_opq") (by walk_at "k_opq") (by walk_at "k_opq") (by walk_at "k_opq") ?_
    intro h3 tk3 m3 r3 tr3 qs3 qv3 k3 F3 N3 hI3 hl3 hb3 hr30 hr3b he3 g1 g2 g3
    refine fin h3 tk3 m3 r3 tr3 (q1::qs3) (Value.int q1 u'::qv3) k3 F3 ?_ (.cons _ _ hI3) (by simp [hl3]) (List.forall_mem_cons.mpr ⟨⟨hq0,hq2⟩,hb3⟩) hr30 hr3b ?_ g1 g2 g3
    · rw [List.append_assoc] at N3; exact N3
    · rw [horner_cons,horner_cons,hl3,List.length_cons]
      generalize (2 : Int) ^ n = P at *
      generalize hPl : P ^ ns'.length = Pl at *
      rw [Int.pow_succ,hPl,Int.mul_add]
      have e5 : (R1 + z) * Pl = (q1 * b + r1) * Pl := by rw [← hfd]
      have e6 : r * (Pl * P) = R1 * Pl := by rw [← hR1',Int.mul_comm Pl,Int.mul_assoc]
      rw [Int.add_mul,Int.add_mul] at e5
      have e7 : b * (q1 * Pl) = q1 * b * Pl := by rw [← Int.mul_assoc,Int.mul_comm b]
      omega
theorem words_a23 : True := by
  k_with_none
  k_with "eval Name" => (name_kind "local"; k_dflt (refine' ld ?F ?v ?_; (case F => k_asm); (case v => walk_at "k_opq")))
  exact trivial
theorem dpos_ctr (w : World) (p : Program) (loose : List Str) (mean : ExcName → Option Value) (mg mb : Str → Option Value) (a b : Int) (n N : Nat) (ta tb : Tok)
    (ha : 0 ≤ a) (hb : 0 < b) (hn : Builtin.Int.intBits b = n) (hn0 : 0 < n) (hn8 : n ≤ 7999) (hN : ((Builtin.Int.intBits a : Int) + n - 1).fdiv n = (N : Int)) (hN2 : N ≤ 8192) (hnN : n * N ≤ 2 ^ 26) (haN : a < 2 ^ (n * N))
    (ps30 ps37 : Array Value) (c30 c37 : Addr) (o30 o37 : Obj) (h30 : TabSt ps30 i2dPos i2dQual c30 o30) (h37 : TabSt ps37 d2iPos d2iQual c37 o37)
    (k1 : @Ne Nat c30 30) (k2 : @Ne Nat c30 37) (k3 : @Ne Nat c37 30) (k4 : @Ne Nat c37 37) (k5 : @Ne Nat c30 34) (k6 : @Ne Nat c30 41) (k7 : @Ne Nat c37 34) (k8 : @Ne Nat c37 41) (k9 : @Ne Nat c30 c37) :
   Ctr pw_ty0047_01 w (Mine.hd.heap_1 w.params) p loose mean mg mb 49 [.int a ta,.int b tb] [] [(30,tabObj ps30),(c30,o30),(37,tabObj ps37),(c37,o37)] 20 160 (fun h => CodeHd h 34 30 ∧ CodeHd h 41 37)
     (fun r tl => ∃ t u v c1 o1 c2 o2,r = .ref t ∧ tl = [(t,pairObj (a.fdiv b) (a.fmod b) u v),(30,tabObj #[rawInt i2dPos.line,rawInt i2dPos.col,.ref c1]),(c1,o1),(37,tabObj #[rawInt d2iPos.line,rawInt d2iPos.col,.ref c2]),(c2,o2),(c30,o30),(c37,o37)] ∧
       TabSt #[rawInt i2dPos.line,rawInt i2dPos.col,.ref c1] i2dPos i2dQual c1 o1 ∧ TabSt #[rawInt d2iPos.line,rawInt d2iPos.col,.ref c2] d2iPos d2iQual c2 o2 ∧ (ps30 ≠ #[] → c1 = c30 ∧ o1 = o30) ∧ (ps37 ≠ #[] → c2 = c37 ∧ o2 = o37)) := by
  w_top off
  intro dp un gd cn cs ad ccd cl outer A₀ base h₀ L m s Q E B F X NN T hk hp hd hu hret
  refine wpAny_call ?_
  (k_dflt (refine' code_defX ?k1 ?k2 ?k3 ?k4 ?k5 ?kA ?kF ?kK ?k6 ?k7 ?k8 ?k9 ?kB ?_ ?c2 ?c3 ?c4 ?c5; (case kA => exact rfl); (case kF => exact rfl); (case kK => assumption); (case k1 => k_asm); (case k2 => k_asm); (case k3 => k_asm); (case k4 => k_asm); (case k5 => k_asm); (case k6 => k_is); (case k7 => k_is); (case k8 => ktr_room); (case k9 => first | exact BindsTo.of_eq rfl | exact binds_K (by k_in) rfl (by k_is) rfl rfl rfl); (case c5 => decide); (case kB => exact locs rfl); (case c2 => exact rfl); (case c3 => exact rfl); (case c4 => exact rfl); k_whole; intro _ _ _ _ _ _ _ _ _ _; (try dsimp only); (try k_fold)))
  rename ∀ b o,s.heap.get? b = some o → _ → _ => hg
  have hC1 := codeHd_at hp.1 (fun o e => hg 34 o e (by simp only [addrs,List.map_cons,List.map_nil,List.mem_cons,List.not_mem_nil,or_false]; intro h; rcases h with h | h | h | h; exact absurd h (by decide); exact k5 h.symm; exact absurd h (by decide); exact k7 h.symm))
  have hC2 := codeHd_at hp.2 (fun o e => hg 41 o e (by simp only [addrs,List.map_cons,List.map_nil,List.mem_cons,List.not_mem_nil,or_false]; intro h; rcases h with h | h | h | h; exact absurd h (by decide); exact k6 h.symm; exact absurd h (by decide); exact k8 h.symm))
  subst hn
  k_steps
  rename Fr _ _ _ _ => F1
  rename News _ _ _ [(30,tabObj ps30),(c30,o30),(37,tabObj ps37),(c37,o37)] => N1
  k_dflt (refine ctr_use (i2d_ctr w p loose mean mg mb a (Builtin.Int.intBits b) N ta _ ha hn0 hN hN2 hnN haN (by omega) ps30 c30 o30 h30 k1) [(37,tabObj ps37),(c37,o37)] (by k_asm) F1 (by k_asm) N1 (by k_asm) (by exact rfl) ?_ ?_ ⟨codeHd_at hC1 fun o e => F1.keep _ _ e,k5⟩ (by ktr_room) (by ktr_units) ?_)
  · intro q hq
    simp only [List.mem_cons,List.not_mem_nil,or_false] at hq ⊢
    rcases hq with rfl | rfl
    · exact .inl rfl
    · exact .inr (.inl rfl)
  · intro q hq
    simp only [addrs,List.map_cons,List.map_nil,List.mem_cons,List.not_mem_nil,or_false] at hq ⊢
    rcases hq with rfl | rfl
    · exact ⟨.inr (.inr (.inl rfl)),fun h => h.elim (fun h => absurd (show (37 : Nat) = 30 from h) (by decide)) fun h => k2 h.symm⟩
    · exact ⟨.inr (.inr (.inr rfl)),fun h => h.elim k3 fun h => k9 h.symm⟩
  intro r tl h1 tk1 F2 N2 ne2 hp2
  obtain ⟨l,c',oc',vs,t,lv,k,zs,nx,rfl,rfl,d1,d2,hhit,hI,hlen,hrng,hval⟩ := hp2
  have N3 : News _ _ _ [(l,listOf lv.toArray k),(30,tabObj #[rawInt i2dPos.line,rawInt i2dPos.col,.ref c']),(c',oc'),(c30,o30),(37,tabObj ps37),(c37,o37)] := cb_drop N2 fun _ hp => (((((List.sublist_append_right nx _).cons_cons _).cons_cons _).cons_cons _).cons_cons _).subset hp
  have ec1 : AllNe c' [(37,tabObj ps37),(c37,o37)] := ne2 (c',oc') (by simp)
  clear N2 ne2 N1 F1
  try dsimp only
  k_steps
  rename News _ _ _ ((_,revObj _ _)::_) => N4
  rename Fr _ _ _ _ => F4
  rename_i gg LL _ FGx Bx Xx Tx _ _ _ _ Qa _ lQ _ I _ lI
  obtain ⟨q30,q37⟩ : True ∧ True := ⟨trivial,trivial⟩
  have hbn : b < 2 ^ Builtin.Int.intBits b := lt_intBits (Int.le_of_lt hb) (Nat.le_refl _)
  have hbn1 : 2 ^ (Builtin.Int.intBits b - 1) ≤ b := by
    rcases Int.lt_or_le b (2 ^ (Builtin.Int.intBits b - 1)) with h | h
    · have := intBits_lt (Int.le_of_lt hb) h
      omega
    · exact h
  generalize hnn : Builtin.Int.intBits b = n at *
  refine iter_revUnr (lo := listOf lv.toArray k) (vs := lv) rfl F4 N4 (by k_offL) (.tail _ (.head _)) rfl rfl ?_
  refine dpos_loop w p loose mean mg mb b n tb _ hn0 hn8 hbn1 hbn dp un gd cn cs ad ccd cl outer L base gg LL _ _ _ hk Bx Xx Tx hd hu I l Qa (listOf lv.toArray k) [(30,tabObj #[rawInt i2dPos.line,rawInt i2dPos.col,.ref c']),(c',oc'),(c30,o30),(37,tabObj ps37),(c37,o37)] ?_ ?_ ?_ ?_ ?_ zs.reverse lv.reverse hI.reverse ?_ _ 0 _ [] [] 0 .nil ?_ ?_ ?_ rfl rfl rfl rfl ?_
  · omega
  · omega
  · omega
  · k_all
  · k_all
  · intro z hz; exact hrng z (List.mem_reverse.mp hz)
  · omega
  · omega
  · simp; omega
  intro h5 tk5 m5 r5 tr5 qs5 qv5 k5' F5 N5 hI5 hl5 hb5 hr50 hr5 he5 g1 g2 g3
  rw [List.nil_append] at N5
  clear N4 F4
  try dsimp only
  k_steps
  k_dflt (refine kl_reverse (D := Qa) (l := qv5.reverse) (by k_asm) N5 rfl (.head (by k_all)) ?_ ?_)
  case refine_1 => have := hI5.length; rw [sizeLine_eq]; simp at hl5 ⊢; omega
  intro h6 F6 N6
  try dsimp only
  clear N5 F5
  k_steps
  rename News _ _ _ ((Qa,_)::_) => N7
  rename Fr _ _ _ _ => F7
  have hl6 : qs5.reverse.length = N := by rw [List.length_reverse,hl5,List.length_reverse,hlen]
  k_dflt (refine ctr_use (d2i_ctr w p loose mean mg mb Qa qv5.reverse qs5.reverse n _ hn0 hI5.reverse (by omega) (by rw [hl6]; exact hnN) (fun z hz => hb5 z (List.mem_reverse.mp hz)) ps37 c37 o37 h37 k4) [(30,tabObj #[rawInt i2dPos.line,rawInt i2dPos.col,.ref c']),(c',oc'),(c30,o30)] (by k_asm) F7 (by k_asm) N7 (by k_asm) (by exact rfl) ?_ ?_ ⟨⟨codeHd_at hC2 fun o e => F7.keep _ _ e,k8⟩,⟨_,(N7 _ (.head _)).1,rfl,_,rfl⟩,by omega,by omega⟩ (by ktr_room) (by ktr_units) ?_)
  · intro q hq
    simp only [List.mem_cons,List.not_mem_nil,or_false] at hq ⊢
    rcases hq with rfl | rfl
    · exact .inr (.inr (.inr (.inr (.inr (.inl rfl)))))
    · exact .inr (.inr (.inr (.inr (.inr (.inr rfl)))))
  · intro q hq
    simp only [addrs,List.map_cons,List.map_nil,List.mem_cons,List.not_mem_nil,or_false] at hq ⊢
    have e1 := ec1.1
    have e2 := ec1.2.1
    dsimp only at e1 e2
    rcases hq with rfl | rfl | rfl
    · exact ⟨.inr (.inr (.inl rfl)),fun h => h.elim (fun h => absurd (show (30 : Nat) = 37 from h) (by decide)) fun h => k3 h.symm⟩
    · exact ⟨.inr (.inr (.inr (.inl rfl))),fun h => h.elim (fun h => e1 h.symm) fun h => e2 h.symm⟩
    · exact ⟨.inr (.inr (.inr (.inr (.inl rfl)))),fun h => h.elim (fun h => k2 h) fun h => k9 h⟩
  intro r tl h8 tk8 F8 N8 ne8 hp8
  obtain ⟨c2,oc2,vs2,t2,tv2,nx2,rfl,rfl,d3,d4,hhit2⟩ := hp8
  have N9 : News _ _ _ [(37,tabObj #[rawInt d2iPos.line,rawInt d2iPos.col,.ref c2]),(c2,oc2),(c37,o37),(30,tabObj #[rawInt i2dPos.line,rawInt i2dPos.col,.ref c']),(c',oc'),(c30,o30)] := cb_drop N8 fun _ hp => ((((List.sublist_append_right nx2 _).cons_cons _).cons_cons _).cons_cons _).subset hp
  clear N8 ne8 N7 F7
  try dsimp only
  k_steps
  rename Fr gg LL _ _ => F10
  rename News gg LL _ _ => N10
  have hv : valD (2 ^ n) qs5.reverse = horner (2 ^ n) qs5 := by rw [← horner_rev,List.reverse_reverse]
  rw [Int.zero_mul,Int.zero_add,horner_rev,hval] at he5
  have hfm := fdm_unique (A := a) (b := b) (q := valD (2 ^ n) qs5.reverse) (r := r5) hb (by rw [hv,he5,Int.mul_comm]) hr50 hr5
  rw [← hfm.1,← hfm.2] at N10
  exact ctr_ret hret (by assumption) F10 (cb_drop N10 (by lcg_sub)) ⟨_,_,_,c',oc',c2,oc2,rfl,rfl,.inr ⟨rfl,vs,t,d1,d2⟩,.inr ⟨rfl,vs2,t2,d3,d4⟩,hhit,hhit2⟩
noncomputable abbrev DmPost (q r : Int) (ps30 ps37 : Array Value) (c30 c37 : Addr) (o30 o37 : Obj) : Value → List (Addr × Obj) → Prop := fun r' tl =>
  ∃ t u v c1 o1 c2 o2,r' = .ref t ∧ tl = [(t,pairObj q r u v),(30,tabObj #[rawInt i2dPos.line,rawInt i2dPos.col,.ref c1]),(c1,o1),(37,tabObj #[rawInt d2iPos.line,rawInt d2iPos.col,.ref c2]),(c2,o2),(c30,o30),(c37,o37)] ∧
       TabSt #[rawInt i2dPos.line,rawInt i2dPos.col,.ref c1] i2dPos i2dQual c1 o1 ∧ TabSt #[rawInt d2iPos.line,rawInt d2iPos.col,.ref c2] d2iPos d2iQual c2 o2 ∧ (ps30 ≠ #[] → c1 = c30 ∧ o1 = o30) ∧ (ps37 ≠ #[] → c2 = c37 ∧ o2 = o37)
noncomputable abbrev dmMt (ps30 ps37 : Array Value) (c30 c37 : Addr) (o30 o37 : Obj) : List (Addr × Obj) := [(30,tabObj ps30),(c30,o30),(37,tabObj ps37),(c37,o37)]
structure DmT (ps30 ps37 : Array Value) (c30 c37 : Addr) (o30 o37 : Obj) : Prop where
  h30 : TabSt ps30 i2dPos i2dQual c30 o30
  h37 : TabSt ps37 d2iPos d2iQual c37 o37
  k1 : @Ne Nat c30 30
  k2 : @Ne Nat c30 37
  k3 : @Ne Nat c37 30
  k4 : @Ne Nat c37 37
  k5 : @Ne Nat c30 34
  k6 : @Ne Nat c30 41
  k7 : @Ne Nat c37 34
  k8 : @Ne Nat c37 41
  k9 : @Ne Nat c30 c37
theorem DmT.off {ps30 ps37 : Array Value} {c30 c37 : Addr} {o30 o37 : Obj} (D : DmT ps30 ps37 c30 c37 o30 o37) : (34 : Addr) ∉ addrs (dmMt ps30 ps37 c30 c37 o30 o37) ∧ (41 : Addr) ∉ addrs (dmMt ps30 ps37 c30 c37 o30 o37) := by
  constructor <;> (simp only [addrs,dmMt,List.map_cons,List.map_nil,List.mem_cons,List.not_mem_nil,or_false]; intro h; rcases h with h | h | h | h)
  · exact absurd (show (34 : Nat) = 30 from h) (by decide)
  · exact D.k5 h.symm
  · exact absurd (show (34 : Nat) = 37 from h) (by decide)
  · exact D.k7 h.symm
  · exact absurd (show (41 : Nat) = 30 from h) (by decide)
  · exact D.k6 h.symm
  · exact absurd (show (41 : Nat) = 37 from h) (by decide)
  · exact D.k8 h.symm
theorem dok {a b : Int} {M : Nat} (ha : 0 ≤ a) (hb : 0 < b) (haM : a < 2 ^ M) (hM : M ≤ 8192 ∨ (M ≤ 16384 ∧ 2 ≤ b)) :
    ∃ N : Nat,((Builtin.Int.intBits a : Int) + (Builtin.Int.intBits b : Nat) - 1).fdiv (Builtin.Int.intBits b : Nat) = (N : Int) ∧ N ≤ 8192 ∧ (Builtin.Int.intBits b ≤ 7999 → Builtin.Int.intBits b * N ≤ 2 ^ 26) ∧ a < 2 ^ (Builtin.Int.intBits b * N) ∧ 0 < Builtin.Int.intBits b := by
  have h1 := intBits_lt ha haM
  have hn0 : 0 < Builtin.Int.intBits b := by
    rcases Nat.eq_zero_or_pos (Builtin.Int.intBits b) with h | h
    · have := lt_intBits (Int.le_of_lt hb) (Nat.le_of_eq h)
      rw [Int.pow_zero] at this
      omega
    · exact h
  have hn2 : 2 ≤ b → 2 ≤ Builtin.Int.intBits b := fun h => by
    rcases Nat.lt_or_ge (Builtin.Int.intBits b) 2 with h' | h'
    · have := lt_intBits (m := 1) (Int.le_of_lt hb) (by omega)
      rw [Int.pow_one] at this
      omega
    · exact h'
  have hself := lt_intBits ha (Nat.le_refl _)
  generalize Builtin.Int.intBits b = n at *
  generalize Builtin.Int.intBits a = x at *
  have hd := Nat.div_add_mod (x + n - 1) n
  have hm := Nat.mod_lt (x + n - 1) hn0
  refine ⟨(x + n - 1) / n,?_,?_,?_,?_,hn0⟩
  · have e : (x : Int) + (n : Int) - 1 = ((x + n - 1 : Nat) : Int) := by omega
    rw [e,Int.fdiv_eq_ediv_of_nonneg _ (Int.natCast_nonneg _)]
    rfl
  · have hx : x ≤ 8192 * n := by
      rcases hM with h | ⟨h,h2⟩
      · have := Nat.mul_le_mul_left 8192 hn0
        omega
      · have := hn2 h2
        omega
    have : (x + n - 1) / n < 8193 := by
      rw [Nat.div_lt_iff_lt_mul hn0]
      omega
    omega
  · intro h
    omega
  · refine Int.lt_of_lt_of_le hself ?_
    have : x ≤ n * ((x + n - 1) / n) := by omega
    have h2 := Nat.pow_le_pow_right (n := 2) (by decide) this
    exact_mod_cast h2
theorem words_a24 : True := by
  k_with_none
  k_with "omega" => lia
  exact trivial
theorem idm_pos (w : World) (p : Program) (loose : List Str) (mean : ExcName → Option Value) (mg mb : Str → Option Value) (a b : Int) (M : Nat) (ta tb : Tok)
    (ha : 0 ≤ a) (hb : 0 < b) (hb8 : b < 2 ^ 7999) (haM : a < 2 ^ M) (hM : M ≤ 8192 ∨ (M ≤ 16384 ∧ 2 ≤ b))
    (ps30 ps37 : Array Value) (c30 c37 : Addr) (o30 o37 : Obj) (D : DmT ps30 ps37 c30 c37 o30 o37) :
   Ctr pw_ty0047_01 w (Mine.hd.heap_1 w.params) p loose mean mg mb 56 [.int a ta,.int b tb] [] (dmMt ps30 ps37 c30 c37 o30 o37) 22 180 (fun h => CodeHd h 34 30 ∧ CodeHd h 41 37) (DmPost (a.fdiv b) (a.fmod b) ps30 ps37 c30 c37 o30 o37) := by
  w_top off
  intro dp un gd cn cs ad ccd cl outer A₀ base h₀ L m s Q E B F X NN T hk hp hd hu hret
  obtain ⟨N,f1,f2,f3,f4,f5⟩ := dok ha hb haM hM
  have f6 := intBits_lt (Int.le_of_lt hb) hb8
  refine wpAny_call ?_
  (k_dflt (refine' code_defX ?k1 ?k2 ?k3 ?k4 ?k5 ?kA ?kF ?kK ?k6 ?k7 ?k8 ?k9 ?kB ?_ ?c2 ?c3 ?c4 ?c5; (case kA => exact rfl); (case kF => exact rfl); (case kK => assumption); (case k1 => k_asm); (case k2 => k_asm); (case k3 => k_asm); (case k4 => k_asm); (case k5 => k_asm); (case k6 => k_is); (case k7 => k_is); (case k8 => ktr_room); (case k9 => first | exact BindsTo.of_eq rfl | exact binds_K (by k_in) rfl (by k_is) rfl rfl rfl); (case c5 => decide); (case kB => exact locs rfl); (case c2 => exact rfl); (case c3 => exact rfl); (case c4 => exact rfl); k_whole; intro _ _ _ _ _ _ _ _ _ _; (try dsimp only); (try k_fold)))
  rename ∀ b o,s.heap.get? b = some o → _ → _ => hg
  have hC1 := codeHd_at hp.1 (fun o e => hg 34 o e D.off.1)
  have hC2 := codeHd_at hp.2 (fun o e => hg 41 o e D.off.2)
  k_steps
  all_goals first | (exfalso; omega) | skip
  try dsimp only
  k_steps
  all_goals first | (exfalso; omega) | skip
  try dsimp only
  k_steps
  all_goals first | (exfalso; omega) | skip
  try dsimp only
  k_steps
  rename Fr _ _ _ _ => F1
  rename News _ _ _ _ => N1
  k_dflt (refine ctr_use (dpos_ctr w p loose mean mg mb a b (Builtin.Int.intBits b) N ta tb ha hb rfl f5 f6 f1 f2 (f3 f6) f4 ps30 ps37 c30 c37 o30 o37 D.h30 D.h37 D.k1 D.k2 D.k3 D.k4 D.k5 D.k6 D.k7 D.k8 D.k9) [] (by k_asm) F1 (by k_asm) N1 (by k_asm) (by exact rfl) (fun _ h => h) (fun _ h => nomatch h) ⟨codeHd_at hC1 fun o e => F1.keep _ _ e,codeHd_at hC2 fun o e => F1.keep _ _ e⟩ (by ktr_room) (by ktr_units) ?_)
  intro r tl h8 tk8 F8 N8 ne8 hp8
  rw [List.append_nil] at N8
  clear F1 N1
  obtain ⟨t,u,v,c1,o1,c2,o2,rfl,rfl,post⟩ := hp8
  try dsimp only
  k_steps
  exact ctr_ret hret (by assumption) F8 N8 ⟨t,u,v,c1,o1,c2,o2,rfl,rfl,post⟩
theorem codeHd_keep {g h : Heap} {L : Addr} {m : Str → Option Value} {c P : Addr} (C : CodeHd g c P) (F : Fr g L h m) : CodeHd h c P := codeHd_at C fun o e => F.keep _ _ e
theorem idm_any (w : World) (p : Program) (loose : List Str) (mean : ExcName → Option Value) (mg mb : Str → Option Value) (a b : Int) (M : Nat) (ta tb : Tok)
    (hb : 0 < b) (hb8 : b < 2 ^ 7999) (haM : a < 2 ^ M) (haM' : - a ≤ 2 ^ M) (hM : M ≤ 8192 ∨ (M ≤ 16384 ∧ 2 ≤ b))
    (ps30 ps37 : Array Value) (c30 c37 : Addr) (o30 o37 : Obj) (D : DmT ps30 ps37 c30 c37 o30 o37) :
   Ctr pw_ty0047_01 w (Mine.hd.heap_1 w.params) p loose mean mg mb 56 [.int a ta,.int b tb] [] (dmMt ps30 ps37 c30 c37 o30 o37) 24 200 (fun h => CodeHd h 34 30 ∧ CodeHd h 41 37) (DmPost (a.fdiv b) (a.fmod b) ps30 ps37 c30 c37 o30 o37) := by
  w_top off
  by_cases ha : 0 ≤ a
  · intro dp un gd cn cs ad ccd cl outer A₀ base h₀ L m s Q E B F X NN T hk hp hd hu hret
    exact idm_pos w p loose mean mg mb a b M ta tb ha hb hb8 haM hM ps30 ps37 c30 c37 o30 o37 D dp un gd cn cs ad ccd cl outer A₀ base h₀ L m s Q E B F X NN T hk hp (by omega) (by omega) hret
  intro dp un gd cn cs ad ccd cl outer A₀ base h₀ L m s Q E B F X NN T hk hp hd hu hret
  refine wpAny_call ?_
  (k_dflt (refine' code_defX ?k1 ?k2 ?k3 ?k4 ?k5 ?kA ?kF ?kK ?k6 ?k7 ?k8 ?k9 ?kB ?_ ?c2 ?c3 ?c4 ?c5; (case kA => exact rfl); (case kF => exact rfl); (case kK => assumption); (case k1 => k_asm); (case k2 => k_asm); (case k3 => k_asm); (case k4 => k_asm); (case k5 => k_asm); (case k6 => k_is); (case k7 => k_is); (case k8 => ktr_room); (case k9 => first | exact BindsTo.of_eq rfl | exact binds_K (by k_in) rfl (by k_is) rfl rfl rfl); (case c5 => decide); (case kB => exact locs rfl); (case c2 => exact rfl); (case c3 => exact rfl); (case c4 => exact rfl); k_whole; intro _ _ _ _ _ _ _ _ _ _; (try dsimp only); (try k_fold)))
  rename ∀ b o,s.heap.get? b = some o → _ → _ => hg
  rename_i gg LL _ _ _ _ _ _ _
  have hC1 := codeHd_at hp.1 (fun o e => hg 34 o e D.off.1)
  have hC2 := codeHd_at hp.2 (fun o e => hg 41 o e D.off.2)
  k_steps
  all_goals first | (exfalso; omega) | skip
  try dsimp only
  k_steps
  all_goals first | (exfalso; omega) | skip
  try dsimp only
  k_steps
  all_goals first | (exfalso; omega) | skip
  try dsimp only
  k_steps
  rename Fr _ _ _ _ => F1
  rename News _ _ _ _ => N1
  have hbn : Builtin.bitNot a = -a - 1 := rfl
  k_dflt (refine ctr_use (idm_pos w p loose mean mg mb (Builtin.bitNot a) b M _ tb (by omega) hb hb8 (by omega) hM ps30 ps37 c30 c37 o30 o37 D) [] (by k_asm) F1 (by k_asm) N1 (by k_asm) (by exact rfl) (fun _ h => h) (fun _ h => nomatch h) ⟨codeHd_keep hC1 F1,codeHd_keep hC2 F1⟩ (by ktr_room) (by ktr_units) ?_)
  intro r tl h8 tk8 F8 N8 ne8 hp8
  rw [List.append_nil] at N8
  clear F1 N1
  obtain ⟨t,u,v,c1,o1,c2,o2,rfl,rfl,p1,p2,p3,p4⟩ := hp8
  try dsimp only
  k_steps
  rename News gg LL _ _ => N9
  have hfm := fdm (Builtin.bitNot a) b
  have hf0 := fmod_nn (a := Builtin.bitNot a) hb
  have hf1 := fmod_lt (a := Builtin.bitNot a) hb
  generalize (Builtin.bitNot a).fdiv b = q1 at *
  generalize (Builtin.bitNot a).fmod b = r1 at *
  have hres := fdm_unique (A := a) (b := b) (q := Builtin.bitNot q1) (r := b + Builtin.bitNot r1) hb (by rw [show Builtin.bitNot q1 = -q1 - 1 from rfl,show Builtin.bitNot r1 = -r1 - 1 from rfl,Int.sub_mul,Int.neg_mul]; omega) (by rw [show Builtin.bitNot r1 = -r1 - 1 from rfl]; omega) (by rw [show Builtin.bitNot r1 = -r1 - 1 from rfl]; omega)
  rw [← hres.1,← hres.2] at N9
  exact ctr_ret hret (by assumption) (by assumption) (cb_drop N9 (by lcg_sub)) ⟨_,_,_,c1,o1,c2,o2,rfl,rfl,p1,p2,p3,p4⟩
theorem idm_ctr (w : World) (p : Program) (loose : List Str) (mean : ExcName → Option Value) (mg mb : Str → Option Value) (a b : Int) (M : Nat) (ta tb : Tok)
    (hb : b ≠ 0) (hb8 : b < 2 ^ 7999) (hb8' : -b < 2 ^ 7999) (haM : a < 2 ^ M) (haM' : - a < 2 ^ M) (hM : M ≤ 8192 ∨ (M ≤ 16384 ∧ (2 ≤ b ∨ b ≤ -2)))
    (ps30 ps37 : Array Value) (c30 c37 : Addr) (o30 o37 : Obj) (D : DmT ps30 ps37 c30 c37 o30 o37) :
   Ctr pw_ty0047_01 w (Mine.hd.heap_1 w.params) p loose mean mg mb 56 [.int a ta,.int b tb] [] (dmMt ps30 ps37 c30 c37 o30 o37) 26 220 (fun h => CodeHd h 34 30 ∧ CodeHd h 41 37) (DmPost (a.fdiv b) (a.fmod b) ps30 ps37 c30 c37 o30 o37) := by
  w_top off
  by_cases hb0 : 0 < b
  · intro dp un gd cn cs ad ccd cl outer A₀ base h₀ L m s Q E B F X NN T hk hp hd hu hret
    exact idm_any w p loose mean mg mb a b M ta tb hb0 hb8 haM (by omega) (by omega) ps30 ps37 c30 c37 o30 o37 D dp un gd cn cs ad ccd cl outer A₀ base h₀ L m s Q E B F X NN T hk hp (by omega) (by omega) hret
  intro dp un gd cn cs ad ccd cl outer A₀ base h₀ L m s Q E B F X NN T hk hp hd hu hret
  refine wpAny_call ?_
  (k_dflt (refine' code_defX ?k1 ?k2 ?k3 ?k4 ?k5 ?kA ?kF ?kK ?k6 ?k7 ?k8 ?k9 ?kB ?_ ?c2 ?c3 ?c4 ?c5; (case kA => exact rfl); (case kF => exact rfl); (case kK => assumption); (case k1 => k_asm); (case k2 => k_asm); (case k3 => k_asm); (case k4 => k_asm); (case k5 => k_asm); (case k6 => k_is); (case k7 => k_is); (case k8 => ktr_room); (case k9 => first | exact BindsTo.of_eq rfl | exact binds_K (by k_in) rfl (by k_is) rfl rfl rfl); (case c5 => decide); (case kB => exact locs rfl); (case c2 => exact rfl); (case c3 => exact rfl); (case c4 => exact rfl); k_whole; intro _ _ _ _ _ _ _ _ _ _; (try dsimp only); (try k_fold)))
  rename ∀ b o,s.heap.get? b = some o → _ → _ => hg
  rename_i gg LL _ _ _ _ _ _ _
  have hC1 := codeHd_at hp.1 (fun o e => hg 34 o e D.off.1)
  have hC2 := codeHd_at hp.2 (fun o e => hg 41 o e D.off.2)
  k_steps
  all_goals first | (exfalso; omega) | skip
  try dsimp only
  k_steps
  all_goals first | (exfalso; omega) | skip
  try dsimp only
  k_steps
  all_goals first | (exfalso; omega) | skip
  try dsimp only
  k_steps
  rename Fr _ _ _ _ => F1
  rename News _ _ _ _ => N1
  k_dflt (refine ctr_use (idm_any w p loose mean mg mb (-a) (-b) M _ _ (by omega) hb8' (by omega) (by omega) (by omega) ps30 ps37 c30 c37 o30 o37 D) [] (by k_asm) F1 (by k_asm) N1 (by k_asm) (by exact rfl) (fun _ h => h) (fun _ h => nomatch h) ⟨codeHd_keep hC1 F1,codeHd_keep hC2 F1⟩ (by ktr_room) (by ktr_units) ?_)
  intro r tl h8 tk8 F8 N8 ne8 hp8
  rw [List.append_nil] at N8
  clear F1 N1
  obtain ⟨t,u,v,c1,o1,c2,o2,rfl,rfl,p1,p2,p3,p4⟩ := hp8
  try dsimp only
  k_steps
  rename News gg LL _ _ => N9
  have hb1 : 0 < -b := by omega
  have hq : a.fdiv b = (-a).fdiv (-b) := (Int.neg_fdiv_neg _ _).symm
  have hr : a.fmod b = -((-a).fmod (-b)) := by
    have e1 := fdm a b
    have e2 := fdm (-a) (-b)
    rw [hq] at e1
    rw [Int.mul_neg] at e2
    omega
  rw [← hr,← hq] at N9
  exact ctr_ret hret (by assumption) (by assumption) (cb_drop N9 (by lcg_sub)) ⟨_,_,_,c1,o1,c2,o2,rfl,rfl,p1,p2,p3,p4⟩
noncomputable abbrev tab30 (c : Addr) : Obj := tabObj #[rawInt i2dPos.line,rawInt i2dPos.col,.ref c]
noncomputable abbrev tab37 (c : Addr) : Obj := tabObj #[rawInt d2iPos.line,rawInt d2iPos.col,.ref c]
noncomputable abbrev mtL (c30 c37 : Addr) (o30 o37 : Obj) : List (Addr × Obj) := [(30,tab30 c30),(c30,o30),(37,tab37 c37),(c37,o37)]
noncomputable abbrev DmL (c30 c37 : Addr) (o30 o37 : Obj) : Prop := DmT #[rawInt i2dPos.line,rawInt i2dPos.col,.ref c30] #[rawInt d2iPos.line,rawInt d2iPos.col,.ref c37] c30 c37 o30 o37
theorem Ctr.weak {prog : Program} {w : World} {K : Frag} {p : Program} {loose : List Str} {mean : ExcName → Option Value} {mg mb : Str → Option Value} {f : Addr} {vs : List Value} {kw : List (Str × Value)} {mt : List (Addr × Obj)} {D U : Nat} {Pre : Heap → Prop} {Post Post' : Value → List (Addr × Obj) → Prop}
    (C : Ctr prog w K p loose mean mg mb f vs kw mt D U Pre Post) (h : ∀ r tl,Post r tl → ∃ tl',(∀ q ∈ tl',q ∈ tl) ∧ Post' r tl') : Ctr prog w K p loose mean mg mb f vs kw mt D U Pre Post' := by
  intro dp un gd cn cs ad ccd cl outer A₀ base h₀ L m s Q E B F X NN T hk hp hd hu hret
  refine C dp un gd cn cs ad ccd cl outer A₀ base h₀ L m s Q E B F X NN T hk hp hd hu fun r tl h' tk' h1 h2 h3 => ?_
  obtain ⟨tl',h4,h5⟩ := h r tl h3
  exact hret r tl' h' tk' h1 (fun q hq => h2 q (h4 q hq)) h5
theorem idm_hit (w : World) (p : Program) (loose : List Str) (mean : ExcName → Option Value) (mg mb : Str → Option Value) (a b : Int) (M : Nat) (ta tb : Tok)
    (hb : b ≠ 0) (hb8 : b < 2 ^ 7999) (hb8' : -b < 2 ^ 7999) (haM : a < 2 ^ M) (haM' : - a < 2 ^ M) (hM : M ≤ 8192 ∨ (M ≤ 16384 ∧ (2 ≤ b ∨ b ≤ -2)))
    (c30 c37 : Addr) (o30 o37 : Obj) (D : DmL c30 c37 o30 o37) :
   Ctr pw_ty0047_01 w (Mine.hd.heap_1 w.params) p loose mean mg mb 56 [.int a ta,.int b tb] [] (mtL c30 c37 o30 o37) 26 220 (fun h => CodeHd h 34 30 ∧ CodeHd h 41 37)
     (fun r tl => ∃ t u v,r = .ref t ∧ tl = (t,pairObj (a.fdiv b) (a.fmod b) u v)::mtL c30 c37 o30 o37) := by
  refine Ctr.weak (idm_ctr w p loose mean mg mb a b M ta tb hb hb8 hb8' haM haM' hM _ _ c30 c37 o30 o37 D) fun r tl h => ?_
  obtain ⟨t,u,v,c1,o1,c2,o2,rfl,rfl,p1,p2,p3,p4⟩ := h
  obtain ⟨rfl,rfl⟩ := p3 (fun h => by cases h)
  obtain ⟨rfl,rfl⟩ := p4 (fun h => by cases h)
  exact ⟨_,by lcg_sub,t,u,v,rfl,rfl⟩
@[reducible] noncomputable def plBody : List Stmt := by
  have e := Eq.refl (bodyOf (defAt 24))
  conv at e => rhs; whnf
  exact rhsOf e
@[reducible] noncomputable def plScope : Scope := by
  have e := Eq.refl (scopeOf (defAt 24))
  conv at e => rhs; whnf
  exact rhsOf e
@[reducible] noncomputable def plWhile : Stmt := by
  have e := Eq.refl ((forBody (plBody.getD 1 (.Pass default))).getD 0 (.Pass default))
  conv at e => rhs; whnf
  exact rhsOf e
@[reducible] noncomputable def ruBody : List Stmt := by
  have e := Eq.refl (bodyOf (defAt 23))
  conv at e => rhs; whnf
  exact rhsOf e
@[reducible] noncomputable def ruScope : Scope := by
  have e := Eq.refl (scopeOf (defAt 23))
  conv at e => rhs; whnf
  exact rhsOf e
@[reducible] noncomputable def ruWhile : Stmt := by
  have e := Eq.refl ((forBody (ruBody.getD 1 (.Pass default))).getD 0 (.Pass default))
  conv at e => rhs; whnf
  exact rhsOf e
noncomputable abbrev plEnv (L : Addr) : Env := envOf (Str.ofString "_law_plain") plScope L 132 (.ref 131)
noncomputable abbrev ruEnv (L : Addr) : Env := envOf (Str.ofString "_law_run") ruScope L 125 (.ref 124)
theorem gcd_fmod (x y : Int) : Int.gcd y (x.fmod y) = Int.gcd x y := by
  have e := fdm x y
  rw [Int.gcd_comm x y]
  conv => rhs; rw [e]
  rw [Int.gcd_mul_right_add_right]
theorem words_a25 : True := by
  k_with_none
  exact trivial
theorem fmod_natAbs (x : Int) {y : Int} (h : y ≠ 0) : (x.fmod y).natAbs < y.natAbs := by
  rcases Int.lt_or_gt_of_ne h with h | h
  · have e : x.fmod y = -((-x).fmod (-y)) := by
      have e1 := fdm x y
      have e2 := fdm (-x) (-y)
      rw [Int.neg_fdiv_neg] at e2
      rw [Int.mul_neg] at e2
      omega
    have h1 := fmod_nn (a := -x) (b := -y) (by omega)
    have h2 := fmod_lt (a := -x) (b := -y) (by omega)
    omega
  · have h1 := fmod_nn (a := x) h
    have h2 := fmod_lt (a := x) h
    omega
theorem words_a26 : True := by
  k_with "eval Name" => (name_kind "local"; k_dflt (refine' ld ?F ?v ?_; (case F => k_asm); (case v => walk_at "k_opq")))
  exact trivial
theorem pl_while {w : World} {p : Program} {loose : List Str} {mean : ExcName → Option Value} {mg mb : Str → Option Value}
    {dp un : Nat} {gd : Option (List Code)} {cn : Str} {cs : Scope} {ad : Addr} {ccd : Value} {cl : List (Str × Addr)} {outer : List Env} {L : Addr} {base h₀ : Heap} {L' : Addr} {s : Shared} {Q : Flow → Shared → Prop} {E : Value → Shared → Prop} (hk : cs.kind = .function)
    (B : Below (ktrTop dp un gd cn cs L ad ccd cl outer) base (envX cn cs L ad ccd cl::outer) h₀) (X : (Mine.hd.heap_1 w.params).In h₀) (T : Top p loose mean mg mb h₀) (hd : dp+10 < recursionLimit) (hu : un+60 < cLine)
    (hE : PassesOwn (model pw_ty0047_01 w) ((ktrTop dp un gd cn cs L ad ccd cl outer).deeper (plEnv L')) (plEnv L') E)
    {m : Str → Option Value} {news : List (Addr × Obj)} {x y : Int} {tx ty : Tok} (F : Fr h₀ L' s.heap m) (N : News h₀ L' s.heap news)
    (mx : m (Str.ofString "measure") = some (.int x tx)) (my : m (Str.ofString "number") = some (.int y ty)) (bx : x.natAbs < 2 ^ 4000) (by' : y.natAbs < 2 ^ 4000)
    (fin : ∀ h tk m' g tg,Fr h₀ L' h m' → News h₀ L' h news → m' (Str.ofString "measure") = some (.int g tg) → g.natAbs = Int.gcd x y → Q .next { s with heap := h,toks := tk }) :
    wpAny (model pw_ty0047_01 w) ((ktrTop dp un gd cn cs L ad ccd cl outer).deeper (plEnv L')) (exec plWhile (plEnv L')) Q E s := by
  w_top off
  refine While_inv (fun n m₁ news₁ => news₁ = news ∧ ∃ x' y' tx' ty',m₁ (Str.ofString "measure") = some (.int x' tx') ∧ m₁ (Str.ofString "number") = some (.int y' ty') ∧ y'.natAbs = n ∧ Int.gcd x' y' = Int.gcd x y ∧ x'.natAbs < 2 ^ 4000 ∧ y'.natAbs < 2 ^ 4000) F N ⟨rfl,x,y,tx,ty,mx,my,rfl,rfl,bx,by'⟩ ?_ hE
  rintro n m₁ news₁ h₁ tk₁ F₁ N₁ ⟨rfl,x',y',tx',ty',mx',my',hn,hg,bx',by2⟩
  clear F N mx my
  k_steps
  · rename Fr _ _ _ _ => F2
    rename News _ _ _ _ => N2
    have hne : y' ≠ 0 := by omega
    have hlt := fmod_natAbs x' hne
    exact WhileStep.intro F2 (cb_drop N2 fun _ h => .tail _ h) (by omega) ⟨rfl,y',x'.fmod y',_,_,by walk_at "k_opq", by walk_at "k_opq", rfl,(gcd_fmod x' y').trans hg,by2,Nat.lt_trans hlt by2⟩
  · have h0 : y' = 0 := by omega
    subst h0
    exact fin _ _ m₁ x' tx' F₁ N₁ mx' (by rw [← hg,Int.gcd_zero_right])
noncomputable def gcdL (g : Nat) (zs : List Int) : Nat := zs.foldl (fun g z => Nat.gcd g z.natAbs) g
theorem words_a27 : True := by
  k_with "exec" => ((with_reducible show wpAny _ _ (exec plWhile _) _ _ _); k_dflt (refine pl_while (by with_reducible assumption) (by with_reducible assumption) (by with_reducible assumption) (by with_reducible assumption) (by with_reducible assumption) (by with_reducible assumption) (by with_reducible assumption) (by k_asm) (by k_asm) (by walk_at "k_opq") (by walk_at "k_opq") (by with_reducible assumption) (by with_reducible assumption) ?_); intro h2 tk2 m2 g2 tg2 F2 N2 mx2 hg2)
  exact trivial
theorem pl_loop {w : World} {p : Program} {loose : List Str} {mean : ExcName → Option Value} {mg mb : Str → Option Value}
    {dp un : Nat} {gd : Option (List Code)} {cn : Str} {cs : Scope} {ad : Addr} {ccd : Value} {cl : List (Str × Addr)} {outer : List Env} {L : Addr} {base h₀ : Heap} {L' : Addr} {s : Shared} {Q : Flow → Shared → Prop} {E : Value → Shared → Prop} (hk : cs.kind = .function)
    (B : Below (ktrTop dp un gd cn cs L ad ccd cl outer) base (envX cn cs L ad ccd cl::outer) h₀) (X : (Mine.hd.heap_1 w.params).In h₀) (T : Top p loose mean mg mb h₀) (hd : dp+10 < recursionLimit) (hu : un+60 < cLine)
    (hE : PassesOwn (model pw_ty0047_01 w) ((ktrTop dp un gd cn cs L ad ccd cl outer).deeper (plEnv L')) (plEnv L') E)
    (I : Addr) (lp : Addr × Obj) (news : List (Addr × Obj)) (hlp : lp ∈ news) (hI : ∀ q ∈ news,q.1 ≠ I) :
    ∀ (zs : List Int) (lv : List Value),IntsAre lv zs → (∀ z ∈ zs,z.natAbs < 2 ^ 4000) → ∀ (m : Str → Option Value) (x : Int) (tx : Tok),m (Str.ofString "measure") = some (.int x tx) → x.natAbs < 2 ^ 4000 →
      (∀ h tk m' g tg,Fr h₀ L' h m' → News h₀ L' h news → m' (Str.ofString "measure") = some (.int g tg) → g.natAbs = gcdL x.natAbs zs → g.natAbs < 2 ^ 4000 → Q .next { s with heap := h,toks := tk }) →
      ListRest pw_ty0047_01 w ((ktrTop dp un gd cn cs L ad ccd cl outer).deeper (plEnv L')) E h₀ (plEnv L') (Str.ofString "number") [plWhile] Q s I lp lv m news := by
  w_top off
  intro zs lv hI2
  induction hI2 with
  | nil =>
    intro hz m x tx mx bx fin
    refine ListRest.zero fun h tk F N => ?_
    exact fin h tk m x tx F N mx rfl bx
  | cons z tz hI2 ih =>
    rename_i vs' ns'
    intro hz m x tx mx bx fin
    refine ListRest.succ fun it h tk hit F N => ?_
    have hz1 := hz z (.head _)
    k_steps
    have hg3 : g2.natAbs < 2 ^ 4000 := by
      rw [hg2]
      rcases Nat.eq_zero_or_pos x.natAbs with h | h
      · show Nat.gcd _ _ < _; rw [h,Nat.gcd_zero_left]; exact hz1
      · exact Nat.lt_of_le_of_lt (Nat.gcd_le_left _ h) bx
    refine UnrEnd.intro F2 N2 news (fun _ h => h) hI ⟨hlp,?_⟩
    refine ih (fun z h => hz z (.tail _ h)) m2 g2 tg2 mx2 hg3 fun h3 tk3 m3 g3 tg3 F3 N3 mx3 e3 b3 => ?_
    refine fin h3 tk3 m3 g3 tg3 F3 N3 mx3 ?_ b3
    rw [e3,hg2]
    rfl
theorem words_a28 : True := by
  k_with "pyIter ref" => ((with_reducible show wpAny _ _ (pyIter (Value.ref _)) (fun it s₂ => LoopAtV _ _ _ _ _ _ _ _ _ it s₂) _ _); k_dflt (refine iter_listUnr rfl (by k_asm) (by k_asm) (.head _) rfl rfl ?_); intro I lI)
  exact trivial
theorem pl_ctr (w : World) (p : Program) (loose : List Str) (mean : ExcName → Option Value) (mg mb : Str → Option Value) (D : Addr) (k : Nat) (lv : List Value) (zs : List Int) (hI : IntsAre lv zs) (hz : ∀ z ∈ zs,z.natAbs < 2 ^ 4000) :
   Ctr pw_ty0047_01 w (Mine.hd.heap_1 w.params) p loose mean mg mb 132 [.ref D] [] [(D,listOf lv.toArray k)] 12 80 (fun _ => True)
     (fun r tl => ∃ tv,r = .int (gcdL 0 zs : Nat) tv ∧ tl = [(D,listOf lv.toArray k)]) := by
  w_top off
  intro dp un gd cn cs ad ccd cl outer A₀ base h₀ L m s Q E B F X NN T hk hp hd hu hret
  refine wpAny_call ?_
  (k_dflt (refine' code_defX ?k1 ?k2 ?k3 ?k4 ?k5 ?kA ?kF ?kK ?k6 ?k7 ?k8 ?k9 ?kB ?_ ?c2 ?c3 ?c4 ?c5; (case kA => exact rfl); (case kF => exact rfl); (case kK => assumption); (case k1 => k_asm); (case k2 => k_asm); (case k3 => k_asm); (case k4 => k_asm); (case k5 => k_asm); (case k6 => k_is); (case k7 => k_is); (case k8 => ktr_room); (case k9 => first | exact BindsTo.of_eq rfl | exact binds_K (by k_in) rfl (by k_is) rfl rfl rfl); (case c5 => decide); (case kB => exact locs rfl); (case c2 => exact rfl); (case c3 => exact rfl); (case c4 => exact rfl); k_whole; intro _ _ _ _ _ _ _ _ _ _; (try dsimp only); (try k_fold)))
  rename_i gg LL _ hg FGx _ _ Bx Xx Tx
  k_steps
  k_dflt (refine pl_loop (w := w) hk Bx Xx Tx (by omega) (by omega) (by passes_own) I _ _ (.head _) (fun q hq => Nat.ne_of_lt (lI q hq)) zs lv hI hz _ 0 _ rfl (by decide) ?_)
  intro h3 tk3 m3 g3 tg3 F3 N3 mx3 e3 b3
  try dsimp only
  k_steps
  have e4 : (if g3 < 0 then -g3 else g3) = (gcdL 0 zs : Nat) := by
    rw [show Int.natAbs 0 = 0 from rfl] at e3
    split <;> omega
  rw [e4]
  exact ctr_ret hret hg F3 N3 ⟨_,rfl,rfl⟩
namespace C1
def PP_lv_tail1 (w : World) (p : Program) (loose : List Str) (mean : ExcName → Option Value) (mg : Str → Option Value) (mb : Str → Option Value) (dp : Nat) (un : Nat) (gd : Option (List Code)) (cn : Str) (cs : Scope) (ad : Addr) (ccd : Value) (cl : List (Str × Addr)) (outer : List Env) (L : Addr) (base : Heap) (h₀ : Heap) (L' : Addr) (s : Shared) (Q : Flow → Shared → Prop) (R : Result → Shared → Prop) (m : Str → Option Value) (a : Str) (b : Str) (ta : Tok) (tb : Tok) (tc : Tok) (tk : Tok) : Prop := ∀ (hk : cs.kind = .function) (B : Below (ktrTop dp un gd cn cs L ad ccd cl outer) base (envX cn cs L ad ccd cl::outer) h₀) (X : (Mine.hd.heap_1 w.params).In h₀) (T : Top p loose mean mg mb h₀) (hd : dp+10 < recursionLimit) (hu : un+60 < cLine) (F : Fr h₀ L' s.heap m) (N : News h₀ L' s.heap []) (ma : m (Str.ofString "a") = some (.str (Str.ofString "a") ta)) (mb' : m (Str.ofString "b") = some (.str (Str.ofString "b") tb)) (mc' : m (Str.ofString "max_cost") = some (.int 2 tc)) (fin : ∀ h tk' m' t',Fr h₀ L' h m' →  Q (.ret (.int 2 t')) { s with heap := h,toks := tk' }),
  wpAny (model pw_ty0047_01 w) ((ktrTop dp un gd cn cs L ad ccd cl outer).deeper (lvEnv L')) (execs lvTail (lvEnv L')) Q (fun e s' => wpAny (model pw_ty0047_01 w) ((ktrTop dp un gd cn cs L ad ccd cl outer).deeper (lvEnv L')) (leaving (lvEnv L') e) (fun _ s'' => R (.error e) s'') (fun e' s'' => R (.error e') s'') s') s
def PP_lv_tail2 (w : World) (p : Program) (loose : List Str) (mean : ExcName → Option Value) (mg : Str → Option Value) (mb : Str → Option Value) (dp : Nat) (un : Nat) (gd : Option (List Code)) (cn : Str) (cs : Scope) (ad : Addr) (ccd : Value) (cl : List (Str × Addr)) (outer : List Env) (L : Addr) (base : Heap) (h₀ : Heap) (L' : Addr) (s : Shared) (Q : Flow → Shared → Prop) (R : Result → Shared → Prop) (m : Str → Option Value) (a : Str) (b : Str) (ta : Tok) (tb : Tok) (tc : Tok) (tk : Tok) : Prop := ∀ (hk : cs.kind = .function) (B : Below (ktrTop dp un gd cn cs L ad ccd cl outer) base (envX cn cs L ad ccd cl::outer) h₀) (X : (Mine.hd.heap_1 w.params).In h₀) (T : Top p loose mean mg mb h₀) (hd : dp+10 < recursionLimit) (hu : un+60 < cLine) (F : Fr h₀ L' s.heap m) (N : News h₀ L' s.heap []) (ma : m (Str.ofString "a") = some (.str (Str.ofString "b") ta)) (mb' : m (Str.ofString "b") = some (.str (Str.ofString "a") tb)) (mc' : m (Str.ofString "max_cost") = some (.int 2 tc)) (fin : ∀ h tk' m' t',Fr h₀ L' h m' →  Q (.ret (.int 2 t')) { s with heap := h,toks := tk' }),
  wpAny (model pw_ty0047_01 w) ((ktrTop dp un gd cn cs L ad ccd cl outer).deeper (lvEnv L')) (execs lvTail (lvEnv L')) Q (fun e s' => wpAny (model pw_ty0047_01 w) ((ktrTop dp un gd cn cs L ad ccd cl outer).deeper (lvEnv L')) (leaving (lvEnv L') e) (fun _ s'' => R (.error e) s'') (fun e' s'' => R (.error e') s'') s') s
open PyProof.Rows.LCg PyProof.Rows.LCp in
def PP_block_E (prog : Program) (w : World) (A : Around) (E : Value → Shared → Prop) (h₀ : Heap) (L : Addr) (m : Str → Option Value) (env : Env) (elt : Expr) (iter : Expr) (x : Str) (x₂ : Str) (px : Pos) (px₂ : Pos) (tp : Pos) (tk0 : Nat) (scope : Scope) (cl : List (Str × Addr)) (pos : Pos) (s₂ : Shared) (e : Addr) (it : Addr) (l : Addr) (items : Array Value) (news : List (Addr × Obj)) (RR : Value → Addr → Result → Shared → Prop) (Y : Nat → Value → Prop) : Prop := ∀ (hcell : ∀ y ∈ scope.names,y.2 ≠ .cell) (hkind : scope.kind = .function) (hx : scope.names.lookup x = some .local) (hx₂ : scope.names.lookup x₂ = some .local) (hxx : x ≠ x₂) (hh : A.handled = none) (hE : ∃ old,IsEnum s₂.heap e it ((0 : Nat) : Int) old) (hit : s₂.heap.IsListIter it l 0) (hl : s₂.heap.IsList l items) (hei : e ≠ it) (hle : l ≠ e) (hli : l ≠ it) (hsz : items.size ≤ sizeLine) (F : Fr h₀ L s₂.heap m) (N : News h₀ L s₂.heap news) (off : ∀ p ∈ news,p.1 ≠ e ∧ p.1 ≠ it) (heL : e ≠ L) (hiL : it ≠ L) (he₀ : h₀.get? e = none) (hi₀ : h₀.get? it = none) (lm : ∃ lo,(l,lo) ∈ news ∧ lo.cls = .type "list" ∧ ∃ n,lo.data = .seq items n) (turn : ∀ i t x1 C oC zs m₂ h tk (E' : Value → Shared → Prop),items[i]? = some x1 → NsObj oC m₂ → m₂ x = some (.int ((i : Nat) : Int) t) → m₂ x₂ = some x1 → Fr h₀ L h m → News h₀ L h ((C,oC)::zs) → (∀ q ∈ news,q ∈ zs) → (∀ q ∈ zs,q.1 ≠ C) →
      wpAny (model prog w) A (eval elt (compEnvC scope cl C env)) (fun y s' => Y i y ∧ ∃ h' tk',s' = { s₂ with heap := h',toks := tk' } ∧ Fr h₀ L h' m ∧ News h₀ L h' ((C,oC)::zs)) E' { s₂ with heap := h,toks := tk }) (hRR : ∀ D C h tk m' ys,Fr h₀ L h m → News h₀ L h ((D,lst ys)::news) → (∀ q ∈ news,q.1 ≠ D) → h.Ns C m' → h₀.get? C = none → h₀.get? D = none → C ≠ L → D ≠ L → C ≠ D → (∀ p ∈ news,p.1 ≠ C) → ys.length = items.size → (∀ i y,ys[i]? = some y → Y i y) → RR (.ref D) C (.ok .next) { s₂ with heap := h,toks := tk }),
  wpAny (model prog w) A (newList []) (fun acc s₃ => wpAny (model prog w) A (newFunctionEnv scope env.globals cl [] env.qual none .none (some env)) (fun cenv s₄ =>
      codeAny (model prog w) A (.compStart (.ListComp elt [⟨.Tuple [.Name x px,.Name x₂ px₂] tk0 tp,iter,[],0⟩] scope pos) 0 (.ref e) acc { cenv with scope := relabel scope env }) (RR acc cenv.locals) s₄) E s₃) E s₂
def PP_bsr_loop (w : World) (p : Program) (loose : List Str) (mean : ExcName → Option Value) (mg : Str → Option Value) (mb : Str → Option Value) (dp : Nat) (un : Nat) (gd : Option (List Code)) (cn : Str) (cs : Scope) (ad : Addr) (ccd : Value) (cl : List (Str × Addr)) (outer : List Env) (L : Addr) (base : Heap) (h₀ : Heap) (L' : Addr) (s : Shared) (Q : Flow → Shared → Prop) (E : Value → Shared → Prop) (m : Str → Option Value) (led : List (Addr × Obj)) (D : Addr) (K : Addr) (xs : List Value) (hs : List UInt64) (lk : Nat) (lo : Nat) (hi : Nat) (x : UInt64) (tx : Tok) (tl : Tok) (th : Tok) : Prop := ∀ (hk : cs.kind = .function) (B : Below (ktrTop dp un gd cn cs L ad ccd cl outer) base (envX cn cs L ad ccd cl::outer) h₀) (X : (Mine.hd.heap_1 w.params).In h₀) (T : Top p loose mean mg mb h₀) (hd : dp+10 < recursionLimit) (hu : un+60 < cLine) (hE : PassesOwn (model pw_ty0047_01 w) ((ktrTop dp un gd cn cs L ad ccd cl outer).deeper (bsrEnv L')) (bsrEnv L') E) (HL : HueL led D xs lk hs) (LL : LamL led K) (F : Fr h₀ L' s.heap m) (N : News h₀ L' s.heap led) (ma : m (Str.ofString "a") = some (.ref D)) (mx : m (Str.ofString "x") = some (.float x tx)) (mk : m (Str.ofString "key") = some (.ref K)) (ml : m (Str.ofString "lo") = some (.int (lo : Int) tl)) (mh : m (Str.ofString "hi") = some (.int (hi : Int) th)) (hhi : hi ≤ hs.length) (fin : ∀ h tk' m' tk2,Fr h₀ L' h m' → News h₀ L' h led → m' (Str.ofString "lo") = some (.int (bisR x hs hs.length lo hi : Nat) tk2) → Q .next { s with heap := h,toks := tk' }),
  wpAny (model pw_ty0047_01 w) ((ktrTop dp un gd cn cs L ad ccd cl outer).deeper (bsrEnv L')) (exec bsrWhile (bsrEnv L')) Q E s
def PP_bsl_loop (w : World) (p : Program) (loose : List Str) (mean : ExcName → Option Value) (mg : Str → Option Value) (mb : Str → Option Value) (dp : Nat) (un : Nat) (gd : Option (List Code)) (cn : Str) (cs : Scope) (ad : Addr) (ccd : Value) (cl : List (Str × Addr)) (outer : List Env) (L : Addr) (base : Heap) (h₀ : Heap) (L' : Addr) (s : Shared) (Q : Flow → Shared → Prop) (E : Value → Shared → Prop) (m : Str → Option Value) (led : List (Addr × Obj)) (D : Addr) (K : Addr) (xs : List Value) (hs : List UInt64) (lk : Nat) (lo : Nat) (hi : Nat) (x : UInt64) (tx : Tok) (tl : Tok) (th : Tok) : Prop := ∀ (hk : cs.kind = .function) (B : Below (ktrTop dp un gd cn cs L ad ccd cl outer) base (envX cn cs L ad ccd cl::outer) h₀) (X : (Mine.hd.heap_1 w.params).In h₀) (T : Top p loose mean mg mb h₀) (hd : dp+10 < recursionLimit) (hu : un+60 < cLine) (hE : PassesOwn (model pw_ty0047_01 w) ((ktrTop dp un gd cn cs L ad ccd cl outer).deeper (bslEnv L')) (bslEnv L') E) (HL : HueL led D xs lk hs) (LL : LamL led K) (F : Fr h₀ L' s.heap m) (N : News h₀ L' s.heap led) (ma : m (Str.ofString "a") = some (.ref D)) (mx : m (Str.ofString "x") = some (.float x tx)) (mk : m (Str.ofString "key") = some (.ref K)) (ml : m (Str.ofString "lo") = some (.int (lo : Int) tl)) (mh : m (Str.ofString "hi") = some (.int (hi : Int) th)) (hhi : hi ≤ hs.length) (fin : ∀ h tk' m' tk2,Fr h₀ L' h m' → News h₀ L' h led → m' (Str.ofString "lo") = some (.int (bisLf x hs hs.length lo hi : Nat) tk2) → Q .next { s with heap := h,toks := tk' }),
  wpAny (model pw_ty0047_01 w) ((ktrTop dp un gd cn cs L ad ccd cl outer).deeper (bslEnv L')) (exec bslWhile (bslEnv L')) Q E s
def PP_lv_test2 (w : World) (p : Program) (loose : List Str) (mean : ExcName → Option Value) (mg : Str → Option Value) (mb : Str → Option Value) (dp : Nat) (un : Nat) (gd : Option (List Code)) (cn : Str) (cs : Scope) (ad : Addr) (ccd : Value) (cl : List (Str × Addr)) (outer : List Env) (L : Addr) (base : Heap) (h₀ : Heap) (L' : Addr) (s : Shared) (Q : Bool → Shared → Prop) (E : Value → Shared → Prop) (m : Str → Option Value) (news : List (Addr × Obj)) (a : Str) (b : Str) (ta : Tok) (tb : Tok) (tk : Tok) : Prop := ∀ (hk : cs.kind = .function) (B : Below (ktrTop dp un gd cn cs L ad ccd cl outer) base (envX cn cs L ad ccd cl::outer) h₀) (X : (Mine.hd.heap_1 w.params).In h₀) (T : Top p loose mean mg mb h₀) (hd : dp+10 < recursionLimit) (hu : un+60 < cLine) {k : Nat} (F : Fr h₀ L' s.heap m) (N : News h₀ L' s.heap news) (ma : m (Str.ofString "a") = some (.str a ta)) (mb' : m (Str.ofString "b") = some (.str b tb)) (mp : m (Str.ofString "post") = some (.int (-(k : Int)) tk)) (hka : k ≤ a.length) (hkb : k ≤ b.length) (ha : a.length ≤ 20) (hb : b.length ≤ 20) (fin : ∀ c h tk',Fr h₀ L' h m → News h₀ L' h news → c = postB a b k → Q c { s with heap := h,toks := tk' }),
  wpAny (model pw_ty0047_01 w) ((ktrTop dp un gd cn cs L ad ccd cl outer).deeper (lvEnv L')) (isTrue lvTest2 (lvEnv L') (eval lvTest2 (lvEnv L'))) Q E s
def PP_lv_cut (w : World) (p : Program) (loose : List Str) (mean : ExcName → Option Value) (mg : Str → Option Value) (mb : Str → Option Value) (dp : Nat) (un : Nat) (gd : Option (List Code)) (cn : Str) (cs : Scope) (ad : Addr) (ccd : Value) (cl : List (Str × Addr)) (outer : List Env) (L : Addr) (base : Heap) (h₀ : Heap) (L' : Addr) (s : Shared) (Q : Flow → Shared → Prop) (E : Value → Shared → Prop) (m : Str → Option Value) (news : List (Addr × Obj)) (a : Str) (b : Str) (ta : Tok) (tb : Tok) (tc : Tok) (tk : Tok) (mc : Value) (rest : List Stmt) : Prop := ∀ (hk : cs.kind = .function) (B : Below (ktrTop dp un gd cn cs L ad ccd cl outer) base (envX cn cs L ad ccd cl::outer) h₀) (X : (Mine.hd.heap_1 w.params).In h₀) (T : Top p loose mean mg mb h₀) (hd : dp+10 < recursionLimit) (hu : un+60 < cLine) {K : Nat} (F : Fr h₀ L' s.heap m) (N : News h₀ L' s.heap news) (ma : m (Str.ofString "a") = some (.str a ta)) (mb' : m (Str.ofString "b") = some (.str b tb)) (mc' : m (Str.ofString "max_cost") = some mc) (mp : m (Str.ofString "post") = some (.int (-(K : Int)) tk)) (hKa : K ≤ a.length) (hKb : K ≤ b.length) (ha : a.length ≤ 20) (hb : b.length ≤ 20) (fin : ∀ h tk' m' ta' tb',Fr h₀ L' h m' → News h₀ L' h news → m' (Str.ofString "a") = some (.str (if K = 0 then Txt.slice a none none else Txt.slice a none (some (-(K : Int)))) ta') → m' (Str.ofString "b") = some (.str (if K = 0 then Txt.slice b none none else Txt.slice b none (some (-(K : Int)))) tb') → m' (Str.ofString "max_cost") = some mc → wpAny (model pw_ty0047_01 w) ((ktrTop dp un gd cn cs L ad ccd cl outer).deeper (lvEnv L')) (execs rest (lvEnv L')) Q E { s with heap := h,toks := tk' }),
  wpAny (model pw_ty0047_01 w) ((ktrTop dp un gd cn cs L ad ccd cl outer).deeper (lvEnv L')) (execs (lvS7::lvS8::rest) (lvEnv L')) Q E s
def PP_tab_elt (w : World) (p : Program) (loose : List Str) (mean : ExcName → Option Value) (mg : Str → Option Value) (mb : Str → Option Value) (dp : Nat) (un : Nat) (gd : Option (List Code)) (cn : Str) (cs : Scope) (ad : Addr) (ccd : Value) (cl : List (Str × Addr)) (outer : List Env) (L : Addr) (base : Heap) (h₀ : Heap) (L' : Addr) (s : Shared) (Q : Flow → Shared → Prop) (E : Value → Shared → Prop) (m : Str → Option Value) (TT : Addr) (Lr : Addr) (U : Addr) (rp : Addr) (vi : List Value) (ap : List Value) (usv : List Value) (us : List Int) (pl : List Int) (kT : Nat) (kU : Nat) (kp : Nat) (kl : Nat) (i : Int) (b : Int) (ti : Tok) (tb : Tok) (zs : List (Addr × Obj)) (lv : List Value) (j : Int) (x : Int) (tj : Tok) (tx : Tok) : Prop := ∀ (hk : cs.kind = .function) (B : Below (ktrTop dp un gd cn cs L ad ccd cl outer) base (envX cn cs L ad ccd cl::outer) h₀) (X : (Mine.hd.heap_1 w.params).In h₀) (T : Top p loose mean mg mb h₀) (hd : dp+10 < recursionLimit) (hu : un+60 < cLine) (F : Fr h₀ L' s.heap m) (N : News h₀ L' s.heap ((Lr,listOf (lv ++ [Value.int x tx]).toArray kl)::zs)) (hT : (TT,listOf (vi ++ [Value.ref rp]).toArray kT) ∈ zs) (hU : (U,listOf usv.toArray kU) ∈ zs) (hp : (rp,listOf ap.toArray kp) ∈ zs) (hLz : ∀ q ∈ zs,q.1 ≠ Lr) (hUi : IntsAre usv us) (hul : us.length = 10) (hpi : IntsAre ap pl) (hpl : pl.length = 6) (mi : m (Str.ofString "i") = some (.int i ti)) (mt : m (Str.ofString "table") = some (.ref TT)) (mu : m (Str.ofString "units") = some (.ref U)) (ms : m (Str.ofString "second") = some (.int b tb)) (i1 : 1 ≤ i) (i5 : i ≤ 5) (hb : bnd60 b) (mj : m (Str.ofString "j") = some (.int j tj)) (ml : m (Str.ofString "line") = some (.ref Lr)) (j1 : 1 ≤ j) (j5 : j ≤ 5) (bu : bnd60 (us.getD (j+1).toNat 0)) (bc : bnd60 (b * us.getD (i - 1).toNat 0)) (hsz : lv.length ≤ 8) (fin : ∀ h tk t,Fr h₀ L' h m → News h₀ L' h ((Lr,listOf (lv ++ [Value.int x tx] ++ [Value.int (us.getD (j+1).toNat 0 * pl.getD j.toNat 0 - b * us.getD (i - 1).toNat 0 * x) t]).toArray (kl+1))::zs) → Q .next { s with heap := h,toks := tk }),
  wpAny (model pw_ty0047_01 w) ((ktrTop dp un gd cn cs L ad ccd cl outer).deeper (tbEnv L')) (exec tbElt (tbEnv L')) Q E s
def PP_ru_while (w : World) (p : Program) (loose : List Str) (mean : ExcName → Option Value) (mg : Str → Option Value) (mb : Str → Option Value) (dp : Nat) (un : Nat) (gd : Option (List Code)) (cn : Str) (cs : Scope) (ad : Addr) (ccd : Value) (cl : List (Str × Addr)) (outer : List Env) (L : Addr) (base : Heap) (h₀ : Heap) (L' : Addr) (s : Shared) (Q : Flow → Shared → Prop) (E : Value → Shared → Prop) (c30 : Addr) (c37 : Addr) (o30 : Obj) (o37 : Obj) (I : Addr) (D : Addr) (it : Obj) (lo : Obj) (m : Str → Option Value) (x : Int) (y : Int) (tx : Tok) (ty : Tok) : Prop := ∀ (hk : cs.kind = .function) (B : Below (ktrTop dp un gd cn cs L ad ccd cl outer) base (envX cn cs L ad ccd cl::outer) h₀) (X : (Mine.hd.heap_1 w.params).In h₀) (T : Top p loose mean mg mb h₀) (hd : dp+40 < recursionLimit) (hu : un+300 < cLine) (hE : PassesOwn (model pw_ty0047_01 w) ((ktrTop dp un gd cn cs L ad ccd cl outer).deeper (ruEnv L')) (ruEnv L') E) (hC1 : CodeHd h₀ 34 30) (hC2 : CodeHd h₀ 41 37) (DL : DmL c30 c37 o30 o37) (hID : I ∉ addrs (mtL c30 c37 o30 o37)) (hD : D ∉ addrs (mtL c30 c37 o30 o37)) (F : Fr h₀ L' s.heap m) (N : News h₀ L' s.heap ((I,it)::(D,lo)::mtL c30 c37 o30 o37)) (mx : m (Str.ofString "measure") = some (.int x tx)) (my : m (Str.ofString "number") = some (.int y ty)) (bx : x.natAbs < 2 ^ 4000) (by' : y.natAbs < 2 ^ 4000) (fin : ∀ h tk m' g tg,Fr h₀ L' h m' → News h₀ L' h ((I,it)::(D,lo)::mtL c30 c37 o30 o37) → m' (Str.ofString "measure") = some (.int g tg) → g.natAbs = Int.gcd x y → Q .next { s with heap := h,toks := tk }),
  wpAny (model pw_ty0047_01 w) ((ktrTop dp un gd cn cs L ad ccd cl outer).deeper (ruEnv L')) (exec ruWhile (ruEnv L')) Q E s
abbrev VV : Type := (Nat → World) × (Nat → Program) × (Nat → (List Str)) × (Nat → (ExcName → Option Value)) × (Nat → (Str → Option Value)) × (Nat → Nat) × (Nat → (Option (List Code))) × (Nat → Str) × (Nat → Scope) × (Nat → Addr) × (Nat → Value) × (Nat → (List (Str × Addr))) × (Nat → (List Env)) × (Nat → Heap) × (Nat → Shared) × (Nat → (Flow → Shared → Prop)) × (Nat → (Result → Shared → Prop)) × (Nat → Tok) × (Nat → Around) × (Nat → (Value → Shared → Prop)) × (Nat → Env) × (Nat → Expr) × (Nat → Pos) × (Nat → (Array Value)) × (Nat → (List (Addr × Obj))) × (Nat → (Value → Addr → Result → Shared → Prop)) × (Nat → (Nat → Value → Prop)) × (Nat → (List Value)) × (Nat → (List UInt64)) × (Nat → UInt64) × (Nat → (Bool → Shared → Prop)) × (Nat → (List Stmt)) × (Nat → (List Int)) × (Nat → Int) × (Nat → Obj)
noncomputable def pj0 (v : VV) : Nat → World := v.1
noncomputable def pj1 (v : VV) : Nat → Program := v.2.1
noncomputable def pj2 (v : VV) : Nat → (List Str) := v.2.2.1
noncomputable def pj3 (v : VV) : Nat → (ExcName → Option Value) := v.2.2.2.1
noncomputable def pj4 (v : VV) : Nat → (Str → Option Value) := v.2.2.2.2.1
noncomputable def pj5 (v : VV) : Nat → Nat := v.2.2.2.2.2.1
noncomputable def pj6 (v : VV) : Nat → (Option (List Code)) := v.2.2.2.2.2.2.1
noncomputable def pj7 (v : VV) : Nat → Str := v.2.2.2.2.2.2.2.1
noncomputable def pj8 (v : VV) : Nat → Scope := v.2.2.2.2.2.2.2.2.1
noncomputable def pj9 (v : VV) : Nat → Addr := v.2.2.2.2.2.2.2.2.2.1
noncomputable def pj10 (v : VV) : Nat → Value := v.2.2.2.2.2.2.2.2.2.2.1
noncomputable def pj11 (v : VV) : Nat → (List (Str × Addr)) := v.2.2.2.2.2.2.2.2.2.2.2.1
noncomputable def pj12 (v : VV) : Nat → (List Env) := v.2.2.2.2.2.2.2.2.2.2.2.2.1
noncomputable def pj13 (v : VV) : Nat → Heap := v.2.2.2.2.2.2.2.2.2.2.2.2.2.1
noncomputable def pj14 (v : VV) : Nat → Shared := v.2.2.2.2.2.2.2.2.2.2.2.2.2.2.1
noncomputable def pj15 (v : VV) : Nat → (Flow → Shared → Prop) := v.2.2.2.2.2.2.2.2.2.2.2.2.2.2.2.1
noncomputable def pj16 (v : VV) : Nat → (Result → Shared → Prop) := v.2.2.2.2.2.2.2.2.2.2.2.2.2.2.2.2.1
noncomputable def pj17 (v : VV) : Nat → Tok := v.2.2.2.2.2.2.2.2.2.2.2.2.2.2.2.2.2.1
noncomputable def pj18 (v : VV) : Nat → Around := v.2.2.2.2.2.2.2.2.2.2.2.2.2.2.2.2.2.2.1
noncomputable def pj19 (v : VV) : Nat → (Value → Shared → Prop) := v.2.2.2.2.2.2.2.2.2.2.2.2.2.2.2.2.2.2.2.1
noncomputable def pj20 (v : VV) : Nat → Env := v.2.2.2.2.2.2.2.2.2.2.2.2.2.2.2.2.2.2.2.2.1
noncomputable def pj21 (v : VV) : Nat → Expr := v.2.2.2.2.2.2.2.2.2.2.2.2.2.2.2.2.2.2.2.2.2.1
noncomputable def pj22 (v : VV) : Nat → Pos := v.2.2.2.2.2.2.2.2.2.2.2.2.2.2.2.2.2.2.2.2.2.2.1
noncomputable def pj23 (v : VV) : Nat → (Array Value) := v.2.2.2.2.2.2.2.2.2.2.2.2.2.2.2.2.2.2.2.2.2.2.2.1
noncomputable def pj24 (v : VV) : Nat → (List (Addr × Obj)) := v.2.2.2.2.2.2.2.2.2.2.2.2.2.2.2.2.2.2.2.2.2.2.2.2.1
noncomputable def pj25 (v : VV) : Nat → (Value → Addr → Result → Shared → Prop) := v.2.2.2.2.2.2.2.2.2.2.2.2.2.2.2.2.2.2.2.2.2.2.2.2.2.1
noncomputable def pj26 (v : VV) : Nat → (Nat → Value → Prop) := v.2.2.2.2.2.2.2.2.2.2.2.2.2.2.2.2.2.2.2.2.2.2.2.2.2.2.1
noncomputable def pj27 (v : VV) : Nat → (List Value) := v.2.2.2.2.2.2.2.2.2.2.2.2.2.2.2.2.2.2.2.2.2.2.2.2.2.2.2.1
noncomputable def pj28 (v : VV) : Nat → (List UInt64) := v.2.2.2.2.2.2.2.2.2.2.2.2.2.2.2.2.2.2.2.2.2.2.2.2.2.2.2.2.1
noncomputable def pj29 (v : VV) : Nat → UInt64 := v.2.2.2.2.2.2.2.2.2.2.2.2.2.2.2.2.2.2.2.2.2.2.2.2.2.2.2.2.2.1
noncomputable def pj30 (v : VV) : Nat → (Bool → Shared → Prop) := v.2.2.2.2.2.2.2.2.2.2.2.2.2.2.2.2.2.2.2.2.2.2.2.2.2.2.2.2.2.2.1
noncomputable def pj31 (v : VV) : Nat → (List Stmt) := v.2.2.2.2.2.2.2.2.2.2.2.2.2.2.2.2.2.2.2.2.2.2.2.2.2.2.2.2.2.2.2.1
noncomputable def pj32 (v : VV) : Nat → (List Int) := v.2.2.2.2.2.2.2.2.2.2.2.2.2.2.2.2.2.2.2.2.2.2.2.2.2.2.2.2.2.2.2.2.1
noncomputable def pj33 (v : VV) : Nat → Int := v.2.2.2.2.2.2.2.2.2.2.2.2.2.2.2.2.2.2.2.2.2.2.2.2.2.2.2.2.2.2.2.2.2.1
noncomputable def pj34 (v : VV) : Nat → Obj := v.2.2.2.2.2.2.2.2.2.2.2.2.2.2.2.2.2.2.2.2.2.2.2.2.2.2.2.2.2.2.2.2.2.2
def GG (v : VV) : Prop := PP_lv_tail1 (pj0 v 0) (pj1 v 0) (pj2 v 0) (pj3 v 0) (pj4 v 0) (pj4 v 1) (pj5 v 0) (pj5 v 1) (pj6 v 0) (pj7 v 0) (pj8 v 0) (pj9 v 0) (pj10 v 0) (pj11 v 0) (pj12 v 0) (pj9 v 1) (pj13 v 0) (pj13 v 1) (pj9 v 2) (pj14 v 0) (pj15 v 0) (pj16 v 0) (pj4 v 2) (pj7 v 1) (pj7 v 2) (pj17 v 0) (pj17 v 1) (pj17 v 2) (pj17 v 3) ∧
  PP_lv_tail2 (pj0 v 0) (pj1 v 0) (pj2 v 0) (pj3 v 0) (pj4 v 0) (pj4 v 1) (pj5 v 0) (pj5 v 1) (pj6 v 0) (pj7 v 0) (pj8 v 0) (pj9 v 0) (pj10 v 0) (pj11 v 0) (pj12 v 0) (pj9 v 1) (pj13 v 0) (pj13 v 1) (pj9 v 2) (pj14 v 0) (pj15 v 0) (pj16 v 0) (pj4 v 2) (pj7 v 1) (pj7 v 2) (pj17 v 0) (pj17 v 1) (pj17 v 2) (pj17 v 3) ∧
  PP_block_E (pj1 v 1) (pj0 v 0) (pj18 v 0) (pj19 v 0) (pj13 v 1) (pj9 v 1) (pj4 v 2) (pj20 v 0) (pj21 v 0) (pj21 v 1) (pj7 v 3) (pj7 v 4) (pj22 v 0) (pj22 v 1) (pj22 v 2) (pj5 v 2) (pj8 v 1) (pj11 v 0) (pj22 v 3) (pj14 v 1) (pj9 v 3) (pj9 v 4) (pj9 v 5) (pj23 v 0) (pj24 v 0) (pj25 v 0) (pj26 v 0) ∧
  PP_bsr_loop (pj0 v 0) (pj1 v 0) (pj2 v 0) (pj3 v 0) (pj4 v 0) (pj4 v 1) (pj5 v 0) (pj5 v 1) (pj6 v 0) (pj7 v 0) (pj8 v 0) (pj9 v 0) (pj10 v 0) (pj11 v 0) (pj12 v 0) (pj9 v 1) (pj13 v 0) (pj13 v 1) (pj9 v 2) (pj14 v 0) (pj15 v 0) (pj19 v 0) (pj4 v 2) (pj24 v 1) (pj9 v 6) (pj9 v 7) (pj27 v 0) (pj28 v 0) (pj5 v 3) (pj5 v 4) (pj5 v 5) (pj29 v 0) (pj17 v 4) (pj17 v 5) (pj17 v 6) ∧
  PP_bsl_loop (pj0 v 0) (pj1 v 0) (pj2 v 0) (pj3 v 0) (pj4 v 0) (pj4 v 1) (pj5 v 0) (pj5 v 1) (pj6 v 0) (pj7 v 0) (pj8 v 0) (pj9 v 0) (pj10 v 0) (pj11 v 0) (pj12 v 0) (pj9 v 1) (pj13 v 0) (pj13 v 1) (pj9 v 2) (pj14 v 0) (pj15 v 0) (pj19 v 0) (pj4 v 2) (pj24 v 1) (pj9 v 6) (pj9 v 7) (pj27 v 0) (pj28 v 0) (pj5 v 3) (pj5 v 4) (pj5 v 5) (pj29 v 0) (pj17 v 4) (pj17 v 5) (pj17 v 6) ∧
  PP_lv_test2 (pj0 v 0) (pj1 v 0) (pj2 v 0) (pj3 v 0) (pj4 v 0) (pj4 v 1) (pj5 v 0) (pj5 v 1) (pj6 v 0) (pj7 v 0) (pj8 v 0) (pj9 v 0) (pj10 v 0) (pj11 v 0) (pj12 v 0) (pj9 v 1) (pj13 v 0) (pj13 v 1) (pj9 v 2) (pj14 v 0) (pj30 v 0) (pj19 v 0) (pj4 v 2) (pj24 v 0) (pj7 v 1) (pj7 v 2) (pj17 v 0) (pj17 v 1) (pj17 v 3) ∧
  PP_lv_cut (pj0 v 0) (pj1 v 0) (pj2 v 0) (pj3 v 0) (pj4 v 0) (pj4 v 1) (pj5 v 0) (pj5 v 1) (pj6 v 0) (pj7 v 0) (pj8 v 0) (pj9 v 0) (pj10 v 0) (pj11 v 0) (pj12 v 0) (pj9 v 1) (pj13 v 0) (pj13 v 1) (pj9 v 2) (pj14 v 0) (pj15 v 0) (pj19 v 0) (pj4 v 2) (pj24 v 0) (pj7 v 1) (pj7 v 2) (pj17 v 0) (pj17 v 1) (pj17 v 2) (pj17 v 3) (pj10 v 1) (pj31 v 0) ∧
  PP_tab_elt (pj0 v 0) (pj1 v 0) (pj2 v 0) (pj3 v 0) (pj4 v 0) (pj4 v 1) (pj5 v 0) (pj5 v 1) (pj6 v 0) (pj7 v 0) (pj8 v 0) (pj9 v 0) (pj10 v 0) (pj11 v 0) (pj12 v 0) (pj9 v 1) (pj13 v 0) (pj13 v 1) (pj9 v 2) (pj14 v 0) (pj15 v 0) (pj19 v 0) (pj4 v 2) (pj9 v 8) (pj9 v 9) (pj9 v 10) (pj9 v 11) (pj27 v 1) (pj27 v 2) (pj27 v 3) (pj32 v 0) (pj32 v 1) (pj5 v 6) (pj5 v 7) (pj5 v 8) (pj5 v 9) (pj33 v 0) (pj33 v 1) (pj17 v 7) (pj17 v 1) (pj24 v 2) (pj27 v 4) (pj33 v 2) (pj33 v 3) (pj17 v 8) (pj17 v 4) ∧
  PP_ru_while (pj0 v 0) (pj1 v 0) (pj2 v 0) (pj3 v 0) (pj4 v 0) (pj4 v 1) (pj5 v 0) (pj5 v 1) (pj6 v 0) (pj7 v 0) (pj8 v 0) (pj9 v 0) (pj10 v 0) (pj11 v 0) (pj12 v 0) (pj9 v 1) (pj13 v 0) (pj13 v 1) (pj9 v 2) (pj14 v 0) (pj15 v 0) (pj19 v 0) (pj9 v 12) (pj9 v 13) (pj34 v 0) (pj34 v 1) (pj9 v 14) (pj9 v 6) (pj34 v 2) (pj34 v 3) (pj4 v 2) (pj33 v 3) (pj33 v 4) (pj17 v 4) (pj17 v 9)
set_option synthInstance.maxSize 4000 in
set_option synthInstance.maxHeartbeats 400000 in
noncomputable def cc : VV := pick (by have h1 := ne_World; have h2 := ne_Around; have h3 := ne_Shared; infer_instance) GG
noncomputable section
@[irreducible] def w := pj0 cc 0
@[irreducible] def p := pj1 cc 0
@[irreducible] def loose := pj2 cc 0
@[irreducible] def mean := pj3 cc 0
@[irreducible] def mg := pj4 cc 0
@[irreducible] def mb := pj4 cc 1
@[irreducible] def dp := pj5 cc 0
@[irreducible] def un := pj5 cc 1
@[irreducible] def gd := pj6 cc 0
@[irreducible] def cn := pj7 cc 0
@[irreducible] def cs := pj8 cc 0
@[irreducible] def ad := pj9 cc 0
@[irreducible] def ccd := pj10 cc 0
@[irreducible] def cl := pj11 cc 0
@[irreducible] def outer := pj12 cc 0
@[irreducible] def L := pj9 cc 1
@[irreducible] def base := pj13 cc 0
@[irreducible] def h₀ := pj13 cc 1
@[irreducible] def L' := pj9 cc 2
@[irreducible] def s := pj14 cc 0
@[irreducible] def Q := pj15 cc 0
@[irreducible] def R := pj16 cc 0
@[irreducible] def m := pj4 cc 2
@[irreducible] def a := pj7 cc 1
@[irreducible] def b := pj7 cc 2
@[irreducible] def ta := pj17 cc 0
@[irreducible] def tb := pj17 cc 1
@[irreducible] def tc := pj17 cc 2
@[irreducible] def tk := pj17 cc 3
@[irreducible] def prog := pj1 cc 1
@[irreducible] def A := pj18 cc 0
@[irreducible] def E := pj19 cc 0
@[irreducible] def env := pj20 cc 0
@[irreducible] def elt := pj21 cc 0
@[irreducible] def iter := pj21 cc 1
@[irreducible] def x := pj29 cc 0
@[irreducible] def x₂ := pj7 cc 4
@[irreducible] def px := pj22 cc 0
@[irreducible] def px₂ := pj22 cc 1
@[irreducible] def tp := pj22 cc 2
@[irreducible] def tk0 := pj5 cc 2
@[irreducible] def scope := pj8 cc 1
@[irreducible] def pos := pj22 cc 3
@[irreducible] def s₂ := pj14 cc 1
@[irreducible] def e := pj9 cc 3
@[irreducible] def it := pj9 cc 4
@[irreducible] def l := pj9 cc 5
@[irreducible] def items := pj23 cc 0
@[irreducible] def news := pj24 cc 0
@[irreducible] def RR := pj25 cc 0
@[irreducible] def Y := pj26 cc 0
@[irreducible] def led := pj24 cc 1
@[irreducible] def D := pj9 cc 6
@[irreducible] def K := pj9 cc 7
@[irreducible] def xs := pj27 cc 0
@[irreducible] def hs := pj28 cc 0
@[irreducible] def lk := pj5 cc 3
@[irreducible] def lo := pj5 cc 4
@[irreducible] def hi := pj5 cc 5
@[irreducible] def tx := pj17 cc 4
@[irreducible] def tl := pj17 cc 5
@[irreducible] def th := pj17 cc 6
@[irreducible] def mc := pj10 cc 1
@[irreducible] def rest := pj31 cc 0
@[irreducible] def TT := pj9 cc 8
@[irreducible] def Lr := pj9 cc 9
@[irreducible] def U := pj9 cc 10
@[irreducible] def rp := pj9 cc 11
@[irreducible] def vi := pj27 cc 1
@[irreducible] def ap := pj27 cc 2
@[irreducible] def usv := pj27 cc 3
@[irreducible] def us := pj32 cc 0
@[irreducible] def pl := pj32 cc 1
@[irreducible] def kT := pj5 cc 6
@[irreducible] def kU := pj5 cc 7
@[irreducible] def kp := pj5 cc 8
@[irreducible] def kl := pj5 cc 9
@[irreducible] def i := pj33 cc 0
@[irreducible] def ti := pj17 cc 7
@[irreducible] def zs := pj24 cc 2
@[irreducible] def lv := pj27 cc 4
@[irreducible] def j := pj33 cc 2
@[irreducible] def tj := pj17 cc 8
@[irreducible] def c30 := pj9 cc 12
@[irreducible] def c37 := pj9 cc 13
@[irreducible] def o30 := pj34 cc 0
@[irreducible] def o37 := pj34 cc 1
@[irreducible] def I := pj9 cc 14
@[irreducible] def y := pj33 cc 4
@[irreducible] def ty := pj17 cc 9
end
namespace X_block_E
@[irreducible] noncomputable def x := pj7 cc 3
open PyProof.Rows.LCg PyProof.Rows.LCp in
theorem core_block_E : PP_block_E prog w A E h₀ L m env elt iter x x₂ px px₂ tp tk0 scope cl pos s₂ e it l items news RR Y := by
  intro hcell hkind hx hx₂ hxx hh hE hit hl hei hle hli hsz F N off heL hiL he₀ hi₀ lm turn hRR
  have W := WalksT.enumerate (prog := prog) (w := w) (A := A) hh e it l hei hle hli items
  refine wpAny_newObj_type (wpAny_newFunctionEnv hcell (by intro y hy; simp at hy) (fun h₁ hns₁ hsb₁ => ?_) hkind)
  dsimp only at hns₁ hsb₁ ⊢
  generalize hH2 : s₂.heap.push { cls := .type "list", dict := none,data := .seq ([] : List Value).toArray } = H2 at hns₁ hsb₁ ⊢
  have hC : H2.objs.size = s₂.heap.objs.size+1 := by rw [← hH2,Heap.size_push]
  generalize hDs : s₂.heap.objs.size = D at *
  generalize hCs : H2.objs.size = C at *
  have hDC : @Ne Nat D C := by rw [hC]; exact Nat.ne_of_lt (Nat.lt_succ_self _)
  have old2 : ∀ b o,s₂.heap.get? b = some o → b < D := fun b o h => hDs ▸ Heap.lt_size h
  have below : ∀ b o,s₂.heap.get? b = some o → @Ne Nat b C ∧ @Ne Nat b D := fun b o h => ⟨Nat.ne_of_lt (hC ▸ Nat.lt_succ_of_lt (old2 b o h)),Nat.ne_of_lt (old2 b o h)⟩
  have old : ∀ b o,s₂.heap.get? b = some o → h₁.get? b = some o := fun b o h => hsb₁.extBut b o (below b o h).1 (Heap.get?_push_of_some _ (hH2 ▸ Heap.get?_push_of_some _ h))
  have hacc : h₁.get? D = some (lst []) := hsb₁.extBut _ _ hDC (Heap.get?_push_of_some _ (hH2 ▸ hDs ▸ Heap.get?_push_size _ rfl))
  have fresh₀ : ∀ a,D ≤ a → h₀.get? a = none := fun a ha => by
    cases e9 : h₀.get? a with
    | none => rfl
    | some o' => exact absurd (old2 _ _ (F.keep a o' e9)) (Nat.not_lt.mpr ha)
  have hD₀ : h₀.get? D = none := fresh₀ _ (Nat.le_refl _)
  have hC₀ : h₀.get? C = none := fresh₀ _ (by rw [hC]; exact Nat.le_succ _)
  have hLlt : L < D := hDs ▸ F.ns.lt
  have hDL : D ≠ L := Nat.ne_of_gt hLlt
  have hCL : C ≠ L := by rw [hC]; exact Nat.ne_of_gt (Nat.lt_succ_of_lt hLlt)
  obtain ⟨old0,hE⟩ := hE
  have e2 := below _ _ hE
  have i2 : @Ne Nat it C ∧ @Ne Nat it D := by obtain ⟨o,ho,_⟩ := hit; exact below _ _ ho
  have l2 : @Ne Nat l C ∧ @Ne Nat l D := by obtain ⟨o,ho,_⟩ := hl; exact below _ _ ho
  have n2 : ∀ p ∈ news,@Ne Nat p.1 C ∧ @Ne Nat p.1 D := fun p hp => below _ _ (N p hp).1
  have hst₁ := W.frame 0 _ h₁ ⟨⟨old0,hE⟩,hit,hl⟩ fun b _ o h => old b o h
  have loop : ∀ s₃ : Shared,s₃ = { s₂ with heap := h₁,toks := s₂.toks + ([] : List (Str × Value)).length } →
      codeAny (model prog w) A (.compLoop (.ListComp elt [⟨.Tuple [.Name x px,.Name x₂ px₂] tk0 tp,iter,[],0⟩] scope pos) 0 (.ref e) (.ref D) (compEnvC scope cl C env))
        (RR (.ref D) C) s₃ := by
    rintro s₃ rfl
    refine codeAny_compLoop_pair
      (fun k s' => ∃ h' tk i ys m',s' = { s₂ with heap := h',toks := tk } ∧ i ≤ items.size ∧ k = items.size+1 - i ∧ ys.length = i ∧ ((∃ old,IsEnum h' e it ((i : Nat) : Int) old) ∧ h'.IsListIter it l i ∧ h'.IsList l items) ∧ Fr h₀ L h' m ∧ h'.Ns C m' ∧ News h₀ L h' ((D,lst ys)::news) ∧ (∀ i y,ys[i]? = some y → Y i y)) ?_ (items.size+1)
      ⟨h₁,_,0,[],_,rfl,Nat.zero_le _,rfl,rfl,hst₁,F.keeps old,hns₁,fun p hp => ?_,fun i y h => by simp at h⟩
    · rintro k s' ⟨h',tk,i,ys,m',rfl,hi,rfl,hyl,hst',F',hn',N',hY⟩
      by_cases hlt : i < items.size
      · refine W.item i _ _ _ hlt hst' fun Ta vals h₂ tk₂ hPv hTn hTt hMid hk₂ => ?_
        obtain ⟨t,x1,hx1,rfl⟩ := hPv
        have hTw := W.apart _ _ _ hMid
        refine W.go _ _ _ _ _ _ _ _ hMid fun h₃ hst₃ hk₃ => ?_
        have tt3 : IsTup h₃ Ta #[.int (i : Int) t,x1] := by
          obtain ⟨o,ho,r⟩ := hTt
          exact ⟨o,hk₃ _ _ hTw ho,r⟩
        have k3 : ∀ b o,b ≠ e → b ≠ it → h'.get? b = some o → h₃.get? b = some o := fun b o h1 h2 hb =>
          have hw : b ∉ [e,it] := fun hm => by
            rcases List.mem_cons.mp hm with rfl | hm
            · exact h1 rfl
            · exact h2 (List.mem_singleton.mp hm)
          hk₃ b o hw (hk₂ b o hw hb)
        refine assign_Tuple_tuple hh tt3 rfl rfl fun h₅ he => ?_
        have he' : ∀ b o,h₃.get? b = some o → h₅.get? b = some o := fun b o h => he b o (Nat.ne_of_lt (Heap.lt_size h)) h
        refine assignInOrder_cons (wpAny_assign_Name (wpAny_storeName_local (lookup_relabel_local hx) ((hn'.at' fun o h => k3 _ o (Ne.symm e2.1) (Ne.symm i2.1) h).at' fun o h => he' _ o h) (fun h₆ hn₆ hs₆ => ?_) (by simp [compEnvC,relabel,hkind])))
        refine assignInOrder_cons (wpAny_assign_Name (wpAny_storeName_local (lookup_relabel_local hx₂) hn₆ (fun h₇ hn₇ hs₇ => ?_) (by simp [compEnvC,relabel,hkind])))
        refine assignInOrder_nil ?_
        have k7 : ∀ b o,b ≠ C → h₃.get? b = some o → h₇.get? b = some o := fun b o hb h => hs₇.extBut b o hb (hs₆.extBut b o hb (he' b o h))
        have hst₇ := W.frame _ _ h₇ hst₃ fun b hb o h => k7 b o (fun q => by
          rcases List.mem_cons.mp hb with rfl | hb
          · exact e2.1 q
          · rcases List.mem_cons.mp hb with rfl | hb
            · exact i2.1 q
            · exact l2.1 (List.mem_singleton.mp hb ▸ q)) h
        obtain ⟨⟨old7,heI⟩,⟨oi,hoi,hoc,hod⟩,_⟩ := hst₇
        obtain ⟨oC,heC,hoC⟩ := ns_obj hn₇
        have F₇ : Fr h₀ L h₇ m := ⟨F'.ns.at' fun o h => k7 _ o (Ne.symm hCL) (k3 _ o (Ne.symm heL) (Ne.symm hiL) h),fun b o h => k7 b o (fun q => by rw [q,hC₀] at h; cases h) (k3 b o (fun q => by rw [q,he₀] at h; cases h) (fun q => by rw [q,hi₀] at h; cases h) (F'.keep b o h)),F'.above⟩
        have N₇ : News h₀ L h₇ ((C,oC)::(D,lst ys)::(e,_)::(it,oi)::news) := fun p hp => by
          rcases List.mem_cons.mp hp with rfl | hp
          · exact ⟨heC,hCL,hC₀⟩
          · rcases List.mem_cons.mp hp with rfl | hp
            · exact ⟨k7 _ _ hDC (k3 _ _ (Ne.symm e2.2) (Ne.symm i2.2) (N' _ (.head _)).1),hDL,hD₀⟩
            · rcases List.mem_cons.mp hp with rfl | hp
              · exact ⟨heI,heL,he₀⟩
              · rcases List.mem_cons.mp hp with rfl | hp
                · exact ⟨hoi,hiL,hi₀⟩
                · exact ⟨k7 _ _ (n2 p hp).1 (k3 _ _ (off p hp).1 (off p hp).2 (N' p (.tail _ hp)).1),(N p hp).2⟩
        refine wpAny_mono (turn i t x1 C oC _ _ h₇ _ _ hx1 hoC (by simp [hxx]) (by simp) F₇ N₇ (fun q hq => .tail _ (.tail _ (.tail _ hq))) (fun q hq => by
          rcases List.mem_cons.mp hq with rfl | hq
          · exact hDC
          · rcases List.mem_cons.mp hq with rfl | hq
            · exact e2.1
            · rcases List.mem_cons.mp hq with rfl | hq
              · exact i2.1
              · exact (n2 q hq).1)) (fun y s₄ h₄ => ?_) fun _ _ h => h
        obtain ⟨hy,h₈,tk₈,rfl,F₈,N₈⟩ := h₄
        have zC := (N₈ _ (.head _)).1
        have zD := (N₈ _ (.tail _ (.head _))).1
        have zE := (N₈ _ (.tail _ (.tail _ (.head _)))).1
        have zI := (N₈ _ (.tail _ (.tail _ (.tail _ (.head _))))).1
        have zn : ∀ p ∈ news,h₈.get? p.1 = some p.2 := fun p hp => (N₈ p (.tail _ (.tail _ (.tail _ (.tail _ hp))))).1
        refine append_at (hsz := by show ys.toArray.size ≤ sizeLine; rw [List.size_toArray,hyl]; exact Nat.le_trans hi hsz) zD fun h₉ hs₉ hD₉ => ?_
        obtain ⟨lo,hlo,hlc,hld⟩ := lm
        refine ⟨items.size+1 - (i+1),by omega,h₉,tk₈,i+1,ys ++ [y],_,rfl,hlt,rfl,by rw [List.length_append,List.length_singleton,hyl],⟨⟨old7,hs₉.extBut _ _ e2.2 zE⟩,⟨oi,hs₉.extBut _ _ i2.2 zI,hoc,hod⟩,⟨lo,hs₉.extBut _ _ l2.2 (zn _ hlo),hlc,hld⟩⟩,F₈.change hs₉ hDL hD₀,
          (hoC.ns zC).sameBut hs₉ (Ne.symm hDC),fun p hp => ?_,fun j y' hj => ?_⟩
        · rcases List.mem_cons.mp hp with rfl | hp
          · exact ⟨hD₉.trans (congrArg some (lst_snoc ys y)),hDL,hD₀⟩
          · exact ⟨hs₉.extBut _ _ (n2 p hp).2 (zn p hp),(N p hp).2⟩
        · by_cases hj2 : j < ys.length
          · rw [List.getElem?_append_left hj2] at hj
            exact hY j y' hj
          · rw [List.getElem?_append_right (Nat.not_lt.mp hj2)] at hj
            have hj3 : j - ys.length = 0 := by
              cases hq : j - ys.length with
              | zero => rfl
              | succ n => rw [hq] at hj; simp at hj
            rw [hj3] at hj
            have : y = y' := by simpa using hj
            subst this
            have : j = i := by omega
            subst this
            exact hy
      · obtain rfl : i = items.size := Nat.le_antisymm hi (Nat.not_lt.mp hlt)
        refine W.done _ _ _ hst' fun h₂ tk₂ hk₂ => ?_
        have k2 : ∀ b o,b ≠ e → b ≠ it → h'.get? b = some o → h₂.get? b = some o := fun b o h1 h2 hb => hk₂ b o (fun hm => by
            rcases List.mem_cons.mp hm with rfl | hm
            · exact h1 rfl
            · exact h2 (List.mem_singleton.mp hm)) hb
        refine hRR _ _ h₂ tk₂ _ ys ⟨F'.ns.at' fun o h => k2 _ o (Ne.symm heL) (Ne.symm hiL) h,fun b o h => k2 b o (fun q => by rw [q,he₀] at h; cases h) (fun q => by rw [q,hi₀] at h; cases h) (F'.keep b o h),F'.above⟩ (fun p hp => ?_) (fun q hq => (n2 q hq).2) (hn'.at' fun o h => k2 _ o (Ne.symm e2.1) (Ne.symm i2.1) h) hC₀ hD₀ hCL hDL (Ne.symm hDC) (fun q hq => (n2 q hq).1) hyl hY
        rcases List.mem_cons.mp hp with rfl | hp
        · exact ⟨k2 _ _ (Ne.symm e2.2) (Ne.symm i2.2) (N' _ (.head _)).1,hDL,hD₀⟩
        · exact ⟨k2 _ _ (off p hp).1 (off p hp).2 (N' p (.tail _ hp)).1,(N p hp).2⟩
    · rcases List.mem_cons.mp hp with rfl | hp
      · exact ⟨hacc,hDL,hD₀⟩
      · exact ⟨old _ _ (N p hp).1,(N p hp).2⟩
  exact codeAny_compStart_list (loop _ rfl) (W.self 0 _ _ _ hst₁ (loop _ rfl))
end X_block_E
theorem words_a29 : True := by
  k_with_none
  k_with "eval Name" => (name_kind "local"; k_dflt (refine' ld ?F ?v ?_; (case F => k_asm); (case v => walk_at "k_opq")))
  k_with "omega" => lia
  exact trivial
namespace X_ru_while
@[irreducible] noncomputable def it := pj34 cc 2
@[irreducible] noncomputable def lo := pj34 cc 3
@[irreducible] noncomputable def x := pj33 cc 3
theorem core_ru_while : PP_ru_while w p loose mean mg mb dp un gd cn cs ad ccd cl outer L base h₀ L' s Q E c30 c37 o30 o37 I D it lo m x y tx ty := by
  intro hk B X T hd hu hE hC1 hC2 DL hID hD F N mx my bx by' fin
  w_top off
  refine While_inv (fun n m₁ news₁ => news₁ = ((I,it)::(D,lo)::mtL c30 c37 o30 o37) ∧ ∃ x' y' tx' ty',m₁ (Str.ofString "measure") = some (.int x' tx') ∧ m₁ (Str.ofString "number") = some (.int y' ty') ∧ y'.natAbs = n ∧ Int.gcd x' y' = Int.gcd x y ∧ x'.natAbs < 2 ^ 4000 ∧ y'.natAbs < 2 ^ 4000) F N ⟨rfl,x,y,tx,ty,mx,my,rfl,rfl,bx,by'⟩ ?_ hE
  rintro n m₁ news₁ h₁ tk₁ F₁ N₁ ⟨rfl,x',y',tx',ty',mx',my',hn,hg,bx',by2⟩
  clear F N mx my
  k_steps
  · have hne : y' ≠ 0 := by omega
    have hlt := fmod_natAbs x' hne
    have hpw : (2 : Int) ^ 4000 ≤ 2 ^ 7999 := by decide +kernel
    have ex : (x'.natAbs : Int) < 2 ^ 4000 := by exact_mod_cast bx'
    have ey : (y'.natAbs : Int) < 2 ^ 4000 := by exact_mod_cast by2
    generalize hP1 : (2 : Int) ^ 4000 = P1 at *
    generalize hP2 : (2 : Int) ^ 7999 = P2 at *
    rename Fr _ _ _ _ => F2
    rename News _ _ _ _ => N2
    k_dflt (refine ctr_use (idm_hit w p loose mean mg mb x' y' 4000 tx' ty' hne (by omega) (by omega) (by omega) (by omega) (.inl (by decide)) c30 c37 o30 o37 DL) [(I,it),(D,lo)] (by k_asm) F2 (by k_asm) N2 (by k_asm) (by exact rfl) (fun _ h => .tail _ (.tail _ h)) ?_ ⟨codeHd_keep hC1 F2,codeHd_keep hC2 F2⟩ (by ktr_room) (by ktr_units) ?_)
    · intro q hq
      simp only [List.mem_cons,List.not_mem_nil,or_false] at hq
      rcases hq with rfl | rfl
      · exact ⟨.head _,hID⟩
      · exact ⟨.tail _ (.head _),hD⟩
    intro r' tl' h' tk' F' N' ne' hp'
    obtain ⟨t',u',v',rfl,rfl⟩ := hp'
    obtain ⟨e1,e2,-⟩ := ne' _ (.head _)
    simp only [List.cons_append,List.nil_append] at N'
    clear ne' F2 N2
    try dsimp only
    k_steps
    rename Fr _ _ _ _ => F3
    rename News _ _ _ _ => N3
    exact WhileStep.intro F3 (cb_drop N3 (by lcg_sub)) (by omega) ⟨rfl,y',x'.fmod y',_,_,by walk_at "k_opq", by walk_at "k_opq", rfl,(gcd_fmod x' y').trans hg,by2,Nat.lt_trans hlt by2⟩
  · have h0 : y' = 0 := by omega
    subst h0
    exact fin _ _ m₁ x' tx' F₁ N₁ mx' (by rw [← hg,Int.gcd_zero_right])
end X_ru_while
theorem words_a30 : True := by
  k_with "loadName" => (k_dflt (refine' ldn ?F ?v ?_; (case F => k_asm); (case v => walk_at "k_opq")))
  k_with "callWith ref" => (k_dflt (refine' callWith_F ?k1 ?_; (case k1 => exact FnAt.of (by k_asm) (by assumption)); k_whole))
  k_with "FnAt" => (k_dflt (exact FnAt.of (by k_asm) (by assumption)))
  k_with "binaryOp FloorDiv int int" => ((with_reducible refine fdiv_to (by decide) (by decide) (by with_reducible assumption) ?_))
  exact trivial
theorem core_bsr_loop : PP_bsr_loop w p loose mean mg mb dp un gd cn cs ad ccd cl outer L base h₀ L' s Q E m led D K xs hs lk lo hi x tx tl th := by
  intro hk B X T hd hu hE HL LL F N ma mx mk ml mh hhi fin
  w_top off
  refine While_inv (fun n m₁ news₁ => news₁ = led ∧ ∃ lo' hi' tl' th',hi' ≤ lo' + n ∧ hi' ≤ hs.length ∧ bisR x hs n lo' hi' = bisR x hs hs.length lo hi ∧ m₁ (Str.ofString "a") = some (.ref D) ∧ m₁ (Str.ofString "x") = some (.float x tx) ∧ m₁ (Str.ofString "key") = some (.ref K) ∧ m₁ (Str.ofString "lo") = some (.int (lo' : Int) tl') ∧ m₁ (Str.ofString "hi") = some (.int (hi' : Int) th')) (n₀ := hs.length) F N ⟨rfl,lo,hi,tl,th,by omega,hhi,rfl,ma,mx,mk,ml,mh⟩ ?_ hE
  rintro n m₁ news₁ h₁ tk₁ F₁ N₁ ⟨rfl,lo',hi',tl',th',hn,hhs,he,ma1,mx1,mk1,ml1,mh1⟩
  clear F N ma mx mk ml mh
  obtain ⟨p0,p1,p2,p3,pm,c,ctv,oc,cvs,tc,hoc,hcv,hK,hc⟩ := LL
  have hdv := fdiv2 lo' hi'
  k_steps
  · rename_i hlt
    rename Fr h₀ L' _ _ => F2
    rename News h₀ L' _ _ => N2
    have hmid : (lo' + hi') / 2 < hs.length := by omega
    obtain ⟨Ta,ta,ua,va,hxT,hTl⟩ := HL.at' _ hmid
    have hsm := HL.sm
    refine item_litK (v := .ref Ta) ⟨_,(N2 _ HL.D).1,rfl,_,rfl⟩ (by omega) (by omega) (by rw [Int.toNat_natCast]; exact hxT) ?_
    k_steps
    k_dflt (refine lam_call w p loose mean mg mb p0 p1 p2 p3 pm ctv K c Ta oc cvs tc _ _ _ _ _ hoc hcv hK hc hTl (by k_asm) F2 (by k_asm) N2 (by k_asm) (by exact rfl) (by ktr_room) (by ktr_units) ?_)
    intro h3 tk3 F3 N3
    clear F2 N2
    k_steps
    · rename (_ == _) = true => hcond
      rename Fr h₀ L' _ _ => F4
      rename News h₀ L' _ _ => N4
      obtain ⟨n',rfl⟩ : ∃ n',n = n'+1 := ⟨n - 1,by omega⟩
      have hl2 : lo' < hi' := by omega
      rw [bisR,if_pos hl2,if_pos (show flt x (hs.getD ((lo' + hi') / 2) 0) = true from hcond)] at he
      exact WhileStep.intro F4 N4 (n' := n') (by omega) ⟨rfl,lo',(lo' + hi') / 2,_,_,by omega,by omega,he,by walk_at "k_opq", by walk_at "k_opq", by walk_at "k_opq", by walk_at "k_opq", by walk_at "k_opq"⟩
    · rename (_ == _) = false => hcond
      rename Fr h₀ L' _ _ => F4
      rename News h₀ L' _ _ => N4
      obtain ⟨n',rfl⟩ : ∃ n',n = n'+1 := ⟨n - 1,by omega⟩
      have hl2 : lo' < hi' := by omega
      rw [bisR,if_pos hl2,if_neg (by rw [show flt x (hs.getD ((lo' + hi') / 2) 0) = false from hcond]; decide)] at he
      exact WhileStep.intro F4 N4 (n' := n') (by omega) ⟨rfl,(lo' + hi') / 2+1,hi',_,_,by omega,by omega,he,by walk_at "k_opq", by walk_at "k_opq", by walk_at "k_opq", by exact rfl,by walk_at "k_opq"⟩
  · rename_i hlt
    have hl2 : ¬ lo' < hi' := by omega
    have he2 : bisR x hs n lo' hi' = lo' := by
      cases n with
      | zero => rfl
      | succ n => rw [bisR,if_neg hl2]
    rw [he2] at he
    exact fin _ _ m₁ tl' F₁ N₁ (he ▸ ml1)
theorem core_bsl_loop : PP_bsl_loop w p loose mean mg mb dp un gd cn cs ad ccd cl outer L base h₀ L' s Q E m led D K xs hs lk lo hi x tx tl th := by
  intro hk B X T hd hu hE HL LL F N ma mx mk ml mh hhi fin
  w_top off
  refine While_inv (fun n m₁ news₁ => news₁ = led ∧ ∃ lo' hi' tl' th',hi' ≤ lo' + n ∧ hi' ≤ hs.length ∧ bisLf x hs n lo' hi' = bisLf x hs hs.length lo hi ∧ m₁ (Str.ofString "a") = some (.ref D) ∧ m₁ (Str.ofString "x") = some (.float x tx) ∧ m₁ (Str.ofString "key") = some (.ref K) ∧ m₁ (Str.ofString "lo") = some (.int (lo' : Int) tl') ∧ m₁ (Str.ofString "hi") = some (.int (hi' : Int) th')) (n₀ := hs.length) F N ⟨rfl,lo,hi,tl,th,by omega,hhi,rfl,ma,mx,mk,ml,mh⟩ ?_ hE
  rintro n m₁ news₁ h₁ tk₁ F₁ N₁ ⟨rfl,lo',hi',tl',th',hn,hhs,he,ma1,mx1,mk1,ml1,mh1⟩
  clear F N ma mx mk ml mh
  obtain ⟨p0,p1,p2,p3,pm,c,ctv,oc,cvs,tc,hoc,hcv,hK,hc⟩ := LL
  have hdv := fdiv2 lo' hi'
  k_steps
  · rename_i hlt
    rename Fr h₀ L' _ _ => F2
    rename News h₀ L' _ _ => N2
    have hmid : (lo' + hi') / 2 < hs.length := by omega
    obtain ⟨Ta,ta,ua,va,hxT,hTl⟩ := HL.at' _ hmid
    have hsm := HL.sm
    refine item_litK (v := .ref Ta) ⟨_,(N2 _ HL.D).1,rfl,_,rfl⟩ (by omega) (by omega) (by rw [Int.toNat_natCast]; exact hxT) ?_
    k_steps
    k_dflt (refine lam_call w p loose mean mg mb p0 p1 p2 p3 pm ctv K c Ta oc cvs tc _ _ _ _ _ hoc hcv hK hc hTl (by k_asm) F2 (by k_asm) N2 (by k_asm) (by exact rfl) (by ktr_room) (by ktr_units) ?_)
    intro h3 tk3 F3 N3
    clear F2 N2
    k_steps
    · rename (_ == _) = true => hcond
      rename Fr h₀ L' _ _ => F4
      rename News h₀ L' _ _ => N4
      obtain ⟨n',rfl⟩ : ∃ n',n = n'+1 := ⟨n - 1,by omega⟩
      have hl2 : lo' < hi' := by omega
      rw [bisLf,if_pos hl2,if_pos (show flt (hs.getD ((lo' + hi') / 2) 0) x = true from hcond)] at he
      exact WhileStep.intro F4 N4 (n' := n') (by omega) ⟨rfl,(lo' + hi') / 2+1,hi',_,_,by omega,by omega,he,by walk_at "k_opq", by walk_at "k_opq", by walk_at "k_opq", by exact rfl,by walk_at "k_opq"⟩
    · rename (_ == _) = false => hcond
      rename Fr h₀ L' _ _ => F4
      rename News h₀ L' _ _ => N4
      obtain ⟨n',rfl⟩ : ∃ n',n = n'+1 := ⟨n - 1,by omega⟩
      have hl2 : lo' < hi' := by omega
      rw [bisLf,if_pos hl2,if_neg (by rw [show flt (hs.getD ((lo' + hi') / 2) 0) x = false from hcond]; decide)] at he
      exact WhileStep.intro F4 N4 (n' := n') (by omega) ⟨rfl,lo',(lo' + hi') / 2,_,_,by omega,by omega,he,by walk_at "k_opq", by walk_at "k_opq", by walk_at "k_opq", by walk_at "k_opq", by walk_at "k_opq"⟩
  · rename_i hlt
    have hl2 : ¬ lo' < hi' := by omega
    have he2 : bisLf x hs n lo' hi' = lo' := by
      cases n with
      | zero => rfl
      | succ n => rw [bisLf,if_neg hl2]
    rw [he2] at he
    exact fin _ _ m₁ tl' F₁ N₁ (he ▸ ml1)
theorem words_a31 : True := by
  k_with_none
  k_with "eval Name" => (name_kind "local"; k_dflt (refine' ld ?F ?v ?_; (case F => k_asm); (case v => walk_at "k_opq")))
  k_with "loadName" => (k_dflt (refine' ldn ?F ?v ?_; (case F => k_asm); (case v => walk_at "k_opq")))
  k_with "subscriptTail Name Slice str ref" => ((with_reducible show wpAny _ _ (subscriptTail _ (Expr.Slice none (some (Expr.BoolOp _ _ _)) none _) _ _) _ _ _); (with_reducible rename Fr _ _ _ _ => F'); (with_reducible rename News _ _ _ _ => N'); (refine slice_strN_nn (hsz := ?hsz) (s := ⟨_,_,_,_,_⟩) F' N' ?_); (case hsz => size_fits); intro _ _ _ _ _)
  k_with "omega" => lia
  exact trivial
theorem core_lv_cut : PP_lv_cut w p loose mean mg mb dp un gd cn cs ad ccd cl outer L base h₀ L' s Q E m news a b ta tb tc tk mc rest := by
  intro hk B X T hd hu K F N ma mb' mc' mp hKa hKb ha hb fin
  w_top off
  rcases Nat.eq_zero_or_pos K with hk0 | hk0
  · subst hk0
    rw [show -((0 : Nat) : Int) = 0 from rfl] at mp
    simp only [if_true] at fin
    k_steps
    exact fin _ _ _ _ _ (by assumption) (by assumption) (by walk_at "k_opq") (by walk_at "k_opq") (by walk_at "k_opq")
  · have hne : -(K : Int) ≠ 0 := by omega
    simp only [show ¬ K = 0 by omega,if_false] at fin
    k_steps
    all_goals first
      | (exfalso; omega)
      | exact fin _ _ _ _ _ (by assumption) (by assumption) (by walk_at "k_opq") (by walk_at "k_opq") (by walk_at "k_opq")
theorem words_a32 : True := by
  k_with "call type:list" => (k_here; (with_reducible show wpAny _ _ (call (Value.type _) [Value.ref _]) _ _ _); (rename IsRange _ _ _ _ _ _ _ _ => rgX); (with_unfolding_all refine' list_rng2 ?k0 ?k1 ?k2 ?k3 ?k4 ?_; (case k0 => rfl); (case k1 => k_asm); (case k2 => k_asm); (case k3 => first | exact rgX | assumption); (case k4 => rfl)); intro D' t' c' h' tk' F' N' l1; clear rgX; (try k_lt l1); (try k_sweep))
  k_with "storeName" => (k_here; (with_reducible show wpAny _ _ (storeName _ _ (Value.int _ _)) _ _ _); (fail_if_success (with_reducible show wpAny _ _ (storeName _ _ (Value.int 2 _)) _ _ _)); (fail_if_success (with_reducible show wpAny _ _ (storeName _ _ (Value.int 0 _)) _ _ _)); first | (with_reducible refine store_norm 2 (by decide) ?_) | (with_reducible refine store_norm 0 (by decide) ?_))
  k_with "exec If" => refine wpAny_If ?_
  exact trivial
theorem core_lv_tail1 : PP_lv_tail1 w p loose mean mg mb dp un gd cn cs ad ccd cl outer L base h₀ L' s Q R m a b ta tb tc tk := by
  intro hk B X T hd hu F N ma mb' mc' fin
  w_top off
  k_steps
  · exfalso
    have e1 : (Str.ofString "b").length = 1 := rfl
    have e2 : (Str.ofString "a").length = 1 := rfl
    omega
  · exfalso
    have e1 : (Str.ofString "b").length = 1 := rfl
    have e2 : (Str.ofString "a").length = 1 := rfl
    omega
  rename Fr h₀ L' _ _ => F8
  rename News h₀ L' _ _ => N8
  k_dflt (refine ctr_use0 (sc_ctr w p loose mean mg mb _ _) (by k_asm) F8 (by k_asm) N8 (by k_asm) (by exact rfl) trivial (by ktr_room) (by ktr_units) ?_)
  intro r tl h9 tk9 F9 N9 hne hpost
  obtain ⟨t9,rfl,rfl⟩ := hpost
  clear F8 N8 hne
  simp only [List.nil_append] at N9
  try dsimp only
  k_steps
  exact fin _ _ _ _ (by assumption)
theorem core_lv_tail2 : PP_lv_tail2 w p loose mean mg mb dp un gd cn cs ad ccd cl outer L base h₀ L' s Q R m a b ta tb tc tk := by
  intro hk B X T hd hu F N ma mb' mc' fin
  w_top off
  k_steps
  · exfalso
    have e1 : (Str.ofString "b").length = 1 := rfl
    have e2 : (Str.ofString "a").length = 1 := rfl
    omega
  · exfalso
    have e1 : (Str.ofString "b").length = 1 := rfl
    have e2 : (Str.ofString "a").length = 1 := rfl
    omega
  rename Fr h₀ L' _ _ => F8
  rename News h₀ L' _ _ => N8
  k_dflt (refine ctr_use0 (sc_ctr2 w p loose mean mg mb _ _) (by k_asm) F8 (by k_asm) N8 (by k_asm) (by exact rfl) trivial (by ktr_room) (by ktr_units) ?_)
  intro r tl h9 tk9 F9 N9 hne hpost
  obtain ⟨t9,rfl,rfl⟩ := hpost
  clear F8 N8 hne
  simp only [List.nil_append] at N9
  try dsimp only
  k_steps
  exact fin _ _ _ _ (by assumption)
theorem words_a33 : True := by
  k_with_none
  k_with "subscriptTail Name Slice str ref" => ((with_reducible show wpAny _ _ (subscriptTail _ (Expr.Slice none (some (Expr.BoolOp _ _ _)) none _) _ _) _ _ _); (with_reducible rename Fr _ _ _ _ => F'); (with_reducible rename News _ _ _ _ => N'); (refine slice_strN_nn (hsz := ?hsz) (s := ⟨_,_,_,_,_⟩) F' N' ?_); (case hsz => size_fits); intro _ _ _ _ _)
  k_with "eval Name" => (name_kind "local"; k_dflt (refine' ld ?F ?v ?_; (case F => k_asm); (case v => walk_at "k_opq")))
  k_with "omega" => lia
  exact trivial
namespace X_lv_test2
@[irreducible] noncomputable def Q := pj30 cc 0
theorem core_lv_test2 : PP_lv_test2 w p loose mean mg mb dp un gd cn cs ad ccd cl outer L base h₀ L' s Q E m news a b ta tb tk := by
  intro hk B X T hd hu k F N ma mb' mp hka hkb ha hb fin
  w_top off
  rcases Nat.eq_zero_or_pos k with hk0 | hk0
  · subst hk0
    rw [show -((0 : Nat) : Int) = 0 from rfl] at mp
    have la := congrArg Str.length (slice_all a)
    have lb := congrArg Str.length (slice_all b)
    k_steps
    all_goals first
      | (exfalso; omega)
      | (refine fin _ _ _ (by assumption) (by assumption) ?_
         unfold postB
         first
           | (have h1 : 0 < a.length := by omega
              have h2 : 0 < b.length := by omega
              simp only [h1,h2,decide_true,Bool.true_and]
              exact Eq.symm (by assumption))
           | (have h1 : ¬ 0 < a.length := by omega
              simp only [h1,decide_false,Bool.false_and])
           | (have h1 : ¬ 0 < b.length := by omega
              simp only [h1,decide_false,Bool.false_and,Bool.and_false]))
  · have la := cut_len hk0 hka
    have lb := cut_len hk0 hkb
    have hne : -(k : Int) ≠ 0 := by omega
    k_steps
    all_goals first
      | (exfalso; omega)
      | (refine fin _ _ _ (by assumption) (by assumption) ?_
         unfold postB
         first
           | (have h1 : k < a.length := by omega
              have h2 : k < b.length := by omega
              simp only [h1,h2,decide_true,Bool.true_and]
              exact Eq.symm (by assumption))
           | (have h1 : ¬ k < a.length := by omega
              simp only [h1,decide_false,Bool.false_and])
           | (have h1 : ¬ k < b.length := by omega
              simp only [h1,decide_false,Bool.false_and,Bool.and_false]))
end X_lv_test2
section
local macro_rules | `(tactic| k_all) => `(tactic| assumption)
theorem words_a34 : True := by
  k_with_none
  k_with "eval Name" => (name_kind "local"; k_dflt (refine' ld ?F ?v ?_; (case F => k_asm); (case v => walk_at "k_opq")))
  k_with "subscriptTail" => ((with_reducible show wpAny _ _ (subscriptTail _ _ (Value.ref _) (Value.int _ _)) _ _ _); (with_reducible rename News _ _ _ _ => N'); first
  | (refine tb_last N' (by with_reducible assumption) ?_)
  | (refine tb_int N' (by with_reducible assumption) (by with_reducible assumption) (by omega) (by omega) (by omega) ?_; intro _))
  k_with "binaryOp Mult int int" => ((with_reducible refine mul_to rfl (tab_ok (by with_reducible assumption)) ?_))
  k_with "omega" => lia
  exact trivial
namespace X_tab_elt
@[irreducible] noncomputable def b := pj33 cc 1
@[irreducible] noncomputable def x := pj33 cc 3
theorem core_tab_elt : PP_tab_elt w p loose mean mg mb dp un gd cn cs ad ccd cl outer L base h₀ L' s Q E m TT Lr U rp vi ap usv us pl kT kU kp kl i b ti tb zs lv j x tj tx := by
  intro hk B X T hd hu F N hT hU hp hLz hUi hul hpi hpl mi mt mu ms i1 i5 hb mj ml j1 j5 bu bc hsz fin
  w_top off
  have hL0 : (Lr,listOf (lv ++ [Value.int x tx]).toArray kl) ∈ (Lr,listOf (lv ++ [Value.int x tx]).toArray kl)::zs := .head _
  have hT1 : (TT,listOf (vi ++ [Value.ref rp]).toArray kT) ∈ (Lr,listOf (lv ++ [Value.int x tx]).toArray kl)::zs := .tail _ hT
  have hU1 : (U,listOf usv.toArray kU) ∈ (Lr,listOf (lv ++ [Value.int x tx]).toArray kl)::zs := .tail _ hU
  have hp1 : (rp,listOf ap.toArray kp) ∈ (Lr,listOf (lv ++ [Value.int x tx]).toArray kl)::zs := .tail _ hp
  k_steps
  rename News h₀ L' _ _ => N9
  rw [listOf_push] at N9
  exact fin _ _ _ (by assumption) N9
end X_tab_elt
end
theorem gg (v : VV) : GG v := pick_all (by with_unfolding_all exact ⟨core_lv_tail1,core_lv_tail2,X_block_E.core_block_E,core_bsr_loop,core_bsl_loop,X_lv_test2.core_lv_test2,core_lv_cut,X_tab_elt.core_tab_elt,X_ru_while.core_ru_while⟩) v
theorem gg_lv_tail1 (v : VV) : PP_lv_tail1 (pj0 v 0) (pj1 v 0) (pj2 v 0) (pj3 v 0) (pj4 v 0) (pj4 v 1) (pj5 v 0) (pj5 v 1) (pj6 v 0) (pj7 v 0) (pj8 v 0) (pj9 v 0) (pj10 v 0) (pj11 v 0) (pj12 v 0) (pj9 v 1) (pj13 v 0) (pj13 v 1) (pj9 v 2) (pj14 v 0) (pj15 v 0) (pj16 v 0) (pj4 v 2) (pj7 v 1) (pj7 v 2) (pj17 v 0) (pj17 v 1) (pj17 v 2) (pj17 v 3) := (gg v).1
theorem gg_lv_tail2 (v : VV) : PP_lv_tail2 (pj0 v 0) (pj1 v 0) (pj2 v 0) (pj3 v 0) (pj4 v 0) (pj4 v 1) (pj5 v 0) (pj5 v 1) (pj6 v 0) (pj7 v 0) (pj8 v 0) (pj9 v 0) (pj10 v 0) (pj11 v 0) (pj12 v 0) (pj9 v 1) (pj13 v 0) (pj13 v 1) (pj9 v 2) (pj14 v 0) (pj15 v 0) (pj16 v 0) (pj4 v 2) (pj7 v 1) (pj7 v 2) (pj17 v 0) (pj17 v 1) (pj17 v 2) (pj17 v 3) := (gg v).2.1
theorem gg_block_E (v : VV) : PP_block_E (pj1 v 1) (pj0 v 0) (pj18 v 0) (pj19 v 0) (pj13 v 1) (pj9 v 1) (pj4 v 2) (pj20 v 0) (pj21 v 0) (pj21 v 1) (pj7 v 3) (pj7 v 4) (pj22 v 0) (pj22 v 1) (pj22 v 2) (pj5 v 2) (pj8 v 1) (pj11 v 0) (pj22 v 3) (pj14 v 1) (pj9 v 3) (pj9 v 4) (pj9 v 5) (pj23 v 0) (pj24 v 0) (pj25 v 0) (pj26 v 0) := (gg v).2.2.1
theorem gg_bsr_loop (v : VV) : PP_bsr_loop (pj0 v 0) (pj1 v 0) (pj2 v 0) (pj3 v 0) (pj4 v 0) (pj4 v 1) (pj5 v 0) (pj5 v 1) (pj6 v 0) (pj7 v 0) (pj8 v 0) (pj9 v 0) (pj10 v 0) (pj11 v 0) (pj12 v 0) (pj9 v 1) (pj13 v 0) (pj13 v 1) (pj9 v 2) (pj14 v 0) (pj15 v 0) (pj19 v 0) (pj4 v 2) (pj24 v 1) (pj9 v 6) (pj9 v 7) (pj27 v 0) (pj28 v 0) (pj5 v 3) (pj5 v 4) (pj5 v 5) (pj29 v 0) (pj17 v 4) (pj17 v 5) (pj17 v 6) := (gg v).2.2.2.1
theorem gg_bsl_loop (v : VV) : PP_bsl_loop (pj0 v 0) (pj1 v 0) (pj2 v 0) (pj3 v 0) (pj4 v 0) (pj4 v 1) (pj5 v 0) (pj5 v 1) (pj6 v 0) (pj7 v 0) (pj8 v 0) (pj9 v 0) (pj10 v 0) (pj11 v 0) (pj12 v 0) (pj9 v 1) (pj13 v 0) (pj13 v 1) (pj9 v 2) (pj14 v 0) (pj15 v 0) (pj19 v 0) (pj4 v 2) (pj24 v 1) (pj9 v 6) (pj9 v 7) (pj27 v 0) (pj28 v 0) (pj5 v 3) (pj5 v 4) (pj5 v 5) (pj29 v 0) (pj17 v 4) (pj17 v 5) (pj17 v 6) := (gg v).2.2.2.2.1
theorem gg_lv_test2 (v : VV) : PP_lv_test2 (pj0 v 0) (pj1 v 0) (pj2 v 0) (pj3 v 0) (pj4 v 0) (pj4 v 1) (pj5 v 0) (pj5 v 1) (pj6 v 0) (pj7 v 0) (pj8 v 0) (pj9 v 0) (pj10 v 0) (pj11 v 0) (pj12 v 0) (pj9 v 1) (pj13 v 0) (pj13 v 1) (pj9 v 2) (pj14 v 0) (pj30 v 0) (pj19 v 0) (pj4 v 2) (pj24 v 0) (pj7 v 1) (pj7 v 2) (pj17 v 0) (pj17 v 1) (pj17 v 3) := (gg v).2.2.2.2.2.1
theorem gg_lv_cut (v : VV) : PP_lv_cut (pj0 v 0) (pj1 v 0) (pj2 v 0) (pj3 v 0) (pj4 v 0) (pj4 v 1) (pj5 v 0) (pj5 v 1) (pj6 v 0) (pj7 v 0) (pj8 v 0) (pj9 v 0) (pj10 v 0) (pj11 v 0) (pj12 v 0) (pj9 v 1) (pj13 v 0) (pj13 v 1) (pj9 v 2) (pj14 v 0) (pj15 v 0) (pj19 v 0) (pj4 v 2) (pj24 v 0) (pj7 v 1) (pj7 v 2) (pj17 v 0) (pj17 v 1) (pj17 v 2) (pj17 v 3) (pj10 v 1) (pj31 v 0) := (gg v).2.2.2.2.2.2.1
theorem gg_tab_elt (v : VV) : PP_tab_elt (pj0 v 0) (pj1 v 0) (pj2 v 0) (pj3 v 0) (pj4 v 0) (pj4 v 1) (pj5 v 0) (pj5 v 1) (pj6 v 0) (pj7 v 0) (pj8 v 0) (pj9 v 0) (pj10 v 0) (pj11 v 0) (pj12 v 0) (pj9 v 1) (pj13 v 0) (pj13 v 1) (pj9 v 2) (pj14 v 0) (pj15 v 0) (pj19 v 0) (pj4 v 2) (pj9 v 8) (pj9 v 9) (pj9 v 10) (pj9 v 11) (pj27 v 1) (pj27 v 2) (pj27 v 3) (pj32 v 0) (pj32 v 1) (pj5 v 6) (pj5 v 7) (pj5 v 8) (pj5 v 9) (pj33 v 0) (pj33 v 1) (pj17 v 7) (pj17 v 1) (pj24 v 2) (pj27 v 4) (pj33 v 2) (pj33 v 3) (pj17 v 8) (pj17 v 4) := (gg v).2.2.2.2.2.2.2.1
theorem gg_ru_while (v : VV) : PP_ru_while (pj0 v 0) (pj1 v 0) (pj2 v 0) (pj3 v 0) (pj4 v 0) (pj4 v 1) (pj5 v 0) (pj5 v 1) (pj6 v 0) (pj7 v 0) (pj8 v 0) (pj9 v 0) (pj10 v 0) (pj11 v 0) (pj12 v 0) (pj9 v 1) (pj13 v 0) (pj13 v 1) (pj9 v 2) (pj14 v 0) (pj15 v 0) (pj19 v 0) (pj9 v 12) (pj9 v 13) (pj34 v 0) (pj34 v 1) (pj9 v 14) (pj9 v 6) (pj34 v 2) (pj34 v 3) (pj4 v 2) (pj33 v 3) (pj33 v 4) (pj17 v 4) (pj17 v 9) := (gg v).2.2.2.2.2.2.2.2
end C1
theorem lv_tail1 {w p loose mean mg mb dp un gd cn cs ad ccd cl outer L base h₀ L' s Q R m a b ta tb tc tk} : C1.PP_lv_tail1 w p loose mean mg mb dp un gd cn cs ad ccd cl outer L base h₀ L' s Q R m a b ta tb tc tk :=
  C1.gg_lv_tail1 (fun n => [w].getD n w,fun n => [p].getD n p,fun n => [loose].getD n loose,fun n => [mean].getD n mean,fun n => [mg,mb,m].getD n mg,fun n => [dp,un].getD n dp,fun n => [gd].getD n gd,fun n => [cn,a,b].getD n cn,fun n => [cs].getD n cs,fun n => [ad,L,L'].getD n ad,fun n => [ccd].getD n ccd,fun n => [cl].getD n cl,fun n => [outer].getD n outer,fun n => [base,h₀].getD n base,fun n => [s].getD n s,fun n => [Q].getD n Q,fun n => [R].getD n R,fun n => [ta,tb,tc,tk].getD n ta,C1.pj18 C1.cc,C1.pj19 C1.cc,C1.pj20 C1.cc,C1.pj21 C1.cc,C1.pj22 C1.cc,C1.pj23 C1.cc,C1.pj24 C1.cc,C1.pj25 C1.cc,C1.pj26 C1.cc,C1.pj27 C1.cc,C1.pj28 C1.cc,C1.pj29 C1.cc,C1.pj30 C1.cc,C1.pj31 C1.cc,C1.pj32 C1.cc,C1.pj33 C1.cc,C1.pj34 C1.cc)
theorem lv_tail2 {w p loose mean mg mb dp un gd cn cs ad ccd cl outer L base h₀ L' s Q R m a b ta tb tc tk} : C1.PP_lv_tail2 w p loose mean mg mb dp un gd cn cs ad ccd cl outer L base h₀ L' s Q R m a b ta tb tc tk :=
  C1.gg_lv_tail2 (fun n => [w].getD n w,fun n => [p].getD n p,fun n => [loose].getD n loose,fun n => [mean].getD n mean,fun n => [mg,mb,m].getD n mg,fun n => [dp,un].getD n dp,fun n => [gd].getD n gd,fun n => [cn,a,b].getD n cn,fun n => [cs].getD n cs,fun n => [ad,L,L'].getD n ad,fun n => [ccd].getD n ccd,fun n => [cl].getD n cl,fun n => [outer].getD n outer,fun n => [base,h₀].getD n base,fun n => [s].getD n s,fun n => [Q].getD n Q,fun n => [R].getD n R,fun n => [ta,tb,tc,tk].getD n ta,C1.pj18 C1.cc,C1.pj19 C1.cc,C1.pj20 C1.cc,C1.pj21 C1.cc,C1.pj22 C1.cc,C1.pj23 C1.cc,C1.pj24 C1.cc,C1.pj25 C1.cc,C1.pj26 C1.cc,C1.pj27 C1.cc,C1.pj28 C1.cc,C1.pj29 C1.cc,C1.pj30 C1.cc,C1.pj31 C1.cc,C1.pj32 C1.cc,C1.pj33 C1.cc,C1.pj34 C1.cc)
theorem block_E {prog w A E h₀ L m env elt iter x x₂ px px₂ tp tk0 scope cl pos s₂ e it l items news RR Y} : C1.PP_block_E prog w A E h₀ L m env elt iter x x₂ px px₂ tp tk0 scope cl pos s₂ e it l items news RR Y :=
  C1.gg_block_E (fun n => [w].getD n w,fun n => [prog,prog].getD n prog,C1.pj2 C1.cc,C1.pj3 C1.cc,fun n => [m,m,m].getD n m,fun n => [tk0,tk0,tk0].getD n tk0,C1.pj6 C1.cc,fun n => [x,x,x,x,x₂].getD n x,fun n => [scope,scope].getD n scope,fun n => [L,L,L,e,it,l].getD n L,C1.pj10 C1.cc,fun n => [cl].getD n cl,C1.pj12 C1.cc,fun n => [h₀,h₀].getD n h₀,fun n => [s₂,s₂].getD n s₂,C1.pj15 C1.cc,C1.pj16 C1.cc,C1.pj17 C1.cc,fun n => [A].getD n A,fun n => [E].getD n E,fun n => [env].getD n env,fun n => [elt,iter].getD n elt,fun n => [px,px₂,tp,pos].getD n px,fun n => [items].getD n items,fun n => [news].getD n news,fun n => [RR].getD n RR,fun n => [Y].getD n Y,C1.pj27 C1.cc,C1.pj28 C1.cc,C1.pj29 C1.cc,C1.pj30 C1.cc,C1.pj31 C1.cc,C1.pj32 C1.cc,C1.pj33 C1.cc,C1.pj34 C1.cc)
theorem bsr_loop {w p loose mean mg mb dp un gd cn cs ad ccd cl outer L base h₀ L' s Q E m led D K xs hs lk lo hi x tx tl th} : C1.PP_bsr_loop w p loose mean mg mb dp un gd cn cs ad ccd cl outer L base h₀ L' s Q E m led D K xs hs lk lo hi x tx tl th :=
  C1.gg_bsr_loop (fun n => [w].getD n w,fun n => [p].getD n p,fun n => [loose].getD n loose,fun n => [mean].getD n mean,fun n => [mg,mb,m].getD n mg,fun n => [dp,un,dp,lk,lo,hi].getD n dp,fun n => [gd].getD n gd,fun n => [cn].getD n cn,fun n => [cs].getD n cs,fun n => [ad,L,L',ad,ad,ad,D,K].getD n ad,fun n => [ccd].getD n ccd,fun n => [cl].getD n cl,fun n => [outer].getD n outer,fun n => [base,h₀].getD n base,fun n => [s].getD n s,fun n => [Q].getD n Q,C1.pj16 C1.cc,fun n => [tx,tx,tx,tx,tx,tl,th].getD n tx,C1.pj18 C1.cc,fun n => [E].getD n E,C1.pj20 C1.cc,C1.pj21 C1.cc,C1.pj22 C1.cc,C1.pj23 C1.cc,fun n => [led,led].getD n led,C1.pj25 C1.cc,C1.pj26 C1.cc,fun n => [xs].getD n xs,fun n => [hs].getD n hs,fun n => [x].getD n x,C1.pj30 C1.cc,C1.pj31 C1.cc,C1.pj32 C1.cc,C1.pj33 C1.cc,C1.pj34 C1.cc)
theorem bsl_loop {w p loose mean mg mb dp un gd cn cs ad ccd cl outer L base h₀ L' s Q E m led D K xs hs lk lo hi x tx tl th} : C1.PP_bsl_loop w p loose mean mg mb dp un gd cn cs ad ccd cl outer L base h₀ L' s Q E m led D K xs hs lk lo hi x tx tl th :=
  C1.gg_bsl_loop (fun n => [w].getD n w,fun n => [p].getD n p,fun n => [loose].getD n loose,fun n => [mean].getD n mean,fun n => [mg,mb,m].getD n mg,fun n => [dp,un,dp,lk,lo,hi].getD n dp,fun n => [gd].getD n gd,fun n => [cn].getD n cn,fun n => [cs].getD n cs,fun n => [ad,L,L',ad,ad,ad,D,K].getD n ad,fun n => [ccd].getD n ccd,fun n => [cl].getD n cl,fun n => [outer].getD n outer,fun n => [base,h₀].getD n base,fun n => [s].getD n s,fun n => [Q].getD n Q,C1.pj16 C1.cc,fun n => [tx,tx,tx,tx,tx,tl,th].getD n tx,C1.pj18 C1.cc,fun n => [E].getD n E,C1.pj20 C1.cc,C1.pj21 C1.cc,C1.pj22 C1.cc,C1.pj23 C1.cc,fun n => [led,led].getD n led,C1.pj25 C1.cc,C1.pj26 C1.cc,fun n => [xs].getD n xs,fun n => [hs].getD n hs,fun n => [x].getD n x,C1.pj30 C1.cc,C1.pj31 C1.cc,C1.pj32 C1.cc,C1.pj33 C1.cc,C1.pj34 C1.cc)
theorem lv_test2 {w p loose mean mg mb dp un gd cn cs ad ccd cl outer L base h₀ L' s Q E m news a b ta tb tk} : C1.PP_lv_test2 w p loose mean mg mb dp un gd cn cs ad ccd cl outer L base h₀ L' s Q E m news a b ta tb tk :=
  C1.gg_lv_test2 (fun n => [w].getD n w,fun n => [p].getD n p,fun n => [loose].getD n loose,fun n => [mean].getD n mean,fun n => [mg,mb,m].getD n mg,fun n => [dp,un].getD n dp,fun n => [gd].getD n gd,fun n => [cn,a,b].getD n cn,fun n => [cs].getD n cs,fun n => [ad,L,L'].getD n ad,fun n => [ccd].getD n ccd,fun n => [cl].getD n cl,fun n => [outer].getD n outer,fun n => [base,h₀].getD n base,fun n => [s].getD n s,C1.pj15 C1.cc,C1.pj16 C1.cc,fun n => [ta,tb,ta,tk].getD n ta,C1.pj18 C1.cc,fun n => [E].getD n E,C1.pj20 C1.cc,C1.pj21 C1.cc,C1.pj22 C1.cc,C1.pj23 C1.cc,fun n => [news].getD n news,C1.pj25 C1.cc,C1.pj26 C1.cc,C1.pj27 C1.cc,C1.pj28 C1.cc,C1.pj29 C1.cc,fun n => [Q].getD n Q,C1.pj31 C1.cc,C1.pj32 C1.cc,C1.pj33 C1.cc,C1.pj34 C1.cc)
theorem lv_cut {w p loose mean mg mb dp un gd cn cs ad ccd cl outer L base h₀ L' s Q E m news a b ta tb tc tk mc rest} : C1.PP_lv_cut w p loose mean mg mb dp un gd cn cs ad ccd cl outer L base h₀ L' s Q E m news a b ta tb tc tk mc rest :=
  C1.gg_lv_cut (fun n => [w].getD n w,fun n => [p].getD n p,fun n => [loose].getD n loose,fun n => [mean].getD n mean,fun n => [mg,mb,m].getD n mg,fun n => [dp,un].getD n dp,fun n => [gd].getD n gd,fun n => [cn,a,b].getD n cn,fun n => [cs].getD n cs,fun n => [ad,L,L'].getD n ad,fun n => [ccd,mc].getD n ccd,fun n => [cl].getD n cl,fun n => [outer].getD n outer,fun n => [base,h₀].getD n base,fun n => [s].getD n s,fun n => [Q].getD n Q,C1.pj16 C1.cc,fun n => [ta,tb,tc,tk].getD n ta,C1.pj18 C1.cc,fun n => [E].getD n E,C1.pj20 C1.cc,C1.pj21 C1.cc,C1.pj22 C1.cc,C1.pj23 C1.cc,fun n => [news].getD n news,C1.pj25 C1.cc,C1.pj26 C1.cc,C1.pj27 C1.cc,C1.pj28 C1.cc,C1.pj29 C1.cc,C1.pj30 C1.cc,fun n => [rest].getD n rest,C1.pj32 C1.cc,C1.pj33 C1.cc,C1.pj34 C1.cc)
theorem tab_elt {w p loose mean mg mb dp un gd cn cs ad ccd cl outer L base h₀ L' s Q E m TT Lr U rp vi ap usv us pl kT kU kp kl i b ti tb zs lv j x tj tx} : C1.PP_tab_elt w p loose mean mg mb dp un gd cn cs ad ccd cl outer L base h₀ L' s Q E m TT Lr U rp vi ap usv us pl kT kU kp kl i b ti tb zs lv j x tj tx :=
  C1.gg_tab_elt (fun n => [w].getD n w,fun n => [p].getD n p,fun n => [loose].getD n loose,fun n => [mean].getD n mean,fun n => [mg,mb,m].getD n mg,fun n => [dp,un,dp,dp,dp,dp,kT,kU,kp,kl].getD n dp,fun n => [gd].getD n gd,fun n => [cn].getD n cn,fun n => [cs].getD n cs,fun n => [ad,L,L',ad,ad,ad,ad,ad,TT,Lr,U,rp].getD n ad,fun n => [ccd].getD n ccd,fun n => [cl].getD n cl,fun n => [outer].getD n outer,fun n => [base,h₀].getD n base,fun n => [s].getD n s,fun n => [Q].getD n Q,C1.pj16 C1.cc,fun n => [ti,tb,ti,ti,tx,ti,ti,ti,tj].getD n ti,C1.pj18 C1.cc,fun n => [E].getD n E,C1.pj20 C1.cc,C1.pj21 C1.cc,C1.pj22 C1.cc,C1.pj23 C1.cc,fun n => [zs,zs,zs].getD n zs,C1.pj25 C1.cc,C1.pj26 C1.cc,fun n => [vi,vi,ap,usv,lv].getD n vi,C1.pj28 C1.cc,C1.pj29 C1.cc,C1.pj30 C1.cc,C1.pj31 C1.cc,fun n => [us,pl].getD n us,fun n => [i,b,j,x].getD n i,C1.pj34 C1.cc)
theorem ru_while {w p loose mean mg mb dp un gd cn cs ad ccd cl outer L base h₀ L' s Q E c30 c37 o30 o37 I D it lo m x y tx ty} : C1.PP_ru_while w p loose mean mg mb dp un gd cn cs ad ccd cl outer L base h₀ L' s Q E c30 c37 o30 o37 I D it lo m x y tx ty :=
  C1.gg_ru_while (fun n => [w].getD n w,fun n => [p].getD n p,fun n => [loose].getD n loose,fun n => [mean].getD n mean,fun n => [mg,mb,m].getD n mg,fun n => [dp,un].getD n dp,fun n => [gd].getD n gd,fun n => [cn].getD n cn,fun n => [cs].getD n cs,fun n => [ad,L,L',ad,ad,ad,D,ad,ad,ad,ad,ad,c30,c37,I].getD n ad,fun n => [ccd].getD n ccd,fun n => [cl].getD n cl,fun n => [outer].getD n outer,fun n => [base,h₀].getD n base,fun n => [s].getD n s,fun n => [Q].getD n Q,C1.pj16 C1.cc,fun n => [tx,tx,tx,tx,tx,tx,tx,tx,tx,ty].getD n tx,C1.pj18 C1.cc,fun n => [E].getD n E,C1.pj20 C1.cc,C1.pj21 C1.cc,C1.pj22 C1.cc,C1.pj23 C1.cc,C1.pj24 C1.cc,C1.pj25 C1.cc,C1.pj26 C1.cc,C1.pj27 C1.cc,C1.pj28 C1.cc,C1.pj29 C1.cc,C1.pj30 C1.cc,C1.pj31 C1.cc,C1.pj32 C1.cc,fun n => [x,x,x,x,y].getD n x,fun n => [o30,o37,it,lo].getD n o30)
open PyProof.Rows.LCg PyProof.Rows.LCp in
theorem Assign_E {prog : Program} {w : World} {A : Around} {E : Value → Shared → Prop} {s : Shared} {h₀ : Heap} {L : Addr} {m : Str → Option Value} {env : Env} {elt iter : Expr} {x x₂ y : Str} {px px₂ tp py : Pos} {tk} {scope : Scope} {cl : List (Str × Addr)} {pos spos : Pos} {Q : Flow → Shared → Prop} (hLe : env.locals = L)
    (hsw : swapsWith (.ListComp elt [⟨.Tuple [.Name x px,.Name x₂ px₂] tk tp,iter,[],0⟩] scope pos) (some (.Name y py)) spos.line env = pure true)
    (hclos : closureFor scope env = pure cl) (hcell : ∀ z ∈ scope.names,z.2 ≠ .cell) (hkind : scope.kind = .function)
    (hnames : ∀ z ∈ scope.names,z.2 = .local → scope.names.lookup z.1 = some .local) (hx : scope.names.lookup x = some .local) (hx₂ : scope.names.lookup x₂ = some .local) (hxx : x ≠ x₂)
    (hy : env.kindOf y = some .local) (hp : (env.scope.kind == .class || (env.scope.kind == .module && env.locals != env.globals)) = false) (hh : A.handled = none)
    (h : wpAny (model prog w) A (eval iter env) (fun xv s₁ => ∃ (e it l : Addr) (items : Array Value) (news : List (Addr × Obj)) (Y : Nat → Value → Prop),xv = .ref e ∧ (∃ old,IsEnum s₁.heap e it ((0 : Nat) : Int) old) ∧ s₁.heap.IsListIter it l 0 ∧ s₁.heap.IsList l items ∧ e ≠ it ∧ l ≠ e ∧ l ≠ it ∧ items.size ≤ sizeLine ∧
      Fr h₀ L s₁.heap m ∧ News h₀ L s₁.heap news ∧ (∀ p ∈ news,p.1 ≠ e ∧ p.1 ≠ it) ∧ e ≠ L ∧ it ≠ L ∧ h₀.get? e = none ∧ h₀.get? it = none ∧ (∃ lo,(l,lo) ∈ news ∧ lo.cls = .type "list" ∧ ∃ n,lo.data = .seq items n) ∧
      (∀ i t x1 C oC zs m₂ h tk (E' : Value → Shared → Prop),items[i]? = some x1 → NsObj oC m₂ → m₂ x = some (.int ((i : Nat) : Int) t) → m₂ x₂ = some x1 → Fr h₀ L h m → News h₀ L h ((C,oC)::zs) → (∀ q ∈ news,q ∈ zs) → (∀ q ∈ zs,q.1 ≠ C) →
        wpAny (model prog w) A (eval elt (compEnvC scope cl C env)) (fun y s' => Y i y ∧ ∃ h' tk',s' = { s₁ with heap := h',toks := tk' } ∧ Fr h₀ L h' m ∧ News h₀ L h' ((C,oC)::zs)) E' { s₁ with heap := h,toks := tk }) ∧
      (∀ D h tk ys,Fr h₀ L h (fun z => if z = y then some (.ref D) else m z) → News h₀ L h ((D,lst ys)::news) → (∀ q ∈ news,q.1 ≠ D) → ys.length = items.size → (∀ i y',ys[i]? = some y' → Y i y') → Q .next { s₁ with heap := h,toks := tk })) E s)
    (hs : ∀ x,foldedSetIterable iter env x = pure x := by intro _; rfl) :
    wpAny (model prog w) A (exec (.Assign [.Name y py] (.ListComp elt [⟨.Tuple [.Name x px,.Name x₂ px₂] tk tp,iter,[],0⟩] scope pos) spos) env) Q E s := by
  subst hLe
  rw [exec_Assign_Name_used _ _ _ _ hsw]
  refine wpAny_bind (wpAny_standAt (wpAny_bind ?_))
  show wpAny _ A (do let _ ← comprehension (.ListComp elt [⟨.Tuple [.Name x px,.Name x₂ px₂] tk tp,iter,[],0⟩] scope pos) scope env _ (newList []) false (eval iter env) (some (assign (.Name y py) env))) _ _ s
  refine wpAny_bind (wpAny_mono (wpAny_comprehension_free (use := some (assign (.Name y py) env)) (Q := fun _ s' => Q .next s') rfl hs hclos hkind hnames
    (wpAny_mono h (fun xv s₁ h₁ => ?_) fun _ _ e => e)) (fun _ s' hq => wpAny_pure (wpAny_pure hq)) fun _ _ e => e)
  obtain ⟨e,it,l,items,news,Y,rfl,hE,hit,hl,hei,hle,hli,hsz,F,N,off,heL,hiL,he₀,hi₀,lm,turn,fin⟩ := h₁
  have hE' := hE
  obtain ⟨_,hE'⟩ := hE'
  refine wpAny_pyIter_enum hE' ?_
  refine block_E (Y := Y) hcell hkind hx hx₂ hxx hh hE hit hl hei hle hli hsz F N off heL hiL he₀ hi₀ lm turn ?_
  intro D C h' tk m' ys F' N' o1 hn hC₀ hD₀ hCL hDL hCD offC hyl hY
  show wpAny _ A (assign (.Name y py) env (.ref D)) _ _ _
  refine wpAny_assign_Name (wpAny_storeName_local hy F'.ns (fun h₂ hn₂ hs₂ => ?_) hp)
  have hL₀ : h₀.get? env.locals = none := Heap.get?_none_of_le F'.above
  have F₂ : Fr h₀ env.locals h₂ (fun z => if z = y then some (.ref D) else m z) := ⟨hn₂,fun b o e => hs₂.extBut b o (fun q => by rw [q,hL₀] at e; cases e) (F'.keep b o e),F'.above⟩
  refine ⟨m',hn.sameBut hs₂ hCL,fun h'' hs'' => fin D h'' _ ys (F₂.change hs'' hCL hC₀) (fun p hp => ?_) o1 hyl hY⟩
  have z : h₂.get? p.1 = some p.2 := hs₂.extBut _ _ (N' p hp).2.1 (N' p hp).1
  refine ⟨hs''.extBut _ _ ?_ z,(N' p hp).2⟩
  rcases List.mem_cons.mp hp with rfl | hp
  · exact Ne.symm hCD
  · exact offC p hp
theorem words_a35 : True := by
  k_with_none
  exact trivial
open PyProof.Rows.LCg in
theorem law_n0 {w : World} {p : Program} {loose : List Str} {mean : ExcName → Option Value} {mg mb : Str → Option Value}
    {dp un : Nat} {gd : Option (List Code)} {L fa : Addr} {A₀ : Around} {base h₀ : Heap} {s : Shared} {Q : Flow → Shared → Prop} {E : Value → Shared → Prop}
    (B : Below A₀ base [] h₀) (X : (Mine.hd.heap_1 w.params).In h₀) (T : Top p loose mean mg mb h₀) (hd : dp+100 < recursionLimit) (hu : un+600 < cLine)
    (ch1 : CodeHd h₀ 41 37) (ch2 : CodeHd h₀ 34 30) (ch3 : CodeHd h₀ 136 134)
   (rest : List Stmt) {m : Str → Option Value} {jk jq yk jm jt jp jr jl t37 t30 t134 : Obj}
   (hl : @LT.lt Nat _ 134 L) {S : Addr} {vs : List Value} {ns : List Int} (F : Fr h₀ L s.heap m) (N : News h₀ L s.heap ((L+1+1+1+1+1+1+1+1,jk)::(L+1+1+1+1+1+1+1,jq)::(L+1+1+1+1+1+1,yk)::(L+1+1+1+1+1,jm)::(L+1+1+1+1,jt)::(L+1+1+1,jp)::(L+1+1,jr)::(L+1,jl)::(37,t37)::(30,t30)::(134,t134)::[])) (hS : h₀.IsList S vs.toArray) (hI : IntsAre vs ns) (hn : ns.length ≤ 63) (cS : jl.data = .cell (some (.ref S)))
   (fin : ∀ h tk' m' H kH a0 a1 a2 a3 a4 a5 t0 t1 t2 t3 t4 t5,Fr h₀ L h m' → News h₀ L h ((H,listOf #[.int a0 t0,.int a1 t1,.int a2 t2,.int a3 t3,.int a4 t4,.int a5 t5] kH)::(L+1+1+1+1+1+1+1+1,jk)::(L+1+1+1+1+1+1+1,jq)::(L+1+1+1+1+1+1,yk)::(L+1+1+1+1+1,jm)::(L+1+1+1+1,jt)::(L+1+1+1,jp)::(L+1+1,jr)::(L+1,jl)::(37,t37)::(30,t30)::(134,t134)::[]) → AllNe H ((L+1+1+1+1+1+1+1+1,jk)::(L+1+1+1+1+1+1+1,jq)::(L+1+1+1+1+1+1,yk)::(L+1+1+1+1+1,jm)::(L+1+1+1+1,jt)::(L+1+1+1,jp)::(L+1+1,jr)::(L+1,jl)::(37,t37)::(30,t30)::(134,t134)::[]) → m' (Str.ofString "heaps") = some (.ref H) → wpAny (model pw_ty0047_01 w) (lawA dp un gd L fa) (execs rest (lawEnv L fa)) Q E { s with heap := h,toks := tk' })
   : wpAny (model pw_ty0047_01 w) (lawA dp un gd L fa) (execs (lst0::rest) (lawEnv L fa)) Q E s := by
  w_top off
  refine wpAny_execs_cons ?_
  refine Assign_E (L := L) (h₀ := h₀) (m := m) (cl := [(Str.ofString "script", L+1)]) rfl (by with_unfolding_all rfl) (by rfl) (by decide) (by rfl) (by decide) (by rfl) (by rfl) (by decide) (by rfl) (by rfl) (by rfl) ?_
  k_steps
  rename Fr h₀ L _ _ => F1
  rename News h₀ L _ _ => N1
  rename @LT.lt Nat _ _ _ ∧ _ => l1
  have hlA := (N1 _ (.head _)).1
  refine call_enumerate_list ⟨_,hlA,rfl,_,rfl⟩ ?_
  intro h2 hE2 hit2 hsz2 hk2
  dsimp only at hE2 hit2 hsz2 hk2 ⊢
  have hLs := F1.ns.lt
  have hls := Heap.lt_size hlA
  have hlts : ∀ p ∈ (_ : List (Addr × Obj)),@LT.lt Nat _ p.1 _ := fun p hp => Heap.lt_size (N1 p hp).1
  have hnn := next_is_new F1
  have hn1 : h₀.get? (_+1) = none := Heap.get?_none_of_le (Nat.le_trans F1.above (Nat.le_of_lt (Nat.lt_succ_of_lt hLs)))
  refine ⟨_,_,_,_,_,fun _ v => ∃ z t,v = .int z t,rfl,⟨_,hE2⟩,hit2,⟨_,hk2 _ _ hlA,rfl,_,rfl⟩,Nat.succ_ne_self _,Nat.ne_of_lt (Nat.lt_succ_of_lt hls),Nat.ne_of_lt hls,show 6 ≤ _ by decide,F1.keeps hk2,N1.grown hk2,fun p hp => ⟨Nat.ne_of_lt (Nat.lt_succ_of_lt (hlts p hp)),Nat.ne_of_lt (hlts p hp)⟩,Nat.ne_of_gt (Nat.lt_succ_of_lt hLs),Nat.ne_of_gt hLs,hn1,hnn,⟨_,.head _,rfl,_,rfl⟩,?_,?_⟩
  · intro i t x1 C oC zs m₂ h tk E' hi hoC mk mx F9 N9 hsub hne
    obtain ⟨hi6,z,tz,rfl⟩ : i < 6 ∧ ∃ z tz,x1 = Value.int z tz := by
      match i,hi with
      | 0,hi => simp at hi; exact ⟨by decide,_,_,hi.symm⟩
      | 1,hi => simp at hi; exact ⟨by decide,_,_,hi.symm⟩
      | 2,hi => simp at hi; exact ⟨by decide,_,_,hi.symm⟩
      | 3,hi => simp at hi; exact ⟨by decide,_,_,hi.symm⟩
      | 4,hi => simp at hi; exact ⟨by decide,_,_,hi.symm⟩
      | 5,hi => simp at hi; exact ⟨by decide,_,_,hi.symm⟩
      | n+6,hi => simp at hi
    refine law_e0 B X T hd hu ch1 ch2 ch3 F9 N9 hS hI hn hi6 hoC mk mx (hsub _ (by k_mem)) cS ?_
    intro v tv h3 tk3 F3 N3
    exact ⟨⟨v,tv,rfl⟩,_,_,rfl,F3,N3⟩
  · intro D h tk ys F9 N9 hne hyl hY
    obtain ⟨a0,a1,a2,a3,a4,a5,t0,t1,t2,t3,t4,t5,rfl⟩ := ints6 hyl hY
    exact fin _ _ _ D _ a0 a1 a2 a3 a4 a5 t0 t1 t2 t3 t4 t5 F9 (cb_drop N9 (by lcg_sub)) (allNe_of fun q hq => hne q (.tail _ hq)) (if_pos rfl)
section
local macro_rules | `(tactic| k_all) => `(tactic| assumption)
theorem words_a36 : True := by
  k_with_none
  k_with "eval Name" => (name_kind "local"; k_dflt (refine' ld ?F ?v ?_; (case F => k_asm); (case v => walk_at "k_opq")))
  k_with "subscriptTail" => ((with_reducible show wpAny _ _ (subscriptTail _ _ (Value.ref _) (Value.int _ _)) _ _ _); (with_reducible rename News _ _ _ _ => N'); first
  | (refine tb_last N' (by with_reducible assumption) ?_)
  | (refine tb_int N' (by with_reducible assumption) (by with_reducible assumption) (by omega) (by omega) (by omega) ?_; intro _))
  k_with "binaryOp Mult int int" => ((with_reducible refine mul_to rfl (tab_ok (by with_reducible assumption)) ?_))
  k_with "omega" => lia
  exact trivial
theorem tab_in {w : World} {p : Program} {loose : List Str} {mean : ExcName → Option Value} {mg mb : Str → Option Value}
    {dp un : Nat} {gd : Option (List Code)} {cn : Str} {cs : Scope} {ad : Addr} {ccd : Value} {cl : List (Str × Addr)} {outer : List Env} {L : Addr} {base h₀ : Heap} {L' : Addr} {s : Shared} {Q : Flow → Shared → Prop} {E : Value → Shared → Prop} (hk : cs.kind = .function)
    (B : Below (ktrTop dp un gd cn cs L ad ccd cl outer) base (envX cn cs L ad ccd cl::outer) h₀) (X : (Mine.hd.heap_1 w.params).In h₀) (T : Top p loose mean mg mb h₀) (hd : dp+10 < recursionLimit) (hu : un+60 < cLine)
   (hE : PassesOwn (model pw_ty0047_01 w) ((ktrTop dp un gd cn cs L ad ccd cl outer).deeper (tbEnv L')) (tbEnv L') E) {m : Str → Option Value} {TT Lr U rp : Addr} {vi ap usv : List Value} {us pl : List Int} {kT kU kp kl : Nat} {i b : Int} {ti tb : Tok} {zs : List (Addr × Obj)} {t0 : Tok} (F : Fr h₀ L' s.heap m) (N : News h₀ L' s.heap ((Lr,listOf [Value.int 1 t0].toArray kl)::zs))
   (hT : (TT,listOf (vi ++ [Value.ref rp]).toArray kT) ∈ zs) (hU : (U,listOf usv.toArray kU) ∈ zs) (hp : (rp,listOf ap.toArray kp) ∈ zs) (hLz : ∀ q ∈ zs,q.1 ≠ Lr)
   (hUi : IntsAre usv us) (hul : us.length = 10) (hpi : IntsAre ap pl) (hpl : pl.length = 6) (mi : m (Str.ofString "i") = some (.int i ti)) (mt : m (Str.ofString "table") = some (.ref TT)) (mu : m (Str.ofString "units") = some (.ref U)) (ms : m (Str.ofString "second") = some (.int b tb)) (i1 : 1 ≤ i) (i5 : i ≤ 5) (hb : bnd60 b) (ml : m (Str.ofString "line") = some (.ref Lr)) (bu2 : bnd60 (us.getD 2 0)) (bu3 : bnd60 (us.getD 3 0)) (bu4 : bnd60 (us.getD 4 0)) (bu5 : bnd60 (us.getD 5 0)) (bu6 : bnd60 (us.getD 6 0)) (bc : bnd60 (b * us.getD (i - 1).toNat 0))
   (fin : ∀ h tk m' ln kl' l,Fr h₀ L' h m' → News h₀ L' h ((Lr,listOf ln.toArray kl')::zs) → IntsAre ln l → l.length = 6 → NextOk us b i.toNat pl l → (∀ y,y ≠ Str.ofString "j" → m' y = m y) → Q .next { s with heap := h,toks := tk })
   : wpAny (model pw_ty0047_01 w) ((ktrTop dp un gd cn cs L ad ccd cl outer).deeper (tbEnv L')) (exec tbIn (tbEnv L')) Q E s := by
  w_top off
  refine For_invVF F (by rfl) (by rfl) ?_ (hE := hE)
  iterate 16 (first | (with_reducible show wpAny _ _ (pyIter _) _ _ _) | walk1 | (dsimp only; walk1))
  rename IsRange _ _ _ _ _ _ _ _ => hr
  rename Fr h₀ L' _ _ => F9
  rename News h₀ L' _ _ => N9
  refine iter_rangeUnr (n := 5) rfl hr (by decide) (by decide) F9 N9 ?_
  intro I lI
  clear F9 N9 hr
  have hIL : @Ne Nat I Lr := Nat.ne_of_gt (lI _ (.head _))
  have hIz : ∀ q ∈ zs,@Ne Nat q.1 I := fun q hq => Nat.ne_of_lt (lI q (.tail _ hq))
  have hLI : ∀ it,∀ q ∈ (I,it)::zs,q.1 ≠ Lr := fun it q hq => by
    rcases List.mem_cons.mp hq with rfl | hq
    · exact hIL
    · exact hLz q hq
  have kp0 : ∀ y,y ≠ Str.ofString "j" → m y = m y := fun _ _ => rfl
  refine RangeRest.succ ?_
  intro tj0 h0 tk0 F0 N0
  refine wpAny_execs_cons ?_
  refine tab_elt (lv := []) (x := 1) (zs := (I,_)::zs) hk B X T hd hu F0 (cb_drop N0 (swap2 (a := [(I,_)]))) (.tail _ hT) (.tail _ hU) (.tail _ hp) (hLI _) hUi hul hpi hpl ((if_neg (by decide)).trans ((kp0 _ (by decide)).trans mi)) ((if_neg (by decide)).trans ((kp0 _ (by decide)).trans mt)) ((if_neg (by decide)).trans ((kp0 _ (by decide)).trans mu)) ((if_neg (by decide)).trans ((kp0 _ (by decide)).trans ms)) i1 i5 hb (if_pos rfl) ((if_neg (by decide)).trans ((kp0 _ (by decide)).trans ml)) (by decide) (by decide) bu2 bc (Nat.le_of_ble_eq_true rfl) ?_
  intro g0 tg0 te0 G0 NG0
  refine wpAny_execs_nil ?_
  refine UnrEnd.intro G0 NG0 ((Lr,listOf ([Value.int 1 t0,Value.int (us.getD (1 + ((0 : Nat) : Int)+1).toNat 0 * pl.getD (1 + ((0 : Nat) : Int)).toNat 0 - b * us.getD (i - 1).toNat 0 * 1) te0] : List Value).toArray (kl+1))::zs) (swap2 (a := [(Lr,_)])) (fun q hq => by
    rcases List.mem_cons.mp hq with rfl | hq
    · exact Ne.symm hIL
    · exact hIz q hq) ?_
  have kp1 : ∀ y,y ≠ Str.ofString "j" → (fun y => if y = Str.ofString "j" then some (Value.int (1 + ((0 : Nat) : Int)) tj0) else _) y = m y := fun y e => (if_neg e).trans (kp0 y e)
  refine RangeRest.succ ?_
  intro tj1 h1 tk1 F1 N1
  refine wpAny_execs_cons ?_
  refine tab_elt (lv := [Value.int 1 t0]) (x := (us.getD (1 + ((0 : Nat) : Int)+1).toNat 0 * pl.getD (1 + ((0 : Nat) : Int)).toNat 0 - b * us.getD (i - 1).toNat 0 * 1)) (zs := (I,_)::zs) hk B X T hd hu F1 (cb_drop N1 (swap2 (a := [(I,_)]))) (.tail _ hT) (.tail _ hU) (.tail _ hp) (hLI _) hUi hul hpi hpl ((if_neg (by decide)).trans ((kp1 _ (by decide)).trans mi)) ((if_neg (by decide)).trans ((kp1 _ (by decide)).trans mt)) ((if_neg (by decide)).trans ((kp1 _ (by decide)).trans mu)) ((if_neg (by decide)).trans ((kp1 _ (by decide)).trans ms)) i1 i5 hb (if_pos rfl) ((if_neg (by decide)).trans ((kp1 _ (by decide)).trans ml)) (by decide) (by decide) bu3 bc (Nat.le_of_ble_eq_true rfl) ?_
  intro g1 tg1 te1 G1 NG1
  refine wpAny_execs_nil ?_
  refine UnrEnd.intro G1 NG1 ((Lr,listOf ([Value.int 1 t0,Value.int (us.getD (1 + ((0 : Nat) : Int)+1).toNat 0 * pl.getD (1 + ((0 : Nat) : Int)).toNat 0 - b * us.getD (i - 1).toNat 0 * 1) te0,Value.int (us.getD (1 + ((1 : Nat) : Int)+1).toNat 0 * pl.getD (1 + ((1 : Nat) : Int)).toNat 0 - b * us.getD (i - 1).toNat 0 * (us.getD (1 + ((0 : Nat) : Int)+1).toNat 0 * pl.getD (1 + ((0 : Nat) : Int)).toNat 0 - b * us.getD (i - 1).toNat 0 * 1)) te1] : List Value).toArray (kl+1+1))::zs) (swap2 (a := [(Lr,_)])) (fun q hq => by
    rcases List.mem_cons.mp hq with rfl | hq
    · exact Ne.symm hIL
    · exact hIz q hq) ?_
  have kp2 : ∀ y,y ≠ Str.ofString "j" → (fun y => if y = Str.ofString "j" then some (Value.int (1 + ((1 : Nat) : Int)) tj1) else _) y = m y := fun y e => (if_neg e).trans (kp1 y e)
  refine RangeRest.succ ?_
  intro tj2 h2 tk2 F2 N2
  refine wpAny_execs_cons ?_
  refine tab_elt (lv := [Value.int 1 t0,Value.int (us.getD (1 + ((0 : Nat) : Int)+1).toNat 0 * pl.getD (1 + ((0 : Nat) : Int)).toNat 0 - b * us.getD (i - 1).toNat 0 * 1) te0]) (x := (us.getD (1 + ((1 : Nat) : Int)+1).toNat 0 * pl.getD (1 + ((1 : Nat) : Int)).toNat 0 - b * us.getD (i - 1).toNat 0 * (us.getD (1 + ((0 : Nat) : Int)+1).toNat 0 * pl.getD (1 + ((0 : Nat) : Int)).toNat 0 - b * us.getD (i - 1).toNat 0 * 1))) (zs := (I,_)::zs) hk B X T hd hu F2 (cb_drop N2 (swap2 (a := [(I,_)]))) (.tail _ hT) (.tail _ hU) (.tail _ hp) (hLI _) hUi hul hpi hpl ((if_neg (by decide)).trans ((kp2 _ (by decide)).trans mi)) ((if_neg (by decide)).trans ((kp2 _ (by decide)).trans mt)) ((if_neg (by decide)).trans ((kp2 _ (by decide)).trans mu)) ((if_neg (by decide)).trans ((kp2 _ (by decide)).trans ms)) i1 i5 hb (if_pos rfl) ((if_neg (by decide)).trans ((kp2 _ (by decide)).trans ml)) (by decide) (by decide) bu4 bc (Nat.le_of_ble_eq_true rfl) ?_
  intro g2 tg2 te2 G2 NG2
  refine wpAny_execs_nil ?_
  refine UnrEnd.intro G2 NG2 ((Lr,listOf ([Value.int 1 t0,Value.int (us.getD (1 + ((0 : Nat) : Int)+1).toNat 0 * pl.getD (1 + ((0 : Nat) : Int)).toNat 0 - b * us.getD (i - 1).toNat 0 * 1) te0,Value.int (us.getD (1 + ((1 : Nat) : Int)+1).toNat 0 * pl.getD (1 + ((1 : Nat) : Int)).toNat 0 - b * us.getD (i - 1).toNat 0 * (us.getD (1 + ((0 : Nat) : Int)+1).toNat 0 * pl.getD (1 + ((0 : Nat) : Int)).toNat 0 - b * us.getD (i - 1).toNat 0 * 1)) te1,Value.int (us.getD (1 + ((2 : Nat) : Int)+1).toNat 0 * pl.getD (1 + ((2 : Nat) : Int)).toNat 0 - b * us.getD (i - 1).toNat 0 * (us.getD (1 + ((1 : Nat) : Int)+1).toNat 0 * pl.getD (1 + ((1 : Nat) : Int)).toNat 0 - b * us.getD (i - 1).toNat 0 * (us.getD (1 + ((0 : Nat) : Int)+1).toNat 0 * pl.getD (1 + ((0 : Nat) : Int)).toNat 0 - b * us.getD (i - 1).toNat 0 * 1))) te2] : List Value).toArray (kl+1+1+1))::zs) (swap2 (a := [(Lr,_)])) (fun q hq => by
    rcases List.mem_cons.mp hq with rfl | hq
    · exact Ne.symm hIL
    · exact hIz q hq) ?_
  have kp3 : ∀ y,y ≠ Str.ofString "j" → (fun y => if y = Str.ofString "j" then some (Value.int (1 + ((2 : Nat) : Int)) tj2) else _) y = m y := fun y e => (if_neg e).trans (kp2 y e)
  refine RangeRest.succ ?_
  intro tj3 h3 tk3 F3 N3
  refine wpAny_execs_cons ?_
  refine tab_elt (lv := [Value.int 1 t0,Value.int (us.getD (1 + ((0 : Nat) : Int)+1).toNat 0 * pl.getD (1 + ((0 : Nat) : Int)).toNat 0 - b * us.getD (i - 1).toNat 0 * 1) te0,Value.int (us.getD (1 + ((1 : Nat) : Int)+1).toNat 0 * pl.getD (1 + ((1 : Nat) : Int)).toNat 0 - b * us.getD (i - 1).toNat 0 * (us.getD (1 + ((0 : Nat) : Int)+1).toNat 0 * pl.getD (1 + ((0 : Nat) : Int)).toNat 0 - b * us.getD (i - 1).toNat 0 * 1)) te1]) (x := (us.getD (1 + ((2 : Nat) : Int)+1).toNat 0 * pl.getD (1 + ((2 : Nat) : Int)).toNat 0 - b * us.getD (i - 1).toNat 0 * (us.getD (1 + ((1 : Nat) : Int)+1).toNat 0 * pl.getD (1 + ((1 : Nat) : Int)).toNat 0 - b * us.getD (i - 1).toNat 0 * (us.getD (1 + ((0 : Nat) : Int)+1).toNat 0 * pl.getD (1 + ((0 : Nat) : Int)).toNat 0 - b * us.getD (i - 1).toNat 0 * 1)))) (zs := (I,_)::zs) hk B X T hd hu F3 (cb_drop N3 (swap2 (a := [(I,_)]))) (.tail _ hT) (.tail _ hU) (.tail _ hp) (hLI _) hUi hul hpi hpl ((if_neg (by decide)).trans ((kp3 _ (by decide)).trans mi)) ((if_neg (by decide)).trans ((kp3 _ (by decide)).trans mt)) ((if_neg (by decide)).trans ((kp3 _ (by decide)).trans mu)) ((if_neg (by decide)).trans ((kp3 _ (by decide)).trans ms)) i1 i5 hb (if_pos rfl) ((if_neg (by decide)).trans ((kp3 _ (by decide)).trans ml)) (by decide) (by decide) bu5 bc (Nat.le_of_ble_eq_true rfl) ?_
  intro g3 tg3 te3 G3 NG3
  refine wpAny_execs_nil ?_
  refine UnrEnd.intro G3 NG3 ((Lr,listOf ([Value.int 1 t0,Value.int (us.getD (1 + ((0 : Nat) : Int)+1).toNat 0 * pl.getD (1 + ((0 : Nat) : Int)).toNat 0 - b * us.getD (i - 1).toNat 0 * 1) te0,Value.int (us.getD (1 + ((1 : Nat) : Int)+1).toNat 0 * pl.getD (1 + ((1 : Nat) : Int)).toNat 0 - b * us.getD (i - 1).toNat 0 * (us.getD (1 + ((0 : Nat) : Int)+1).toNat 0 * pl.getD (1 + ((0 : Nat) : Int)).toNat 0 - b * us.getD (i - 1).toNat 0 * 1)) te1,Value.int (us.getD (1 + ((2 : Nat) : Int)+1).toNat 0 * pl.getD (1 + ((2 : Nat) : Int)).toNat 0 - b * us.getD (i - 1).toNat 0 * (us.getD (1 + ((1 : Nat) : Int)+1).toNat 0 * pl.getD (1 + ((1 : Nat) : Int)).toNat 0 - b * us.getD (i - 1).toNat 0 * (us.getD (1 + ((0 : Nat) : Int)+1).toNat 0 * pl.getD (1 + ((0 : Nat) : Int)).toNat 0 - b * us.getD (i - 1).toNat 0 * 1))) te2,Value.int (us.getD (1 + ((3 : Nat) : Int)+1).toNat 0 * pl.getD (1 + ((3 : Nat) : Int)).toNat 0 - b * us.getD (i - 1).toNat 0 * (us.getD (1 + ((2 : Nat) : Int)+1).toNat 0 * pl.getD (1 + ((2 : Nat) : Int)).toNat 0 - b * us.getD (i - 1).toNat 0 * (us.getD (1 + ((1 : Nat) : Int)+1).toNat 0 * pl.getD (1 + ((1 : Nat) : Int)).toNat 0 - b * us.getD (i - 1).toNat 0 * (us.getD (1 + ((0 : Nat) : Int)+1).toNat 0 * pl.getD (1 + ((0 : Nat) : Int)).toNat 0 - b * us.getD (i - 1).toNat 0 * 1)))) te3] : List Value).toArray (kl+1+1+1+1))::zs) (swap2 (a := [(Lr,_)])) (fun q hq => by
    rcases List.mem_cons.mp hq with rfl | hq
    · exact Ne.symm hIL
    · exact hIz q hq) ?_
  have kp4 : ∀ y,y ≠ Str.ofString "j" → (fun y => if y = Str.ofString "j" then some (Value.int (1 + ((3 : Nat) : Int)) tj3) else _) y = m y := fun y e => (if_neg e).trans (kp3 y e)
  refine RangeRest.succ ?_
  intro tj4 h4 tk4 F4 N4
  refine wpAny_execs_cons ?_
  refine tab_elt (lv := [Value.int 1 t0,Value.int (us.getD (1 + ((0 : Nat) : Int)+1).toNat 0 * pl.getD (1 + ((0 : Nat) : Int)).toNat 0 - b * us.getD (i - 1).toNat 0 * 1) te0,Value.int (us.getD (1 + ((1 : Nat) : Int)+1).toNat 0 * pl.getD (1 + ((1 : Nat) : Int)).toNat 0 - b * us.getD (i - 1).toNat 0 * (us.getD (1 + ((0 : Nat) : Int)+1).toNat 0 * pl.getD (1 + ((0 : Nat) : Int)).toNat 0 - b * us.getD (i - 1).toNat 0 * 1)) te1,Value.int (us.getD (1 + ((2 : Nat) : Int)+1).toNat 0 * pl.getD (1 + ((2 : Nat) : Int)).toNat 0 - b * us.getD (i - 1).toNat 0 * (us.getD (1 + ((1 : Nat) : Int)+1).toNat 0 * pl.getD (1 + ((1 : Nat) : Int)).toNat 0 - b * us.getD (i - 1).toNat 0 * (us.getD (1 + ((0 : Nat) : Int)+1).toNat 0 * pl.getD (1 + ((0 : Nat) : Int)).toNat 0 - b * us.getD (i - 1).toNat 0 * 1))) te2]) (x := (us.getD (1 + ((3 : Nat) : Int)+1).toNat 0 * pl.getD (1 + ((3 : Nat) : Int)).toNat 0 - b * us.getD (i - 1).toNat 0 * (us.getD (1 + ((2 : Nat) : Int)+1).toNat 0 * pl.getD (1 + ((2 : Nat) : Int)).toNat 0 - b * us.getD (i - 1).toNat 0 * (us.getD (1 + ((1 : Nat) : Int)+1).toNat 0 * pl.getD (1 + ((1 : Nat) : Int)).toNat 0 - b * us.getD (i - 1).toNat 0 * (us.getD (1 + ((0 : Nat) : Int)+1).toNat 0 * pl.getD (1 + ((0 : Nat) : Int)).toNat 0 - b * us.getD (i - 1).toNat 0 * 1))))) (zs := (I,_)::zs) hk B X T hd hu F4 (cb_drop N4 (swap2 (a := [(I,_)]))) (.tail _ hT) (.tail _ hU) (.tail _ hp) (hLI _) hUi hul hpi hpl ((if_neg (by decide)).trans ((kp4 _ (by decide)).trans mi)) ((if_neg (by decide)).trans ((kp4 _ (by decide)).trans mt)) ((if_neg (by decide)).trans ((kp4 _ (by decide)).trans mu)) ((if_neg (by decide)).trans ((kp4 _ (by decide)).trans ms)) i1 i5 hb (if_pos rfl) ((if_neg (by decide)).trans ((kp4 _ (by decide)).trans ml)) (by decide) (by decide) bu6 bc (Nat.le_of_ble_eq_true rfl) ?_
  intro g4 tg4 te4 G4 NG4
  refine wpAny_execs_nil ?_
  refine UnrEnd.intro G4 NG4 ((Lr,listOf ([Value.int 1 t0,Value.int (us.getD (1 + ((0 : Nat) : Int)+1).toNat 0 * pl.getD (1 + ((0 : Nat) : Int)).toNat 0 - b * us.getD (i - 1).toNat 0 * 1) te0,Value.int (us.getD (1 + ((1 : Nat) : Int)+1).toNat 0 * pl.getD (1 + ((1 : Nat) : Int)).toNat 0 - b * us.getD (i - 1).toNat 0 * (us.getD (1 + ((0 : Nat) : Int)+1).toNat 0 * pl.getD (1 + ((0 : Nat) : Int)).toNat 0 - b * us.getD (i - 1).toNat 0 * 1)) te1,Value.int (us.getD (1 + ((2 : Nat) : Int)+1).toNat 0 * pl.getD (1 + ((2 : Nat) : Int)).toNat 0 - b * us.getD (i - 1).toNat 0 * (us.getD (1 + ((1 : Nat) : Int)+1).toNat 0 * pl.getD (1 + ((1 : Nat) : Int)).toNat 0 - b * us.getD (i - 1).toNat 0 * (us.getD (1 + ((0 : Nat) : Int)+1).toNat 0 * pl.getD (1 + ((0 : Nat) : Int)).toNat 0 - b * us.getD (i - 1).toNat 0 * 1))) te2,Value.int (us.getD (1 + ((3 : Nat) : Int)+1).toNat 0 * pl.getD (1 + ((3 : Nat) : Int)).toNat 0 - b * us.getD (i - 1).toNat 0 * (us.getD (1 + ((2 : Nat) : Int)+1).toNat 0 * pl.getD (1 + ((2 : Nat) : Int)).toNat 0 - b * us.getD (i - 1).toNat 0 * (us.getD (1 + ((1 : Nat) : Int)+1).toNat 0 * pl.getD (1 + ((1 : Nat) : Int)).toNat 0 - b * us.getD (i - 1).toNat 0 * (us.getD (1 + ((0 : Nat) : Int)+1).toNat 0 * pl.getD (1 + ((0 : Nat) : Int)).toNat 0 - b * us.getD (i - 1).toNat 0 * 1)))) te3,Value.int (us.getD (1 + ((4 : Nat) : Int)+1).toNat 0 * pl.getD (1 + ((4 : Nat) : Int)).toNat 0 - b * us.getD (i - 1).toNat 0 * (us.getD (1 + ((3 : Nat) : Int)+1).toNat 0 * pl.getD (1 + ((3 : Nat) : Int)).toNat 0 - b * us.getD (i - 1).toNat 0 * (us.getD (1 + ((2 : Nat) : Int)+1).toNat 0 * pl.getD (1 + ((2 : Nat) : Int)).toNat 0 - b * us.getD (i - 1).toNat 0 * (us.getD (1 + ((1 : Nat) : Int)+1).toNat 0 * pl.getD (1 + ((1 : Nat) : Int)).toNat 0 - b * us.getD (i - 1).toNat 0 * (us.getD (1 + ((0 : Nat) : Int)+1).toNat 0 * pl.getD (1 + ((0 : Nat) : Int)).toNat 0 - b * us.getD (i - 1).toNat 0 * 1))))) te4] : List Value).toArray (kl+1+1+1+1+1))::zs) (swap2 (a := [(Lr,_)])) (fun q hq => by
    rcases List.mem_cons.mp hq with rfl | hq
    · exact Ne.symm hIL
    · exact hIz q hq) ?_
  have kp5 : ∀ y,y ≠ Str.ofString "j" → (fun y => if y = Str.ofString "j" then some (Value.int (1 + ((4 : Nat) : Int)) tj4) else _) y = m y := fun y e => (if_neg e).trans (kp4 y e)
  refine RangeRest.zero ?_
  intro h tk F N
  have hi : (i - 1).toNat = i.toNat - 1 := by omega
  refine fin h tk _ _ _ [1,(us.getD (1 + ((0 : Nat) : Int)+1).toNat 0 * pl.getD (1 + ((0 : Nat) : Int)).toNat 0 - b * us.getD (i - 1).toNat 0 * 1),(us.getD (1 + ((1 : Nat) : Int)+1).toNat 0 * pl.getD (1 + ((1 : Nat) : Int)).toNat 0 - b * us.getD (i - 1).toNat 0 * (us.getD (1 + ((0 : Nat) : Int)+1).toNat 0 * pl.getD (1 + ((0 : Nat) : Int)).toNat 0 - b * us.getD (i - 1).toNat 0 * 1)),(us.getD (1 + ((2 : Nat) : Int)+1).toNat 0 * pl.getD (1 + ((2 : Nat) : Int)).toNat 0 - b * us.getD (i - 1).toNat 0 * (us.getD (1 + ((1 : Nat) : Int)+1).toNat 0 * pl.getD (1 + ((1 : Nat) : Int)).toNat 0 - b * us.getD (i - 1).toNat 0 * (us.getD (1 + ((0 : Nat) : Int)+1).toNat 0 * pl.getD (1 + ((0 : Nat) : Int)).toNat 0 - b * us.getD (i - 1).toNat 0 * 1))),(us.getD (1 + ((3 : Nat) : Int)+1).toNat 0 * pl.getD (1 + ((3 : Nat) : Int)).toNat 0 - b * us.getD (i - 1).toNat 0 * (us.getD (1 + ((2 : Nat) : Int)+1).toNat 0 * pl.getD (1 + ((2 : Nat) : Int)).toNat 0 - b * us.getD (i - 1).toNat 0 * (us.getD (1 + ((1 : Nat) : Int)+1).toNat 0 * pl.getD (1 + ((1 : Nat) : Int)).toNat 0 - b * us.getD (i - 1).toNat 0 * (us.getD (1 + ((0 : Nat) : Int)+1).toNat 0 * pl.getD (1 + ((0 : Nat) : Int)).toNat 0 - b * us.getD (i - 1).toNat 0 * 1)))),(us.getD (1 + ((4 : Nat) : Int)+1).toNat 0 * pl.getD (1 + ((4 : Nat) : Int)).toNat 0 - b * us.getD (i - 1).toNat 0 * (us.getD (1 + ((3 : Nat) : Int)+1).toNat 0 * pl.getD (1 + ((3 : Nat) : Int)).toNat 0 - b * us.getD (i - 1).toNat 0 * (us.getD (1 + ((2 : Nat) : Int)+1).toNat 0 * pl.getD (1 + ((2 : Nat) : Int)).toNat 0 - b * us.getD (i - 1).toNat 0 * (us.getD (1 + ((1 : Nat) : Int)+1).toNat 0 * pl.getD (1 + ((1 : Nat) : Int)).toNat 0 - b * us.getD (i - 1).toNat 0 * (us.getD (1 + ((0 : Nat) : Int)+1).toNat 0 * pl.getD (1 + ((0 : Nat) : Int)).toNat 0 - b * us.getD (i - 1).toNat 0 * 1)))))] F N (.cons _ _ (.cons _ _ (.cons _ _ (.cons _ _ (.cons _ _ (.cons _ _ .nil)))))) rfl ?_ kp5
  rw [hi]
  exact ⟨_,_,_,_,_,rfl,rfl,rfl,rfl,rfl,rfl⟩
theorem tab_row {w : World} {p : Program} {loose : List Str} {mean : ExcName → Option Value} {mg mb : Str → Option Value}
    {dp un : Nat} {gd : Option (List Code)} {cn : Str} {cs : Scope} {ad : Addr} {ccd : Value} {cl : List (Str × Addr)} {outer : List Env} {L : Addr} {base h₀ : Heap} {L' : Addr} {s : Shared} {Q : Flow → Shared → Prop} {E : Value → Shared → Prop} (hk : cs.kind = .function)
    (B : Below (ktrTop dp un gd cn cs L ad ccd cl outer) base (envX cn cs L ad ccd cl::outer) h₀) (X : (Mine.hd.heap_1 w.params).In h₀) (T : Top p loose mean mg mb h₀) (hd : dp+10 < recursionLimit) (hu : un+60 < cLine)
   (hE : PassesOwn (model pw_ty0047_01 w) ((ktrTop dp un gd cn cs L ad ccd cl outer).deeper (tbEnv L')) (tbEnv L') E) {m : Str → Option Value} {TT U rp : Addr} {vi ap usv : List Value} {us pl : List Int} {kT kU kp : Nat} {i b : Int} {ti tb : Tok} {zs : List (Addr × Obj)} (F : Fr h₀ L' s.heap m) (N : News h₀ L' s.heap ((TT,listOf (vi ++ [Value.ref rp]).toArray kT)::zs))
   (hU : (U,listOf usv.toArray kU) ∈ zs) (hp : (rp,listOf ap.toArray kp) ∈ zs) (hTz : ∀ q ∈ zs,@Ne Nat q.1 TT) (hUi : IntsAre usv us) (hul : us.length = 10) (hpi : IntsAre ap pl) (hpl : pl.length = 6) (mi : m (Str.ofString "i") = some (.int i ti)) (mt : m (Str.ofString "table") = some (.ref TT)) (mu : m (Str.ofString "units") = some (.ref U)) (ms : m (Str.ofString "second") = some (.int b tb)) (i1 : 1 ≤ i) (i5 : i ≤ 5) (hb : bnd60 b) (bu2 : bnd60 (us.getD 2 0)) (bu3 : bnd60 (us.getD 3 0)) (bu4 : bnd60 (us.getD 4 0)) (bu5 : bnd60 (us.getD 5 0)) (bu6 : bnd60 (us.getD 6 0)) (bc : bnd60 (b * us.getD (i - 1).toNat 0)) (hsz : (vi ++ [Value.ref rp]).length ≤ 8)
   (fin : ∀ h tk m' Lr ln kl' l,Fr h₀ L' h m' → News h₀ L' h ((TT,listOf (vi ++ [Value.ref rp] ++ [Value.ref Lr]).toArray (kT+1))::(Lr,listOf ln.toArray kl')::zs) → (∀ q ∈ (Lr,listOf ln.toArray kl')::zs,@Ne Nat q.1 TT) → IntsAre ln l → l.length = 6 → NextOk us b i.toNat pl l → (∀ y,y ≠ Str.ofString "j" → y ≠ Str.ofString "line" → m' y = m y) → (∀ q ∈ zs,@Ne Nat q.1 Lr) → Q .next { s with heap := h,toks := tk })
   : wpAny (model pw_ty0047_01 w) ((ktrTop dp un gd cn cs L ad ccd cl outer).deeper (tbEnv L')) (execs [tbB0,tbIn,tbB2] (tbEnv L')) Q E s := by
  refine wpAny_execs_cons ?_
  refine tab_b0 hk B X T hd hu F N ?_
  intro h1 tk1 Lr t k F1 N1 hl1
  refine wpAny_execs_cons ?_
  refine tab_in hk B X T hd hu hE (zs := (TT,listOf (vi ++ [Value.ref rp]).toArray kT)::zs) F1 N1 (.head _) (.tail _ hU) (.tail _ hp) hl1 hUi hul hpi hpl ((if_neg (by decide)).trans mi) ((if_neg (by decide)).trans mt) ((if_neg (by decide)).trans mu) ((if_neg (by decide)).trans ms) i1 i5 hb (if_pos rfl) bu2 bu3 bu4 bu5 bu6 bc ?_
  intro h2 tk2 m2 ln kl' l F2 N2 hIl hll hnx kp
  have hTz2 : ∀ q ∈ (Lr,listOf ln.toArray kl')::zs,@Ne Nat q.1 TT := fun q hq => by
    rcases List.mem_cons.mp hq with rfl | hq
    · exact Ne.symm (hl1 _ (.head _))
    · exact hTz q hq
  refine wpAny_execs_cons ?_
  refine tab_b2 hk B X T hd hu (xs := vi ++ [Value.ref rp]) (led := (Lr,listOf ln.toArray kl')::zs) F2 (cb_drop N2 (swap2 (a := [(Lr,_)]))) hTz2 ((kp _ (by decide)).trans ((if_neg (by decide)).trans mt)) ((kp _ (by decide)).trans (if_pos rfl)) hsz ?_
  intro h3 tk3 F3 N3
  refine wpAny_execs_nil ?_
  exact fin _ _ m2 Lr ln kl' l F3 N3 hTz2 hIl hll hnx (fun y e1 e2 => (kp y e1).trans (if_neg e2)) (fun q hq => hl1 q (.tail _ hq))
theorem tab_loop {w : World} {p : Program} {loose : List Str} {mean : ExcName → Option Value} {mg mb : Str → Option Value}
    {dp un : Nat} {gd : Option (List Code)} {cn : Str} {cs : Scope} {ad : Addr} {ccd : Value} {cl : List (Str × Addr)} {outer : List Env} {L : Addr} {base h₀ : Heap} {L' : Addr} {s : Shared} {Q : Flow → Shared → Prop} {E : Value → Shared → Prop} (hk : cs.kind = .function)
    (B : Below (ktrTop dp un gd cn cs L ad ccd cl outer) base (envX cn cs L ad ccd cl::outer) h₀) (X : (Mine.hd.heap_1 w.params).In h₀) (T : Top p loose mean mg mb h₀) (hd : dp+10 < recursionLimit) (hu : un+60 < cLine)
   (hE : PassesOwn (model pw_ty0047_01 w) ((ktrTop dp un gd cn cs L ad ccd cl outer).deeper (tbEnv L')) (tbEnv L') E) {m0 : Str → Option Value} {TT U r0 I : Addr} {a0 usv : List Value} {us : List Int} {kT kU k0 : Nat} {b : Int} {tb : Tok} {zs : List (Addr × Obj)}
   (hU : (U,listOf usv.toArray kU) ∈ zs) (hr0 : (r0,listOf a0.toArray k0) ∈ zs) (hTz : ∀ q ∈ zs,@Ne Nat q.1 TT) (hUi : IntsAre usv us) (hul : us.length = 10) (h0i : IntsAre a0 [1,1,1,1,1,1])
   (mt0 : m0 (Str.ofString "table") = some (.ref TT)) (mu0 : m0 (Str.ofString "units") = some (.ref U)) (ms0 : m0 (Str.ofString "second") = some (.int b tb)) (hb : bnd60 b) (bu2 : bnd60 (us.getD 2 0)) (bu3 : bnd60 (us.getD 3 0)) (bu4 : bnd60 (us.getD 4 0)) (bu5 : bnd60 (us.getD 5 0)) (bu6 : bnd60 (us.getD 6 0)) (bc0 : bnd60 (b * us.getD 0 0)) (bc1 : bnd60 (b * us.getD 1 0)) (bc2 : bnd60 (b * us.getD 2 0)) (bc3 : bnd60 (b * us.getD 3 0)) (bc4 : bnd60 (b * us.getD 4 0)) (hI : ∀ q ∈ (TT,listOf [Value.ref r0].toArray kT)::zs,@Ne Nat q.1 I)
   (fin : ∀ h tk m' r1 r2 r3 r4 r5 n1 n2 n3 n4 n5 q1 q2 q3 q4 q5 l1 l2 l3 l4 l5,Fr h₀ L' h m' → News h₀ L' h ((TT,listOf ([Value.ref r0,Value.ref r1,Value.ref r2,Value.ref r3,Value.ref r4,Value.ref r5] : List Value).toArray (kT+1+1+1+1+1))::(r5,listOf n5.toArray q5)::(r4,listOf n4.toArray q4)::(r3,listOf n3.toArray q3)::(r2,listOf n2.toArray q2)::(r1,listOf n1.toArray q1)::zs) → m' (Str.ofString "table") = some (.ref TT) → IntsAre n1 l1 → IntsAre n2 l2 → IntsAre n3 l3 → IntsAre n4 l4 → IntsAre n5 l5 → NextOk us b 1 [1,1,1,1,1,1] l1 → NextOk us b 2 l1 l2 → NextOk us b 3 l2 l3 → NextOk us b 4 l3 l4 → NextOk us b 5 l4 l5 → Q .next { s with heap := h,toks := tk })
   : RangeRest pw_ty0047_01 w ((ktrTop dp un gd cn cs L ad ccd cl outer).deeper (tbEnv L')) E h₀ (tbEnv L') (Str.ofString "i") [tbB0,tbIn,tbB2] Q s I 1 5 5 0 m0 ((TT,listOf [Value.ref r0].toArray kT)::zs) := by
  have hIT : @Ne Nat TT I := hI _ (.head _)
  have hz0 : ∀ q ∈ zs,@Ne Nat q.1 I := fun q hq => hI q (.tail _ hq)
  have hT0 := hTz
  have hl0 : [(1 : Int),1,1,1,1,1].length = 6 := rfl
  refine RangeRest.succ ?_
  intro ti0 g0 gk0 G0 NG0
  refine tab_row (TT := TT) (vi := []) (rp := r0) (ap := a0) (kp := k0) (pl := [1,1,1,1,1,1]) (zs := (I,_)::zs) hk B X T hd hu hE G0 (cb_drop NG0 (swap2 (a := [(I,_)]))) (.tail _ (hU)) (.tail _ hr0) (fun q hq => by
    rcases List.mem_cons.mp hq with rfl | hq
    · exact Ne.symm hIT
    · exact hT0 q hq) hUi hul h0i hl0 (if_pos rfl) ((if_neg (by decide)).trans mt0) ((if_neg (by decide)).trans mu0) ((if_neg (by decide)).trans ms0) (by decide) (by decide) hb bu2 bu3 bu4 bu5 bu6 bc0 (Nat.le_of_ble_eq_true rfl) ?_
  intro h1 tk1 m1 r1 n1 q1 l1 F1 N1 hTa1 hi1 hl1 nx1 kp1 hLr1
  have mt1 := (kp1 (Str.ofString "table") (by decide) (by decide)).trans ((if_neg (by decide)).trans mt0)
  have mu1 := (kp1 (Str.ofString "units") (by decide) (by decide)).trans ((if_neg (by decide)).trans mu0)
  have ms1 := (kp1 (Str.ofString "second") (by decide) (by decide)).trans ((if_neg (by decide)).trans ms0)
  have hT1 : ∀ q ∈ (r1,listOf n1.toArray q1)::zs,@Ne Nat q.1 TT := fun q hq => by
    rcases List.mem_cons.mp hq with rfl | hq
    · exact hTa1 _ (.head _)
    · exact hT0 q hq
  have hz1 : ∀ q ∈ (r1,listOf n1.toArray q1)::zs,@Ne Nat q.1 I := fun q hq => by
    rcases List.mem_cons.mp hq with rfl | hq
    · exact Ne.symm (hLr1 _ (.head _))
    · exact hz0 q hq
  refine UnrEnd.intro F1 N1 ((TT,listOf ([Value.ref r0,Value.ref r1] : List Value).toArray (kT+1))::(r1,listOf n1.toArray q1)::zs) (swap2 (a := [(TT,_),(r1,_)])) (fun q hq => by
    rcases List.mem_cons.mp hq with rfl | hq
    · exact hIT
    · exact hz1 q hq) ?_
  refine RangeRest.succ ?_
  intro ti1 g1 gk1 G1 NG1
  refine tab_row (TT := TT) (vi := [Value.ref r0]) (rp := r1) (ap := n1) (kp := q1) (pl := l1) (zs := (I,_)::(r1,listOf n1.toArray q1)::zs) hk B X T hd hu hE G1 (cb_drop NG1 (swap2 (a := [(I,_)]))) (.tail _ (.tail _ (hU))) (.tail _ (.head _)) (fun q hq => by
    rcases List.mem_cons.mp hq with rfl | hq
    · exact Ne.symm hIT
    · exact hT1 q hq) hUi hul hi1 hl1 (if_pos rfl) ((if_neg (by decide)).trans mt1) ((if_neg (by decide)).trans mu1) ((if_neg (by decide)).trans ms1) (by decide) (by decide) hb bu2 bu3 bu4 bu5 bu6 bc1 (Nat.le_of_ble_eq_true rfl) ?_
  intro h2 tk2 m2 r2 n2 q2 l2 F2 N2 hTa2 hi2 hl2 nx2 kp2 hLr2
  have mt2 := (kp2 (Str.ofString "table") (by decide) (by decide)).trans ((if_neg (by decide)).trans mt1)
  have mu2 := (kp2 (Str.ofString "units") (by decide) (by decide)).trans ((if_neg (by decide)).trans mu1)
  have ms2 := (kp2 (Str.ofString "second") (by decide) (by decide)).trans ((if_neg (by decide)).trans ms1)
  have hT2 : ∀ q ∈ (r2,listOf n2.toArray q2)::(r1,listOf n1.toArray q1)::zs,@Ne Nat q.1 TT := fun q hq => by
    rcases List.mem_cons.mp hq with rfl | hq
    · exact hTa2 _ (.head _)
    · exact hT1 q hq
  have hz2 : ∀ q ∈ (r2,listOf n2.toArray q2)::(r1,listOf n1.toArray q1)::zs,@Ne Nat q.1 I := fun q hq => by
    rcases List.mem_cons.mp hq with rfl | hq
    · exact Ne.symm (hLr2 _ (.head _))
    · exact hz1 q hq
  refine UnrEnd.intro F2 N2 ((TT,listOf ([Value.ref r0,Value.ref r1,Value.ref r2] : List Value).toArray (kT+1+1))::(r2,listOf n2.toArray q2)::(r1,listOf n1.toArray q1)::zs) (swap2 (a := [(TT,_),(r2,_)])) (fun q hq => by
    rcases List.mem_cons.mp hq with rfl | hq
    · exact hIT
    · exact hz2 q hq) ?_
  refine RangeRest.succ ?_
  intro ti2 g2 gk2 G2 NG2
  refine tab_row (TT := TT) (vi := [Value.ref r0,Value.ref r1]) (rp := r2) (ap := n2) (kp := q2) (pl := l2) (zs := (I,_)::(r2,listOf n2.toArray q2)::(r1,listOf n1.toArray q1)::zs) hk B X T hd hu hE G2 (cb_drop NG2 (swap2 (a := [(I,_)]))) (.tail _ (.tail _ (.tail _ (hU)))) (.tail _ (.head _)) (fun q hq => by
    rcases List.mem_cons.mp hq with rfl | hq
    · exact Ne.symm hIT
    · exact hT2 q hq) hUi hul hi2 hl2 (if_pos rfl) ((if_neg (by decide)).trans mt2) ((if_neg (by decide)).trans mu2) ((if_neg (by decide)).trans ms2) (by decide) (by decide) hb bu2 bu3 bu4 bu5 bu6 bc2 (Nat.le_of_ble_eq_true rfl) ?_
  intro h3 tk3 m3 r3 n3 q3 l3 F3 N3 hTa3 hi3 hl3 nx3 kp3 hLr3
  have mt3 := (kp3 (Str.ofString "table") (by decide) (by decide)).trans ((if_neg (by decide)).trans mt2)
  have mu3 := (kp3 (Str.ofString "units") (by decide) (by decide)).trans ((if_neg (by decide)).trans mu2)
  have ms3 := (kp3 (Str.ofString "second") (by decide) (by decide)).trans ((if_neg (by decide)).trans ms2)
  have hT3 : ∀ q ∈ (r3,listOf n3.toArray q3)::(r2,listOf n2.toArray q2)::(r1,listOf n1.toArray q1)::zs,@Ne Nat q.1 TT := fun q hq => by
    rcases List.mem_cons.mp hq with rfl | hq
    · exact hTa3 _ (.head _)
    · exact hT2 q hq
  have hz3 : ∀ q ∈ (r3,listOf n3.toArray q3)::(r2,listOf n2.toArray q2)::(r1,listOf n1.toArray q1)::zs,@Ne Nat q.1 I := fun q hq => by
    rcases List.mem_cons.mp hq with rfl | hq
    · exact Ne.symm (hLr3 _ (.head _))
    · exact hz2 q hq
  refine UnrEnd.intro F3 N3 ((TT,listOf ([Value.ref r0,Value.ref r1,Value.ref r2,Value.ref r3] : List Value).toArray (kT+1+1+1))::(r3,listOf n3.toArray q3)::(r2,listOf n2.toArray q2)::(r1,listOf n1.toArray q1)::zs) (swap2 (a := [(TT,_),(r3,_)])) (fun q hq => by
    rcases List.mem_cons.mp hq with rfl | hq
    · exact hIT
    · exact hz3 q hq) ?_
  refine RangeRest.succ ?_
  intro ti3 g3 gk3 G3 NG3
  refine tab_row (TT := TT) (vi := [Value.ref r0,Value.ref r1,Value.ref r2]) (rp := r3) (ap := n3) (kp := q3) (pl := l3) (zs := (I,_)::(r3,listOf n3.toArray q3)::(r2,listOf n2.toArray q2)::(r1,listOf n1.toArray q1)::zs) hk B X T hd hu hE G3 (cb_drop NG3 (swap2 (a := [(I,_)]))) (.tail _ (.tail _ (.tail _ (.tail _ (hU))))) (.tail _ (.head _)) (fun q hq => by
    rcases List.mem_cons.mp hq with rfl | hq
    · exact Ne.symm hIT
    · exact hT3 q hq) hUi hul hi3 hl3 (if_pos rfl) ((if_neg (by decide)).trans mt3) ((if_neg (by decide)).trans mu3) ((if_neg (by decide)).trans ms3) (by decide) (by decide) hb bu2 bu3 bu4 bu5 bu6 bc3 (Nat.le_of_ble_eq_true rfl) ?_
  intro h4 tk4 m4 r4 n4 q4 l4 F4 N4 hTa4 hi4 hl4 nx4 kp4 hLr4
  have mt4 := (kp4 (Str.ofString "table") (by decide) (by decide)).trans ((if_neg (by decide)).trans mt3)
  have mu4 := (kp4 (Str.ofString "units") (by decide) (by decide)).trans ((if_neg (by decide)).trans mu3)
  have ms4 := (kp4 (Str.ofString "second") (by decide) (by decide)).trans ((if_neg (by decide)).trans ms3)
  have hT4 : ∀ q ∈ (r4,listOf n4.toArray q4)::(r3,listOf n3.toArray q3)::(r2,listOf n2.toArray q2)::(r1,listOf n1.toArray q1)::zs,@Ne Nat q.1 TT := fun q hq => by
    rcases List.mem_cons.mp hq with rfl | hq
    · exact hTa4 _ (.head _)
    · exact hT3 q hq
  have hz4 : ∀ q ∈ (r4,listOf n4.toArray q4)::(r3,listOf n3.toArray q3)::(r2,listOf n2.toArray q2)::(r1,listOf n1.toArray q1)::zs,@Ne Nat q.1 I := fun q hq => by
    rcases List.mem_cons.mp hq with rfl | hq
    · exact Ne.symm (hLr4 _ (.head _))
    · exact hz3 q hq
  refine UnrEnd.intro F4 N4 ((TT,listOf ([Value.ref r0,Value.ref r1,Value.ref r2,Value.ref r3,Value.ref r4] : List Value).toArray (kT+1+1+1+1))::(r4,listOf n4.toArray q4)::(r3,listOf n3.toArray q3)::(r2,listOf n2.toArray q2)::(r1,listOf n1.toArray q1)::zs) (swap2 (a := [(TT,_),(r4,_)])) (fun q hq => by
    rcases List.mem_cons.mp hq with rfl | hq
    · exact hIT
    · exact hz4 q hq) ?_
  refine RangeRest.succ ?_
  intro ti4 g4 gk4 G4 NG4
  refine tab_row (TT := TT) (vi := [Value.ref r0,Value.ref r1,Value.ref r2,Value.ref r3]) (rp := r4) (ap := n4) (kp := q4) (pl := l4) (zs := (I,_)::(r4,listOf n4.toArray q4)::(r3,listOf n3.toArray q3)::(r2,listOf n2.toArray q2)::(r1,listOf n1.toArray q1)::zs) hk B X T hd hu hE G4 (cb_drop NG4 (swap2 (a := [(I,_)]))) (.tail _ (.tail _ (.tail _ (.tail _ (.tail _ (hU)))))) (.tail _ (.head _)) (fun q hq => by
    rcases List.mem_cons.mp hq with rfl | hq
    · exact Ne.symm hIT
    · exact hT4 q hq) hUi hul hi4 hl4 (if_pos rfl) ((if_neg (by decide)).trans mt4) ((if_neg (by decide)).trans mu4) ((if_neg (by decide)).trans ms4) (by decide) (by decide) hb bu2 bu3 bu4 bu5 bu6 bc4 (Nat.le_of_ble_eq_true rfl) ?_
  intro h5 tk5 m5 r5 n5 q5 l5 F5 N5 hTa5 hi5 hl5 nx5 kp5 hLr5
  have mt5 := (kp5 (Str.ofString "table") (by decide) (by decide)).trans ((if_neg (by decide)).trans mt4)
  have mu5 := (kp5 (Str.ofString "units") (by decide) (by decide)).trans ((if_neg (by decide)).trans mu4)
  have ms5 := (kp5 (Str.ofString "second") (by decide) (by decide)).trans ((if_neg (by decide)).trans ms4)
  have hT5 : ∀ q ∈ (r5,listOf n5.toArray q5)::(r4,listOf n4.toArray q4)::(r3,listOf n3.toArray q3)::(r2,listOf n2.toArray q2)::(r1,listOf n1.toArray q1)::zs,@Ne Nat q.1 TT := fun q hq => by
    rcases List.mem_cons.mp hq with rfl | hq
    · exact hTa5 _ (.head _)
    · exact hT4 q hq
  have hz5 : ∀ q ∈ (r5,listOf n5.toArray q5)::(r4,listOf n4.toArray q4)::(r3,listOf n3.toArray q3)::(r2,listOf n2.toArray q2)::(r1,listOf n1.toArray q1)::zs,@Ne Nat q.1 I := fun q hq => by
    rcases List.mem_cons.mp hq with rfl | hq
    · exact Ne.symm (hLr5 _ (.head _))
    · exact hz4 q hq
  refine UnrEnd.intro F5 N5 ((TT,listOf ([Value.ref r0,Value.ref r1,Value.ref r2,Value.ref r3,Value.ref r4,Value.ref r5] : List Value).toArray (kT+1+1+1+1+1))::(r5,listOf n5.toArray q5)::(r4,listOf n4.toArray q4)::(r3,listOf n3.toArray q3)::(r2,listOf n2.toArray q2)::(r1,listOf n1.toArray q1)::zs) (swap2 (a := [(TT,_),(r5,_)])) (fun q hq => by
    rcases List.mem_cons.mp hq with rfl | hq
    · exact hIT
    · exact hz5 q hq) ?_
  refine RangeRest.zero ?_
  intro h tk F N
  exact fin h tk m5 r1 r2 r3 r4 r5 n1 n2 n3 n4 n5 q1 q2 q3 q4 q5 l1 l2 l3 l4 l5 F N mt5 hi1 hi2 hi3 hi4 hi5 nx1 nx2 nx3 nx4 nx5
theorem tab_ctr (w : World) (p : Program) (loose : List Str) (mean : ExcName → Option Value) (mg mb : Str → Option Value) (U : Addr) (k : Nat) (b u0 u1 u2 u3 u4 u5 u6 u7 u8 u9 : Int) (tb t0 t1 t2 t3 t4 t5 t6 t7 t8 t9 : Tok)
   (hb : bnd60 b) (b2 : bnd60 u2) (b3 : bnd60 u3) (b4 : bnd60 u4) (b5 : bnd60 u5) (b6 : bnd60 u6) (c0 : bnd60 (b * u0)) (c1 : bnd60 (b * u1)) (c2 : bnd60 (b * u2)) (c3 : bnd60 (b * u3)) (c4 : bnd60 (b * u4)) :
   Ctr pw_ty0047_01 w (Mine.hd.heap_1 w.params) p loose mean mg mb 118 [.ref U,.int b tb] [] [(U,listOf #[.int u0 t0,.int u1 t1,.int u2 t2,.int u3 t3,.int u4 t4,.int u5 t5,.int u6 t6,.int u7 t7,.int u8 t8,.int u9 t9] k)] 12 80 (fun _ => True)
     (fun r tl => ∃ (T r0 r1 r2 r3 r4 r5 : Addr) (a0 a1 a2 a3 a4 a5 : Array Value) (kT k0 k1 k2 k3 k4 k5 : Nat) (l1 l2 l3 l4 l5 : List Int),r = .ref T ∧
       tl = [(r5,listOf a5 k5),(r4,listOf a4 k4),(r3,listOf a3 k3),(r2,listOf a2 k2),(r1,listOf a1 k1),(r0,listOf a0 k0),(T,listOf #[.ref r0,.ref r1,.ref r2,.ref r3,.ref r4,.ref r5] kT),(U,listOf #[.int u0 t0,.int u1 t1,.int u2 t2,.int u3 t3,.int u4 t4,.int u5 t5,.int u6 t6,.int u7 t7,.int u8 t8,.int u9 t9] k)] ∧
       IntsAre a0.toList [1,1,1,1,1,1] ∧ IntsAre a1.toList l1 ∧ IntsAre a2.toList l2 ∧ IntsAre a3.toList l3 ∧ IntsAre a4.toList l4 ∧ IntsAre a5.toList l5 ∧
       NextOk [u0,u1,u2,u3,u4,u5,u6,u7,u8,u9] b 1 [1,1,1,1,1,1] l1 ∧ NextOk [u0,u1,u2,u3,u4,u5,u6,u7,u8,u9] b 2 l1 l2 ∧ NextOk [u0,u1,u2,u3,u4,u5,u6,u7,u8,u9] b 3 l2 l3 ∧ NextOk [u0,u1,u2,u3,u4,u5,u6,u7,u8,u9] b 4 l3 l4 ∧ NextOk [u0,u1,u2,u3,u4,u5,u6,u7,u8,u9] b 5 l4 l5) := by
  w_top off
  intro dp un gd cn cs ad ccd cl outer A₀ base h₀ L m s Q E B F X NN T hk hp hd hu hret
  refine wpAny_call ?_
  (k_dflt (refine' code_defX ?k1 ?k2 ?k3 ?k4 ?k5 ?kA ?kF ?kK ?k6 ?k7 ?k8 ?k9 ?kB ?_ ?c2 ?c3 ?c4 ?c5; (case kA => exact rfl); (case kF => exact rfl); (case kK => assumption); (case k1 => k_asm); (case k2 => k_asm); (case k3 => k_asm); (case k4 => k_asm); (case k5 => k_asm); (case k6 => k_is); (case k7 => k_is); (case k8 => ktr_room); (case k9 => first | exact BindsTo.of_eq rfl | exact binds_K (by k_in) rfl (by k_is) rfl rfl rfl); (case c5 => decide); (case kB => exact locs rfl); (case c2 => exact rfl); (case c3 => exact rfl); (case c4 => exact rfl); k_whole; intro _ _ _ _ _ _ _ _ _ _; (try dsimp only); (try k_fold)))
  rename_i gg LL _ hg FGx _ _ Bx Xx Tx
  iterate 40 (first | (with_reducible show wpAny _ _ (exec (Stmt.For _ _ _ _ _) _) _ _ _) | walk1 | (dsimp only; walk1))
  rename Fr gg LL _ _ => F8
  refine For_invVF F8 (by rfl) (by rfl) ?_ (hE := by passes_own)
  iterate 16 (first | (with_reducible show wpAny _ _ (pyIter _) _ _ _) | walk1 | (dsimp only; walk1))
  rename IsRange _ _ _ _ _ _ _ _ => hr
  rename Fr gg LL _ _ => F9
  rename News gg LL _ _ => N9
  refine iter_rangeUnr (n := 5) rfl hr (by decide) (by decide) F9 N9 ?_
  intro I lI
  clear F9 hr
  refine tab_loop (w := w) (a0 := [Value.int 1 _,Value.int 1 _,Value.int 1 _,Value.int 1 _,Value.int 1 _,Value.int 1 _]) (us := [u0,u1,u2,u3,u4,u5,u6,u7,u8,u9]) (usv := [Value.int u0 t0,Value.int u1 t1,Value.int u2 t2,Value.int u3 t3,Value.int u4 t4,Value.int u5 t5,Value.int u6 t6,Value.int u7 t7,Value.int u8 t8,Value.int u9 t9]) hk Bx Xx Tx (by omega) (by omega) (by passes_own) (.tail _ (.tail _ (.head _))) (.head _) ?hT (.cons _ _ (.cons _ _ (.cons _ _ (.cons _ _ (.cons _ _ (.cons _ _ (.cons _ _ (.cons _ _ (.cons _ _ (.cons _ _ .nil)))))))))) rfl (.cons _ _ (.cons _ _ (.cons _ _ (.cons _ _ (.cons _ _ (.cons _ _ .nil)))))) (if_pos rfl) (by rfl) (by rfl) hb b2 b3 b4 b5 b6 c0 c1 c2 c3 c4 (fun q hq => Nat.ne_of_lt (lI q hq)) ?_
  case hT =>
    rename _ < _ ∧ _ < _ ∧ _ < _ => l9
    intro q hq
    simp only [List.mem_cons,List.not_mem_nil,or_false] at hq
    rcases hq with rfl | rfl | rfl
    · exact Nat.ne_of_lt l9.1
    · exact Nat.ne_of_lt l9.2.1
    · exact Nat.ne_of_lt l9.2.2
  intro h2 tk2 m2 r1 r2 r3 r4 r5 n1 n2 n3 n4 n5 q1 q2 q3 q4 q5 l1 l2 l3 l4 l5 F2 N2 mt2 i1 i2 i3 i4 i5 x1 x2 x3 x4 x5
  clear N9
  try dsimp only
  k_steps
  rename Fr gg LL _ _ => F5
  rename News gg LL _ _ => N5
  have N6 := tab_fin N5
  refine ctr_ret hret hg F5 N6 ⟨_,_,_,_,_,_,_,_,_,_,_,_,_,_,_,_,_,_,_,_,l1,l2,l3,l4,l5,rfl,rfl,(.cons _ _ (.cons _ _ (.cons _ _ (.cons _ _ (.cons _ _ (.cons _ _ .nil)))))),i1,i2,i3,i4,i5,x1,x2,x3,x4,x5⟩
end
theorem words_a37 : True := by
  k_with_none
  k_with "eval Name" => (name_kind "local"; k_dflt (refine' ld ?F ?v ?_; (case F => k_asm); (case v => walk_at "k_opq")))
  k_with "loadName" => (k_dflt (refine' ldn ?F ?v ?_; (case F => k_asm); (case v => walk_at "k_opq")))
  k_with "omega" => lia
  exact trivial
theorem lv_loop2 {w : World} {p : Program} {loose : List Str} {mean : ExcName → Option Value} {mg mb : Str → Option Value}
    {dp un : Nat} {gd : Option (List Code)} {cn : Str} {cs : Scope} {ad : Addr} {ccd : Value} {cl : List (Str × Addr)} {outer : List Env} {L : Addr} {base h₀ : Heap} {L' : Addr} {s : Shared} {Q : Flow → Shared → Prop} {E : Value → Shared → Prop} (hk : cs.kind = .function)
    (B : Below (ktrTop dp un gd cn cs L ad ccd cl outer) base (envX cn cs L ad ccd cl::outer) h₀) (X : (Mine.hd.heap_1 w.params).In h₀) (T : Top p loose mean mg mb h₀) (hd : dp+10 < recursionLimit) (hu : un+60 < cLine)
    (hE : PassesOwn (model pw_ty0047_01 w) ((ktrTop dp un gd cn cs L ad ccd cl outer).deeper (lvEnv L')) (lvEnv L') E)
    {m : Str → Option Value} {news : List (Addr × Obj)} {a b : Str} {K : Nat} {ta tb tc tk : Tok} {mc : Value} (F : Fr h₀ L' s.heap m) (N : News h₀ L' s.heap news)
    (ma : m (Str.ofString "a") = some (.str a ta)) (mb' : m (Str.ofString "b") = some (.str b tb)) (mc' : m (Str.ofString "max_cost") = some mc) (mp : m (Str.ofString "post") = some (.int 0 tk)) (hK20 : K ≤ 20) (hKa : K ≤ a.length) (hKb : K ≤ b.length) (ha : a.length ≤ 20) (hb : b.length ≤ 20)
    (hK : ∀ k < K,postB a b k = true) (hK2 : postB a b K = false)
    (fin : ∀ h tk' m' tk2,Fr h₀ L' h m' → News h₀ L' h news → m' (Str.ofString "a") = some (.str a ta) → m' (Str.ofString "b") = some (.str b tb) → m' (Str.ofString "max_cost") = some mc → m' (Str.ofString "post") = some (.int (-(K : Int)) tk2) → Q .next { s with heap := h,toks := tk' }) :
    wpAny (model pw_ty0047_01 w) ((ktrTop dp un gd cn cs L ad ccd cl outer).deeper (lvEnv L')) (exec lvWhile2 (lvEnv L')) Q E s := by
  w_top off
  refine While_inv (fun n m₁ news₁ => news₁ = news ∧ ∃ k tk',k + n = K ∧ m₁ (Str.ofString "a") = some (.str a ta) ∧ m₁ (Str.ofString "b") = some (.str b tb) ∧ m₁ (Str.ofString "max_cost") = some mc ∧ m₁ (Str.ofString "post") = some (.int (-(k : Int)) tk')) F N ⟨rfl,0,tk,Nat.zero_add K,ma,mb',mc',mp⟩ ?_ hE
  rintro n m₁ news₁ h₁ tk₁ F₁ N₁ ⟨rfl,k,tk',hn,ma1,mb1,mc1,mp1⟩
  refine lv_test2 hk B X T hd hu F₁ N₁ ma1 mb1 mp1 (by omega) (by omega) ha hb ?_
  intro c h2 tk2 F2 N2 hc
  by_cases hlt : k < K
  · rw [hK k hlt] at hc
    subst hc
    rw [if_pos rfl]
    clear F N F₁ N₁ ma mb' mc' mp
    k_steps
    rename Fr _ _ _ _ => F3
    rename News _ _ _ _ => N3
    refine WhileStep.intro F3 N3 (n' := K - (k+1)) (by omega) ⟨rfl,k+1,_,by omega,by walk_at "k_opq", by walk_at "k_opq", by walk_at "k_opq", (if_pos rfl).trans (congrArg (fun z => some (Value.int z _)) (show -(k : Int) - 1 = (-((k+1 : Nat) : Int)) by omega))⟩
  · have hkK : k = K := by omega
    subst hkK
    rw [hK2] at hc
    subst hc
    exact fin _ _ m₁ _ F2 N2 ma1 mb1 mc1 mp1
theorem words_a38 : True := by
  k_with_none
  k_with "omega" => lia
  exact trivial
theorem lv_ctr0 (w : World) (p : Program) (loose : List Str) (mean : ExcName → Option Value) (mg mb : Str → Option Value) (a b a1 b1 a2 b2 : Str) (K M : Nat) (ta tb tn : Tok) (d : Int) (H : LevF a b K M a1 b1 a2 b2) (hr : levR a2 b2 = some d) :
   Ctr pw_ty0047_01 w (Mine.hd.heap_1 w.params) p loose mean mg mb 104 [.str a ta,.str b tb,.int 2 tn] [] [] 12 80 (fun _ => True)
     (fun r tl => ∃ t,r = .int d t ∧ tl = []) := by
  w_top off
  obtain ⟨ne,la,lb,hK20,hK,hK2,Ka,Kb,a1e,b1e,l1a,l1b,hM20,hM,hM2,Ma,Mb,a2e,b2e,l2a,l2b⟩ := H
  intro dp un gd cn cs ad ccd cl outer A₀ base h₀ L m s Q E B F X N T hk hp hd hu hret
  refine wpAny_call ?_
  (k_dflt (refine' code_defX ?k1 ?k2 ?k3 ?k4 ?k5 ?kA ?kF ?kK ?k6 ?k7 ?k8 ?k9 ?kB ?_ ?c2 ?c3 ?c4 ?c5; (case kA => exact rfl); (case kF => exact rfl); (case kK => assumption); (case k1 => k_asm); (case k2 => k_asm); (case k3 => k_asm); (case k4 => k_asm); (case k5 => k_asm); (case k6 => k_is); (case k7 => k_is); (case k8 => ktr_room); (case k9 => first | exact BindsTo.of_eq rfl | exact binds_K (by k_in) rfl (by k_is) rfl rfl rfl); (case c5 => decide); (case kB => exact locs rfl); (case c2 => exact rfl); (case c3 => exact rfl); (case c4 => exact rfl); k_whole; intro _ _ _ _ _ _ _ _ _ _; (try dsimp only); (try k_fold)))
  rename_i gg LL _ hg FGx _ _ Bx Xx Tx
  rename Fr gg LL _ _ => F0
  rename News gg LL _ _ => N0
  show wpAny _ _ (execs (lvS0::lvS1::lvWhile1::lvS3::lvS4::lvS5::lvWhile2::lvS7::lvS8::lvTail) _) _ _ _
  refine lv_head (tk := ta) (tc := ta) hk (by assumption) (by assumption) (by assumption) (by omega) (by omega) _ F0 N0 rfl rfl rfl la lb ne ?_
  intro h1 tk1 m1 ta1 tb1 tp1 F1 N1 ma1 mb1 mc1 mp1
  refine wpAny_execs_cons ?_
  refine lv_loop1 (tc := ta) hk (by assumption) (by assumption) (by assumption) (by omega) (by omega) (by passes_own) F1 N1 ma1 mb1 mc1 mp1 hK20 Ka Kb la lb hK hK2 ?_
  intro h2 tk2 m2 tp2 F2 N2 ma2 mb2 mc2 mp2
  refine lv_mid (tc := ta) hk (by assumption) (by assumption) (by assumption) (by omega) (by omega) _ F2 N2 ma2 mb2 mc2 mp2 Ka Kb la lb ?_
  intro h3 tk3 m3 ta3 tb3 tp3 F3 N3 ma3 mb3 mc3 mp3
  rw [a1e] at ma3
  rw [b1e] at mb3
  refine wpAny_execs_cons ?_
  refine lv_loop2 (tc := ta) hk (by assumption) (by assumption) (by assumption) (by omega) (by omega) (by passes_own) F3 N3 ma3 mb3 mc3 mp3 hM20 Ma Mb l1a l1b hM hM2 ?_
  intro h4 tk4 m4 tp4 F4 N4 ma4 mb4 mc4 mp4
  refine lv_cut (tc := ta) hk (by assumption) (by assumption) (by assumption) (by omega) (by omega) F4 N4 ma4 mb4 mc4 mp4 Ma Mb l1a l1b ?_
  intro h5 tk5 m5 ta5 tb5 F5 N5 ma5 mb5 mc5
  rw [a2e] at ma5
  rw [b2e] at mb5
  unfold levR at hr
  split at hr
  · rename_i hz
    cases hr
    refine lv_tail0 (tc := ta) (tk := ta) (mc := .none) hk (by assumption) (by assumption) (by assumption) (by omega) (by omega) F5 N5 ma5 mb5 l2a l2b hz ?_
    intro h9 tk9 m9 t9 F9 N9
    k_steps
    exact ctr_ret hret hg F9 N9 ⟨_,rfl,rfl⟩
  split at hr
  · rename_i hz
    cases hr
    obtain ⟨rfl,rfl⟩ := hz
    refine lv_tail1 (R := fun r s' => match r with | .ok (.ret v) => Q v s' | .ok _ => False | .error e => E e s') (tk := ta) (a := a) (b := b) hk (by assumption) (by assumption) (by assumption) (by omega) (by omega) F5 N5 ma5 mb5 mc5 ?_
    intro h9 tk9 m9 t9 F9
    have N9 : News gg LL h9 [] := fun _ h => nomatch h
    k_steps
    exact ctr_ret hret hg F9 N9 ⟨_,rfl,rfl⟩
  split at hr
  · rename_i hz
    cases hr
    obtain ⟨rfl,rfl⟩ := hz
    refine lv_tail2 (R := fun r s' => match r with | .ok (.ret v) => Q v s' | .ok _ => False | .error e => E e s') (tk := ta) (a := a) (b := b) hk (by assumption) (by assumption) (by assumption) (by omega) (by omega) F5 N5 ma5 mb5 mc5 ?_
    intro h9 tk9 m9 t9 F9
    have N9 : News gg LL h9 [] := fun _ h => nomatch h
    k_steps
    exact ctr_ret hret hg F9 N9 ⟨_,rfl,rfl⟩
  · cases hr
theorem lv_ctr (w : World) (p : Program) (loose : List Str) (mean : ExcName → Option Value) (mg mb : Str → Option Value) (P Q i j : Int) (ta tb tn : Tok)
   (hP1 : 1 ≤ P) (hP4 : P ≤ 4) (hQ1 : 1 ≤ Q) (hQ4 : Q ≤ 4) (hi1 : P - 1 ≤ i) (hi2 : i ≤ P+1) (hj1 : Q - 1 ≤ j) (hj2 : j ≤ Q+1) :
   Ctr pw_ty0047_01 w (Mine.hd.heap_1 w.params) p loose mean mg mb 104 [.str (wd P Q) ta,.str (wd i j) tb,.int 2 tn] [] [] 12 80 (fun _ => True)
     (fun r tl => ∃ t,r = .int (levD (i - P) (j - Q)) t ∧ tl = []) := by
  have h := lev_fin ⟨(P - 1).toNat,by omega⟩ ⟨(Q - 1).toNat,by omega⟩ ⟨(i - (P - 1)).toNat,by omega⟩ ⟨(j - (Q - 1)).toNat,by omega⟩
  have e1 : (((P - 1).toNat : Nat) : Int) = P - 1 := by omega
  have e2 : (((Q - 1).toNat : Nat) : Int) = Q - 1 := by omega
  have e3 : (((i - (P - 1)).toNat : Nat) : Int) = i - (P - 1) := by omega
  have e4 : (((j - (Q - 1)).toNat : Nat) : Int) = j - (Q - 1) := by omega
  simp only [e1,e2,e3,e4] at h
  rw [show P - 1+1 = P by omega,show Q - 1+1 = Q by omega,show P - 1 + (i - (P - 1)) = i by omega,show Q - 1 + (j - (Q - 1)) = j by omega,show i - (P - 1) - 1 = i - P by omega,show j - (Q - 1) - 1 = j - Q by omega] at h
  rcases h with ⟨h1,h2⟩ | ⟨h1,h2⟩
  · have : i = P := by omega
    have : j = Q := by omega
    subst i j
    have hl := wd_len ⟨P.toNat,by omega⟩ ⟨Q.toNat,by omega⟩
    simp only [show ((P.toNat : Nat) : Int) = P by omega,show ((Q.toNat : Nat) : Int) = Q by omega] at hl
    rw [show levD (P - P) (Q - Q) = 0 by rw [Int.sub_self,Int.sub_self]; rfl]
    exact lv_eq w p loose mean mg mb _ _ _ _ hl
  · exact lv_ctr0 w p loose mean mg mb _ _ _ _ _ _ _ _ _ _ _ _ (levF_of h1) h2
theorem words_a39 : True := by
  k_with "eval Name" => (name_kind "local"; k_dflt (refine' ld ?F ?v ?_; (case F => k_asm); (case v => walk_at "k_opq")))
  k_with "loadName" => (k_dflt (refine' ldn ?F ?v ?_; (case F => k_asm); (case v => walk_at "k_opq")))
  k_with "call builtin:len" => (k_here; (with_reducible show wpAny _ _ (call (Value.builtin "len") [Value.ref _]) _ _ _); (with_reducible rename News _ _ _ _ => N'); (refine len_led N' (by assumption) (by assumption) (by assumption) ?_); intro _ _)
  exact trivial
theorem bsr_ctr (w : World) (p : Program) (loose : List Str) (mean : ExcName → Option Value) (mg mb : Str → Option Value) (led : List (Addr × Obj)) (D K : Addr) (xs : List Value) (hs : List UInt64) (lk lo hi : Nat) (x : UInt64) (tx tl th : Tok)
   (HL : HueL led D xs lk hs) (LL : LamL led K) (hhi : hi ≤ hs.length) :
   Ctr pw_ty0047_01 w (Mine.hd.heap_1 w.params) p loose mean mg mb 74 [.ref D,.float x tx,.int (lo : Int) tl,.int (hi : Int) th] [(Str.ofString "key", .ref K)] led 12 80 (fun _ => True)
     (fun r tl => ∃ t,r = .int ((bisR x hs hs.length lo hi : Nat) : Int) t ∧ tl = led) := by
  w_top off
  have hDm := HL.D
  have hln := HL.len
  have hsm := HL.sm
  intro dp un gd cn cs ad ccd cl outer A₀ base h₀ L m s Q E B F X N T hk hp hd hu hret
  refine wpAny_call ?_
  (k_dflt (refine' code_defX ?k1 ?k2 ?k3 ?k4 ?k5 ?kA ?kF ?kK ?k6 ?k7 ?k8 ?k9 ?kB ?_ ?c2 ?c3 ?c4 ?c5; (case kA => exact rfl); (case kF => exact rfl); (case kK => assumption); (case k1 => k_asm); (case k2 => k_asm); (case k3 => k_asm); (case k4 => k_asm); (case k5 => k_asm); (case k6 => k_is); (case k7 => k_is); (case k8 => ktr_room); (case k9 => first | exact BindsTo.of_eq rfl | exact binds_K (by k_in) rfl (by k_is) rfl rfl rfl); (case c5 => decide); (case kB => exact locs rfl); (case c2 => exact rfl); (case c3 => exact rfl); (case c4 => exact rfl); k_whole; intro _ _ _ _ _ _ _ _ _ _; (try dsimp only); (try k_fold)))
  rename_i gg LB _ hg FGx _ _ Bx Xx Tx
  show wpAny _ _ (execs [bsr0,bsr1,bsr2 bsrWhile,bsr3] _) _ _ _
  generalize hW : bsrWhile = W
  k_steps
  all_goals first | (exfalso; omega) | skip
  subst hW
  rename Fr gg LB _ _ => F5
  rename News gg LB _ _ => N5
  k_dflt (refine bsr_loop hk Bx Xx Tx (by omega) (by omega) (by passes_own) HL LL F5 N5 (by walk_at "k_opq") (by walk_at "k_opq") (by walk_at "k_opq") (by walk_at "k_opq") (by walk_at "k_opq") hhi ?_)
  intro h6 tk6 m6 tl6 F6 N6 ml6
  clear F5 N5
  try dsimp only
  k_steps
  exact ctr_ret hret hg F6 N6 ⟨_,rfl,rfl⟩
theorem bsr_ctrN (w : World) (p : Program) (loose : List Str) (mean : ExcName → Option Value) (mg mb : Str → Option Value) (led : List (Addr × Obj)) (D K : Addr) (xs : List Value) (hs : List UInt64) (lk lo hi : Nat) (x : UInt64) (tx tl : Tok)
   (HL : HueL led D xs lk hs) (LL : LamL led K) :
   Ctr pw_ty0047_01 w (Mine.hd.heap_1 w.params) p loose mean mg mb 74 [.ref D,.float x tx,.int (lo : Int) tl,.none] [(Str.ofString "key", .ref K)] led 12 80 (fun _ => True)
     (fun r tl => ∃ t,r = .int ((bisR x hs hs.length lo hs.length : Nat) : Int) t ∧ tl = led) := by
  w_top off
  have hDm := HL.D
  have hln := HL.len
  have hsm := HL.sm
  intro dp un gd cn cs ad ccd cl outer A₀ base h₀ L m s Q E B F X N T hk hp hd hu hret
  refine wpAny_call ?_
  (k_dflt (refine' code_defX ?k1 ?k2 ?k3 ?k4 ?k5 ?kA ?kF ?kK ?k6 ?k7 ?k8 ?k9 ?kB ?_ ?c2 ?c3 ?c4 ?c5; (case kA => exact rfl); (case kF => exact rfl); (case kK => assumption); (case k1 => k_asm); (case k2 => k_asm); (case k3 => k_asm); (case k4 => k_asm); (case k5 => k_asm); (case k6 => k_is); (case k7 => k_is); (case k8 => ktr_room); (case k9 => first | exact BindsTo.of_eq rfl | exact binds_K (by k_in) rfl (by k_is) rfl rfl rfl); (case c5 => decide); (case kB => exact locs rfl); (case c2 => exact rfl); (case c3 => exact rfl); (case c4 => exact rfl); k_whole; intro _ _ _ _ _ _ _ _ _ _; (try dsimp only); (try k_fold)))
  rename_i gg LB _ hg FGx _ _ Bx Xx Tx
  show wpAny _ _ (execs [bsr0,bsr1,bsr2 bsrWhile,bsr3] _) _ _ _
  generalize hW : bsrWhile = W
  k_steps
  all_goals first | (exfalso; omega) | skip
  subst hW
  rename Fr gg LB _ _ => F5
  rename News gg LB _ _ => N5
  k_dflt (refine bsr_loop hk Bx Xx Tx (by omega) (by omega) (by passes_own) HL LL F5 N5 (by walk_at "k_opq") (by walk_at "k_opq") (by walk_at "k_opq") (by walk_at "k_opq") (by walk_at "k_opq") (Nat.le_refl _) ?_)
  intro h6 tk6 m6 tl6 F6 N6 ml6
  clear F5 N5
  try dsimp only
  k_steps
  exact ctr_ret hret hg F6 N6 ⟨_,rfl,rfl⟩
theorem bsl_ctr (w : World) (p : Program) (loose : List Str) (mean : ExcName → Option Value) (mg mb : Str → Option Value) (led : List (Addr × Obj)) (D K : Addr) (xs : List Value) (hs : List UInt64) (lk lo hi : Nat) (x : UInt64) (tx tl : Tok)
   (HL : HueL led D xs lk hs) (LL : LamL led K) :
   Ctr pw_ty0047_01 w (Mine.hd.heap_1 w.params) p loose mean mg mb 83 [.ref D,.float x tx,.int (lo : Int) tl] [(Str.ofString "key", .ref K)] led 12 80 (fun _ => True)
     (fun r tl => ∃ t,r = .int ((bisLf x hs hs.length lo hs.length : Nat) : Int) t ∧ tl = led) := by
  w_top off
  have hDm := HL.D
  have hln := HL.len
  have hsm := HL.sm
  intro dp un gd cn cs ad ccd cl outer A₀ base h₀ L m s Q E B F X N T hk hp hd hu hret
  refine wpAny_call ?_
  (k_dflt (refine' code_defX ?k1 ?k2 ?k3 ?k4 ?k5 ?kA ?kF ?kK ?k6 ?k7 ?k8 ?k9 ?kB ?_ ?c2 ?c3 ?c4 ?c5; (case kA => exact rfl); (case kF => exact rfl); (case kK => assumption); (case k1 => k_asm); (case k2 => k_asm); (case k3 => k_asm); (case k4 => k_asm); (case k5 => k_asm); (case k6 => k_is); (case k7 => k_is); (case k8 => ktr_room); (case k9 => first | exact BindsTo.of_eq rfl | exact binds_K (by k_in) rfl (by k_is) rfl rfl rfl); (case c5 => decide); (case kB => exact locs rfl); (case c2 => exact rfl); (case c3 => exact rfl); (case c4 => exact rfl); k_whole; intro _ _ _ _ _ _ _ _ _ _; (try dsimp only); (try k_fold)))
  rename_i gg LB _ hg FGx _ _ Bx Xx Tx
  show wpAny _ _ (execs [bsl0,bsl1,bsl2 bslWhile,bsl3] _) _ _ _
  generalize hW : bslWhile = W
  k_steps
  all_goals first | (exfalso; omega) | skip
  subst hW
  rename Fr gg LB _ _ => F5
  rename News gg LB _ _ => N5
  k_dflt (refine bsl_loop hk Bx Xx Tx (by omega) (by omega) (by passes_own) HL LL F5 N5 (by walk_at "k_opq") (by walk_at "k_opq") (by walk_at "k_opq") (by walk_at "k_opq") (by walk_at "k_opq") (Nat.le_refl _) ?_)
  intro h6 tk6 m6 tl6 F6 N6 ml6
  clear F5 N5
  try dsimp only
  k_steps
  exact ctr_ret hret hg F6 N6 ⟨_,rfl,rfl⟩
theorem words_a40 : True := by
  k_with_none
  k_with "eval Name" => (name_kind "local"; k_dflt (refine' ld ?F ?v ?_; (case F => k_asm); (case v => walk_at "k_opq")))
  k_with "loadName" => (k_dflt (refine' ldn ?F ?v ?_; (case F => k_asm); (case v => walk_at "k_opq")))
  k_with "callWith ref" => (k_dflt (refine' callWith_F ?k1 ?_; (case k1 => exact FnAt.of (by k_asm) (by assumption)); k_whole))
  k_with "FnAt" => (k_dflt (exact FnAt.of (by k_asm) (by assumption)))
  exact trivial
theorem ins_ctr (w : World) (p : Program) (loose : List Str) (mean : ExcName → Option Value) (mg mb : Str → Option Value) (led : List (Addr × Obj)) (D K Ta : Addr) (xs : List Value) (hs : List UInt64) (lk : Nat) (x : UInt64) (tx : Tok) (ua va : Value)
   (HL : HueL ((D,listOf xs.toArray lk)::led) D xs lk hs) (LL : LamL ((D,listOf xs.toArray lk)::led) K) (hT : (Ta,triO x tx ua va) ∈ (D,listOf xs.toArray lk)::led) (hne : ∀ p ∈ led,p.1 ≠ D) :
   Ctr pw_ty0047_01 w (Mine.hd.heap_1 w.params) p loose mean mg mb 65 [.ref D,.ref Ta] [(Str.ofString "key", .ref K)] ((D,listOf xs.toArray lk)::led) 30 160 (fun _ => True)
     (fun r tl => r = .none ∧ tl = (D,listOf (kl_ins xs ((bisR x hs hs.length 0 hs.length : Nat) : Int) (.ref Ta)).toArray (lk+1))::led) := by
  w_top off
  have hln := HL.len
  have hsm := HL.sm
  have LL0 := LL
  obtain ⟨p0,p1,p2,p3,pm,c,ctv,oc,cvs,tc,hoc,hcv,hK,hc⟩ := LL
  intro dp un gd cn cs ad ccd cl outer A₀ base h₀ L m s Q E B F X N T hk hp hd hu hret
  refine wpAny_call ?_
  (k_dflt (refine' code_defX ?k1 ?k2 ?k3 ?k4 ?k5 ?kA ?kF ?kK ?k6 ?k7 ?k8 ?k9 ?kB ?_ ?c2 ?c3 ?c4 ?c5; (case kA => exact rfl); (case kF => exact rfl); (case kK => assumption); (case k1 => k_asm); (case k2 => k_asm); (case k3 => k_asm); (case k4 => k_asm); (case k5 => k_asm); (case k6 => k_is); (case k7 => k_is); (case k8 => ktr_room); (case k9 => first | exact BindsTo.of_eq rfl | exact binds_K (by k_in) rfl (by k_is) rfl rfl rfl); (case c5 => decide); (case kB => exact locs rfl); (case c2 => exact rfl); (case c3 => exact rfl); (case c4 => exact rfl); k_whole; intro _ _ _ _ _ _ _ _ _ _; (try dsimp only); (try k_fold)))
  rename_i gg LB _ hg FGx _ _ Bx Xx Tx
  k_steps
  rename Fr gg LB _ _ => F5
  rename News gg LB _ _ => N5
  k_dflt (refine lam_call w p loose mean mg mb p0 p1 p2 p3 pm ctv K c Ta oc cvs tc _ _ _ _ _ hoc hcv hK hc hT (by k_asm) F5 (by k_asm) N5 (by k_asm) (by exact rfl) (by ktr_room) (by ktr_units) ?_)
  intro h6 tk6 F6 N6
  clear F5 N5
  k_steps
  k_dflt (refine ctr_use (bsr_ctrN w p loose mean mg mb _ D K xs hs lk 0 hs.length x tx _ HL LL0) [] (by k_asm) F6 (by k_asm) N6 (by k_asm) (by exact rfl) (fun _ h => h) (fun _ h => nomatch h) trivial (by ktr_room) (by ktr_units) ?_)
  intro r tl h7 tk7 F7 N7 hne7 hpost
  obtain ⟨t7,rfl,rfl⟩ := hpost
  clear F6 N6 hne7
  rw [List.append_nil] at N7
  try dsimp only
  k_steps
  rename Fr gg LB _ _ => F8
  rename News gg LB _ _ => N8
  have hb := bisR_le x hs hs.length 0 hs.length (Nat.zero_le _)
  k_dflt (refine kl_insert (its := xs.toArray) F8 N8 ?hf rfl (Upd.head hne) ?hz ?_)
  case hf =>
    simp only [Builtin.List.listFitsIndex,Bool.and_eq_true,decide_eq_true_eq]
    omega
  case hz =>
    show xs.length ≤ _
    exact Nat.le_trans (show xs.length ≤ 20 by omega) (by decide)
  intro h9 F9 N9
  try dsimp only
  k_steps
  exact ctr_ret hret hg F9 N9 ⟨rfl,rfl⟩
theorem words_a41 : True := by
  k_with_none
  k_with "eval Name" => (name_kind "local"; k_dflt (refine' ld ?F ?v ?_; (case F => k_asm); (case v => walk_at "k_opq")))
  k_with "exec" => ((with_reducible show wpAny _ _ (exec ruWhile _) _ _ _); k_dflt (refine' ru_while ?k1 ?k2 ?k3 ?k4 ?k5 ?k6 ?k7 ?k8 ?k9 ?kA ?kB ?kC ?kF ?kN ?kx ?ky ?kG ?kH ?_; (case kF => k_asm); (case kN => k_asm); (case kB => assumption); (case kC => assumption); (case kA => assumption); (case k1 => assumption); (case k2 => assumption); (case k3 => assumption); (case k4 => assumption); (case k5 => assumption); (case k6 => assumption); (case k7 => assumption); (case k8 => assumption); (case k9 => assumption); (case kx => walk_at "k_opq"); (case ky => walk_at "k_opq"); (case kG => with_reducible assumption); (case kH => with_reducible assumption)); intro h2 tk2 m2 g2 tg2 F2 N2 mx2 hg2)
  k_with "omega" => lia
  exact trivial
theorem ru_loop {w : World} {p : Program} {loose : List Str} {mean : ExcName → Option Value} {mg mb : Str → Option Value}
    {dp un : Nat} {gd : Option (List Code)} {cn : Str} {cs : Scope} {ad : Addr} {ccd : Value} {cl : List (Str × Addr)} {outer : List Env} {L : Addr} {base h₀ : Heap} {L' : Addr} {s : Shared} {Q : Flow → Shared → Prop} {E : Value → Shared → Prop} (hk : cs.kind = .function)
    (B : Below (ktrTop dp un gd cn cs L ad ccd cl outer) base (envX cn cs L ad ccd cl::outer) h₀) (X : (Mine.hd.heap_1 w.params).In h₀) (T : Top p loose mean mg mb h₀) (hd : dp+40 < recursionLimit) (hu : un+300 < cLine)
    (hE : PassesOwn (model pw_ty0047_01 w) ((ktrTop dp un gd cn cs L ad ccd cl outer).deeper (ruEnv L')) (ruEnv L') E)
    (hC1 : CodeHd h₀ 34 30) (hC2 : CodeHd h₀ 41 37) (c30 c37 : Addr) (o30 o37 : Obj) (DL : DmL c30 c37 o30 o37) (I D : Addr) (lo : Obj) (hID : I ∉ addrs (mtL c30 c37 o30 o37)) (hD : D ∉ addrs (mtL c30 c37 o30 o37)) (hI : ∀ q ∈ (D,lo)::mtL c30 c37 o30 o37,q.1 ≠ I) :
    ∀ (zs : List Int) (lv : List Value),IntsAre lv zs → (∀ z ∈ zs,z.natAbs < 2 ^ 4000) → ∀ (m : Str → Option Value) (x : Int) (tx : Tok),m (Str.ofString "measure") = some (.int x tx) → x.natAbs < 2 ^ 4000 →
      (∀ h tk m' g tg,Fr h₀ L' h m' → News h₀ L' h ((D,lo)::mtL c30 c37 o30 o37) → m' (Str.ofString "measure") = some (.int g tg) → g.natAbs = gcdL x.natAbs zs → g.natAbs < 2 ^ 4000 → Q .next { s with heap := h,toks := tk }) →
      ListRest pw_ty0047_01 w ((ktrTop dp un gd cn cs L ad ccd cl outer).deeper (ruEnv L')) E h₀ (ruEnv L') (Str.ofString "number") [ruWhile] Q s I (D,lo) lv m ((D,lo)::mtL c30 c37 o30 o37) := by
  w_top off
  intro zs lv hI2
  induction hI2 with
  | nil =>
    intro hz m x tx mx bx fin
    refine ListRest.zero fun h tk F N => ?_
    exact fin h tk m x tx F N mx rfl bx
  | cons z tz hI2 ih =>
    rename_i vs' ns'
    intro hz m x tx mx bx fin
    refine ListRest.succ fun it h tk hit F N => ?_
    have hz1 := hz z (.head _)
    k_steps
    have hg3 : g2.natAbs < 2 ^ 4000 := by
      rw [hg2]
      rcases Nat.eq_zero_or_pos x.natAbs with h | h
      · show Nat.gcd _ _ < _; rw [h,Nat.gcd_zero_left]; exact hz1
      · exact Nat.lt_of_le_of_lt (Nat.gcd_le_left _ h) bx
    refine UnrEnd.intro F2 N2 ((D,lo)::mtL c30 c37 o30 o37) (fun _ h => h) hI ⟨.head _,?_⟩
    refine ih (fun z h => hz z (.tail _ h)) m2 g2 tg2 mx2 hg3 fun h3 tk3 m3 g3 tg3 F3 N3 mx3 e3 b3 => ?_
    refine fin h3 tk3 m3 g3 tg3 F3 N3 mx3 ?_ b3
    rw [e3,hg2]
    rfl
theorem words_a42 : True := by
  k_with "pyIter ref" => ((with_reducible show wpAny _ _ (pyIter (Value.ref _)) (fun it s₂ => LoopAtV _ _ _ _ _ _ _ _ _ it s₂) _ _); k_dflt (refine iter_listUnr rfl (by k_asm) (by k_asm) (.head _) rfl rfl ?_); intro I lI)
  exact trivial
theorem ru_ctr (w : World) (p : Program) (loose : List Str) (mean : ExcName → Option Value) (mg mb : Str → Option Value) (D : Addr) (k : Nat) (lv : List Value) (zs : List Int) (hI : IntsAre lv zs) (hz : ∀ z ∈ zs,z.natAbs < 2 ^ 4000)
    (c30 c37 : Addr) (o30 o37 : Obj) (DL : DmL c30 c37 o30 o37) (hD : D ∉ addrs (mtL c30 c37 o30 o37)) :
   Ctr pw_ty0047_01 w (Mine.hd.heap_1 w.params) p loose mean mg mb 125 [.ref D] [] ((D,listOf lv.toArray k)::mtL c30 c37 o30 o37) 42 320 (fun h => (CodeHd h 34 30 ∧ CodeHd h 41 37) ∧ (34 : Addr) ≠ D ∧ (41 : Addr) ≠ D)
     (fun r tl => ∃ tv,r = .int (gcdL 0 zs : Nat) tv ∧ tl = (D,listOf lv.toArray k)::mtL c30 c37 o30 o37) := by
  w_top off
  intro dp un gd cn cs ad ccd cl outer A₀ base h₀ L m s Q E B F X NN T hk hp hd hu hret
  refine wpAny_call ?_
  (k_dflt (refine' code_defX ?k1 ?k2 ?k3 ?k4 ?k5 ?kA ?kF ?kK ?k6 ?k7 ?k8 ?k9 ?kB ?_ ?c2 ?c3 ?c4 ?c5; (case kA => exact rfl); (case kF => exact rfl); (case kK => assumption); (case k1 => k_asm); (case k2 => k_asm); (case k3 => k_asm); (case k4 => k_asm); (case k5 => k_asm); (case k6 => k_is); (case k7 => k_is); (case k8 => ktr_room); (case k9 => first | exact BindsTo.of_eq rfl | exact binds_K (by k_in) rfl (by k_is) rfl rfl rfl); (case c5 => decide); (case kB => exact locs rfl); (case c2 => exact rfl); (case c3 => exact rfl); (case c4 => exact rfl); k_whole; intro _ _ _ _ _ _ _ _ _ _; (try dsimp only); (try k_fold)))
  rename_i gg LL _ hg FGx _ _ Bx Xx Tx
  have hC1 := codeHd_at hp.1.1 (fun o e => hg 34 o e (fun h => (List.mem_cons.mp h).elim hp.2.1 DL.off.1))
  have hC2 := codeHd_at hp.1.2 (fun o e => hg 41 o e (fun h => (List.mem_cons.mp h).elim hp.2.2 DL.off.2))
  k_steps
  k_dflt (refine ru_loop (w := w) hk Bx Xx Tx (by omega) (by omega) (by passes_own) hC1 hC2 c30 c37 o30 o37 DL I D _ ?_ hD (fun q hq => Nat.ne_of_lt (lI q hq)) zs lv (by assumption) hz _ 0 _ rfl (by decide) ?_)
  · intro h
    obtain ⟨q,hq,e⟩ := List.mem_map.mp h
    exact Nat.ne_of_lt (lI q (.tail _ hq)) e
  intro h3 tk3 m3 g3 tg3 F3 N3 mx3 e3 b3
  try dsimp only
  k_steps
  have e4 : (if g3 < 0 then -g3 else g3) = (gcdL 0 zs : Nat) := by
    rw [show Int.natAbs 0 = 0 from rfl] at e3
    split <;> omega
  rw [e4]
  exact ctr_ret hret hg F3 N3 ⟨_,rfl,rfl⟩
end
section
local macro_rules | `(tactic| walk_at "eval Name") => `(tactic| (name_kind "local"; k_dflt (refine' nameX_L ?F ?v ?_ ?a ?b; (case F => k_asm); (case a => rfl); (case b => rfl); (case v => walk_at "k_opq"); k_whole)))
local macro_rules | `(tactic| walk_at "subscriptTail Name Constant ref int") => `(tactic| ((with_reducible show wpAny _ _ (subscriptTail _ _ (Value.ref _) (Value.int _ _)) _ _ _); (with_unfolding_all refine' item_litK ?k1 ?k2 ?k3 ?k4 ?_ ?k6; (case k1 => is_list); (case k2 => decide); (case k3 => decide); (case k4 => rfl); (case k6 => with_unfolding_all rfl); k_whole)))
local macro_rules | `(tactic| walk_at "binaryOp Pow int int") => `(tactic| (with_reducible refine pow_int_small (by assumption) (by assumption) (by decide) ?_))
local macro_rules | `(tactic| k_all) => `(tactic| assumption)
local macro_rules | `(tactic| k_ne) => `(tactic| k_extra "k_ne")
local macro_rules | `(tactic| walk_at $s:str) => `(tactic| k_extra $s)
theorem words_a43 : True := by
  k_with_none
  k_with "k_ne" => (refine neN ?_; (try dsimp only); first | (with_reducible assumption) | (refine Ne.symm ?_; with_reducible assumption))
  k_with "omega" => lia
  exact trivial
theorem law_n1 {w : World} {p : Program} {loose : List Str} {mean : ExcName → Option Value} {mg mb : Str → Option Value}
    {dp un : Nat} {gd : Option (List Code)} {L fa : Addr} {A₀ : Around} {base h₀ : Heap} {s : Shared} {Q : Flow → Shared → Prop} {E : Value → Shared → Prop}
    (B : Below A₀ base [] h₀) (X : (Mine.hd.heap_1 w.params).In h₀) (T : Top p loose mean mg mb h₀) (hd : dp+100 < recursionLimit) (hu : un+600 < cLine)
    (ch1 : CodeHd h₀ 41 37) (ch2 : CodeHd h₀ 34 30) (ch3 : CodeHd h₀ 136 134)
   (rest : List Stmt) {m : Str → Option Value} {jk jq yk jm jt jp jr jl t37 t30 t134 : Obj} {H : Addr} {a0 a1 a2 a3 a4 a5 : Int} {t0 t1 t2 t3 t4 t5 : Tok} {kH : Nat} (hH : AllNe H ((L+1+1+1+1+1+1+1+1,jk)::(L+1+1+1+1+1+1+1,jq)::(L+1+1+1+1+1+1,yk)::(L+1+1+1+1+1,jm)::(L+1+1+1+1,jt)::(L+1+1+1,jp)::(L+1+1,jr)::(L+1,jl)::(37,t37)::(30,t30)::(134,t134)::[]))
   (hl : @LT.lt Nat _ 134 L) (F : Fr h₀ L s.heap m) (N : News h₀ L s.heap [(L+1+1+1+1+1+1+1+1,jk),(L+1+1+1+1+1+1+1,jq),(L+1+1+1+1+1+1,yk),(L+1+1+1+1+1,jm),(L+1+1+1+1,jt),(L+1+1+1,jp),(L+1+1,jr),(L+1,jl),(37,t37),(30,t30),(134,t134),(H,listOf #[.int a0 t0,.int a1 t1,.int a2 t2,.int a3 t3,.int a4 t4,.int a5 t5] kH)]) (mh : m (Str.ofString "heaps") = some (.ref H)) (c1 : jr.data = .cell none)
   (fin : ∀ h tk' m' o1 u1 u2 u3 u4 u5,o1.data = .cell (some (.int ((a3.fdiv 2).fmod 2) u5)) → Fr h₀ L h m' → News h₀ L h [(L+1+1+1+1+1+1+1+1,jk),(L+1+1+1+1+1+1+1,jq),(L+1+1+1+1+1+1,yk),(L+1+1+1+1+1,jm),(L+1+1+1+1,jt),(L+1+1+1,jp),(L+1+1,o1),(L+1,jl),(37,t37),(30,t30),(134,t134),(H,listOf #[.int a0 t0,.int a1 t1,.int a2 t2,.int a3 t3,.int a4 t4,.int a5 t5] kH)] → m' (Str.ofString "heaps") = some (.ref H) → m' (Str.ofString "p") = some (.int (1 + a0.fmod 4) u1) → m' (Str.ofString "q") = some (.int (1 + a1.fmod 4) u2) →
     m' (Str.ofString "first") = some (.int (1 + a2.fmod 20) u3) → m' (Str.ofString "second") = some (.int (2 * a3.fmod 2 - 1) u4) → wpAny (model pw_ty0047_01 w) (lawA dp un gd L fa) (execs rest (lawEnv L fa)) Q E { s with heap := h,toks := tk' })
   : wpAny (model pw_ty0047_01 w) (lawA dp un gd L fa) (execs (lst1::lst2::rest) (lawEnv L fa)) Q E s := by
  w_top off
  obtain ⟨e0,e1,e2,e3,e4,e5,e6,e7,e8,e9,e10,_⟩ := hH
  k_steps
  rename News h₀ L _ _ => N9
  exact fin _ _ _ _ _ _ _ _ _ (by assumption) (by assumption) (cb_drop N9 (by lcg_sub)) (by walk_at "k_opq") (by walk_at "k_opq") (by walk_at "k_opq") (by walk_at "k_opq") (by walk_at "k_opq")
theorem law_n3 {w : World} {p : Program} {loose : List Str} {mean : ExcName → Option Value} {mg mb : Str → Option Value}
    {dp un : Nat} {gd : Option (List Code)} {L fa : Addr} {A₀ : Around} {base h₀ : Heap} {s : Shared} {Q : Flow → Shared → Prop} {E : Value → Shared → Prop}
    (B : Below A₀ base [] h₀) (X : (Mine.hd.heap_1 w.params).In h₀) (T : Top p loose mean mg mb h₀) (hd : dp+100 < recursionLimit) (hu : un+600 < cLine)
    (ch1 : CodeHd h₀ 41 37) (ch2 : CodeHd h₀ 34 30) (ch3 : CodeHd h₀ 136 134)
   (rest : List Stmt) {m : Str → Option Value} {jk jq yk jm jt jp jr jl t37 t30 t134 : Obj} {H : Addr} {a0 a1 a2 a3 a4 a5 : Int} {t0 t1 t2 t3 t4 t5 : Tok} {kH : Nat} (hH : AllNe H ((L+1+1+1+1+1+1+1+1,jk)::(L+1+1+1+1+1+1+1,jq)::(L+1+1+1+1+1+1,yk)::(L+1+1+1+1+1,jm)::(L+1+1+1+1,jt)::(L+1+1+1,jp)::(L+1+1,jr)::(L+1,jl)::(37,t37)::(30,t30)::(134,t134)::[]))
   (hl : @LT.lt Nat _ 134 L) (F : Fr h₀ L s.heap m) (N : News h₀ L s.heap [(L+1+1+1+1+1+1+1+1,jk),(L+1+1+1+1+1+1+1,jq),(L+1+1+1+1+1+1,yk),(L+1+1+1+1+1,jm),(L+1+1+1+1,jt),(L+1+1+1,jp),(L+1+1,jr),(L+1,jl),(37,t37),(30,t30),(134,t134),(H,listOf #[.int a0 t0,.int a1 t1,.int a2 t2,.int a3 t3,.int a4 t4,.int a5 t5] kH)]) (mh : m (Str.ofString "heaps") = some (.ref H)) {P Q' fi se : Int} {u1 u2 tf ts : Tok} (mp : m (Str.ofString "p") = some (.int P u1)) (mq : m (Str.ofString "q") = some (.int Q' u2)) (m1 : m (Str.ofString "first") = some (.int fi tf)) (m2 : m (Str.ofString "second") = some (.int se ts))
   (fin : ∀ h tk' m' u3 u4,Fr h₀ L h m' → News h₀ L h [(L+1+1+1+1+1+1+1+1,jk),(L+1+1+1+1+1+1+1,jq),(L+1+1+1+1+1+1,yk),(L+1+1+1+1+1,jm),(L+1+1+1+1,jt),(L+1+1+1,jp),(L+1+1,jr),(L+1,jl),(37,t37),(30,t30),(134,t134),(H,listOf #[.int a0 t0,.int a1 t1,.int a2 t2,.int a3 t3,.int a4 t4,.int a5 t5] kH)] → m' (Str.ofString "heaps") = some (.ref H) → m' (Str.ofString "p") = some (.int P u1) → m' (Str.ofString "q") = some (.int Q' u2) →
     m' (Str.ofString "first") = some (.int (fi - 2 * fi * (a2.fdiv 20).fmod 2) u3) → m' (Str.ofString "second") = some (.int (if fi = 1 then -1 else se) u4) → wpAny (model pw_ty0047_01 w) (lawA dp un gd L fa) (execs rest (lawEnv L fa)) Q E { s with heap := h,toks := tk' })
   : wpAny (model pw_ty0047_01 w) (lawA dp un gd L fa) (execs (lst3::lst4::rest) (lawEnv L fa)) Q E s := by
  w_top off
  obtain ⟨e0,e1,e2,e3,e4,e5,e6,e7,e8,e9,e10,_⟩ := hH
  k_steps
  · rename fi = 1 => f1
    rw [if_pos f1] at fin
    exact fin _ _ _ _ _ (by assumption) (by assumption) (by walk_at "k_opq") (by walk_at "k_opq") (by walk_at "k_opq") (by walk_at "k_opq") (by walk_at "k_opq")
  · rename fi ≠ 1 => f1
    rw [if_neg f1] at fin
    exact fin _ _ _ _ _ (by assumption) (by assumption) (by walk_at "k_opq") (by walk_at "k_opq") (by walk_at "k_opq") (by walk_at "k_opq") (by walk_at "k_opq")
theorem law_n5 {w : World} {p : Program} {loose : List Str} {mean : ExcName → Option Value} {mg mb : Str → Option Value}
    {dp un : Nat} {gd : Option (List Code)} {L fa : Addr} {A₀ : Around} {base h₀ : Heap} {s : Shared} {Q : Flow → Shared → Prop} {E : Value → Shared → Prop}
    (B : Below A₀ base [] h₀) (X : (Mine.hd.heap_1 w.params).In h₀) (T : Top p loose mean mg mb h₀) (hd : dp+100 < recursionLimit) (hu : un+600 < cLine)
    (ch1 : CodeHd h₀ 41 37) (ch2 : CodeHd h₀ 34 30) (ch3 : CodeHd h₀ 136 134)
   (rest : List Stmt) {m : Str → Option Value} {jk jq yk jm jt jp jr jl t37 t30 t134 : Obj} {H : Addr} {a0 a1 a2 a3 a4 a5 : Int} {t0 t1 t2 t3 t4 t5 : Tok} {kH : Nat} (hH : AllNe H ((L+1+1+1+1+1+1+1+1,jk)::(L+1+1+1+1+1+1+1,jq)::(L+1+1+1+1+1+1,yk)::(L+1+1+1+1+1,jm)::(L+1+1+1+1,jt)::(L+1+1+1,jp)::(L+1+1,jr)::(L+1,jl)::(37,t37)::(30,t30)::(134,t134)::[]))
   (hl : @LT.lt Nat _ 134 L) (F : Fr h₀ L s.heap m) (N : News h₀ L s.heap [(L+1+1+1+1+1+1+1+1,jk),(L+1+1+1+1+1+1+1,jq),(L+1+1+1+1+1+1,yk),(L+1+1+1+1+1,jm),(L+1+1+1+1,jt),(L+1+1+1,jp),(L+1+1,jr),(L+1,jl),(37,t37),(30,t30),(134,t134),(H,listOf #[.int a0 t0,.int a1 t1,.int a2 t2,.int a3 t3,.int a4 t4,.int a5 t5] kH)]) (mh : m (Str.ofString "heaps") = some (.ref H)) {P Q' fi se : Int} {u1 u2 tf ts : Tok} (mp : m (Str.ofString "p") = some (.int P u1)) (mq : m (Str.ofString "q") = some (.int Q' u2)) (m1 : m (Str.ofString "first") = some (.int fi tf)) (m2 : m (Str.ofString "second") = some (.int se ts))
   (c2 : jp.data = .cell none) (c3 : jt.data = .cell none) (he0 : 0 ≤ a5.fmod 4200) (he1 : a5.fmod 4200 ≤ 1000000)
   (fin : ∀ h tk' m' o2 o3 u3 u4 u5 u6,o2.data = .cell (some (.int (a4.fmod 31) u3)) → o3.data = .cell (some (.int (1 + (a4.fdiv 31).fmod 33) u4)) → Fr h₀ L h m' → News h₀ L h [(L+1+1+1+1+1+1+1+1,jk),(L+1+1+1+1+1+1+1,jq),(L+1+1+1+1+1+1,yk),(L+1+1+1+1+1,jm),(L+1+1+1+1,o3),(L+1+1+1,o2),(L+1+1,jr),(L+1,jl),(37,t37),(30,t30),(134,t134),(H,listOf #[.int a0 t0,.int a1 t1,.int a2 t2,.int a3 t3,.int a4 t4,.int a5 t5] kH)] →
     m' (Str.ofString "p") = some (.int P u1) → m' (Str.ofString "q") = some (.int Q' u2) → m' (Str.ofString "first") = some (.int fi tf) → m' (Str.ofString "second") = some (.int se ts) → m' (Str.ofString "scale") = some (.int (2 ^ (a5.fmod 4200).toNat+1) u5) → m' (Str.ofString "both") = some (.int (2 * a4.fmod 31 + (1 + (a4.fdiv 31).fmod 33)) u6) → wpAny (model pw_ty0047_01 w) (lawA dp un gd L fa) (execs rest (lawEnv L fa)) Q E { s with heap := h,toks := tk' })
   : wpAny (model pw_ty0047_01 w) (lawA dp un gd L fa) (execs (lst5::lst6::rest) (lawEnv L fa)) Q E s := by
  w_top off
  obtain ⟨e0,e1,e2,e3,e4,e5,e6,e7,e8,e9,e10,_⟩ := hH
  k_steps
  rename News h₀ L _ _ => N9
  exact fin _ _ _ _ _ _ _ _ _ (by assumption) (by assumption) (by assumption) (cb_drop N9 (by lcg_sub)) (by walk_at "k_opq") (by walk_at "k_opq") (by walk_at "k_opq") (by walk_at "k_opq") (by walk_at "k_opq") (by walk_at "k_opq")
noncomputable def lucasU (i : Nat) (a b : Int) : Int := (lucasL a b).getD i 0
theorem ints10 {vs : List Value} {x0 x1 x2 x3 x4 x5 x6 x7 x8 x9 : Int} (h : IntsAre vs [x0,x1,x2,x3,x4,x5,x6,x7,x8,x9]) : ∃ w0 w1 w2 w3 w4 w5 w6 w7 w8 w9,vs = [.int x0 w0,.int x1 w1,.int x2 w2,.int x3 w3,.int x4 w4,.int x5 w5,.int x6 w6,.int x7 w7,.int x8 w8,.int x9 w9] :=
  ⟨_,_,_,_,_,_,_,_,_,_,ints_tag h⟩
noncomputable def OffZ (L : Addr) (zs : List (Addr × Obj)) : Prop := ∀ q ∈ zs,@Ne Nat q.1 (L+1+1+1+1+1+1+1+1) ∧ @Ne Nat q.1 (L+1+1+1+1+1+1+1) ∧ @Ne Nat q.1 (L+1+1+1+1+1+1) ∧ @Ne Nat q.1 (L+1+1+1+1+1) ∧ @Ne Nat q.1 (L+1+1+1+1) ∧ @Ne Nat q.1 (L+1+1+1) ∧ @Ne Nat q.1 (L+1+1) ∧ @Ne Nat q.1 (L+1) ∧ @Ne Nat q.1 (37) ∧ @Ne Nat q.1 (30) ∧ @Ne Nat q.1 (134)
theorem OffZ.cons {L : Addr} {q : Addr × Obj} {zs : List (Addr × Obj)} {jk jq yk jm jt jp jr jl t37 t30 t134 : Obj} {ys : List (Addr × Obj)} (h : AllNe q.1 ((L+1+1+1+1+1+1+1+1,jk)::(L+1+1+1+1+1+1+1,jq)::(L+1+1+1+1+1+1,yk)::(L+1+1+1+1+1,jm)::(L+1+1+1+1,jt)::(L+1+1+1,jp)::(L+1+1,jr)::(L+1,jl)::(37,t37)::(30,t30)::(134,t134)::ys)) (hz : OffZ L zs) : OffZ L (q::zs) := by
  intro r hr
  rcases List.mem_cons.mp hr with rfl | hr
  · simp only [AllNe] at h
    obtain ⟨h0,h1,h2,h3,h4,h5,h6,h7,h8,h9,h10,_⟩ := h
    exact ⟨fun e => h0 e.symm,fun e => h1 e.symm,fun e => h2 e.symm,fun e => h3 e.symm,fun e => h4 e.symm,fun e => h5 e.symm,fun e => h6 e.symm,fun e => h7 e.symm,fun e => h8 e.symm,fun e => h9 e.symm,fun e => h10 e.symm⟩
  · exact hz r hr
theorem OffZ.nil {L : Addr} : OffZ L [] := fun _ h => nomatch h
noncomputable def nextRow (us : List Int) (b : Int) (i : Nat) (p : List Int) : List Int :=
  let l1 := us.getD 2 0 * p.getD 1 0 - b * us.getD (i - 1) 0 * 1
  let l2 := us.getD 3 0 * p.getD 2 0 - b * us.getD (i - 1) 0 * l1
  let l3 := us.getD 4 0 * p.getD 3 0 - b * us.getD (i - 1) 0 * l2
  let l4 := us.getD 5 0 * p.getD 4 0 - b * us.getD (i - 1) 0 * l3
  [1,l1,l2,l3,l4,us.getD 6 0 * p.getD 5 0 - b * us.getD (i - 1) 0 * l4]
noncomputable def tabRow (us : List Int) (b : Int) : Nat → List Int
  | 0 => [1,1,1,1,1,1]
  | i+1 => nextRow us b (i+1) (tabRow us b i)
theorem NextOk.eq {us : List Int} {b : Int} {i : Nat} {p l : List Int} (h : NextOk us b i p l) : l = nextRow us b i p := by
  obtain ⟨l1,l2,l3,l4,l5,rfl,e1,e2,e3,e4,e5⟩ := h
  subst e1; subst e2; subst e3; subst e4; subst e5
  rfl
structure TabL (zs : List (Addr × Obj)) (T : Addr) (us : List Int) (b : Int) : Prop where
  ex : ∃ (xs : List Value) (k : Nat),(T,listOf xs.toArray k) ∈ zs ∧ xs.length = 6 ∧ ∀ i,i < 6 → ∃ (r : Addr) (vs : List Value) (kr : Nat),xs[i]? = some (.ref r) ∧ (r,listOf vs.toArray kr) ∈ zs ∧ IntsAre vs (tabRow us b i)
noncomputable def forBodyOf : Stmt → List Stmt
  | .For _ _ b _ _ => b
  | _ => []
noncomputable def ifBodyOf : Stmt → List Stmt
  | .If _ b _ _ => b
  | _ => []
noncomputable def ifTestOf : Stmt → Expr
  | .If t _ _ _ => t
  | _ => .Constant .none 0 default
noncomputable def itFor2 : Stmt := (forBodyOf (lawAt 10)).getD 0 (.Pass default)
noncomputable def itIf0 : Stmt := (forBodyOf itFor2).getD 0 (.Pass default)
@[reducible] noncomputable def itTest : Expr := by
  have e := Eq.refl (ifTestOf itIf0)
  conv at e => rhs; whnf
  exact rhsOf e
@[reducible] noncomputable def itB0 : Stmt := by
  have e := Eq.refl ((ifBodyOf itIf0).getD 0 (.Pass default))
  conv at e => rhs; whnf
  exact rhsOf e
@[reducible] noncomputable def itB1 : Stmt := by
  have e := Eq.refl ((ifBodyOf itIf0).getD 1 (.Pass default))
  conv at e => rhs; whnf
  exact rhsOf e
@[reducible] noncomputable def itB2 : Stmt := by
  have e := Eq.refl ((ifBodyOf itIf0).getD 2 (.Pass default))
  conv at e => rhs; whnf
  exact rhsOf e
@[reducible] noncomputable def itB3 : Stmt := by
  have e := Eq.refl ((ifBodyOf itIf0).getD 3 (.Pass default))
  conv at e => rhs; whnf
  exact rhsOf e
theorem it_test {w : World} {p : Program} {loose : List Str} {mean : ExcName → Option Value} {mg mb : Str → Option Value}
    {dp un : Nat} {gd : Option (List Code)} {L fa : Addr} {A₀ : Around} {base h₀ : Heap} {s : Shared} {Q : Bool → Shared → Prop} {E : Value → Shared → Prop}
    (B : Below A₀ base [] h₀) (X : (Mine.hd.heap_1 w.params).In h₀) (T : Top p loose mean mg mb h₀) (hd : dp+100 < recursionLimit) (hu : un+600 < cLine)
    (ch1 : CodeHd h₀ 41 37) (ch2 : CodeHd h₀ 34 30) (ch3 : CodeHd h₀ 136 134)
   {m : Str → Option Value} {jk jq yk jm jt jp jr jl t37 t30 : Obj} {R : Addr} {xs : List Value} {kR : Nat} {ps : Array Value} {zs : List (Addr × Obj)}
   (hl : @LT.lt Nat _ 134 L) (hz : OffZ L zs) (hzR : ∀ q ∈ zs,@Ne Nat q.1 R) (hR : AllNe R ((L+1+1+1+1+1+1+1+1,jk)::(L+1+1+1+1+1+1+1,jq)::(L+1+1+1+1+1+1,yk)::(L+1+1+1+1+1,jm)::(L+1+1+1+1,jt)::(L+1+1+1,jp)::(L+1+1,jr)::(L+1,jl)::(37,t37)::(30,t30)::(134,tabObj ps)::[])) {P Q' i j : Int} {u1 u2 u3 u4 : Tok} (F : Fr h₀ L s.heap m) (N : News h₀ L s.heap ((R,listOf xs.toArray kR)::(L+1+1+1+1+1+1+1+1,jk)::(L+1+1+1+1+1+1+1,jq)::(L+1+1+1+1+1+1,yk)::(L+1+1+1+1+1,jm)::(L+1+1+1+1,jt)::(L+1+1+1,jp)::(L+1+1,jr)::(L+1,jl)::(37,t37)::(30,t30)::(134,tabObj ps)::zs)) (mp : m (Str.ofString "p") = some (.int P u1)) (mq : m (Str.ofString "q") = some (.int Q' u2)) (mi : m (Str.ofString "i") = some (.int i u3)) (mj : m (Str.ofString "j") = some (.int j u4))
   (hP1 : 1 ≤ P) (hP4 : P ≤ 4) (hQ1 : 1 ≤ Q') (hQ4 : Q' ≤ 4) (hi1 : P - 1 ≤ i) (hi2 : i ≤ P+1) (hj1 : Q' - 1 ≤ j) (hj2 : j ≤ Q'+1)
   (fin : ∀ h tk',Fr h₀ L h m → News h₀ L h ((R,listOf xs.toArray kR)::(L+1+1+1+1+1+1+1+1,jk)::(L+1+1+1+1+1+1+1,jq)::(L+1+1+1+1+1+1,yk)::(L+1+1+1+1+1,jm)::(L+1+1+1+1,jt)::(L+1+1+1,jp)::(L+1+1,jr)::(L+1,jl)::(37,t37)::(30,t30)::(134,tabObj ps)::zs) → Q (levD (i - P) (j - Q') == 2) { s with heap := h,toks := tk' })
   : wpAny (model pw_ty0047_01 w) (lawA dp un gd L fa) (isTrue itTest (lawEnv L fa) (eval itTest (lawEnv L fa))) Q E s := by
  w_top off
  k_steps
  k_dflt (refine ctr_use0 (lv_ctr w p loose mean mg mb P Q' i j _ _ _ hP1 hP4 hQ1 hQ4 hi1 hi2 hj1 hj2) (by k_asm) F (by k_asm) N (by k_asm) (by exact rfl) trivial (by ktr_room) (by ktr_units) ?_)
  intro r tl h9 tk9 F9 N9 hne hpost
  obtain ⟨t9,rfl,rfl⟩ := hpost
  clear F N hne
  simp only [List.nil_append] at N9
  try dsimp only
  generalize hdd : levD (i - P) (j - Q') = dd at *
  k_steps
  exact fin _ _ F9 N9
noncomputable def eltOf : Expr → Expr
  | .ListComp e _ _ _ => e
  | _ => .Constant .none 0 default
noncomputable def cscOf : Expr → Scope
  | .ListComp _ _ s _ => s
  | _ => default
noncomputable def starOf : Stmt → Expr
  | .Assign _ (.Call _ [.Starred e _] _ _) _ => e
  | _ => .Constant .none 0 default
@[reducible] noncomputable def ptElt : Expr := by
  have e := Eq.refl (eltOf (starOf ((ifBodyOf itIf0).getD 1 (.Pass default))))
  conv at e => rhs; whnf
  exact rhsOf e
@[reducible] noncomputable def ptScope : Scope := by
  have e := Eq.refl (cscOf (starOf ((ifBodyOf itIf0).getD 1 (.Pass default))))
  conv at e => rhs; whnf
  exact rhsOf e
noncomputable def fl64 (n : Int) : UInt64 := Float64.ofFrac (decide (n < 0) != decide ((64 : Int) < 0)) n.natAbs (Int.natAbs 64)
theorem fl64_ok0 : ∀ n : Fin 64,Float64.isInf (fl64 ((n.val : Nat) : Int)) = false := by decide +kernel
theorem fl64_ok {n : Int} (h0 : 0 ≤ n) (h1 : n ≤ 63) : Float64.isInf (fl64 n) = false := by
  have h := fl64_ok0 ⟨n.toNat,by omega⟩
  rw [show ((n.toNat : Nat) : Int) = n by omega] at h
  exact h
theorem words_a44 : True := by
  k_with "eval Name" => (k_here; (with_reducible show wpAny _ _ (eval (Expr.Name _ _) (compEnvC _ _ _ _)) _ _ _); k_dflt (refine LCgL.ld_own (by k_asm) (by k_mem) (by with_reducible assumption) (by with_reducible assumption) ?_))
  k_with "eval Name" => (k_here; (first | (with_reducible show wpAny _ _ (eval (Expr.Name (Str.ofString "white") _) (compEnvC _ _ _ _)) _ _ _) | (with_reducible show wpAny _ _ (eval (Expr.Name (Str.ofString "unit") _) (compEnvC _ _ _ _)) _ _ _) | (with_reducible show wpAny _ _ (eval (Expr.Name (Str.ofString "parts") _) (compEnvC _ _ _ _)) _ _ _)); k_dflt (refine' ld_freeC ?N ?a ?m ?d ?_ ?e ?f ?g; (case N => k_asm); (case a => rfl); (case m => first | with_reducible assumption | k_mem); (case d => with_reducible assumption); (case e => rfl); (case f => rfl); (case g => decide); k_whole))
  k_with "binaryOp Mult int int" => ((with_reducible refine mul_to rfl (by exact (by assumption : ∀ c,IntMulOk _ c) _) ?_))
  exact trivial
open PyProof.Rows.LCg in
theorem it_elt {w : World} {p : Program} {loose : List Str} {mean : ExcName → Option Value} {mg mb : Str → Option Value}
    {dp un : Nat} {gd : Option (List Code)} {L fa : Addr} {A₀ : Around} {base h₀ : Heap} {s : Shared} {Q : Value → Shared → Prop} {E : Value → Shared → Prop}
    (B : Below A₀ base [] h₀) (X : (Mine.hd.heap_1 w.params).In h₀) (T : Top p loose mean mg mb h₀) (hd : dp+100 < recursionLimit) (hu : un+600 < cLine)
    (ch1 : CodeHd h₀ 41 37) (ch2 : CodeHd h₀ 34 30) (ch3 : CodeHd h₀ 136 134)
   {m m₂ : Str → Option Value} {C PT cW cU cP : Addr} {oC oW oU oP : Obj} {zs : List (Addr × Obj)} {kP : Nat} {v1 v2 v3 x WH UN : Int} {a1 a2 a3 tx tw tu : Tok} (F : Fr h₀ L s.heap m) (N : News h₀ L s.heap zs) (z0 : (C,oC) ∈ zs)
   (hC : NsObj oC m₂) (mx : m₂ (Str.ofString "part") = some (.int x tx)) (z1 : (cW,oW) ∈ zs) (z2 : (cU,oU) ∈ zs) (z3 : (cP,oP) ∈ zs) (z4 : (PT,listOf #[.int v1 a1,.int v2 a2,.int v3 a3] kP) ∈ zs)
   (cw : oW.data = .cell (some (.int WH tw))) (cu : oU.data = .cell (some (.int UN tu))) (cp : oP.data = .cell (some (.ref PT))) (hU : ∀ c,IntMulOk UN c) {b : Int} (hb : b = 0 ∨ b = 1) (hM : ∀ M,(M = v1 ∨ M = v2 ∨ M = v3) → (M ≤ v1 ∧ M ≤ v2 ∧ M ≤ v3) → x - M = b) (hW0 : 0 ≤ WH) (hW1 : WH ≤ 30) (hU0 : 1 ≤ UN) (hU1 : UN ≤ 33)
   (fin : ∀ t h tk',Fr h₀ L h m → News h₀ L h zs → Q (.float (fl64 (WH + UN * b)) t) { s with heap := h,toks := tk' })
   : wpAny (model pw_ty0047_01 w) (lawA dp un gd L fa) (eval ptElt (compEnvC ptScope [(Str.ofString "white", cW),(Str.ofString "unit", cU),(Str.ofString "parts", cP)] C (lawEnv L fa))) Q E s := by
  w_top off
  k_steps
  · exfalso
    rename Float64.isInf _ = true => hinf
    rename _ ∨ _ ∨ _ => hm1
    rename _ ∧ _ ∧ _ => hm2
    rw [hM _ hm1 hm2] at hinf
    have hf : Float64.isInf (fl64 (WH + UN * b)) = false := fl64_ok (by rcases hb with rfl | rfl <;> omega) (by rcases hb with rfl | rfl <;> omega)
    rw [show Float64.isInf (fl64 (WH + UN * b)) = true from hinf] at hf
    cases hf
  · rename Fr h₀ L _ _ => F9
    rename News h₀ L _ _ => N9
    rename _ ∨ _ ∨ _ => hm1
    rename _ ∧ _ ∧ _ => hm2
    rw [hM _ hm1 hm2]
    exact fin _ _ _ F9 N9
noncomputable def fdiv64 (a b : Int) : UInt64 := Float64.ofFrac (decide (a < 0) != decide (b < 0)) a.natAbs b.natAbs
theorem OffZ.ne {L : Addr} {zs : List (Addr × Obj)} {jk jq yk jm jt jp jr jl t37 t30 t134 : Obj} {p q : Addr × Obj} (hz : OffZ L zs) (hp : p ∈ zs) (hq : q ∈ ((L+1+1+1+1+1+1+1+1,jk)::(L+1+1+1+1+1+1+1,jq)::(L+1+1+1+1+1+1,yk)::(L+1+1+1+1+1,jm)::(L+1+1+1+1,jt)::(L+1+1+1,jp)::(L+1+1,jr)::(L+1,jl)::(37,t37)::(30,t30)::(134,t134)::[] : List (Addr × Obj))) : @Ne Nat p.1 q.1 := by
  have h := hz p hp
  obtain ⟨y0,y1,y2,y3,y4,y5,y6,y7,y8,y9,y10⟩ := h
  rcases List.mem_cons.mp hq with rfl | hq
  · exact y0
  rcases List.mem_cons.mp hq with rfl | hq
  · exact y1
  rcases List.mem_cons.mp hq with rfl | hq
  · exact y2
  rcases List.mem_cons.mp hq with rfl | hq
  · exact y3
  rcases List.mem_cons.mp hq with rfl | hq
  · exact y4
  rcases List.mem_cons.mp hq with rfl | hq
  · exact y5
  rcases List.mem_cons.mp hq with rfl | hq
  · exact y6
  rcases List.mem_cons.mp hq with rfl | hq
  · exact y7
  rcases List.mem_cons.mp hq with rfl | hq
  · exact y8
  rcases List.mem_cons.mp hq with rfl | hq
  · exact y9
  rcases List.mem_cons.mp hq with rfl | hq
  · exact y10
  cases hq
theorem LamL.of {led : List (Addr × Obj)} {K c : Addr} {lo oc : Obj} {p0 p1 p2 p3 : Pos} {pm ctv : Value} {cvs : Array Value} {t : Tok} (hlo : lo = lamO p0 p1 p2 p3 pm c ctv) (hoc : oc.data = .fields cvs) (hcv : cvs[1]? = some (.str lamQual t)) (hK : (K,lo) ∈ led) (hc : (c,oc) ∈ led) : LamL led K := by
  subst hlo
  exact ⟨_,_,_,_,_,_,_,_,_,_,hoc,hcv,hK,hc⟩
theorem not_addr {a : Addr} {l : List (Addr × Obj)} (h : ∀ p ∈ l,@Ne Nat p.1 a) : a ∉ addrs l := fun hm => by
  obtain ⟨p,hp,e⟩ := List.mem_map.mp hm
  exact h p hp e
theorem offZ_new {L : Addr} {jk jq yk jm jt jp jr jl t37 t30 t134 : Obj} {zs : List (Addr × Obj)} (hz : OffZ L zs) : ∀ {new : List (Addr × Obj)},(∀ q ∈ new,AllNe q.1 ((L+1+1+1+1+1+1+1+1,jk)::(L+1+1+1+1+1+1+1,jq)::(L+1+1+1+1+1+1,yk)::(L+1+1+1+1+1,jm)::(L+1+1+1+1,jt)::(L+1+1+1,jp)::(L+1+1,jr)::(L+1,jl)::(37,t37)::(30,t30)::(134,t134)::[])) → OffZ L (new ++ zs)
  | [],_ => hz
  | q::r,h => OffZ.cons (ys := []) (h q (.head _)) (offZ_new hz fun p hp => h p (.tail _ hp))
noncomputable def hueB : Nat → UInt64
  | 0 => 0
  | 1 => 4595172819793696085
  | 2 => 4599676419421066581
  | 3 => 4602678819172646912
  | 4 => 4604180019048437077
  | _ => 4605681218924227243
noncomputable def baseOk (W U : Int) : Bool :=
  let lo := fl64 W
  let hi := fl64 (W + U)
  let d := Float64.sub hi lo
  let a := Float64.add hi lo
  let l := Float64.div a f2
  let q := fdiv64 U (if 128 - (2 * W + U) < 2 * W + U then 128 - (2 * W + U) else 2 * W + U)
  Float64.cmp lo hi == some .lt && Float64.cmp hi lo == some .gt && Float64.cmp lo lo == some .eq && Float64.cmp hi hi == some .eq &&
  !Float64.isZero d && Float64.div d d == f1 && Float64.div (Float64.sub hi hi) d == 0 &&
  (if fle l f05 then !Float64.isZero a && feq (Float64.div d a) q else !Float64.isZero (Float64.sub (Float64.sub f2 hi) lo) && feq (Float64.div d (Float64.sub (Float64.sub f2 hi) lo)) q) &&
  feq l (fdiv64 (2 * W + U) 128) && !Float64.isInf q && !Float64.isInf (fdiv64 (2 * W + U) 128)
theorem base_0 : ∀ w : Fin 4,∀ u : Fin 33,baseOk (((w.val : Nat) : Int)+0) (((u.val : Nat) : Int)+1) = true := by decide +kernel
theorem base_1 : ∀ w : Fin 4,∀ u : Fin 33,baseOk (((w.val : Nat) : Int)+4) (((u.val : Nat) : Int)+1) = true := by decide +kernel
theorem base_2 : ∀ w : Fin 4,∀ u : Fin 33,baseOk (((w.val : Nat) : Int)+8) (((u.val : Nat) : Int)+1) = true := by decide +kernel
theorem base_3 : ∀ w : Fin 4,∀ u : Fin 33,baseOk (((w.val : Nat) : Int)+12) (((u.val : Nat) : Int)+1) = true := by decide +kernel
theorem base_4 : ∀ w : Fin 4,∀ u : Fin 33,baseOk (((w.val : Nat) : Int)+16) (((u.val : Nat) : Int)+1) = true := by decide +kernel
theorem base_5 : ∀ w : Fin 4,∀ u : Fin 33,baseOk (((w.val : Nat) : Int)+20) (((u.val : Nat) : Int)+1) = true := by decide +kernel
theorem base_6 : ∀ w : Fin 4,∀ u : Fin 33,baseOk (((w.val : Nat) : Int)+24) (((u.val : Nat) : Int)+1) = true := by decide +kernel
theorem base_7 : ∀ w : Fin 3,∀ u : Fin 33,baseOk (((w.val : Nat) : Int)+28) (((u.val : Nat) : Int)+1) = true := by decide +kernel
theorem base_all {W U : Int} (h0 : 0 ≤ W) (h1 : W ≤ 30) (h2 : 1 ≤ U) (h3 : U ≤ 33) : baseOk W U = true := by
  by_cases c0 : W < 4
  · have h := base_0 ⟨(W - 0).toNat,by omega⟩ ⟨(U - 1).toNat,by omega⟩
    simp only [show (((W - 0).toNat : Nat) : Int) = W - 0 by omega,show (((U - 1).toNat : Nat) : Int) = U - 1 by omega,Int.sub_add_cancel] at h
    exact h
  by_cases c1 : W < 8
  · have h := base_1 ⟨(W - 4).toNat,by omega⟩ ⟨(U - 1).toNat,by omega⟩
    simp only [show (((W - 4).toNat : Nat) : Int) = W - 4 by omega,show (((U - 1).toNat : Nat) : Int) = U - 1 by omega,Int.sub_add_cancel] at h
    exact h
  by_cases c2 : W < 12
  · have h := base_2 ⟨(W - 8).toNat,by omega⟩ ⟨(U - 1).toNat,by omega⟩
    simp only [show (((W - 8).toNat : Nat) : Int) = W - 8 by omega,show (((U - 1).toNat : Nat) : Int) = U - 1 by omega,Int.sub_add_cancel] at h
    exact h
  by_cases c3 : W < 16
  · have h := base_3 ⟨(W - 12).toNat,by omega⟩ ⟨(U - 1).toNat,by omega⟩
    simp only [show (((W - 12).toNat : Nat) : Int) = W - 12 by omega,show (((U - 1).toNat : Nat) : Int) = U - 1 by omega,Int.sub_add_cancel] at h
    exact h
  by_cases c4 : W < 20
  · have h := base_4 ⟨(W - 16).toNat,by omega⟩ ⟨(U - 1).toNat,by omega⟩
    simp only [show (((W - 16).toNat : Nat) : Int) = W - 16 by omega,show (((U - 1).toNat : Nat) : Int) = U - 1 by omega,Int.sub_add_cancel] at h
    exact h
  by_cases c5 : W < 24
  · have h := base_5 ⟨(W - 20).toNat,by omega⟩ ⟨(U - 1).toNat,by omega⟩
    simp only [show (((W - 20).toNat : Nat) : Int) = W - 20 by omega,show (((U - 1).toNat : Nat) : Int) = U - 1 by omega,Int.sub_add_cancel] at h
    exact h
  by_cases c6 : W < 28
  · have h := base_6 ⟨(W - 24).toNat,by omega⟩ ⟨(U - 1).toNat,by omega⟩
    simp only [show (((W - 24).toNat : Nat) : Int) = W - 24 by omega,show (((U - 1).toNat : Nat) : Int) = U - 1 by omega,Int.sub_add_cancel] at h
    exact h
  by_cases c7 : W < 31
  · have h := base_7 ⟨(W - 28).toNat,by omega⟩ ⟨(U - 1).toNat,by omega⟩
    simp only [show (((W - 28).toNat : Nat) : Int) = W - 28 by omega,show (((U - 1).toNat : Nat) : Int) = U - 1 by omega,Int.sub_add_cancel] at h
    exact h
  exact absurd h1 (by omega)
structure ColF (x y z hue : UInt64) (W U : Int) : Prop where
  hz : feq (fmin3 x y z) (fmax3 x y z) = false → Float64.isZero (Float64.sub (fmax3 x y z) (fmin3 x y z)) = false ∧
      (fle (hlsL x y z) f05 = true → Float64.isZero (Float64.add (fmax3 x y z) (fmin3 x y z)) = false) ∧
      (fle (hlsL x y z) f05 = false → Float64.isZero (Float64.sub (Float64.sub f2 (fmax3 x y z)) (fmin3 x y z)) = false)
  hue : hlsH x y z = hue
  hL : feq (hlsL x y z) (fdiv64 (2 * W + U) 128) = true
  hD : feq (hlsS x y z) (fdiv64 U (if 128 - (2 * W + U) < 2 * W + U then 128 - (2 * W + U) else 2 * W + U)) = true
  hI : Float64.isInf (fdiv64 U (if 128 - (2 * W + U) < 2 * W + U then 128 - (2 * W + U) else 2 * W + U)) = false
  hI2 : Float64.isInf (fdiv64 (2 * W + U) 128) = false
theorem colF_of {x y z lo hi hue : UInt64} {W U : Int} (hlo : fl64 W = lo) (hhi : fl64 (W + U) = hi) (hb : baseOk W U = true) (hM : fmax3 x y z = hi) (hm : fmin3 x y z = lo) (hh : hlsH x y z = hue) : ColF x y z hue W U := by
  unfold baseOk at hb
  simp only [hlo,hhi,Bool.and_eq_true,Bool.not_eq_true',beq_iff_eq] at hb
  obtain ⟨⟨⟨⟨⟨⟨⟨⟨⟨⟨c1,c2⟩,c3⟩,c4⟩,c5⟩,c6⟩,c7⟩,c8⟩,c9⟩,c10⟩,c11⟩ := hb
  have hL : hlsL x y z = Float64.div (Float64.add hi lo) f2 := by unfold hlsL; rw [hM,hm]
  have hne : feq lo hi = false := by unfold feq; rw [c1]; rfl
  refine ⟨fun _ => ⟨by rw [hM,hm]; exact c5,fun h => ?_,fun h => ?_⟩,hh,by rw [hL]; exact c9,?_,c10,c11⟩
  · rw [hL] at h
    rw [if_pos h] at c8
    simp only [Bool.and_eq_true,Bool.not_eq_true'] at c8
    rw [hM,hm]
    exact c8.1
  · rw [hL] at h
    rw [h] at c8
    simp only [Bool.false_eq_true,if_false,Bool.and_eq_true,Bool.not_eq_true'] at c8
    rw [hM,hm]
    exact c8.1
  · unfold hlsS
    rw [hM,hm,hL,hne]
    simp only [Bool.false_eq_true,if_false]
    cases h : fle (Float64.div (Float64.add hi lo) f2) f05 with
    | true =>
      rw [h] at c8
      simp only [if_true,Bool.and_eq_true,Bool.not_eq_true'] at c8 ⊢
      exact c8.2
    | false =>
      rw [h] at c8
      simp only [Bool.false_eq_true,if_false,Bool.and_eq_true,Bool.not_eq_true'] at c8 ⊢
      exact c8.2
theorem colF_0 {W U : Int} (hb : baseOk W U = true) : ColF (fl64 (W + U * 1)) (fl64 (W + U * 0)) (fl64 (W + U * 0)) (hueB 0) W U := by
  have hb0 := hb
  simp only [Int.mul_zero,Int.mul_one,Int.add_zero]
  generalize hlo : fl64 W = lo
  generalize hhi : fl64 (W + U) = hi
  unfold baseOk at hb0
  simp only [hlo,hhi,Bool.and_eq_true,Bool.not_eq_true',beq_iff_eq] at hb0
  obtain ⟨⟨⟨⟨⟨⟨⟨⟨⟨⟨c1,c2⟩,c3⟩,c4⟩,c5⟩,c6⟩,c7⟩,c8⟩,c9⟩,c10⟩,c11⟩ := hb0
  have hM : fmax3 hi lo lo = hi := by simp [fmax3,fmx,c1,c2,c3,c4]
  have hm : fmin3 hi lo lo = lo := by simp [fmin3,fmn,c1,c2,c3,c4]
  refine colF_of hlo hhi hb hM hm ?_
  have e1 : feq lo hi = false := by unfold feq; rw [c1]; rfl
  have e2 : feq hi hi = true := by unfold feq; rw [c4]; rfl
  unfold hlsH hlsC
  rw [hM,hm]
  simp only [e1,e2,Bool.false_eq_true,if_false,if_true,c6,c7]
  decide +kernel
theorem colF_1 {W U : Int} (hb : baseOk W U = true) : ColF (fl64 (W + U * 1)) (fl64 (W + U * 1)) (fl64 (W + U * 0)) (hueB 1) W U := by
  have hb0 := hb
  simp only [Int.mul_zero,Int.mul_one,Int.add_zero]
  generalize hlo : fl64 W = lo
  generalize hhi : fl64 (W + U) = hi
  unfold baseOk at hb0
  simp only [hlo,hhi,Bool.and_eq_true,Bool.not_eq_true',beq_iff_eq] at hb0
  obtain ⟨⟨⟨⟨⟨⟨⟨⟨⟨⟨c1,c2⟩,c3⟩,c4⟩,c5⟩,c6⟩,c7⟩,c8⟩,c9⟩,c10⟩,c11⟩ := hb0
  have hM : fmax3 hi hi lo = hi := by simp [fmax3,fmx,c1,c2,c3,c4]
  have hm : fmin3 hi hi lo = lo := by simp [fmin3,fmn,c1,c2,c3,c4]
  refine colF_of hlo hhi hb hM hm ?_
  have e1 : feq lo hi = false := by unfold feq; rw [c1]; rfl
  have e2 : feq hi hi = true := by unfold feq; rw [c4]; rfl
  unfold hlsH hlsC
  rw [hM,hm]
  simp only [e1,e2,Bool.false_eq_true,if_false,if_true,c6,c7]
  decide +kernel
theorem colF_2 {W U : Int} (hb : baseOk W U = true) : ColF (fl64 (W + U * 0)) (fl64 (W + U * 1)) (fl64 (W + U * 0)) (hueB 2) W U := by
  have hb0 := hb
  simp only [Int.mul_zero,Int.mul_one,Int.add_zero]
  generalize hlo : fl64 W = lo
  generalize hhi : fl64 (W + U) = hi
  unfold baseOk at hb0
  simp only [hlo,hhi,Bool.and_eq_true,Bool.not_eq_true',beq_iff_eq] at hb0
  obtain ⟨⟨⟨⟨⟨⟨⟨⟨⟨⟨c1,c2⟩,c3⟩,c4⟩,c5⟩,c6⟩,c7⟩,c8⟩,c9⟩,c10⟩,c11⟩ := hb0
  have hM : fmax3 lo hi lo = hi := by simp [fmax3,fmx,c1,c2,c3,c4]
  have hm : fmin3 lo hi lo = lo := by simp [fmin3,fmn,c1,c2,c3,c4]
  refine colF_of hlo hhi hb hM hm ?_
  have e1 : feq lo hi = false := by unfold feq; rw [c1]; rfl
  have e2 : feq hi hi = true := by unfold feq; rw [c4]; rfl
  unfold hlsH hlsC
  rw [hM,hm]
  simp only [e1,e2,Bool.false_eq_true,if_false,if_true,c6,c7]
  decide +kernel
theorem colF_3 {W U : Int} (hb : baseOk W U = true) : ColF (fl64 (W + U * 0)) (fl64 (W + U * 1)) (fl64 (W + U * 1)) (hueB 3) W U := by
  have hb0 := hb
  simp only [Int.mul_zero,Int.mul_one,Int.add_zero]
  generalize hlo : fl64 W = lo
  generalize hhi : fl64 (W + U) = hi
  unfold baseOk at hb0
  simp only [hlo,hhi,Bool.and_eq_true,Bool.not_eq_true',beq_iff_eq] at hb0
  obtain ⟨⟨⟨⟨⟨⟨⟨⟨⟨⟨c1,c2⟩,c3⟩,c4⟩,c5⟩,c6⟩,c7⟩,c8⟩,c9⟩,c10⟩,c11⟩ := hb0
  have hM : fmax3 lo hi hi = hi := by simp [fmax3,fmx,c1,c2,c3,c4]
  have hm : fmin3 lo hi hi = lo := by simp [fmin3,fmn,c1,c2,c3,c4]
  refine colF_of hlo hhi hb hM hm ?_
  have e1 : feq lo hi = false := by unfold feq; rw [c1]; rfl
  have e2 : feq hi hi = true := by unfold feq; rw [c4]; rfl
  unfold hlsH hlsC
  rw [hM,hm]
  simp only [e1,e2,Bool.false_eq_true,if_false,if_true,c6,c7]
  decide +kernel
theorem colF_4 {W U : Int} (hb : baseOk W U = true) : ColF (fl64 (W + U * 0)) (fl64 (W + U * 0)) (fl64 (W + U * 1)) (hueB 4) W U := by
  have hb0 := hb
  simp only [Int.mul_zero,Int.mul_one,Int.add_zero]
  generalize hlo : fl64 W = lo
  generalize hhi : fl64 (W + U) = hi
  unfold baseOk at hb0
  simp only [hlo,hhi,Bool.and_eq_true,Bool.not_eq_true',beq_iff_eq] at hb0
  obtain ⟨⟨⟨⟨⟨⟨⟨⟨⟨⟨c1,c2⟩,c3⟩,c4⟩,c5⟩,c6⟩,c7⟩,c8⟩,c9⟩,c10⟩,c11⟩ := hb0
  have hM : fmax3 lo lo hi = hi := by simp [fmax3,fmx,c1,c2,c3,c4]
  have hm : fmin3 lo lo hi = lo := by simp [fmin3,fmn,c1,c2,c3,c4]
  refine colF_of hlo hhi hb hM hm ?_
  have e1 : feq lo hi = false := by unfold feq; rw [c1]; rfl
  have e2 : feq hi hi = true := by unfold feq; rw [c4]; rfl
  unfold hlsH hlsC
  rw [hM,hm]
  simp only [e1,e2,Bool.false_eq_true,if_false,if_true,c6,c7]
  decide +kernel
theorem colF_5 {W U : Int} (hb : baseOk W U = true) : ColF (fl64 (W + U * 1)) (fl64 (W + U * 0)) (fl64 (W + U * 1)) (hueB 5) W U := by
  have hb0 := hb
  simp only [Int.mul_zero,Int.mul_one,Int.add_zero]
  generalize hlo : fl64 W = lo
  generalize hhi : fl64 (W + U) = hi
  unfold baseOk at hb0
  simp only [hlo,hhi,Bool.and_eq_true,Bool.not_eq_true',beq_iff_eq] at hb0
  obtain ⟨⟨⟨⟨⟨⟨⟨⟨⟨⟨c1,c2⟩,c3⟩,c4⟩,c5⟩,c6⟩,c7⟩,c8⟩,c9⟩,c10⟩,c11⟩ := hb0
  have hM : fmax3 hi lo hi = hi := by simp [fmax3,fmx,c1,c2,c3,c4]
  have hm : fmin3 hi lo hi = lo := by simp [fmin3,fmn,c1,c2,c3,c4]
  refine colF_of hlo hhi hb hM hm ?_
  have e1 : feq lo hi = false := by unfold feq; rw [c1]; rfl
  have e2 : feq hi hi = true := by unfold feq; rw [c4]; rfl
  unfold hlsH hlsC
  rw [hM,hm]
  simp only [e1,e2,Bool.false_eq_true,if_false,if_true,c6,c7]
  decide +kernel
noncomputable def hueC (di dj : Int) : UInt64 :=
  if di = 1 ∧ dj = 0 then hueB 0 else if di = 0 ∧ dj = 1 then hueB 1 else if di = -1 ∧ dj = 1 then hueB 2 else if di = -1 ∧ dj = 0 then hueB 3 else if di = 0 ∧ dj = -1 then hueB 4 else hueB 5
inductive RowZ (zs : List (Addr × Obj)) : List Value → List (UInt64 × Int × Int) → Prop
  | nil : RowZ zs [] []
  | cons {T : Addr} {x : UInt64} {i j : Int} {t u v : Tok} {xs : List Value} {rows : List (UInt64 × Int × Int)} (h : (T,triO x t (.int i u) (.int j v)) ∈ zs) (r : RowZ zs xs rows) : RowZ zs (.ref T::xs) ((x,i,j)::rows)
theorem RowZ.len {zs : List (Addr × Obj)} {xs : List Value} {rows : List (UInt64 × Int × Int)} (h : RowZ zs xs rows) : xs.length = rows.length := by
  induction h with
  | nil => rfl
  | cons _ _ ih => simp [ih]
theorem RowZ.mono {zs zs' : List (Addr × Obj)} (hs : ∀ q ∈ zs,q ∈ zs') {xs : List Value} {rows : List (UInt64 × Int × Int)} (h : RowZ zs xs rows) : RowZ zs' xs rows := by
  induction h with
  | nil => exact .nil
  | cons h _ ih => exact .cons (hs _ h) ih
theorem RowZ.app {zs : List (Addr × Obj)} {xs ys : List Value} {rows rows' : List (UInt64 × Int × Int)} (h : RowZ zs xs rows) (h' : RowZ zs ys rows') : RowZ zs (xs ++ ys) (rows ++ rows') := by
  induction h with
  | nil => exact h'
  | cons h _ ih => exact .cons h ih
theorem RowZ.tk {zs : List (Addr × Obj)} : ∀ (n : Nat) {xs : List Value} {rows : List (UInt64 × Int × Int)},RowZ zs xs rows → RowZ zs (xs.take n) (rows.take n) ∧ RowZ zs (xs.drop n) (rows.drop n)
  | 0,_,_,h => ⟨.nil,h⟩
  | _+1,_,_,.nil => ⟨.nil,.nil⟩
  | n+1,_,_,.cons h r => ⟨.cons h (RowZ.tk n r).1,(RowZ.tk n r).2⟩
theorem RowZ.hz {zs : List (Addr × Obj)} {xs : List Value} {rows : List (UInt64 × Int × Int)} (h : RowZ zs xs rows) : ∀ k,k < (rows.map (·.1)).length → ∃ T t u v,xs[k]? = some (.ref T) ∧ (T,triO ((rows.map (·.1)).getD k 0) t u v) ∈ zs := by
  induction h with
  | nil => intro k hk; simp at hk
  | cons h _ ih =>
    intro k hk
    cases k with
    | zero => exact ⟨_,_,_,_,rfl,h⟩
    | succ k =>
      obtain ⟨T,t,u,v,a,b⟩ := ih k (by simpa using hk)
      exact ⟨T,t,u,v,by simpa using a,by simpa using b⟩
noncomputable def insRow (rows : List (UInt64 × Int × Int)) (e : UInt64 × Int × Int) : List (UInt64 × Int × Int) :=
  rows.take (bisR e.1 (rows.map (·.1)) rows.length 0 rows.length) ++ e::rows.drop (bisR e.1 (rows.map (·.1)) rows.length 0 rows.length)
theorem RowZ.ins {zs zs' : List (Addr × Obj)} {xs : List Value} {rows : List (UInt64 × Int × Int)} {Ta : Addr} {x : UInt64} {i j : Int} {t u v : Tok} (h : RowZ zs xs rows) (hs : ∀ q ∈ zs,q ∈ zs') (hm : (Ta,triO x t (.int i u) (.int j v)) ∈ zs') :
    RowZ zs' (kl_ins xs ((bisR x (rows.map (·.1)) (rows.map (·.1)).length 0 (rows.map (·.1)).length : Nat) : Int) (.ref Ta)) (insRow rows (x,i,j)) := by
  have hl := h.len
  have hb := bisR_le x (rows.map (·.1)) (rows.map (·.1)).length 0 (rows.map (·.1)).length (Nat.zero_le _)
  simp only [List.length_map] at hb ⊢
  have e : kl_ins xs ((bisR x (rows.map (·.1)) rows.length 0 rows.length : Nat) : Int) (.ref Ta) = xs.take (bisR x (rows.map (·.1)) rows.length 0 rows.length) ++ .ref Ta::xs.drop (bisR x (rows.map (·.1)) rows.length 0 rows.length) := by
    unfold kl_ins
    rw [if_neg (by omega),Int.toNat_natCast,Nat.min_eq_left (by omega)]
  rw [e]
  have h2 := (h.mono hs).tk (bisR x (rows.map (·.1)) rows.length 0 rows.length)
  exact h2.1.app (.cons hm h2.2)
theorem insRow_len (rows : List (UInt64 × Int × Int)) (e : UInt64 × Int × Int) : (insRow rows e).length = rows.length+1 := by
  unfold insRow
  have hb := bisR_le e.1 (rows.map (·.1)) rows.length 0 rows.length (Nat.zero_le _)
  rw [List.length_append,List.length_cons,List.length_take,List.length_drop]
  omega
noncomputable def stepRow (rows : List (UInt64 × Int × Int)) (P Q i j : Int) : List (UInt64 × Int × Int) := if levD (i - P) (j - Q) = 2 then insRow rows (hueC (i - P) (j - Q),i,j) else rows
theorem col_pick {di dj W U : Int} (h1 : -1 ≤ di) (h2 : di ≤ 1) (h3 : -1 ≤ dj) (h4 : dj ≤ 1) (hd : levD di dj = 2) (hb : baseOk W U = true) : ∃ b1 b2 b3 : Int,(b1 = 0 ∨ b1 = 1) ∧ (b2 = 0 ∨ b2 = 1) ∧ (b3 = 0 ∨ b3 = 1) ∧
    (∀ M,(M = di + dj ∨ M = dj ∨ M = 0) → (M ≤ di + dj ∧ M ≤ dj ∧ M ≤ 0) → di + dj - M = b1) ∧ (∀ M,(M = di + dj ∨ M = dj ∨ M = 0) → (M ≤ di + dj ∧ M ≤ dj ∧ M ≤ 0) → dj - M = b2) ∧ (∀ M,(M = di + dj ∨ M = dj ∨ M = 0) → (M ≤ di + dj ∧ M ≤ dj ∧ M ≤ 0) → 0 - M = b3) ∧
    ColF (fl64 (W + U * b1)) (fl64 (W + U * b2)) (fl64 (W + U * b3)) (hueC di dj) W U := by
  have c1 : di = -1 ∨ di = 0 ∨ di = 1 := by omega
  have c2 : dj = -1 ∨ dj = 0 ∨ dj = 1 := by omega
  rcases c1 with rfl | rfl | rfl <;> rcases c2 with rfl | rfl | rfl
  · exact absurd hd (by decide)
  · exact ⟨0,1,1,by decide,by decide,by decide,fun M a b => by omega,fun M a b => by omega,fun M a b => by omega,colF_3 hb⟩
  · exact ⟨0,1,0,by decide,by decide,by decide,fun M a b => by omega,fun M a b => by omega,fun M a b => by omega,colF_2 hb⟩
  · exact ⟨0,0,1,by decide,by decide,by decide,fun M a b => by omega,fun M a b => by omega,fun M a b => by omega,colF_4 hb⟩
  · exact absurd hd (by decide)
  · exact ⟨1,1,0,by decide,by decide,by decide,fun M a b => by omega,fun M a b => by omega,fun M a b => by omega,colF_1 hb⟩
  · exact ⟨1,0,1,by decide,by decide,by decide,fun M a b => by omega,fun M a b => by omega,fun M a b => by omega,colF_5 hb⟩
  · exact ⟨1,0,0,by decide,by decide,by decide,fun M a b => by omega,fun M a b => by omega,fun M a b => by omega,colF_0 hb⟩
  · exact absurd hd (by decide)
@[reducible] noncomputable def itForJ : Stmt := by
  have e := Eq.refl itFor2
  conv at e => rhs; whnf
  exact rhsOf e
theorem allNe_app {d : Addr} : ∀ {l l' : List (Addr × Obj)},AllNe d l → AllNe d l' → AllNe d (l ++ l')
  | [],_,_,h => h
  | _::_,_,h,h' => ⟨h.1,allNe_app h.2 h'⟩
theorem RowZ.strip {own zs : List (Addr × Obj)} {I : Addr} {it : Obj} (hc : it.cls = .type "range_iterator") {xs : List Value} {rows : List (UInt64 × Int × Int)} (h : RowZ (own ++ (I,it)::zs) xs rows) : RowZ (own ++ zs) xs rows := by
  induction h with
  | nil => exact .nil
  | cons h _ ih =>
    refine .cons (by
      rcases List.mem_append.mp h with h | h
      · exact List.mem_append_left _ h
      · rcases List.mem_cons.mp h with h | h
        · rw [← (Prod.mk.inj h).2] at hc
          exact absurd (show Value.type "tuple" = Value.type "range_iterator" from hc) (by decide)
        · exact List.mem_append_right _ h) ih
theorem TabZ.strip {own zs : List (Addr × Obj)} {I : Addr} {it : Obj} {a b c : Int} (hd : it.data = .fields #[rawInt a,rawInt b,rawInt c]) {ps : Array Value} (h : TabZ (own ++ (I,it)::zs) ps) : TabZ (own ++ zs) ps := by
  refine ⟨h.1,fun pos cv e => ?_⟩
  obtain ⟨c',oc,cvs,t,a',hm,hoc,hv⟩ := h.2 pos cv e
  refine ⟨c',oc,cvs,t,a',?_,hoc,hv⟩
  rcases List.mem_append.mp hm with h | h
  · exact List.mem_append_left _ h
  · rcases List.mem_cons.mp h with h | h
    · rw [(Prod.mk.inj h).2,hd] at hoc
      cases hoc
      cases hv
    · exact List.mem_append_right _ h
theorem off_strip {own zs : List (Addr × Obj)} {q : Addr × Obj} {P : Addr × Obj → Prop} (h : ∀ r ∈ own ++ q::zs,P r) : ∀ r ∈ own ++ zs,P r := fun r hr => h r (by
  rcases List.mem_append.mp hr with h | h
  · exact List.mem_append_left _ h
  · exact List.mem_append_right _ (.tail _ h))
theorem off_put {own zs : List (Addr × Obj)} {q : Addr × Obj} {P : Addr × Obj → Prop} (hq : P q) (h : ∀ r ∈ own ++ zs,P r) : ∀ r ∈ q::(own ++ zs),P r := fun r hr => by
  rcases List.mem_cons.mp hr with rfl | h'
  · exact hq
  · exact h r h'
noncomputable def rowJ (rows : List (UInt64 × Int × Int)) (P Q i : Int) : List (UInt64 × Int × Int) := stepRow (stepRow (stepRow rows P Q i (Q - 1)) P Q i Q) P Q i (Q+1)
theorem stepRow_len (rows : List (UInt64 × Int × Int)) (P Q i j : Int) : (stepRow rows P Q i j).length ≤ rows.length+1 := by
  unfold stepRow
  split
  · rw [insRow_len]; exact Nat.le_refl _
  · exact Nat.le_succ _
theorem offI {L I : Addr} {it : Obj} {own zs : List (Addr × Obj)} (hz : OffZ L (own ++ zs)) (h : @Ne Nat I (L+1+1+1+1+1+1+1+1) ∧ @Ne Nat I (L+1+1+1+1+1+1+1) ∧ @Ne Nat I (L+1+1+1+1+1+1) ∧ @Ne Nat I (L+1+1+1+1+1) ∧ @Ne Nat I (L+1+1+1+1) ∧ @Ne Nat I (L+1+1+1) ∧ @Ne Nat I (L+1+1) ∧ @Ne Nat I (L+1) ∧ @Ne Nat I (37) ∧ @Ne Nat I (30) ∧ @Ne Nat I (134)) : OffZ L ((I,it)::(own ++ zs)) := fun q hq => by
  rcases List.mem_cons.mp hq with rfl | hq
  · exact h
  · exact hz q hq
noncomputable def rowA (rows : List (UInt64 × Int × Int)) (P Q : Int) : List (UInt64 × Int × Int) := rowJ (rowJ (rowJ rows P Q (P+1)) P Q P) P Q (P - 1)
theorem rowJ_len (rows : List (UInt64 × Int × Int)) (P Q i : Int) : (rowJ rows P Q i).length ≤ rows.length+3 := by
  have h1 := stepRow_len rows P Q i (Q - 1)
  have h2 := stepRow_len (stepRow rows P Q i (Q - 1)) P Q i Q
  have h3 := stepRow_len (stepRow (stepRow rows P Q i (Q - 1)) P Q i Q) P Q i (Q+1)
  unfold rowJ
  omega
noncomputable def lucU (a b i : Int) : Int := (lucasL a b).getD i.toNat 0
theorem words_a45 : True := by
  k_with_none
  k_with "k_ne" => (refine neN ?_; (try dsimp only); first | (with_reducible assumption) | (refine Ne.symm ?_; with_reducible assumption))
  k_with "eval Name" => (k_here; (with_reducible show wpAny _ _ (eval (Expr.Name _ _) (compEnvC _ _ _ _)) _ _ _); k_dflt (refine LCgL.ld_own (by k_asm) (by k_mem) (by with_reducible assumption) (by with_reducible assumption) ?_))
  k_with "eval Name" => (k_here; (first | (with_reducible show wpAny _ _ (eval (Expr.Name (Str.ofString "white") _) (compEnvC _ _ _ _)) _ _ _) | (with_reducible show wpAny _ _ (eval (Expr.Name (Str.ofString "unit") _) (compEnvC _ _ _ _)) _ _ _) | (with_reducible show wpAny _ _ (eval (Expr.Name (Str.ofString "parts") _) (compEnvC _ _ _ _)) _ _ _)); k_dflt (refine' ld_freeC ?N ?a ?m ?d ?_ ?e ?f ?g; (case N => k_asm); (case a => rfl); (case m => first | with_reducible assumption | k_mem); (case d => with_reducible assumption); (case e => rfl); (case f => rfl); (case g => decide); k_whole))
  k_with "binaryOp Mult int int" => ((with_reducible refine mul_to rfl (by exact (by assumption : ∀ c,IntMulOk _ c) _) ?_))
  exact trivial
theorem units_item {prog : Program} {w : World} {A : Around} {E : Value → Shared → Prop} {s : Shared} {h₀ : Heap} {L U : Addr} {led zs : List (Addr × Obj)} {vs : List Value} {kU : Nat} {fi se i : Int} {u : Tok} {value slice : PySem.Expr} {Q : Value → Shared → Prop}
    (N : News h₀ L s.heap led) (hU : (U,listOf vs.toArray kU) ∈ zs) (hI : IntsAre vs (lucasL fi se)) (hs : ∀ q ∈ zs,q ∈ led) (h0 : 0 ≤ i) (h1 : i < 10) (h : ∀ t,Q (.int (lucU fi se i) t) s)
    (hs' : subscripted slice false (.ref U) (.int i u) = operate [.ref U,.int i u] (getItem (.ref U) (.int i u)) := by with_unfolding_all rfl) :
    wpAny (model prog w) A (subscriptTail value slice (.ref U) (.int i u)) Q E s :=
  item_anyK ⟨_,(N _ (hs _ hU)).1,rfl,_,rfl⟩ hI h0 (by show i < ((10 : Nat) : Int); omega) (by omega) h hs'
theorem allLt_sub {A : Addr} : ∀ {l l' : List (Addr × Obj)},AllLt A l' → (∀ q ∈ l,q ∈ l') → AllLt A l
  | [],_,_,_ => True.intro
  | p::r,l',h,hs => ⟨tb_ltOf h p (hs p (.head _)),allLt_sub h fun q hq => hs q (.tail _ hq)⟩
theorem zs_put {L R A : Addr} {o lo : Obj} {jk jq yk jm jt jp jr jl t37 t30 t134 : Obj} {zs : List (Addr × Obj)} (l : AllLt A ((R,lo)::(L+1+1+1+1+1+1+1+1,jk)::(L+1+1+1+1+1+1+1,jq)::(L+1+1+1+1+1+1,yk)::(L+1+1+1+1+1,jm)::(L+1+1+1+1,jt)::(L+1+1+1,jp)::(L+1+1,jr)::(L+1,jl)::(37,t37)::(30,t30)::(134,t134)::zs)) (hz : OffZ L zs) (hzR : ∀ q ∈ zs,@Ne Nat q.1 R) : OffZ L ((A,o)::zs) ∧ (∀ q ∈ (A,o)::zs,@Ne Nat q.1 R) := by
  have l3 := tb_ltOf l
  refine ⟨OffZ.cons (ys := []) (allNe_of fun q hq => Nat.ne_of_lt (l3 q (.tail _ (List.mem_append_left zs hq)))) hz,fun q hq => ?_⟩
  rcases List.mem_cons.mp hq with rfl | hq
  · exact Nat.ne_of_gt (l3 _ (.head _))
  · exact hzR q hq
theorem mv_zs {R : Addr} {lo : Obj} {x : Addr × Obj} {L : Addr} {jk jq yk jm jt jp jr jl t37 t30 t134 : Obj} {zs : List (Addr × Obj)} : ∀ q ∈ (R,lo)::(L+1+1+1+1+1+1+1+1,jk)::(L+1+1+1+1+1+1+1,jq)::(L+1+1+1+1+1+1,yk)::(L+1+1+1+1+1,jm)::(L+1+1+1+1,jt)::(L+1+1+1,jp)::(L+1+1,jr)::(L+1,jl)::(37,t37)::(30,t30)::(134,t134)::(x::zs),q ∈ x::(R,lo)::(L+1+1+1+1+1+1+1+1,jk)::(L+1+1+1+1+1+1+1,jq)::(L+1+1+1+1+1+1,yk)::(L+1+1+1+1+1,jm)::(L+1+1+1+1,jt)::(L+1+1+1,jp)::(L+1+1,jr)::(L+1,jl)::(37,t37)::(30,t30)::(134,t134)::zs := fun q hq => by
  rcases List.mem_append.mp (show q ∈ ((R,lo)::(L+1+1+1+1+1+1+1+1,jk)::(L+1+1+1+1+1+1+1,jq)::(L+1+1+1+1+1+1,yk)::(L+1+1+1+1+1,jm)::(L+1+1+1+1,jt)::(L+1+1+1,jp)::(L+1+1,jr)::(L+1,jl)::(37,t37)::(30,t30)::(134,t134)::[] : List (Addr × Obj)) ++ (x::zs) from hq) with hq | hq
  · exact .tail _ (List.mem_append_left zs hq)
  · rcases List.mem_cons.mp hq with rfl | hq
    · exact .head _
    · exact .tail _ (List.mem_append_right ((R,lo)::(L+1+1+1+1+1+1+1+1,jk)::(L+1+1+1+1+1+1+1,jq)::(L+1+1+1+1+1+1,yk)::(L+1+1+1+1+1,jm)::(L+1+1+1+1,jt)::(L+1+1+1,jp)::(L+1+1,jr)::(L+1,jl)::(37,t37)::(30,t30)::(134,t134)::[]) hq)
@[reducible] noncomputable def nbElt : Expr := by
  have e := Eq.refl (lcElt (lawAt 17))
  conv at e => rhs; whnf
  exact rhsOf e
@[reducible] noncomputable def nbScope : Scope := by
  have e := Eq.refl (lcScope (lawAt 17))
  conv at e => rhs; whnf
  exact rhsOf e
noncomputable def nbV (us : List Int) (b i j : Int) : Int := (tabRow us b i.toNat).getD j.toNat 0
theorem tabRow_len (us : List Int) (b : Int) : ∀ i,(tabRow us b i).length = 6
  | 0 => rfl
  | _+1 => rfl
theorem words_a46 : True := by
  k_with "omega" => lia
  exact trivial
theorem ref_item {prog : Program} {w : World} {A : Around} {E : Value → Shared → Prop} {s : Shared} {h₀ : Heap} {L U r : Addr} {led : List (Addr × Obj)} {xs : List Value} {kU : Nat} {i : Int} {u : Tok} {value slice : PySem.Expr} {Q : Value → Shared → Prop}
    (N : News h₀ L s.heap led) (hU : (U,listOf xs.toArray kU) ∈ led) (hx : xs[i.toNat]? = some (.ref r)) (h0 : 0 ≤ i) (h1 : i < 10) (h : Q (.ref r) s)
    (hs' : subscripted slice false (.ref U) (.int i u) = operate [.ref U,.int i u] (getItem (.ref U) (.int i u)) := by with_unfolding_all rfl) :
    wpAny (model prog w) A (subscriptTail value slice (.ref U) (.int i u)) Q E s :=
  item_litK ⟨_,(N _ hU).1,rfl,_,rfl⟩ h0 (by omega) hx h hs'
theorem row_item {prog : Program} {w : World} {A : Around} {E : Value → Shared → Prop} {s : Shared} {h₀ : Heap} {L r : Addr} {led : List (Addr × Obj)} {vs : List Value} {kr : Nat} {us : List Int} {b i j : Int} {u : Tok} {value slice : PySem.Expr} {Q : Value → Shared → Prop}
    (N : News h₀ L s.heap led) (hr : (r,listOf vs.toArray kr) ∈ led) (hI : IntsAre vs (tabRow us b i.toNat)) (h0 : 0 ≤ j) (h1 : j < 6) (h : ∀ t,Q (.int (nbV us b i j) t) s)
    (hs' : subscripted slice false (.ref r) (.int j u) = operate [.ref r,.int j u] (getItem (.ref r) (.int j u)) := by with_unfolding_all rfl) :
    wpAny (model prog w) A (subscriptTail value slice (.ref r) (.int j u)) Q E s :=
  item_anyK ⟨_,(N _ hr).1,rfl,_,rfl⟩ hI h0 (by rw [tabRow_len]; exact h1) (by omega) h hs'
theorem words_a47 : True := by
  k_with_none
  k_with "k_ne" => (refine neN ?_; (try dsimp only); first | (with_reducible assumption) | (refine Ne.symm ?_; with_reducible assumption))
  k_with "eval Name" => (k_here; (with_reducible show wpAny _ _ (eval (Expr.Name _ _) (compEnvC _ _ _ _)) _ _ _); k_dflt (refine LCgL.ld_own (by k_asm) (by k_mem) (by with_reducible assumption) (by with_reducible assumption) ?_))
  k_with "eval Name" => (k_here; (first | (with_reducible show wpAny _ _ (eval (Expr.Name (Str.ofString "table") _) (compEnvC _ _ _ _)) _ _ _)); k_dflt (refine' ld_freeC ?N ?a ?m ?d ?_ ?e ?f ?g; (case N => k_asm); (case a => rfl); (case m => first | with_reducible assumption | k_mem); (case d => with_reducible assumption); (case e => rfl); (case f => rfl); (case g => decide); k_whole))
  k_with "subscriptTail" => ((with_reducible show wpAny _ _ (subscriptTail _ _ (Value.ref _) (Value.int _ _)) _ _ _); (with_reducible rename News _ _ _ _ => N'); first | (refine ref_item N' (by with_reducible assumption) (by with_reducible assumption) (by omega) (by omega) ?_) | (refine row_item N' (by with_reducible assumption) (by with_reducible assumption) (by omega) (by omega) ?_; intro _))
  k_with "omega" => lia
  exact trivial
open PyProof.Rows.LCg in
theorem nb_elt {w : World} {p : Program} {loose : List Str} {mean : ExcName → Option Value} {mg mb : Str → Option Value}
    {dp un : Nat} {gd : Option (List Code)} {L fa : Addr} {A₀ : Around} {base h₀ : Heap} {s : Shared} {Q : Value → Shared → Prop} {E : Value → Shared → Prop}
    (B : Below A₀ base [] h₀) (X : (Mine.hd.heap_1 w.params).In h₀) (T : Top p loose mean mg mb h₀) (hd : dp+100 < recursionLimit) (hu : un+600 < cLine)
    (ch1 : CodeHd h₀ 41 37) (ch2 : CodeHd h₀ 34 30) (ch3 : CodeHd h₀ 136 134)
   {m m₂ : Str → Option Value} {C TB cT Ta : Addr} {oC oT : Obj} {zs : List (Addr × Obj)} {us : List Int} {b i j : Int} {x : UInt64} {tx tu tv : Tok} (F : Fr h₀ L s.heap m) (N : News h₀ L s.heap zs) (z0 : (C,oC) ∈ zs)
   (hC : NsObj oC m₂) (mx : m₂ (Str.ofString "cell") = some (.ref Ta)) (z1 : (Ta,triO x tx (.int i tu) (.int j tv)) ∈ zs) (z2 : (cT,oT) ∈ zs) (ct : oT.data = .cell (some (.ref TB))) (hT : TabL zs TB us b)
   (hi0 : 0 ≤ i) (hi1 : i < 6) (hj0 : 0 ≤ j) (hj1 : j < 6)
   (fin : ∀ t h tk',Fr h₀ L h m → News h₀ L h zs → Q (.int (nbV us b i j) t) { s with heap := h,toks := tk' })
   : wpAny (model pw_ty0047_01 w) (lawA dp un gd L fa) (eval nbElt (compEnvC nbScope [(Str.ofString "table", cT)] C (lawEnv L fa))) Q E s := by
  w_top off
  obtain ⟨xs,kT,hTB,_,hrow⟩ := hT.ex
  obtain ⟨r,vs,kr,hx,hr,hvi⟩ := hrow i.toNat (by omega)
  k_steps
  exact fin _ _ _ (by assumption) (by assumption)
theorem TabL.mono {zs zs' : List (Addr × Obj)} {T : Addr} {us : List Int} {b : Int} (h : TabL zs T us b) (hs : ∀ q ∈ zs,q ∈ zs') : TabL zs' T us b := by
  obtain ⟨xs,k,h1,h2,h3⟩ := h.ex
  exact ⟨xs,k,hs _ h1,h2,fun i hi => let ⟨r,vs,kr,a,b,c⟩ := h3 i hi; ⟨r,vs,kr,a,hs _ b,c⟩⟩
theorem off1_mem {D : Addr} {p : Addr × Obj} : ∀ {l : List (Addr × Obj)},LCg.Off1 D l → p ∈ l → @Ne Nat p.1 D
  | _::_,h,.head _ => h.1
  | _::_,h,.tail _ hp => off1_mem h.2 hp
theorem zs_put2 {L R A : Addr} {o lo : Obj} {jk jq yk jm jt jp jr jl t37 t30 t134 : Obj} {zs : List (Addr × Obj)} (l : ∀ q ∈ ((R,lo)::(L+1+1+1+1+1+1+1+1,jk)::(L+1+1+1+1+1+1+1,jq)::(L+1+1+1+1+1+1,yk)::(L+1+1+1+1+1,jm)::(L+1+1+1+1,jt)::(L+1+1+1,jp)::(L+1+1,jr)::(L+1,jl)::(37,t37)::(30,t30)::(134,t134)::[] : List (Addr × Obj)),@Ne Nat q.1 A) (hz : OffZ L zs) (hzR : ∀ q ∈ zs,@Ne Nat q.1 R) : OffZ L ((A,o)::zs) ∧ (∀ q ∈ (A,o)::zs,@Ne Nat q.1 R) := by
  refine ⟨OffZ.cons (ys := []) (allNe_of fun q hq => l q (.tail _ hq)) hz,fun q hq => ?_⟩
  rcases List.mem_cons.mp hq with rfl | hq
  · exact Ne.symm (l _ (.head _))
  · exact hzR q hq
theorem mA {α : Type} {a zs : List α} {p q y z x : α} : ∀ r ∈ a ++ x::zs,r ∈ p::q::(a ++ y::z::x::zs) := fun r hr => .tail _ (.tail _ ((List.mem_append.mp hr).elim (fun h => List.mem_append_left _ h) (fun h => List.mem_append_right _ (.tail _ (.tail _ h)))))
theorem mB {α : Type} {a zs : List α} {p q y z x : α} : ∀ r ∈ [z,p,y,q],r ∈ p::q::(a ++ y::z::x::zs) :=
  List.forall_mem_cons.mpr ⟨.tail _ (.tail _ (List.mem_append_right _ (.tail _ (.head _)))),List.forall_mem_cons.mpr ⟨.head _,List.forall_mem_cons.mpr ⟨.tail _ (.tail _ (List.mem_append_right _ (.head _))),List.forall_mem_cons.mpr ⟨.tail _ (.head _),fun _ h => nomatch h⟩⟩⟩⟩
theorem mC {α : Type} {a zs l : List α} {p q y z x : α} (hz : z ∈ l) (hp : p ∈ l) (hy : y ∈ l) (hq : q ∈ l) : ∀ r ∈ p::q::(a ++ y::z::x::zs),r ∈ l ++ (a ++ x::zs) :=
  List.forall_mem_cons.mpr ⟨List.mem_append_left _ hp,List.forall_mem_cons.mpr ⟨List.mem_append_left _ hq,fun r hr => (List.mem_append.mp hr).elim (fun h => List.mem_append_right _ (List.mem_append_left _ h)) fun h => by
    rcases List.mem_cons.mp h with rfl | h
    · exact List.mem_append_left _ hy
    · rcases List.mem_cons.mp h with rfl | h
      · exact List.mem_append_left _ hz
      · exact List.mem_append_right _ (List.mem_append_right _ h)⟩⟩
theorem mt4 {q : Addr} {a b c d : Addr × Obj} (ha : @Ne Nat q a.1) (hb : @Ne Nat q b.1) (hc : @Ne Nat q c.1) (hd : @Ne Nat q d.1) : ∀ p ∈ [a,b,c,d],@Ne Nat p.1 q :=
  List.forall_mem_cons.mpr ⟨Ne.symm ha,List.forall_mem_cons.mpr ⟨Ne.symm hb,List.forall_mem_cons.mpr ⟨Ne.symm hc,List.forall_mem_cons.mpr ⟨Ne.symm hd,fun _ h => nomatch h⟩⟩⟩⟩
theorem tabSt_laid {a b : Int} {pos : Pos} {qual : Str} {c1 : Addr} {o1 : Obj} (h : TabSt #[rawInt a,rawInt b,.ref c1] pos qual c1 o1) : ∃ vs t,o1.data = .fields vs ∧ vs[1]? = some (.str qual t) := by
  rcases h with h | ⟨_,h⟩
  · cases h
  · exact h
theorem fields_tab {o : Obj} {vs : Array Value} {q : Str} {t : Tok} {a b : Int} {c : Value} (h1 : o.data = .fields vs) (h2 : vs[1]? = some (.str q t)) : o.data ≠ (tabObj #[rawInt a,rawInt b,c]).data := fun e => by
  rw [h1] at e
  have e2 : vs = #[rawInt a,rawInt b,c] := by injection e
  rw [e2] at h2
  cases h2
theorem fields_two {o o' : Obj} {vs vs' : Array Value} {q q' : Str} {t t' : Tok} (h1 : o.data = .fields vs) (h2 : vs[1]? = some (.str q t)) (h3 : o'.data = .fields vs') (h4 : vs'[1]? = some (.str q' t')) (hq : q ≠ q') : o.data ≠ o'.data := fun e => by
  rw [h1,h3] at e
  have e2 : vs = vs' := by injection e
  rw [e2,h4] at h2
  have := Option.some.inj h2
  injection this with h5
  exact hq h5.symm
theorem codeHd_ne {h : Heap} {c P a : Addr} (x : CodeHd h c P) (ha : h.get? a = none) : @Ne Nat a c := fun e => by
  obtain ⟨o,_,_,_,_,_,_,_,_,ho,_⟩ := x
  rw [e,ho] at ha
  cases ha
theorem idm_use {w : World} {p : Program} {loose : List Str} {mean : ExcName → Option Value} {mg mb : Str → Option Value}
    {dp un : Nat} {gd : Option (List Code)} {L fa : Addr} {A₀ : Around} {base h₀ : Heap} {s : Shared} {Q : Value → Shared → Prop} {E : Value → Shared → Prop}
    (B : Below A₀ base [] h₀) (X : (Mine.hd.heap_1 w.params).In h₀) (T : Top p loose mean mg mb h₀) (hd : dp+100 < recursionLimit) (hu : un+600 < cLine)
    (ch1 : CodeHd h₀ 41 37) (ch2 : CodeHd h₀ 34 30) (ch3 : CodeHd h₀ 136 134)
   {m : Str → Option Value} {jk jq yk jm jt jp jr jl o30 o37 : Obj} {R c30 c37 T0 T1 T2 T3 T4 T5 : Addr} {kR : Nat} {ps ps30 ps37 : Array Value} {zs : List (Addr × Obj)}
   (hl : @LT.lt Nat _ 134 L) (hz : OffZ L zs) (hR : AllNe R ((L+1+1+1+1+1+1+1+1,jk)::(L+1+1+1+1+1+1+1,jq)::(L+1+1+1+1+1+1,yk)::(L+1+1+1+1+1,jm)::(L+1+1+1+1,jt)::(L+1+1+1,jp)::(L+1+1,jr)::(L+1,jl)::(37,tabObj ps37)::(30,tabObj ps30)::(134,tabObj ps)::[])) (hzR : ∀ q ∈ zs,@Ne Nat q.1 R) (DM : DmT ps30 ps37 c30 c37 o30 o37) (n30 : AllNe c30 ((R,listOf #[.ref T0,.ref T1,.ref T2,.ref T3,.ref T4,.ref T5] kR)::(L+1+1+1+1+1+1+1+1,jk)::(L+1+1+1+1+1+1+1,jq)::(L+1+1+1+1+1+1,yk)::(L+1+1+1+1+1,jm)::(L+1+1+1+1,jt)::(L+1+1+1,jp)::(L+1+1,jr)::(L+1,jl)::(134,tabObj ps)::zs)) (n37 : AllNe c37 ((R,listOf #[.ref T0,.ref T1,.ref T2,.ref T3,.ref T4,.ref T5] kR)::(L+1+1+1+1+1+1+1+1,jk)::(L+1+1+1+1+1+1+1,jq)::(L+1+1+1+1+1+1,yk)::(L+1+1+1+1+1,jm)::(L+1+1+1+1,jt)::(L+1+1+1,jp)::(L+1+1,jr)::(L+1,jl)::(134,tabObj ps)::zs)) {a b : Int} {ta tb : Tok} (M : Nat) (F : Fr h₀ L s.heap m) (N : News h₀ L s.heap ((c30,o30)::(c37,o37)::(R,listOf #[.ref T0,.ref T1,.ref T2,.ref T3,.ref T4,.ref T5] kR)::(L+1+1+1+1+1+1+1+1,jk)::(L+1+1+1+1+1+1+1,jq)::(L+1+1+1+1+1+1,yk)::(L+1+1+1+1+1,jm)::(L+1+1+1+1,jt)::(L+1+1+1,jp)::(L+1+1,jr)::(L+1,jl)::(37,tabObj ps37)::(30,tabObj ps30)::(134,tabObj ps)::zs))
   (hb : b ≠ 0) (hb8 : b < 2 ^ 7999) (hb8' : -b < 2 ^ 7999) (haM : a < 2 ^ M) (haM' : - a < 2 ^ M) (hM : M ≤ 8192 ∨ (M ≤ 16384 ∧ (2 ≤ b ∨ b ≤ -2)))
   (fin : ∀ h tk' t u v c1 o1 c2 o2,Fr h₀ L h m → News h₀ L h ((t,pairObj (a.fdiv b) (a.fmod b) u v)::(c1,o1)::(c2,o2)::(R,listOf #[.ref T0,.ref T1,.ref T2,.ref T3,.ref T4,.ref T5] kR)::(L+1+1+1+1+1+1+1+1,jk)::(L+1+1+1+1+1+1+1,jq)::(L+1+1+1+1+1+1,yk)::(L+1+1+1+1+1,jm)::(L+1+1+1+1,jt)::(L+1+1+1,jp)::(L+1+1,jr)::(L+1,jl)::(37,tab37 c2)::(30,tab30 c1)::(134,tabObj ps)::zs) → DmL c1 c2 o1 o2 → AllNe c1 ((R,listOf #[.ref T0,.ref T1,.ref T2,.ref T3,.ref T4,.ref T5] kR)::(L+1+1+1+1+1+1+1+1,jk)::(L+1+1+1+1+1+1+1,jq)::(L+1+1+1+1+1+1,yk)::(L+1+1+1+1+1,jm)::(L+1+1+1+1,jt)::(L+1+1+1,jp)::(L+1+1,jr)::(L+1,jl)::(134,tabObj ps)::zs) → AllNe c2 ((R,listOf #[.ref T0,.ref T1,.ref T2,.ref T3,.ref T4,.ref T5] kR)::(L+1+1+1+1+1+1+1+1,jk)::(L+1+1+1+1+1+1+1,jq)::(L+1+1+1+1+1+1,yk)::(L+1+1+1+1+1,jm)::(L+1+1+1+1,jt)::(L+1+1+1,jp)::(L+1+1,jr)::(L+1,jl)::(134,tabObj ps)::zs) → Q (.ref t) { s with heap := h,toks := tk' })
   : wpAny (model pw_ty0047_01 w) (lawA dp un gd L fa) (call (.ref 56) [.int a ta,.int b tb]) Q E s := by
  w_top off
  have A30 : AllNe 30 ((R,listOf #[.ref T0,.ref T1,.ref T2,.ref T3,.ref T4,.ref T5] kR)::(L+1+1+1+1+1+1+1+1,jk)::(L+1+1+1+1+1+1+1,jq)::(L+1+1+1+1+1+1,yk)::(L+1+1+1+1+1,jm)::(L+1+1+1+1,jt)::(L+1+1+1,jp)::(L+1+1,jr)::(L+1,jl)::(134,tabObj ps)::zs) := AllNe.app (a := (R,listOf #[.ref T0,.ref T1,.ref T2,.ref T3,.ref T4,.ref T5] kR)::(L+1+1+1+1+1+1+1+1,jk)::(L+1+1+1+1+1+1+1,jq)::(L+1+1+1+1+1+1,yk)::(L+1+1+1+1+1,jm)::(L+1+1+1+1,jt)::(L+1+1+1,jp)::(L+1+1,jr)::(L+1,jl)::(134,tabObj ps)::[]) ⟨Ne.symm hR.2.2.2.2.2.2.2.2.2.1,cl2 hl (Nat.le_add_right L 8),cl2 hl (Nat.le_add_right L 7),cl2 hl (Nat.le_add_right L 6),cl2 hl (Nat.le_add_right L 5),cl2 hl (Nat.le_add_right L 4),cl2 hl (Nat.le_add_right L 3),cl2 hl (Nat.le_add_right L 2),cl2 hl (Nat.le_add_right L 1),n134b,trivial⟩ fun q hq => (hz q hq).2.2.2.2.2.2.2.2.2.1
  have A37 : AllNe 37 ((R,listOf #[.ref T0,.ref T1,.ref T2,.ref T3,.ref T4,.ref T5] kR)::(L+1+1+1+1+1+1+1+1,jk)::(L+1+1+1+1+1+1+1,jq)::(L+1+1+1+1+1+1,yk)::(L+1+1+1+1+1,jm)::(L+1+1+1+1,jt)::(L+1+1+1,jp)::(L+1+1,jr)::(L+1,jl)::(134,tabObj ps)::zs) := AllNe.app (a := (R,listOf #[.ref T0,.ref T1,.ref T2,.ref T3,.ref T4,.ref T5] kR)::(L+1+1+1+1+1+1+1+1,jk)::(L+1+1+1+1+1+1+1,jq)::(L+1+1+1+1+1+1,yk)::(L+1+1+1+1+1,jm)::(L+1+1+1+1,jt)::(L+1+1+1,jp)::(L+1+1,jr)::(L+1,jl)::(134,tabObj ps)::[]) ⟨Ne.symm hR.2.2.2.2.2.2.2.2.1,cl1 hl (Nat.le_add_right L 8),cl1 hl (Nat.le_add_right L 7),cl1 hl (Nat.le_add_right L 6),cl1 hl (Nat.le_add_right L 5),cl1 hl (Nat.le_add_right L 4),cl1 hl (Nat.le_add_right L 3),cl1 hl (Nat.le_add_right L 2),cl1 hl (Nat.le_add_right L 1),n134a,trivial⟩ fun q hq => (hz q hq).2.2.2.2.2.2.2.2.1
  k_dflt (refine ctr_use (idm_ctr w p loose mean mg mb a b M ta tb hb hb8 hb8' haM haM' hM ps30 ps37 c30 c37 o30 o37 DM) ((R,listOf #[.ref T0,.ref T1,.ref T2,.ref T3,.ref T4,.ref T5] kR)::(L+1+1+1+1+1+1+1+1,jk)::(L+1+1+1+1+1+1+1,jq)::(L+1+1+1+1+1+1,yk)::(L+1+1+1+1+1,jm)::(L+1+1+1+1,jt)::(L+1+1+1,jp)::(L+1+1,jr)::(L+1,jl)::(134,tabObj ps)::zs) (by k_asm) F (by k_asm) N (by k_asm) (by exact rfl) ?hm ?hr ⟨codeHd_keep ch2 F,codeHd_keep ch1 F⟩ (by ktr_room) (by ktr_units) ?_)
  case hm => exact mB (a := ((R,listOf #[.ref T0,.ref T1,.ref T2,.ref T3,.ref T4,.ref T5] kR)::(L+1+1+1+1+1+1+1+1,jk)::(L+1+1+1+1+1+1+1,jq)::(L+1+1+1+1+1+1,yk)::(L+1+1+1+1+1,jm)::(L+1+1+1+1,jt)::(L+1+1+1,jp)::(L+1+1,jr)::(L+1,jl)::[]))
  case hr => exact fun q hq => ⟨mA (a := ((R,listOf #[.ref T0,.ref T1,.ref T2,.ref T3,.ref T4,.ref T5] kR)::(L+1+1+1+1+1+1+1+1,jk)::(L+1+1+1+1+1+1+1,jq)::(L+1+1+1+1+1+1,yk)::(L+1+1+1+1+1,jm)::(L+1+1+1+1,jt)::(L+1+1+1,jp)::(L+1+1,jr)::(L+1,jl)::[])) q hq,not_addr (mt4 (AllNe.mem A30 hq) (AllNe.mem n30 hq) (AllNe.mem A37 hq) (AllNe.mem n37 hq))⟩
  intro r tl h9 tk9 F9 N9 hne hpost
  obtain ⟨t,u,v,c1,o1,c2,o2,rfl,rfl,p1,p2,p3,p4⟩ := hpost
  obtain ⟨vs1,t1,d1,s1⟩ := tabSt_laid p1
  obtain ⟨vs2,t2,d2,s2⟩ := tabSt_laid p2
  have m30 : (30,tab30 c1) ∈ [(t,pairObj (a.fdiv b) (a.fmod b) u v),(30,tab30 c1),(c1,o1),(37,tab37 c2),(c2,o2),(c30,o30),(c37,o37)] ++ ((R,listOf #[.ref T0,.ref T1,.ref T2,.ref T3,.ref T4,.ref T5] kR)::(L+1+1+1+1+1+1+1+1,jk)::(L+1+1+1+1+1+1+1,jq)::(L+1+1+1+1+1+1,yk)::(L+1+1+1+1+1,jm)::(L+1+1+1+1,jt)::(L+1+1+1,jp)::(L+1+1,jr)::(L+1,jl)::(134,tabObj ps)::zs) := .tail _ (.head _)
  have mc1 : (c1,o1) ∈ [(t,pairObj (a.fdiv b) (a.fmod b) u v),(30,tab30 c1),(c1,o1),(37,tab37 c2),(c2,o2),(c30,o30),(c37,o37)] ++ ((R,listOf #[.ref T0,.ref T1,.ref T2,.ref T3,.ref T4,.ref T5] kR)::(L+1+1+1+1+1+1+1+1,jk)::(L+1+1+1+1+1+1+1,jq)::(L+1+1+1+1+1+1,yk)::(L+1+1+1+1+1,jm)::(L+1+1+1+1,jt)::(L+1+1+1,jp)::(L+1+1,jr)::(L+1,jl)::(134,tabObj ps)::zs) := .tail _ (.tail _ (.head _))
  have m37 : (37,tab37 c2) ∈ [(t,pairObj (a.fdiv b) (a.fmod b) u v),(30,tab30 c1),(c1,o1),(37,tab37 c2),(c2,o2),(c30,o30),(c37,o37)] ++ ((R,listOf #[.ref T0,.ref T1,.ref T2,.ref T3,.ref T4,.ref T5] kR)::(L+1+1+1+1+1+1+1+1,jk)::(L+1+1+1+1+1+1+1,jq)::(L+1+1+1+1+1+1,yk)::(L+1+1+1+1+1,jm)::(L+1+1+1+1,jt)::(L+1+1+1,jp)::(L+1+1,jr)::(L+1,jl)::(134,tabObj ps)::zs) := .tail _ (.tail _ (.tail _ (.head _)))
  have mc2 : (c2,o2) ∈ [(t,pairObj (a.fdiv b) (a.fmod b) u v),(30,tab30 c1),(c1,o1),(37,tab37 c2),(c2,o2),(c30,o30),(c37,o37)] ++ ((R,listOf #[.ref T0,.ref T1,.ref T2,.ref T3,.ref T4,.ref T5] kR)::(L+1+1+1+1+1+1+1+1,jk)::(L+1+1+1+1+1+1+1,jq)::(L+1+1+1+1+1+1,yk)::(L+1+1+1+1+1,jm)::(L+1+1+1+1,jt)::(L+1+1+1,jp)::(L+1+1,jr)::(L+1,jl)::(134,tabObj ps)::zs) := .tail _ (.tail _ (.tail _ (.tail _ (.head _))))
  have DL : DmL c1 c2 o1 o2 := ⟨p1,p2,news_ne N9 mc1 m30 (fields_tab d1 s1),news_ne N9 mc1 m37 (fields_tab d1 s1),news_ne N9 mc2 m30 (fields_tab d2 s2),news_ne N9 mc2 m37 (fields_tab d2 s2),codeHd_ne ch2 (N9 _ mc1).2.2,codeHd_ne ch1 (N9 _ mc1).2.2,codeHd_ne ch2 (N9 _ mc2).2.2,codeHd_ne ch1 (N9 _ mc2).2.2,news_ne N9 mc1 mc2 (fields_two d1 s1 d2 s2 (by decide))⟩
  exact fin _ _ t u v c1 o1 c2 o2 F9 (cb_drop N9 (List.forall_mem_cons.mpr ⟨.head _,mC (a := ((R,listOf #[.ref T0,.ref T1,.ref T2,.ref T3,.ref T4,.ref T5] kR)::(L+1+1+1+1+1+1+1+1,jk)::(L+1+1+1+1+1+1+1,jq)::(L+1+1+1+1+1+1,yk)::(L+1+1+1+1+1,jm)::(L+1+1+1+1,jt)::(L+1+1+1,jp)::(L+1+1,jr)::(L+1,jl)::[])) (l := [(t,pairObj (a.fdiv b) (a.fmod b) u v),(30,tab30 c1),(c1,o1),(37,tab37 c2),(c2,o2),(c30,o30),(c37,o37)]) (.tail _ (.head _)) (.tail _ (.tail _ (.head _))) (.tail _ (.tail _ (.tail _ (.head _)))) (.tail _ (.tail _ (.tail _ (.tail _ (.head _)))))⟩)) DL (hne _ (.tail _ (.tail _ (.head _)))) (hne _ (.tail _ (.tail _ (.tail _ (.tail _ (.head _))))))
@[reducible] noncomputable def onElt : Expr := by
  have e := Eq.refl (lcElt (lawAt 20))
  conv at e => rhs; whnf
  exact rhsOf e
@[reducible] noncomputable def onScope : Scope := by
  have e := Eq.refl (lcScope (lawAt 20))
  conv at e => rhs; whnf
  exact rhsOf e
@[reducible] noncomputable def otElt : Expr := by
  have e := Eq.refl (lcElt (lawAt 21))
  conv at e => rhs; whnf
  exact rhsOf e
@[reducible] noncomputable def otScope : Scope := by
  have e := Eq.refl (lcScope (lawAt 21))
  conv at e => rhs; whnf
  exact rhsOf e
theorem words_a48 : True := by
  k_with_none
  k_with "k_ne" => (refine neN ?_; (try dsimp only); first | (with_reducible assumption) | (refine Ne.symm ?_; with_reducible assumption))
  k_with "eval Name" => (k_here; (with_reducible show wpAny _ _ (eval (Expr.Name _ _) (compEnvC _ _ _ _)) _ _ _); k_dflt (refine LCgL.ld_own (by k_asm) (by k_mem) (by with_reducible assumption) (by with_reducible assumption) ?_))
  k_with "eval Name" => (k_here; (first | (with_reducible show wpAny _ _ (eval (Expr.Name (Str.ofString "table") _) (compEnvC _ _ _ _)) _ _ _)); k_dflt (refine' ld_freeC ?N ?a ?m ?d ?_ ?e ?f ?g; (case N => k_asm); (case a => rfl); (case m => first | with_reducible assumption | k_mem); (case d => with_reducible assumption); (case e => rfl); (case f => rfl); (case g => decide); k_whole))
  k_with "subscriptTail" => ((with_reducible show wpAny _ _ (subscriptTail _ _ (Value.ref _) (Value.int _ _)) _ _ _); (with_reducible rename News _ _ _ _ => N'); first | (refine ref_item N' (by with_reducible assumption) (by with_reducible assumption) (by omega) (by omega) ?_) | (refine row_item N' (by with_reducible assumption) (by with_reducible assumption) (by omega) (by omega) ?_; intro _))
  exact trivial
theorem list_item {prog : Program} {w : World} {A : Around} {E : Value → Shared → Prop} {s : Shared} {h₀ : Heap} {L U r : Addr} {led : List (Addr × Obj)} {xs : List Value} {kU : Nat} {i : Int} {u : Tok} {value slice : PySem.Expr} {Q : Value → Shared → Prop}
    (N : News h₀ L s.heap led) (hU : (U,listOf xs.toArray kU) ∈ led) (hx : xs[i.toNat]? = some (.ref r)) (h0 : 0 ≤ i) (h1 : i < 10) (h : Q (.ref r) s)
    (hs' : subscripted slice false (.ref U) (.int i u) = operate [.ref U,.int i u] (getItem (.ref U) (.int i u)) := by with_unfolding_all rfl) :
    wpAny (model prog w) A (subscriptTail value slice (.ref U) (.int i u)) Q E s :=
  item_litK ⟨_,(N _ hU).1,rfl,_,rfl⟩ h0 (by omega) hx h hs'
theorem words_a49 : True := by
  k_with_none
  k_with "k_ne" => (refine neN ?_; (try dsimp only); first | (with_reducible assumption) | (refine Ne.symm ?_; with_reducible assumption))
  k_with "eval Name" => (k_here; (with_reducible show wpAny _ _ (eval (Expr.Name _ _) (compEnvC _ _ _ _)) _ _ _); k_dflt (refine LCgL.ld_own (by k_asm) (by k_mem) (by with_reducible assumption) (by with_reducible assumption) ?_))
  k_with "eval Name" => (k_here; (first | (with_reducible show wpAny _ _ (eval (Expr.Name (Str.ofString "row") _) (compEnvC _ _ _ _)) _ _ _) | (with_reducible show wpAny _ _ (eval (Expr.Name (Str.ofString "side") _) (compEnvC _ _ _ _)) _ _ _)); k_dflt (refine' ld_freeC ?N ?a ?m ?d ?_ ?e ?f ?g; (case N => k_asm); (case a => rfl); (case m => first | with_reducible assumption | k_mem); (case d => with_reducible assumption); (case e => rfl); (case f => rfl); (case g => decide); k_whole))
  k_with "subscriptTail" => ((with_reducible show wpAny _ _ (subscriptTail _ _ (Value.ref _) (Value.int _ _)) _ _ _); (with_reducible rename News _ _ _ _ => N'); (refine list_item N' (by with_reducible assumption) (by with_reducible assumption) (by with_reducible assumption) (by with_reducible assumption) ?_))
  k_with "binaryOp Mult int int" => ((with_reducible refine mul_to rfl (by exact (by assumption : ∀ c,IntMulOk _ c) _) ?_))
  exact trivial
open PyProof.Rows.LCg in
theorem on_elt {w : World} {p : Program} {loose : List Str} {mean : ExcName → Option Value} {mg mb : Str → Option Value}
    {dp un : Nat} {gd : Option (List Code)} {L fa : Addr} {A₀ : Around} {base h₀ : Heap} {s : Shared} {Q : Value → Shared → Prop} {E : Value → Shared → Prop}
    (B : Below A₀ base [] h₀) (X : (Mine.hd.heap_1 w.params).In h₀) (T : Top p loose mean mg mb h₀) (hd : dp+100 < recursionLimit) (hu : un+600 < cLine)
    (ch1 : CodeHd h₀ 41 37) (ch2 : CodeHd h₀ 34 30) (ch3 : CodeHd h₀ 136 134)
   {m m₂ : Str → Option Value} {C R cR cS Ta : Addr} {oC oR oS : Obj} {zz pre zs : List (Addr × Obj)} {ps : Array Value} {xs : List Value} {hs : List UInt64} {kR lo : Nat} {sd k : Int} {x : UInt64} {tx tk ts : Tok} {ua va : Value} (hzz : zz = pre ++ (134,tabObj ps)::zs) (F : Fr h₀ L s.heap m) (N : News h₀ L s.heap zz)
   (h1 : ∀ q ∈ pre,@Ne Nat q.1 134) (h2 : ∀ q ∈ zs,@Ne Nat q.1 134) (TZ : TabZ zs ps)
   (z0 : (C,oC) ∈ zz) (hC : NsObj oC m₂) (mx : m₂ (Str.ofString "k") = some (.int k tk)) (z1 : (cR,oR) ∈ zz) (cr : oR.data = .cell (some (.ref R))) (z2 : (cS,oS) ∈ zz) (cs : oS.data = .cell (some (.int sd ts)))
   (hR : (R,listOf xs.toArray kR) ∈ pre) (hln : xs.length = hs.length) (hsm : hs.length ≤ 20) (HZ : ∀ k,k < hs.length → ∃ T t u v,xs[k]? = some (.ref T) ∧ (T,triO (hs.getD k 0) t u v) ∈ zs) (M1 : ∀ c,IntMulOk 2 c) (M2 : ∀ c,IntMulOk sd c) (hlo : (lo : Int) = 2 * k)  (i0 : 0 ≤ sd * (2 * k+1)) (i1 : sd * (2 * k+1) < 10) (hx : xs[(sd * (2 * k+1)).toNat]? = some (.ref Ta)) (hT : (Ta,triO x tx ua va) ∈ zs)
   (fin : ∀ t new ps' h tk',Fr h₀ L h m → News h₀ L h (new ++ (pre ++ (134,tabObj ps')::zs)) → TabZ (new ++ zs) ps' → (∀ q ∈ new,AllNe q.1 (pre ++ (134,tabObj ps')::zs)) → Q (.int (((bisLf x hs hs.length lo hs.length : Nat) : Int)) t) { s with heap := h,toks := tk' })
   : wpAny (model pw_ty0047_01 w) (lawA dp un gd L fa) (eval onElt (compEnvC onScope [(Str.ofString "side", cS),(Str.ofString "row", cR)] C (lawEnv L fa))) Q E s := by
  w_top off
  have hD : (R,listOf xs.toArray kR) ∈ zz := hzz ▸ List.mem_append_left _ hR
  have hT2 : (Ta,triO x tx ua va) ∈ zz := hzz ▸ List.mem_append_right _ (.tail _ hT)
  k_steps
  rename Fr h₀ L _ _ => F1
  rename News h₀ L _ _ => N1
  subst hzz
  refine kla_eval rfl ?_
  refine lam_mk (pre := pre) (post := zs) (zs := zs) (ps := ps) rfl rfl rfl F1 N1 h1 h2 T ch3 TZ (fun q hq => List.mem_append_right _ (.tail _ hq)) rfl ?_
  intro K lo' new pm c' ctv oc cvs t ps' h2 tk2 hlo' F2 N2 hco hoc hcv TZ2 hKne hnew
  clear F1 N1
  try dsimp only
  k_steps
  have HL2 : HueL ((K,lo')::(new ++ (pre ++ (134,tabObj ps')::zs))) R xs kR hs := ⟨.tail _ (List.mem_append_right _ (List.mem_append_left _ hR)),hln,hsm,fun k hk => let ⟨T,t,u,v,a,b⟩ := HZ k hk; ⟨T,t,u,v,a,.tail _ (List.mem_append_right _ (List.mem_append_right _ (.tail _ b)))⟩⟩
  have LL : LamL ((K,lo')::(new ++ (pre ++ (134,tabObj ps')::zs))) K := LamL.of hlo' hoc hcv (.head _) (.tail _ (by
    rcases List.mem_append.mp hco with hq | hq
    · exact List.mem_append_left _ hq
    · exact List.mem_append_right _ (List.mem_append_right _ (.tail _ hq))))
  rw [← hlo]
  k_dflt (refine ctr_use (bsl_ctr w p loose mean mg mb _ R K xs hs kR lo 0 x tx _ HL2 LL) [] (by k_asm) F2 (by k_asm) N2 (by k_asm) (by exact rfl) (fun _ h => h) (fun _ h => nomatch h) trivial (by ktr_room) (by ktr_units) ?_)
  intro r tl h7 tk7 F7 N7 hne7 hpost
  obtain ⟨t7,rfl,rfl⟩ := hpost
  rw [List.append_nil] at N7
  exact fin _ new ps' _ _ F7 (cb_drop N7 fun q hq => .tail _ hq) TZ2 hnew
open PyProof.Rows.LCg in
theorem ot_elt {w : World} {p : Program} {loose : List Str} {mean : ExcName → Option Value} {mg mb : Str → Option Value}
    {dp un : Nat} {gd : Option (List Code)} {L fa : Addr} {A₀ : Around} {base h₀ : Heap} {s : Shared} {Q : Value → Shared → Prop} {E : Value → Shared → Prop}
    (B : Below A₀ base [] h₀) (X : (Mine.hd.heap_1 w.params).In h₀) (T : Top p loose mean mg mb h₀) (hd : dp+100 < recursionLimit) (hu : un+600 < cLine)
    (ch1 : CodeHd h₀ 41 37) (ch2 : CodeHd h₀ 34 30) (ch3 : CodeHd h₀ 136 134)
   {m m₂ : Str → Option Value} {C R cR cS Ta : Addr} {oC oR oS : Obj} {zz pre zs : List (Addr × Obj)} {ps : Array Value} {xs : List Value} {hs : List UInt64} {kR lo : Nat} {sd k : Int} {x : UInt64} {tx tk ts : Tok} {ua va : Value} (hzz : zz = pre ++ (134,tabObj ps)::zs) (F : Fr h₀ L s.heap m) (N : News h₀ L s.heap zz)
   (h1 : ∀ q ∈ pre,@Ne Nat q.1 134) (h2 : ∀ q ∈ zs,@Ne Nat q.1 134) (TZ : TabZ zs ps)
   (z0 : (C,oC) ∈ zz) (hC : NsObj oC m₂) (mx : m₂ (Str.ofString "k") = some (.int k tk)) (z1 : (cR,oR) ∈ zz) (cr : oR.data = .cell (some (.ref R))) (z2 : (cS,oS) ∈ zz) (cs : oS.data = .cell (some (.int sd ts)))
   (hR : (R,listOf xs.toArray kR) ∈ pre) (hln : xs.length = hs.length) (hsm : hs.length ≤ 20) (HZ : ∀ k,k < hs.length → ∃ T t u v,xs[k]? = some (.ref T) ∧ (T,triO (hs.getD k 0) t u v) ∈ zs) (M1 : ∀ c,IntMulOk 2 c) (M2 : ∀ c,IntMulOk sd c) (hlo : (lo : Int) = 2 * k+2) (hle : lo ≤ hs.length) (i0 : 0 ≤ 2 * k + sd * (5 - 2 * k)) (i1 : 2 * k + sd * (5 - 2 * k) < 10) (hx : xs[(2 * k + sd * (5 - 2 * k)).toNat]? = some (.ref Ta)) (hT : (Ta,triO x tx ua va) ∈ zs)
   (fin : ∀ t new ps' h tk',Fr h₀ L h m → News h₀ L h (new ++ (pre ++ (134,tabObj ps')::zs)) → TabZ (new ++ zs) ps' → (∀ q ∈ new,AllNe q.1 (pre ++ (134,tabObj ps')::zs)) → Q (.int (((bisR x hs hs.length 0 lo : Nat) : Int)) t) { s with heap := h,toks := tk' })
   : wpAny (model pw_ty0047_01 w) (lawA dp un gd L fa) (eval otElt (compEnvC otScope [(Str.ofString "side", cS),(Str.ofString "row", cR)] C (lawEnv L fa))) Q E s := by
  w_top off
  have hD : (R,listOf xs.toArray kR) ∈ zz := hzz ▸ List.mem_append_left _ hR
  have hT2 : (Ta,triO x tx ua va) ∈ zz := hzz ▸ List.mem_append_right _ (.tail _ hT)
  k_steps
  rename Fr h₀ L _ _ => F1
  rename News h₀ L _ _ => N1
  subst hzz
  refine kla_eval rfl ?_
  refine lam_mk (pre := pre) (post := zs) (zs := zs) (ps := ps) rfl rfl rfl F1 N1 h1 h2 T ch3 TZ (fun q hq => List.mem_append_right _ (.tail _ hq)) rfl ?_
  intro K lo' new pm c' ctv oc cvs t ps' h2 tk2 hlo' F2 N2 hco hoc hcv TZ2 hKne hnew
  clear F1 N1
  try dsimp only
  k_steps
  have HL2 : HueL ((K,lo')::(new ++ (pre ++ (134,tabObj ps')::zs))) R xs kR hs := ⟨.tail _ (List.mem_append_right _ (List.mem_append_left _ hR)),hln,hsm,fun k hk => let ⟨T,t,u,v,a,b⟩ := HZ k hk; ⟨T,t,u,v,a,.tail _ (List.mem_append_right _ (List.mem_append_right _ (.tail _ b)))⟩⟩
  have LL : LamL ((K,lo')::(new ++ (pre ++ (134,tabObj ps')::zs))) K := LamL.of hlo' hoc hcv (.head _) (.tail _ (by
    rcases List.mem_append.mp hco with hq | hq
    · exact List.mem_append_left _ hq
    · exact List.mem_append_right _ (List.mem_append_right _ (.tail _ hq))))
  rw [← hlo]
  k_dflt (refine ctr_use (bsr_ctr w p loose mean mg mb _ R K xs hs kR 0 lo x tx _ _ HL2 LL hle) [] (by k_asm) F2 (by k_asm) N2 (by k_asm) (by exact rfl) (fun _ h => h) (fun _ h => nomatch h) trivial (by ktr_room) (by ktr_units) ?_)
  intro r tl h7 tk7 F7 N7 hne7 hpost
  obtain ⟨t7,rfl,rfl⟩ := hpost
  rw [List.append_nil] at N7
  exact fin _ new ps' _ _ F7 (cb_drop N7 fun q hq => .tail _ hq) TZ2 hnew
structure ZB (L R c30 c37 : Addr) (zs : List (Addr × Obj)) (ps : Array Value) : Prop where
  hz : OffZ L zs
  hR : ∀ q ∈ zs,@Ne Nat q.1 R
  h30 : ∀ q ∈ zs,@Ne Nat q.1 c30
  h37 : ∀ q ∈ zs,@Ne Nat q.1 c37
  tz : TabZ zs ps
theorem mem_shuf {α : Type} {a new zs : List α} {x : α} : ∀ q ∈ a ++ x::(new ++ zs),q ∈ new ++ (a ++ x::zs) := fun q hq => by
  rcases List.mem_append.mp hq with hq | hq
  · exact List.mem_append_right _ (List.mem_append_left _ hq)
  · rcases List.mem_cons.mp hq with rfl | hq
    · exact List.mem_append_right _ (List.mem_append_right _ (.head _))
    · rcases List.mem_append.mp hq with hq | hq
      · exact List.mem_append_left _ hq
      · exact List.mem_append_right _ (List.mem_append_right _ (.tail _ hq))
theorem off_shuf {I C D : Addr} {a new zs : List (Addr × Obj)} {x y : Addr × Obj} (hxy : y.1 = x.1) (off : LCg.Off3 I C D (a ++ x::zs)) (hn : ∀ q ∈ new,q.1 ≠ I ∧ q.1 ≠ C ∧ q.1 ≠ D) : LCg.Off3 I C D (a ++ y::(new ++ zs)) := by
  have h := off.mem
  refine LCg.Off3.of fun p hp => ?_
  rcases List.mem_append.mp hp with hp | hp
  · exact h p (List.mem_append_left _ hp)
  · rcases List.mem_cons.mp hp with rfl | hp
    · rw [hxy]
      exact h x (List.mem_append_right _ (.head _))
    · rcases List.mem_append.mp hp with hp | hp
      · exact hn p hp
      · exact h p (List.mem_append_right _ (.tail _ hp))
theorem ZB.new {L R c30 c37 : Addr} {zs new : List (Addr × Obj)} {ps ps' : Array Value} {jk jq yk jm jt jp jr jl o30 o37 t37 t30 lo : Obj} {pre : List (Addr × Obj)} (Z : ZB L R c30 c37 zs ps) (TZ : TabZ (new ++ zs) ps')
    (h : ∀ q ∈ new,AllNe q.1 (pre ++ ((c30,o30)::(c37,o37)::(R,lo)::(L+1+1+1+1+1+1+1+1,jk)::(L+1+1+1+1+1+1+1,jq)::(L+1+1+1+1+1+1,yk)::(L+1+1+1+1+1,jm)::(L+1+1+1+1,jt)::(L+1+1+1,jp)::(L+1+1,jr)::(L+1,jl)::(37,t37)::(30,t30)::(134,tabObj ps')::[]))) : ZB L R c30 c37 (new ++ zs) ps' := by
  have h2 : ∀ q ∈ new,AllNe q.1 ((c30,o30)::(c37,o37)::(R,lo)::(L+1+1+1+1+1+1+1+1,jk)::(L+1+1+1+1+1+1+1,jq)::(L+1+1+1+1+1+1,yk)::(L+1+1+1+1+1,jm)::(L+1+1+1+1,jt)::(L+1+1+1,jp)::(L+1+1,jr)::(L+1,jl)::(37,t37)::(30,t30)::(134,tabObj ps')::[]) := fun q hq => AllNe.sub (h q hq) fun r hr => List.mem_append_right _ hr
  have put : ∀ {P : Addr × Obj → Prop},(∀ q ∈ new,P q) → (∀ q ∈ zs,P q) → ∀ q ∈ new ++ zs,P q := fun h1 h2 q hq => (List.mem_append.mp hq).elim (h1 q) (h2 q)
  refine ⟨offZ_new Z.hz fun q hq => (h2 q hq).2.2.2,put (fun q hq => Ne.symm (h2 q hq).2.2.1) Z.hR,put (fun q hq => Ne.symm (h2 q hq).1) Z.h30,put (fun q hq => Ne.symm (h2 q hq).2.1) Z.h37,TZ⟩
theorem ZB.cons {L R c30 c37 A : Addr} {zs : List (Addr × Obj)} {ps : Array Value} {jk jq yk jm jt jp jr jl o30 o37 t37 t30 t134 lo oA : Obj} (Z : ZB L R c30 c37 zs ps)
    (h : AllNe A ((c30,o30)::(c37,o37)::(R,lo)::(L+1+1+1+1+1+1+1+1,jk)::(L+1+1+1+1+1+1+1,jq)::(L+1+1+1+1+1+1,yk)::(L+1+1+1+1+1,jm)::(L+1+1+1+1,jt)::(L+1+1+1,jp)::(L+1+1,jr)::(L+1,jl)::(37,t37)::(30,t30)::(134,t134)::[])) : ZB L R c30 c37 ((A,oA)::zs) ps := by
  have put : ∀ {P : Addr × Obj → Prop},P (A,oA) → (∀ q ∈ zs,P q) → ∀ q ∈ (A,oA)::zs,P q := fun h1 h2 q hq => (List.mem_cons.mp hq).elim (fun e => e ▸ h1) (h2 q)
  exact ⟨OffZ.cons (ys := []) h.2.2.2 Z.hz,put (Ne.symm h.2.2.1) Z.hR,put (Ne.symm h.1) Z.h30,put (Ne.symm h.2.1) Z.h37,Z.tz.mono fun q hq => .tail _ hq⟩
theorem allNe_off1 {D : Addr} : ∀ {l : List (Addr × Obj)},LCg.Off1 D l → AllNe D l
  | [],_ => trivial
  | _::_,h => ⟨h.1,allNe_off1 h.2⟩
theorem on_turn {w : World} {p : Program} {loose : List Str} {mean : ExcName → Option Value} {mg mb : Str → Option Value}
    {dp un : Nat} {gd : Option (List Code)} {L fa : Addr} {A₀ : Around} {base h₀ : Heap} {E : Value → Shared → Prop}
    (B : Below A₀ base [] h₀) (X : (Mine.hd.heap_1 w.params).In h₀) (T : Top p loose mean mg mb h₀) (hd : dp+100 < recursionLimit) (hu : un+600 < cLine)
    (ch1 : CodeHd h₀ 41 37) (ch2 : CodeHd h₀ 34 30) (ch3 : CodeHd h₀ 136 134)
   {m m₂ : Str → Option Value} {jk jq yk jm jt jp jr jl o30 o37 t37 t30 t134 : Obj} {R c30 c37 T0 T1 T2 T3 T4 T5 : Addr} {kR : Nat} {ps : Array Value} {zs : List (Addr × Obj)}
   (hl : @LT.lt Nat _ 134 L) (hR : AllNe R ((L+1+1+1+1+1+1+1+1,jk)::(L+1+1+1+1+1+1+1,jq)::(L+1+1+1+1+1+1,yk)::(L+1+1+1+1+1,jm)::(L+1+1+1+1,jt)::(L+1+1+1,jp)::(L+1+1,jr)::(L+1,jl)::(37,t37)::(30,t30)::(134,t134)::[])) (n30 : AllNe c30 ((R,listOf #[.ref T0,.ref T1,.ref T2,.ref T3,.ref T4,.ref T5] kR)::(L+1+1+1+1+1+1+1+1,jk)::(L+1+1+1+1+1+1+1,jq)::(L+1+1+1+1+1+1,yk)::(L+1+1+1+1+1,jm)::(L+1+1+1+1,jt)::(L+1+1+1,jp)::(L+1+1,jr)::(L+1,jl)::(134,t134)::[])) (n37 : AllNe c37 ((R,listOf #[.ref T0,.ref T1,.ref T2,.ref T3,.ref T4,.ref T5] kR)::(L+1+1+1+1+1+1+1+1,jk)::(L+1+1+1+1+1+1+1,jq)::(L+1+1+1+1+1+1,yk)::(L+1+1+1+1+1,jm)::(L+1+1+1+1,jt)::(L+1+1+1,jp)::(L+1+1,jr)::(L+1,jl)::(134,t134)::[])) {I C D Ta : Addr} {oI oC : Obj} {ys : List Value} {s₁ : Shared} {lo : Nat} {sd k : Int} {x : UInt64} {tx tk ts : Tok} {ua va : Value} {h : Heap} {tkn : Nat} {Rs : Value → List (Addr × Obj) → Prop}
   (Z : ZB L R c30 c37 zs ps) (F : Fr h₀ L h m) (N : News h₀ L h ((I,oI)::(C,oC)::(D,LCg.lst ys)::(c30,o30)::(c37,o37)::(R,listOf #[.ref T0,.ref T1,.ref T2,.ref T3,.ref T4,.ref T5] kR)::(L+1+1+1+1+1+1+1+1,jk)::(L+1+1+1+1+1+1+1,jq)::(L+1+1+1+1+1+1,yk)::(L+1+1+1+1+1,jm)::(L+1+1+1+1,jt)::(L+1+1+1,jp)::(L+1+1,jr)::(L+1,jl)::(37,t37)::(30,t30)::(134,tabObj ps)::zs)) (off : LCg.Off3 I C D ((c30,o30)::(c37,o37)::(R,listOf #[.ref T0,.ref T1,.ref T2,.ref T3,.ref T4,.ref T5] kR)::(L+1+1+1+1+1+1+1+1,jk)::(L+1+1+1+1+1+1+1,jq)::(L+1+1+1+1+1+1,yk)::(L+1+1+1+1+1,jm)::(L+1+1+1+1,jt)::(L+1+1+1,jp)::(L+1+1,jr)::(L+1,jl)::(37,t37)::(30,t30)::(134,tabObj ps)::zs))
   (hC : LCg.NsObj oC m₂) (mx : m₂ (Str.ofString "k") = some (.int k tk)) (cr : yk.data = .cell (some (.ref R))) (cs : jr.data = .cell (some (.int sd ts)))
   (HZ : ∀ k,k < 6 → ∃ T t u v,([.ref T0,.ref T1,.ref T2,.ref T3,.ref T4,.ref T5] : List Value)[k]? = some (.ref T) ∧ (T,triO (([hueB 0,hueB 1,hueB 2,hueB 3,hueB 4,hueB 5] : List UInt64).getD k 0) t u v) ∈ zs) (hsd : sd = 0 ∨ sd = 1) (hlo : (lo : Int) = 2 * k)  (i0 : 0 ≤ sd * (2 * k+1)) (i1 : sd * (2 * k+1) < 10) (hx : ([.ref T0,.ref T1,.ref T2,.ref T3,.ref T4,.ref T5] : List Value)[(sd * (2 * k+1)).toNat]? = some (.ref Ta)) (hT : (Ta,triO x tx ua va) ∈ zs)
   (fin : ∀ t new ps',ZB L R c30 c37 (new ++ zs) ps' → Rs (.int (((bisLf x [hueB 0,hueB 1,hueB 2,hueB 3,hueB 4,hueB 5] 6 lo 6 : Nat) : Int)) t) ((c30,o30)::(c37,o37)::(R,listOf #[.ref T0,.ref T1,.ref T2,.ref T3,.ref T4,.ref T5] kR)::(L+1+1+1+1+1+1+1+1,jk)::(L+1+1+1+1+1+1+1,jq)::(L+1+1+1+1+1+1,yk)::(L+1+1+1+1+1,jm)::(L+1+1+1+1,jt)::(L+1+1+1,jp)::(L+1+1,jr)::(L+1,jl)::(37,t37)::(30,t30)::(134,tabObj ps')::(new ++ zs)))
   : wpAny (model pw_ty0047_01 w) (lawA dp un gd L fa) (eval onElt (compEnvC onScope [(Str.ofString "side", L+1+1),(Str.ofString "row", L+1+1+1+1+1+1)] C (lawEnv L fa))) (LCg.CompEnd h₀ L m { s₁ with heap := h,toks := tkn } I oI C oC D (LCg.lst ys) (fun _ => True) Rs) E { s₁ with heap := h,toks := tkn } := by
  have om := off.mem
  have o134 := om (134,tabObj ps) (List.mem_append_right ((c30,o30)::(c37,o37)::(R,listOf #[.ref T0,.ref T1,.ref T2,.ref T3,.ref T4,.ref T5] kR)::(L+1+1+1+1+1+1+1+1,jk)::(L+1+1+1+1+1+1+1,jq)::(L+1+1+1+1+1+1,yk)::(L+1+1+1+1+1,jm)::(L+1+1+1+1,jt)::(L+1+1+1,jp)::(L+1+1,jr)::(L+1,jl)::(37,t37)::(30,t30)::[]) (.head _))
  refine on_elt (pre := (I,oI)::(C,oC)::(D,LCg.lst ys)::(c30,o30)::(c37,o37)::(R,listOf #[.ref T0,.ref T1,.ref T2,.ref T3,.ref T4,.ref T5] kR)::(L+1+1+1+1+1+1+1+1,jk)::(L+1+1+1+1+1+1+1,jq)::(L+1+1+1+1+1+1,yk)::(L+1+1+1+1+1,jm)::(L+1+1+1+1,jt)::(L+1+1+1,jp)::(L+1+1,jr)::(L+1,jl)::(37,t37)::(30,t30)::[]) (zs := zs) (ps := ps) (R := R) (cR := L+1+1+1+1+1+1) (cS := L+1+1) (oR := yk) (oS := jr) (lo := lo) (xs := [.ref T0,.ref T1,.ref T2,.ref T3,.ref T4,.ref T5]) (hs := [hueB 0,hueB 1,hueB 2,hueB 3,hueB 4,hueB 5]) B X T hd hu ch1 ch2 ch3 rfl F N ?_ (fun q hq => (Z.hz q hq).2.2.2.2.2.2.2.2.2.2) Z.tz (.tail _ (.head _)) hC mx (by k_mem) cr (by k_mem) cs (.tail _ (.tail _ (.tail _ (.tail _ (.tail _ (.head _)))))) rfl (by decide) HZ (fun c => IntMulOk.of_left (by decide)) (fun c => IntMulOk.of_left (by rcases hsd with rfl | rfl <;> decide)) hlo i0 i1 hx hT ?_
  · exact AllNe.all ⟨Ne.symm o134.1,Ne.symm o134.2.1,Ne.symm o134.2.2,Ne.symm n30.2.2.2.2.2.2.2.2.2.1,Ne.symm n37.2.2.2.2.2.2.2.2.2.1,Ne.symm hR.2.2.2.2.2.2.2.2.2.2.1,cl0 hl (Nat.le_add_right L 8),cl0 hl (Nat.le_add_right L 7),cl0 hl (Nat.le_add_right L 6),cl0 hl (Nat.le_add_right L 5),cl0 hl (Nat.le_add_right L 4),cl0 hl (Nat.le_add_right L 3),cl0 hl (Nat.le_add_right L 2),cl0 hl (Nat.le_add_right L 1),nn37,nn30,trivial⟩
  intro t new ps' h9 tk9 F9 N9 TZ9 hnew
  have hn3 : ∀ q ∈ new,q.1 ≠ I ∧ q.1 ≠ C ∧ q.1 ≠ D := fun q hq => ⟨Ne.symm (hnew q hq).1,Ne.symm (hnew q hq).2.1,Ne.symm (hnew q hq).2.2.1⟩
  exact LCg.CompEnd.intro F9 N9 ((c30,o30)::(c37,o37)::(R,listOf #[.ref T0,.ref T1,.ref T2,.ref T3,.ref T4,.ref T5] kR)::(L+1+1+1+1+1+1+1+1,jk)::(L+1+1+1+1+1+1+1,jq)::(L+1+1+1+1+1+1,yk)::(L+1+1+1+1+1,jm)::(L+1+1+1+1,jt)::(L+1+1+1,jp)::(L+1+1,jr)::(L+1,jl)::(37,t37)::(30,t30)::(134,tabObj ps')::(new ++ zs)) (mem_shuf (a := (I,oI)::(C,oC)::(D,LCg.lst ys)::(c30,o30)::(c37,o37)::(R,listOf #[.ref T0,.ref T1,.ref T2,.ref T3,.ref T4,.ref T5] kR)::(L+1+1+1+1+1+1+1+1,jk)::(L+1+1+1+1+1+1+1,jq)::(L+1+1+1+1+1+1,yk)::(L+1+1+1+1+1,jm)::(L+1+1+1+1,jt)::(L+1+1+1,jp)::(L+1+1,jr)::(L+1,jl)::(37,t37)::(30,t30)::[])) (off_shuf (a := (c30,o30)::(c37,o37)::(R,listOf #[.ref T0,.ref T1,.ref T2,.ref T3,.ref T4,.ref T5] kR)::(L+1+1+1+1+1+1+1+1,jk)::(L+1+1+1+1+1+1+1,jq)::(L+1+1+1+1+1+1,yk)::(L+1+1+1+1+1,jm)::(L+1+1+1+1,jt)::(L+1+1+1,jp)::(L+1+1,jr)::(L+1,jl)::(37,t37)::(30,t30)::[]) (x := (134,tabObj ps)) rfl off hn3) trivial (fin t new ps' (Z.new (pre := [(I,oI),(C,oC),(D,LCg.lst ys)]) TZ9 (fun q hq => AllNe.sub (hnew q hq) fun r hr => List.mem_append_left zs (show r ∈ ((I,oI)::(C,oC)::(D,LCg.lst ys)::(c30,o30)::(c37,o37)::(R,listOf #[.ref T0,.ref T1,.ref T2,.ref T3,.ref T4,.ref T5] kR)::(L+1+1+1+1+1+1+1+1,jk)::(L+1+1+1+1+1+1+1,jq)::(L+1+1+1+1+1+1,yk)::(L+1+1+1+1+1,jm)::(L+1+1+1+1,jt)::(L+1+1+1,jp)::(L+1+1,jr)::(L+1,jl)::(37,t37)::(30,t30)::(134,tabObj ps')::[] : List (Addr × Obj)) from hr))))
theorem ot_turn {w : World} {p : Program} {loose : List Str} {mean : ExcName → Option Value} {mg mb : Str → Option Value}
    {dp un : Nat} {gd : Option (List Code)} {L fa : Addr} {A₀ : Around} {base h₀ : Heap} {E : Value → Shared → Prop}
    (B : Below A₀ base [] h₀) (X : (Mine.hd.heap_1 w.params).In h₀) (T : Top p loose mean mg mb h₀) (hd : dp+100 < recursionLimit) (hu : un+600 < cLine)
    (ch1 : CodeHd h₀ 41 37) (ch2 : CodeHd h₀ 34 30) (ch3 : CodeHd h₀ 136 134)
   {m m₂ : Str → Option Value} {jk jq yk jm jt jp jr jl o30 o37 t37 t30 t134 : Obj} {R c30 c37 T0 T1 T2 T3 T4 T5 : Addr} {kR : Nat} {ps : Array Value} {zs : List (Addr × Obj)}
   (hl : @LT.lt Nat _ 134 L) (hR : AllNe R ((L+1+1+1+1+1+1+1+1,jk)::(L+1+1+1+1+1+1+1,jq)::(L+1+1+1+1+1+1,yk)::(L+1+1+1+1+1,jm)::(L+1+1+1+1,jt)::(L+1+1+1,jp)::(L+1+1,jr)::(L+1,jl)::(37,t37)::(30,t30)::(134,t134)::[])) (n30 : AllNe c30 ((R,listOf #[.ref T0,.ref T1,.ref T2,.ref T3,.ref T4,.ref T5] kR)::(L+1+1+1+1+1+1+1+1,jk)::(L+1+1+1+1+1+1+1,jq)::(L+1+1+1+1+1+1,yk)::(L+1+1+1+1+1,jm)::(L+1+1+1+1,jt)::(L+1+1+1,jp)::(L+1+1,jr)::(L+1,jl)::(134,t134)::[])) (n37 : AllNe c37 ((R,listOf #[.ref T0,.ref T1,.ref T2,.ref T3,.ref T4,.ref T5] kR)::(L+1+1+1+1+1+1+1+1,jk)::(L+1+1+1+1+1+1+1,jq)::(L+1+1+1+1+1+1,yk)::(L+1+1+1+1+1,jm)::(L+1+1+1+1,jt)::(L+1+1+1,jp)::(L+1+1,jr)::(L+1,jl)::(134,t134)::[])) {I C D Ta : Addr} {oI oC : Obj} {ys : List Value} {s₁ : Shared} {lo : Nat} {sd k : Int} {x : UInt64} {tx tk ts : Tok} {ua va : Value} {h : Heap} {tkn : Nat} {Rs : Value → List (Addr × Obj) → Prop}
   (Z : ZB L R c30 c37 zs ps) (F : Fr h₀ L h m) (N : News h₀ L h ((I,oI)::(C,oC)::(D,LCg.lst ys)::(c30,o30)::(c37,o37)::(R,listOf #[.ref T0,.ref T1,.ref T2,.ref T3,.ref T4,.ref T5] kR)::(L+1+1+1+1+1+1+1+1,jk)::(L+1+1+1+1+1+1+1,jq)::(L+1+1+1+1+1+1,yk)::(L+1+1+1+1+1,jm)::(L+1+1+1+1,jt)::(L+1+1+1,jp)::(L+1+1,jr)::(L+1,jl)::(37,t37)::(30,t30)::(134,tabObj ps)::zs)) (off : LCg.Off3 I C D ((c30,o30)::(c37,o37)::(R,listOf #[.ref T0,.ref T1,.ref T2,.ref T3,.ref T4,.ref T5] kR)::(L+1+1+1+1+1+1+1+1,jk)::(L+1+1+1+1+1+1+1,jq)::(L+1+1+1+1+1+1,yk)::(L+1+1+1+1+1,jm)::(L+1+1+1+1,jt)::(L+1+1+1,jp)::(L+1+1,jr)::(L+1,jl)::(37,t37)::(30,t30)::(134,tabObj ps)::zs))
   (hC : LCg.NsObj oC m₂) (mx : m₂ (Str.ofString "k") = some (.int k tk)) (cr : yk.data = .cell (some (.ref R))) (cs : jr.data = .cell (some (.int sd ts)))
   (HZ : ∀ k,k < 6 → ∃ T t u v,([.ref T0,.ref T1,.ref T2,.ref T3,.ref T4,.ref T5] : List Value)[k]? = some (.ref T) ∧ (T,triO (([hueB 0,hueB 1,hueB 2,hueB 3,hueB 4,hueB 5] : List UInt64).getD k 0) t u v) ∈ zs) (hsd : sd = 0 ∨ sd = 1) (hlo : (lo : Int) = 2 * k+2) (hle : lo ≤ 6) (i0 : 0 ≤ 2 * k + sd * (5 - 2 * k)) (i1 : 2 * k + sd * (5 - 2 * k) < 10) (hx : ([.ref T0,.ref T1,.ref T2,.ref T3,.ref T4,.ref T5] : List Value)[(2 * k + sd * (5 - 2 * k)).toNat]? = some (.ref Ta)) (hT : (Ta,triO x tx ua va) ∈ zs)
   (fin : ∀ t new ps',ZB L R c30 c37 (new ++ zs) ps' → Rs (.int (((bisR x [hueB 0,hueB 1,hueB 2,hueB 3,hueB 4,hueB 5] 6 0 lo : Nat) : Int)) t) ((c30,o30)::(c37,o37)::(R,listOf #[.ref T0,.ref T1,.ref T2,.ref T3,.ref T4,.ref T5] kR)::(L+1+1+1+1+1+1+1+1,jk)::(L+1+1+1+1+1+1+1,jq)::(L+1+1+1+1+1+1,yk)::(L+1+1+1+1+1,jm)::(L+1+1+1+1,jt)::(L+1+1+1,jp)::(L+1+1,jr)::(L+1,jl)::(37,t37)::(30,t30)::(134,tabObj ps')::(new ++ zs)))
   : wpAny (model pw_ty0047_01 w) (lawA dp un gd L fa) (eval otElt (compEnvC otScope [(Str.ofString "side", L+1+1),(Str.ofString "row", L+1+1+1+1+1+1)] C (lawEnv L fa))) (LCg.CompEnd h₀ L m { s₁ with heap := h,toks := tkn } I oI C oC D (LCg.lst ys) (fun _ => True) Rs) E { s₁ with heap := h,toks := tkn } := by
  have om := off.mem
  have o134 := om (134,tabObj ps) (List.mem_append_right ((c30,o30)::(c37,o37)::(R,listOf #[.ref T0,.ref T1,.ref T2,.ref T3,.ref T4,.ref T5] kR)::(L+1+1+1+1+1+1+1+1,jk)::(L+1+1+1+1+1+1+1,jq)::(L+1+1+1+1+1+1,yk)::(L+1+1+1+1+1,jm)::(L+1+1+1+1,jt)::(L+1+1+1,jp)::(L+1+1,jr)::(L+1,jl)::(37,t37)::(30,t30)::[]) (.head _))
  refine ot_elt (pre := (I,oI)::(C,oC)::(D,LCg.lst ys)::(c30,o30)::(c37,o37)::(R,listOf #[.ref T0,.ref T1,.ref T2,.ref T3,.ref T4,.ref T5] kR)::(L+1+1+1+1+1+1+1+1,jk)::(L+1+1+1+1+1+1+1,jq)::(L+1+1+1+1+1+1,yk)::(L+1+1+1+1+1,jm)::(L+1+1+1+1,jt)::(L+1+1+1,jp)::(L+1+1,jr)::(L+1,jl)::(37,t37)::(30,t30)::[]) (zs := zs) (ps := ps) (R := R) (cR := L+1+1+1+1+1+1) (cS := L+1+1) (oR := yk) (oS := jr) (lo := lo) (xs := [.ref T0,.ref T1,.ref T2,.ref T3,.ref T4,.ref T5]) (hs := [hueB 0,hueB 1,hueB 2,hueB 3,hueB 4,hueB 5]) B X T hd hu ch1 ch2 ch3 rfl F N ?_ (fun q hq => (Z.hz q hq).2.2.2.2.2.2.2.2.2.2) Z.tz (.tail _ (.head _)) hC mx (by k_mem) cr (by k_mem) cs (.tail _ (.tail _ (.tail _ (.tail _ (.tail _ (.head _)))))) rfl (by decide) HZ (fun c => IntMulOk.of_left (by decide)) (fun c => IntMulOk.of_left (by rcases hsd with rfl | rfl <;> decide)) hlo hle i0 i1 hx hT ?_
  · exact AllNe.all ⟨Ne.symm o134.1,Ne.symm o134.2.1,Ne.symm o134.2.2,Ne.symm n30.2.2.2.2.2.2.2.2.2.1,Ne.symm n37.2.2.2.2.2.2.2.2.2.1,Ne.symm hR.2.2.2.2.2.2.2.2.2.2.1,cl0 hl (Nat.le_add_right L 8),cl0 hl (Nat.le_add_right L 7),cl0 hl (Nat.le_add_right L 6),cl0 hl (Nat.le_add_right L 5),cl0 hl (Nat.le_add_right L 4),cl0 hl (Nat.le_add_right L 3),cl0 hl (Nat.le_add_right L 2),cl0 hl (Nat.le_add_right L 1),nn37,nn30,trivial⟩
  intro t new ps' h9 tk9 F9 N9 TZ9 hnew
  have hn3 : ∀ q ∈ new,q.1 ≠ I ∧ q.1 ≠ C ∧ q.1 ≠ D := fun q hq => ⟨Ne.symm (hnew q hq).1,Ne.symm (hnew q hq).2.1,Ne.symm (hnew q hq).2.2.1⟩
  exact LCg.CompEnd.intro F9 N9 ((c30,o30)::(c37,o37)::(R,listOf #[.ref T0,.ref T1,.ref T2,.ref T3,.ref T4,.ref T5] kR)::(L+1+1+1+1+1+1+1+1,jk)::(L+1+1+1+1+1+1+1,jq)::(L+1+1+1+1+1+1,yk)::(L+1+1+1+1+1,jm)::(L+1+1+1+1,jt)::(L+1+1+1,jp)::(L+1+1,jr)::(L+1,jl)::(37,t37)::(30,t30)::(134,tabObj ps')::(new ++ zs)) (mem_shuf (a := (I,oI)::(C,oC)::(D,LCg.lst ys)::(c30,o30)::(c37,o37)::(R,listOf #[.ref T0,.ref T1,.ref T2,.ref T3,.ref T4,.ref T5] kR)::(L+1+1+1+1+1+1+1+1,jk)::(L+1+1+1+1+1+1+1,jq)::(L+1+1+1+1+1+1,yk)::(L+1+1+1+1+1,jm)::(L+1+1+1+1,jt)::(L+1+1+1,jp)::(L+1+1,jr)::(L+1,jl)::(37,t37)::(30,t30)::[])) (off_shuf (a := (c30,o30)::(c37,o37)::(R,listOf #[.ref T0,.ref T1,.ref T2,.ref T3,.ref T4,.ref T5] kR)::(L+1+1+1+1+1+1+1+1,jk)::(L+1+1+1+1+1+1+1,jq)::(L+1+1+1+1+1+1,yk)::(L+1+1+1+1+1,jm)::(L+1+1+1+1,jt)::(L+1+1+1,jp)::(L+1+1,jr)::(L+1,jl)::(37,t37)::(30,t30)::[]) (x := (134,tabObj ps)) rfl off hn3) trivial (fin t new ps' (Z.new (pre := [(I,oI),(C,oC),(D,LCg.lst ys)]) TZ9 (fun q hq => AllNe.sub (hnew q hq) fun r hr => List.mem_append_left zs (show r ∈ ((I,oI)::(C,oC)::(D,LCg.lst ys)::(c30,o30)::(c37,o37)::(R,listOf #[.ref T0,.ref T1,.ref T2,.ref T3,.ref T4,.ref T5] kR)::(L+1+1+1+1+1+1+1+1,jk)::(L+1+1+1+1+1+1+1,jq)::(L+1+1+1+1+1+1,yk)::(L+1+1+1+1+1,jm)::(L+1+1+1+1,jt)::(L+1+1+1,jp)::(L+1+1,jr)::(L+1,jl)::(37,t37)::(30,t30)::(134,tabObj ps')::[] : List (Addr × Obj)) from hr))))
theorem bisL_0_0 : ((bisLf (hueB 0) [hueB 0,hueB 1,hueB 2,hueB 3,hueB 4,hueB 5] 6 0 6 : Nat) : Int) = 0 := by decide +kernel
theorem bisR_0_0 : ((bisR (hueB 0) [hueB 0,hueB 1,hueB 2,hueB 3,hueB 4,hueB 5] 6 0 2 : Nat) : Int) = 1 := by decide +kernel
theorem bisL_1_0 : ((bisLf (hueB 0) [hueB 0,hueB 1,hueB 2,hueB 3,hueB 4,hueB 5] 6 2 6 : Nat) : Int) = 2 := by decide +kernel
theorem bisR_1_0 : ((bisR (hueB 2) [hueB 0,hueB 1,hueB 2,hueB 3,hueB 4,hueB 5] 6 0 4 : Nat) : Int) = 3 := by decide +kernel
theorem bisL_2_0 : ((bisLf (hueB 0) [hueB 0,hueB 1,hueB 2,hueB 3,hueB 4,hueB 5] 6 4 6 : Nat) : Int) = 4 := by decide +kernel
theorem bisR_2_0 : ((bisR (hueB 4) [hueB 0,hueB 1,hueB 2,hueB 3,hueB 4,hueB 5] 6 0 6 : Nat) : Int) = 5 := by decide +kernel
theorem bisL_0_1 : ((bisLf (hueB 1) [hueB 0,hueB 1,hueB 2,hueB 3,hueB 4,hueB 5] 6 0 6 : Nat) : Int) = 1 := by decide +kernel
theorem bisR_0_1 : ((bisR (hueB 5) [hueB 0,hueB 1,hueB 2,hueB 3,hueB 4,hueB 5] 6 0 2 : Nat) : Int) = 2 := by decide +kernel
theorem bisL_1_1 : ((bisLf (hueB 3) [hueB 0,hueB 1,hueB 2,hueB 3,hueB 4,hueB 5] 6 2 6 : Nat) : Int) = 3 := by decide +kernel
theorem bisR_1_1 : ((bisR (hueB 5) [hueB 0,hueB 1,hueB 2,hueB 3,hueB 4,hueB 5] 6 0 4 : Nat) : Int) = 4 := by decide +kernel
theorem bisL_2_1 : ((bisLf (hueB 5) [hueB 0,hueB 1,hueB 2,hueB 3,hueB 4,hueB 5] 6 4 6 : Nat) : Int) = 5 := by decide +kernel
theorem bisR_2_1 : ((bisR (hueB 5) [hueB 0,hueB 1,hueB 2,hueB 3,hueB 4,hueB 5] 6 0 6 : Nat) : Int) = 6 := by decide +kernel
theorem mem_shuf2 {α : Type} {a zs : List α} {x z : α} : ∀ q ∈ a ++ x::(z::zs),q ∈ z::(a ++ x::zs) := mem_shuf (new := [z])
theorem words_a50 : True := by
  k_with "omega" => lia
  exact trivial
theorem ne_three {prog : Program} {w : World} {A : Around} {E : Value → Shared → Prop} {s : Shared} {h₀ : Heap} {L D X : Addr} {k : Nat} {led : List (Addr × Obj)} {a b c : Int} {t0 t1 t2 u0 u1 u2 : Tok} {Q : Value → Shared → Prop}
    (N : News h₀ L s.heap led) (hD : (D,listOf #[.int a t0,.int b t1,.int c t2] k) ∈ led) (hX : s.heap.IsList X #[.int a u0,.int b u1,.int c u2])
    (hu : A.units+4 < cLine) (h : Q (.bool false) s) : wpAny (model prog w) A (compareOp .NotEq (.ref D) (.ref X)) Q E s := by
  have hl : s.heap.IsList D #[.int a t0,.int b t1,.int c t2] := ⟨_,(N _ hD).1,rfl,_,rfl⟩
  refine PySem.SeqAt.RcNeAt.lists (e := fun _ => true) hl hX rfl (by omega) (fun j h1 h2 => ?_) prog w E Q h
  match j,h1,h2 with
  | 0,_,_ => exact eqAt_ii
  | 1,_,_ => exact eqAt_ii
  | 2,_,_ => exact eqAt_ii
  | n+3,h1,_ => exact absurd h1 (by simp)
@[reducible] noncomputable def st18b0 : Stmt := by
  have e := Eq.refl ((forBodyOf (lawAt 18)).getD 0 (.Pass default))
  conv at e => rhs; whnf
  exact rhsOf e
@[reducible] noncomputable def st18b1 : Stmt := by
  have e := Eq.refl ((forBodyOf (lawAt 18)).getD 1 (.Pass default))
  conv at e => rhs; whnf
  exact rhsOf e
@[reducible] noncomputable def st18b2 : Stmt := by
  have e := Eq.refl ((forBodyOf (lawAt 18)).getD 2 (.Pass default))
  conv at e => rhs; whnf
  exact rhsOf e
@[reducible] noncomputable def st19b0 : Stmt := by
  have e := Eq.refl ((forBodyOf (lawAt 19)).getD 0 (.Pass default))
  conv at e => rhs; whnf
  exact rhsOf e
@[reducible] noncomputable def st19b1 : Stmt := by
  have e := Eq.refl ((forBodyOf (lawAt 19)).getD 1 (.Pass default))
  conv at e => rhs; whnf
  exact rhsOf e
theorem words_a51 : True := by
  k_with_none
  k_with "k_ne" => (refine neN ?_; (try dsimp only); first | (with_reducible assumption) | (refine Ne.symm ?_; with_reducible assumption))
  k_with "eval Name" => (k_here; (with_reducible show wpAny _ _ (eval (Expr.Name _ _) (compEnvC _ _ _ _)) _ _ _); k_dflt (refine LCgL.ld_own (by k_asm) (by k_mem) (by with_reducible assumption) (by with_reducible assumption) ?_))
  k_with "eval Name" => (k_here; (first | (with_reducible show wpAny _ _ (eval (Expr.Name (Str.ofString "row") _) (compEnvC _ _ _ _)) _ _ _) | (with_reducible show wpAny _ _ (eval (Expr.Name (Str.ofString "side") _) (compEnvC _ _ _ _)) _ _ _)); k_dflt (refine' ld_freeC ?N ?a ?m ?d ?_ ?e ?f ?g; (case N => k_asm); (case a => rfl); (case m => first | with_reducible assumption | k_mem); (case d => with_reducible assumption); (case e => rfl); (case f => rfl); (case g => decide); k_whole))
  k_with "subscriptTail" => ((with_reducible show wpAny _ _ (subscriptTail _ _ (Value.ref _) (Value.int _ _)) _ _ _); (with_reducible rename News _ _ _ _ => N'); (refine list_item N' (by with_reducible assumption) (by with_reducible assumption) (by with_reducible assumption) (by with_reducible assumption) ?_))
  k_with "binaryOp Mult int int" => ((with_reducible refine mul_to rfl (by exact (by assumption : ∀ c,IntMulOk _ c) _) ?_))
  exact trivial
theorem gen_item {prog : Program} {w : World} {A : Around} {E : Value → Shared → Prop} {s : Shared} {h₀ : Heap} {L U : Addr} {led : List (Addr × Obj)} {xs : List Value} {kU : Nat} {i : Int} {u : Tok} {v : Value} {value slice : PySem.Expr} {Q : Value → Shared → Prop}
    (N : News h₀ L s.heap led) (hU : (U,listOf xs.toArray kU) ∈ led) (hx : xs[i.toNat]? = some v) (h0 : 0 ≤ i) (h1 : i < 10) (h : Q v s)
    (hs' : subscripted slice false (.ref U) (.int i u) = operate [.ref U,.int i u] (getItem (.ref U) (.int i u)) := by with_unfolding_all rfl) :
    wpAny (model prog w) A (subscriptTail value slice (.ref U) (.int i u)) Q E s :=
  item_litK ⟨_,(N _ hU).1,rfl,_,rfl⟩ h0 (by omega) hx h hs'
theorem z_item {prog : Program} {w : World} {A : Around} {E : Value → Shared → Prop} {s : Shared} {h₀ : Heap} {L U : Addr} {led zs : List (Addr × Obj)} {xs : List Value} {kU : Nat} {i : Int} {u : Tok} {v : Value} {value slice : PySem.Expr} {Q : Value → Shared → Prop}
    (N : News h₀ L s.heap led) (hU : (U,listOf xs.toArray kU) ∈ zs) (hx : xs[i.toNat]? = some v) (hs : ∀ q ∈ zs,q ∈ led) (h0 : 0 ≤ i) (h1 : i < 10) (h : Q v s)
    (hs' : subscripted slice false (.ref U) (.int i u) = operate [.ref U,.int i u] (getItem (.ref U) (.int i u)) := by with_unfolding_all rfl) :
    wpAny (model prog w) A (subscriptTail value slice (.ref U) (.int i u)) Q E s := gen_item N (hs _ hU) hx h0 h1 h hs'
theorem zrow_item {prog : Program} {w : World} {A : Around} {E : Value → Shared → Prop} {s : Shared} {h₀ : Heap} {L r : Addr} {led zs : List (Addr × Obj)} {vs : List Value} {kr : Nat} {us : List Int} {b i j : Int} {u : Tok} {value slice : PySem.Expr} {Q : Value → Shared → Prop}
    (N : News h₀ L s.heap led) (hr : (r,listOf vs.toArray kr) ∈ zs) (hI : IntsAre vs (tabRow us b i.toNat)) (hs : ∀ q ∈ zs,q ∈ led) (h0 : 0 ≤ j) (h1 : j < 6) (h : ∀ t,Q (.int (nbV us b i j) t) s)
    (hs' : subscripted slice false (.ref r) (.int j u) = operate [.ref r,.int j u] (getItem (.ref r) (.int j u)) := by with_unfolding_all rfl) :
    wpAny (model prog w) A (subscriptTail value slice (.ref r) (.int j u)) Q E s := row_item N (hs _ hr) hI h0 h1 h hs'
theorem words_a52 : True := by
  k_with_none
  k_with "k_ne" => (refine neN ?_; (try dsimp only); first | (with_reducible assumption) | (refine Ne.symm ?_; with_reducible assumption))
  k_with "zin" => (intro q hq; (repeat (first | exact hq | refine List.mem_cons_of_mem _ ?_)))
  k_with "subscriptTail" => ((with_reducible show wpAny _ _ (subscriptTail _ _ (Value.ref _) (Value.int _ _)) _ _ _); (with_reducible rename News _ _ _ _ => N'); first
  | (refine z_item N' (by with_reducible assumption) (by with_reducible assumption) (by walk_at "zin") (by omega) (by omega) ?_)
  | (refine zrow_item N' (by with_reducible assumption) (by with_reducible assumption) (by walk_at "zin") (by omega) (by omega) ?_; intro _)
  | (refine gen_item N' (by k_mem) (by with_reducible assumption) (by omega) (by omega) ?_))
  exact trivial
theorem t18_b1 {w : World} {p : Program} {loose : List Str} {mean : ExcName → Option Value} {mg mb : Str → Option Value}
    {dp un : Nat} {gd : Option (List Code)} {L fa : Addr} {A₀ : Around} {base h₀ : Heap} {s : Shared} {Q : Flow → Shared → Prop} {E : Value → Shared → Prop}
    (B : Below A₀ base [] h₀) (X : (Mine.hd.heap_1 w.params).In h₀) (T : Top p loose mean mg mb h₀) (hd : dp+100 < recursionLimit) (hu : un+600 < cLine)
    (ch1 : CodeHd h₀ 41 37) (ch2 : CodeHd h₀ 34 30) (ch3 : CodeHd h₀ 136 134)
   {m : Str → Option Value} {jk jq yk jm jt jp jr jl o30 o37 : Obj} {R c30 c37 T0 T1 T2 T3 T4 T5 : Addr} {kR : Nat} {ps ps30 ps37 : Array Value} {zs : List (Addr × Obj)}
   (hl : @LT.lt Nat _ 134 L) (hz : OffZ L zs) (hR : AllNe R ((L+1+1+1+1+1+1+1+1,jk)::(L+1+1+1+1+1+1+1,jq)::(L+1+1+1+1+1+1,yk)::(L+1+1+1+1+1,jm)::(L+1+1+1+1,jt)::(L+1+1+1,jp)::(L+1+1,jr)::(L+1,jl)::(37,tabObj ps37)::(30,tabObj ps30)::(134,tabObj ps)::[])) (hzR : ∀ q ∈ zs,@Ne Nat q.1 R) (DM : DmT ps30 ps37 c30 c37 o30 o37) (n30 : AllNe c30 ((R,listOf #[.ref T0,.ref T1,.ref T2,.ref T3,.ref T4,.ref T5] kR)::(L+1+1+1+1+1+1+1+1,jk)::(L+1+1+1+1+1+1+1,jq)::(L+1+1+1+1+1+1,yk)::(L+1+1+1+1+1,jm)::(L+1+1+1+1,jt)::(L+1+1+1,jp)::(L+1+1,jr)::(L+1,jl)::(134,tabObj ps)::zs)) (n37 : AllNe c37 ((R,listOf #[.ref T0,.ref T1,.ref T2,.ref T3,.ref T4,.ref T5] kR)::(L+1+1+1+1+1+1+1+1,jk)::(L+1+1+1+1+1+1+1,jq)::(L+1+1+1+1+1+1,yk)::(L+1+1+1+1+1,jm)::(L+1+1+1+1,jt)::(L+1+1+1,jp)::(L+1+1,jr)::(L+1,jl)::(134,tabObj ps)::zs)) (rest : List Stmt) {k : Nat} {DN : Addr} {dnL : List Value} {kD : Nat} {sc dv : Int} {tk tc td : Tok} (hk : k < 6) (F : Fr h₀ L s.heap m) (N : News h₀ L s.heap ((c30,o30)::(c37,o37)::(R,listOf #[.ref T0,.ref T1,.ref T2,.ref T3,.ref T4,.ref T5] kR)::(L+1+1+1+1+1+1+1+1,jk)::(L+1+1+1+1+1+1+1,jq)::(L+1+1+1+1+1+1,yk)::(L+1+1+1+1+1,jm)::(L+1+1+1+1,jt)::(L+1+1+1,jp)::(L+1+1,jr)::(L+1,jl)::(37,tabObj ps37)::(30,tabObj ps30)::(134,tabObj ps)::zs))
   (mk : m (Str.ofString "k") = some (.int (k : Int) tk)) (mc : m (Str.ofString "scale") = some (.int sc tc)) (mdn : m (Str.ofString "downs") = some (.ref DN)) (hDN : (DN,listOf dnL.toArray kD) ∈ zs) (hx : dnL[((k : Int)).toNat]? = some (.int dv td))
   (fin : ∀ h tk' m' tr,Fr h₀ L h m' → News h₀ L h ((c30,o30)::(c37,o37)::(R,listOf #[.ref T0,.ref T1,.ref T2,.ref T3,.ref T4,.ref T5] kR)::(L+1+1+1+1+1+1+1+1,jk)::(L+1+1+1+1+1+1+1,jq)::(L+1+1+1+1+1+1,yk)::(L+1+1+1+1+1,jm)::(L+1+1+1+1,jt)::(L+1+1+1,jp)::(L+1+1,jr)::(L+1,jl)::(37,tabObj ps37)::(30,tabObj ps30)::(134,tabObj ps)::zs) → (∀ y,y ≠ Str.ofString "rest" → m' y = m y) → m' (Str.ofString "rest") = some (.int (if 0 < dv then sc - 1 else 1 - sc) tr) → wpAny (model pw_ty0047_01 w) (lawA dp un gd L fa) (execs rest (lawEnv L fa)) Q E { s with heap := h,toks := tk' })
   : wpAny (model pw_ty0047_01 w) (lawA dp un gd L fa) (execs (st18b1::rest) (lawEnv L fa)) Q E s := by
  w_top off
  k_steps
  · rename dv > 0 => hp
    rw [if_pos (show 0 < dv from hp)] at fin
    exact fin _ _ _ _ (by assumption) (by assumption) (fun y h1 => if_neg h1) (by walk_at "k_opq")
  · rename ¬ dv > 0 => hp
    rw [if_neg (show ¬ 0 < dv from hp)] at fin
    exact fin _ _ _ _ (by assumption) (by assumption) (fun y h1 => if_neg h1) (by walk_at "k_opq")
noncomputable def rvOf : Stmt → Expr
  | .Return (some e) _ => e
  | _ => .Constant .none 0 default
noncomputable def cmpOf : Expr → Bool → Expr
  | .Compare l _ (r::_) _,b => cond b l r
  | e,_ => e
noncomputable def argOf : Expr → Expr
  | .Call _ (a::_) _ _ => a
  | e => e
noncomputable def lceElt : Expr → Expr
  | .ListComp e _ _ _ => e
  | e => e
noncomputable def lceScope : Expr → Scope
  | .ListComp _ _ s _ => s
  | _ => default
@[reducible] noncomputable def r1Elt : Expr := by
  have e := Eq.refl (lceElt (argOf (cmpOf (rvOf (lawAt 23)) true)))
  conv at e => rhs; whnf
  exact rhsOf e
@[reducible] noncomputable def r1Scope : Scope := by
  have e := Eq.refl (lceScope (argOf (cmpOf (rvOf (lawAt 23)) true)))
  conv at e => rhs; whnf
  exact rhsOf e
@[reducible] noncomputable def r2Elt : Expr := by
  have e := Eq.refl (lceElt (argOf (cmpOf (rvOf (lawAt 23)) false)))
  conv at e => rhs; whnf
  exact rhsOf e
@[reducible] noncomputable def r2Scope : Scope := by
  have e := Eq.refl (lceScope (argOf (cmpOf (rvOf (lawAt 23)) false)))
  conv at e => rhs; whnf
  exact rhsOf e
theorem words_a53 : True := by
  k_with_none
  k_with "k_ne" => (refine neN ?_; (try dsimp only); first | (with_reducible assumption) | (refine Ne.symm ?_; with_reducible assumption))
  k_with "eval Name" => (k_here; (with_reducible show wpAny _ _ (eval (Expr.Name _ _) (compEnvC _ _ _ _)) _ _ _); k_dflt (refine LCgL.ld_own (by k_asm) (by k_mem) (by with_reducible assumption) (by with_reducible assumption) ?_))
  k_with "eval Name" => (k_here; (first | (with_reducible show wpAny _ _ (eval (Expr.Name (Str.ofString "numbers") _) (compEnvC _ _ _ _)) _ _ _)); k_dflt (refine' ld_freeC ?N ?a ?m ?d ?_ ?e ?f ?g; (case N => k_asm); (case a => rfl); (case m => first | with_reducible assumption | k_mem); (case d => with_reducible assumption); (case e => rfl); (case f => rfl); (case g => decide); k_whole))
  k_with "subscriptTail" => ((with_reducible show wpAny _ _ (subscriptTail _ _ (Value.ref _) (Value.int _ _)) _ _ _); (with_reducible rename News _ _ _ _ => N'); (refine gen_item N' (by with_reducible assumption) (by with_reducible assumption) (by with_reducible assumption) (by with_reducible assumption) ?_))
  exact trivial
open PyProof.Rows.LCg in
theorem r1_elt {w : World} {p : Program} {loose : List Str} {mean : ExcName → Option Value} {mg mb : Str → Option Value}
    {dp un : Nat} {gd : Option (List Code)} {L fa : Addr} {A₀ : Around} {base h₀ : Heap} {s : Shared} {Q : Value → Shared → Prop} {E : Value → Shared → Prop}
    (B : Below A₀ base [] h₀) (X : (Mine.hd.heap_1 w.params).In h₀) (T : Top p loose mean mg mb h₀) (hd : dp+100 < recursionLimit) (hu : un+600 < cLine)
    (ch1 : CodeHd h₀ 41 37) (ch2 : CodeHd h₀ 34 30) (ch3 : CodeHd h₀ 136 134)
   {m m₂ : Str → Option Value} {C cN NB : Addr} {oC oN : Obj} {led : List (Addr × Obj)} {nbL : List Value} {kN : Nat} {k : Int} {tk : Tok} {v : Value} (F : Fr h₀ L s.heap m) (N : News h₀ L s.heap led)
   (z0 : (C,oC) ∈ led) (hC : NsObj oC m₂) (mx : m₂ (Str.ofString "k") = some (.int k tk)) (z1 : (cN,oN) ∈ led) (cn : oN.data = .cell (some (.ref NB))) (hNB : (NB,listOf nbL.toArray kN) ∈ led) (h0 : 0 ≤ k) (h1 : k < 10) (i0 : 0 ≤ k) (i1 : k < 10) (hx : nbL[(k).toNat]? = some v)
   (fin : ∀ h tk',Fr h₀ L h m → News h₀ L h led → Q v { s with heap := h,toks := tk' })
   : wpAny (model pw_ty0047_01 w) (lawA dp un gd L fa) (eval r1Elt (compEnvC r1Scope [(Str.ofString "numbers", cN)] C (lawEnv L fa))) Q E s := by
  w_top off
  k_steps
  exact fin _ _ (by assumption) (by assumption)
open PyProof.Rows.LCg in
theorem r2_elt {w : World} {p : Program} {loose : List Str} {mean : ExcName → Option Value} {mg mb : Str → Option Value}
    {dp un : Nat} {gd : Option (List Code)} {L fa : Addr} {A₀ : Around} {base h₀ : Heap} {s : Shared} {Q : Value → Shared → Prop} {E : Value → Shared → Prop}
    (B : Below A₀ base [] h₀) (X : (Mine.hd.heap_1 w.params).In h₀) (T : Top p loose mean mg mb h₀) (hd : dp+100 < recursionLimit) (hu : un+600 < cLine)
    (ch1 : CodeHd h₀ 41 37) (ch2 : CodeHd h₀ 34 30) (ch3 : CodeHd h₀ 136 134)
   {m m₂ : Str → Option Value} {C cN NB : Addr} {oC oN : Obj} {led : List (Addr × Obj)} {nbL : List Value} {kN : Nat} {k : Int} {tk : Tok} {v : Value} (F : Fr h₀ L s.heap m) (N : News h₀ L s.heap led)
   (z0 : (C,oC) ∈ led) (hC : NsObj oC m₂) (mx : m₂ (Str.ofString "k") = some (.int k tk)) (z1 : (cN,oN) ∈ led) (cn : oN.data = .cell (some (.ref NB))) (hNB : (NB,listOf nbL.toArray kN) ∈ led) (h0 : 0 ≤ k) (h1 : k < 10) (i0 : 0 ≤ k.fmod 6) (i1 : k.fmod 6 < 10) (hx : nbL[(k.fmod 6).toNat]? = some v)
   (fin : ∀ h tk',Fr h₀ L h m → News h₀ L h led → Q v { s with heap := h,toks := tk' })
   : wpAny (model pw_ty0047_01 w) (lawA dp un gd L fa) (eval r2Elt (compEnvC r2Scope [(Str.ofString "numbers", cN)] C (lawEnv L fa))) Q E s := by
  w_top off
  k_steps
  exact fin _ _ (by assumption) (by assumption)
theorem ints3 {a b c : Int} {s t u : Tok} : IntsAre [.int a s,.int b t,.int c u] [a,b,c] := by repeat constructor
noncomputable def gcdOk (f s : Int) (P Q : Int) : Bool :=
  let n := nbV (lucasL f s) s
  decide (gcdL 0 [n (P+1) Q,n (P - 1) (Q+1),n P (Q - 1)] = gcdL 0 [n P (Q+1),n (P - 1) Q,n (P+1) (Q - 1)]) &&
  decide (gcdL 0 [n P (Q+1),n (P - 1) Q,n (P+1) (Q - 1)] = gcdL 0 [n (P - 1) (Q+1),n P (Q - 1),n (P+1) Q])
theorem gst_1 : ∀ f : Fin 20,∀ p q : Fin 4,gcdOk (((f.val : Nat) : Int)+1) (-1) (((p.val : Nat) : Int)+1) (((q.val : Nat) : Int)+1) = true := by decide +kernel
theorem gst_2 : ∀ f : Fin 20,∀ p q : Fin 4,gcdOk (-(((f.val : Nat) : Int)+1)) (-1) (((p.val : Nat) : Int)+1) (((q.val : Nat) : Int)+1) = true := by decide +kernel
theorem gst_3 : ∀ f : Fin 19,∀ p q : Fin 4,gcdOk (((f.val : Nat) : Int)+2) 1 (((p.val : Nat) : Int)+1) (((q.val : Nat) : Int)+1) = true := by decide +kernel
theorem gst_4 : ∀ f : Fin 19,∀ p q : Fin 4,gcdOk (-(((f.val : Nat) : Int)+2)) 1 (((p.val : Nat) : Int)+1) (((q.val : Nat) : Int)+1) = true := by decide +kernel
theorem words_a54 : True := by
  k_with "omega" => lia
  exact trivial
theorem cases_fs {f s P Q : Int} (R : Int → Int → Int → Int → Bool) (h1 : ∀ f : Fin 20,∀ p q : Fin 4,R (((f.val : Nat) : Int)+1) (-1) (((p.val : Nat) : Int)+1) (((q.val : Nat) : Int)+1) = true) (h2 : ∀ f : Fin 20,∀ p q : Fin 4,R (-(((f.val : Nat) : Int)+1)) (-1) (((p.val : Nat) : Int)+1) (((q.val : Nat) : Int)+1) = true)
    (h3 : ∀ f : Fin 19,∀ p q : Fin 4,R (((f.val : Nat) : Int)+2) 1 (((p.val : Nat) : Int)+1) (((q.val : Nat) : Int)+1) = true) (h4 : ∀ f : Fin 19,∀ p q : Fin 4,R (-(((f.val : Nat) : Int)+2)) 1 (((p.val : Nat) : Int)+1) (((q.val : Nat) : Int)+1) = true)
    (hf : -20 ≤ f ∧ f ≤ 20 ∧ f ≠ 0) (hs : s = 1 ∨ s = -1) (h1s : (f = 1 ∨ f = -1) → s = -1) (hP : 1 ≤ P ∧ P ≤ 4) (hQ : 1 ≤ Q ∧ Q ≤ 4) : R f s P Q = true := by
  have eP : (((P - 1).toNat : Nat) : Int) = P - 1 := by omega
  have eQ : (((Q - 1).toNat : Nat) : Int) = Q - 1 := by omega
  rcases hs with rfl | rfl
  · have hn : ¬ (f = 1 ∨ f = -1) := fun h => by have := h1s h; omega
    by_cases hp : 0 < f
    · have h := h3 ⟨(f - 2).toNat,by omega⟩ ⟨(P - 1).toNat,by omega⟩ ⟨(Q - 1).toNat,by omega⟩
      simp only [eP,eQ,show (((f - 2).toNat : Nat) : Int) = f - 2 by omega,Int.sub_add_cancel] at h
      exact h
    · have h := h4 ⟨(-f - 2).toNat,by omega⟩ ⟨(P - 1).toNat,by omega⟩ ⟨(Q - 1).toNat,by omega⟩
      simp only [eP,eQ,show (((-f - 2).toNat : Nat) : Int) = -f - 2 by omega,Int.sub_add_cancel,Int.neg_neg] at h
      exact h
  · by_cases hp : 0 < f
    · have h := h1 ⟨(f - 1).toNat,by omega⟩ ⟨(P - 1).toNat,by omega⟩ ⟨(Q - 1).toNat,by omega⟩
      simp only [eP,eQ,show (((f - 1).toNat : Nat) : Int) = f - 1 by omega,Int.sub_add_cancel] at h
      exact h
    · have h := h2 ⟨(-f - 1).toNat,by omega⟩ ⟨(P - 1).toNat,by omega⟩ ⟨(Q - 1).toNat,by omega⟩
      simp only [eP,eQ,show (((-f - 1).toNat : Nat) : Int) = -f - 1 by omega,Int.sub_add_cancel,Int.neg_neg] at h
      exact h
noncomputable def bndOk (f s P Q : Int) : Bool :=
  let u := lucU f s
  decide (-(2 ^ 60) < u 2) && decide (u 2 < 2 ^ 60) && decide (-(2 ^ 60) < u 3) && decide (u 3 < 2 ^ 60) && decide (-(2 ^ 60) < u 4) && decide (u 4 < 2 ^ 60) && decide (-(2 ^ 60) < u 5) && decide (u 5 < 2 ^ 60) && decide (-(2 ^ 60) < u 6) && decide (u 6 < 2 ^ 60) &&
  decide ((u 7).natAbs < 2 ^ 60) && decide ((u 8).natAbs < 2 ^ 60) && decide ((u 9).natAbs < 2 ^ 60)
theorem bnd_1 : ∀ f : Fin 20,∀ p q : Fin 4,bndOk (((f.val : Nat) : Int)+1) (-1) (((p.val : Nat) : Int)+1) (((q.val : Nat) : Int)+1) = true := by decide +kernel
theorem bnd_2 : ∀ f : Fin 20,∀ p q : Fin 4,bndOk (-(((f.val : Nat) : Int)+1)) (-1) (((p.val : Nat) : Int)+1) (((q.val : Nat) : Int)+1) = true := by decide +kernel
theorem bnd_3 : ∀ f : Fin 19,∀ p q : Fin 4,bndOk (((f.val : Nat) : Int)+2) 1 (((p.val : Nat) : Int)+1) (((q.val : Nat) : Int)+1) = true := by decide +kernel
theorem bnd_4 : ∀ f : Fin 19,∀ p q : Fin 4,bndOk (-(((f.val : Nat) : Int)+2)) 1 (((p.val : Nat) : Int)+1) (((q.val : Nat) : Int)+1) = true := by decide +kernel
noncomputable def greyOk (W : Int) : Bool := let x := fl64 W; feq (fmin3 x x x) (fmax3 x x x) && feq (hlsL x x x) x && !Float64.isInf x
theorem grey_0 : ∀ w : Fin 31,greyOk ((w.val : Nat) : Int) = true := by decide +kernel
theorem grey_all {W : Int} (h0 : 0 ≤ W) (h1 : W ≤ 30) : greyOk W = true := by
  have h := grey_0 ⟨W.toNat,by omega⟩
  rw [show ((W.toNat : Nat) : Int) = W by omega] at h
  exact h
noncomputable def hueG (k : Nat) : Bool := (Float64.cmpInt (Float64.mul (Float64.sub (Float64.mul (hueB k) (Float64.ofInt 6)) (Float64.ofInt (k : Int))) (Float64.ofInt 1048576)) (-1) == some Ordering.gt) && (Float64.cmpInt (Float64.mul (Float64.sub (Float64.mul (hueB k) (Float64.ofInt 6)) (Float64.ofInt (k : Int))) (Float64.ofInt 1048576)) 1 == some Ordering.lt)
theorem hueG_all : ∀ k : Fin 6,hueG k.val = true := by decide +kernel
theorem fdm_pos {q b r : Int} (h1 : 0 ≤ r) (h2 : r < b) : (q * b + r).fdiv b = q ∧ (q * b + r).fmod b = r := by
  have hb : 0 < b := by omega
  have e := Int.mul_fdiv_add_fmod (q * b + r) b
  have hq : (q * b + r).fdiv b = q := by
    rw [Int.fdiv_eq_ediv_of_nonneg _ (Int.le_of_lt hb),Int.add_comm,Int.add_mul_ediv_right _ _ (by omega),Int.ediv_eq_zero_of_lt h1 h2,Int.zero_add]
  refine ⟨hq,?_⟩
  rw [hq,Int.mul_comm] at e
  omega
theorem fdm_of {q b r : Int} (h : (0 ≤ r ∧ r < b) ∨ (b < r ∧ r ≤ 0)) : (q * b + r).fdiv b = q ∧ (q * b + r).fmod b = r := by
  rcases h with ⟨h1,h2⟩ | ⟨h1,h2⟩
  · exact fdm_pos h1 h2
  · have hn := fdm_pos (q := q) (b := -b) (r := -r) (by omega) (by omega)
    have e1 : (q * b + r).fdiv b = (-(q * b + r)).fdiv (-b) := by rw [Int.neg_fdiv_neg]
    have e2 : -(q * b + r) = q * -b + -r := by rw [Int.mul_neg,Int.neg_add]
    have hq : (q * b + r).fdiv b = q := by rw [e1,e2]; exact hn.1
    refine ⟨hq,?_⟩
    have e := Int.mul_fdiv_add_fmod (q * b + r) b
    rw [hq,Int.mul_comm] at e
    omega
theorem nmul {a b : Int} {i j : Nat} (h1 : a.natAbs < 2 ^ i) (h2 : b.natAbs < 2 ^ j) : (a * b).natAbs < 2 ^ (i + j) := by
  rw [Int.natAbs_mul,Nat.pow_add]
  exact Nat.mul_lt_mul'' h1 h2
theorem npow {a : Int} {i : Nat} (h1 : a.natAbs < 2 ^ i) : a < 2 ^ i ∧ -a < 2 ^ i := by
  have h : ((a.natAbs : Nat) : Int) < ((2 ^ i : Nat) : Int) := Int.ofNat_lt.mpr h1
  rw [Int.natCast_pow] at h
  constructor
  · exact Int.lt_of_le_of_lt Int.le_natAbs h
  · refine Int.lt_of_le_of_lt ?_ h
    rw [← Int.natAbs_neg]
    exact Int.le_natAbs
theorem nmono {a : Int} {i j : Nat} (h1 : a.natAbs < 2 ^ i) (h : i ≤ j) : a.natAbs < 2 ^ j := Nat.lt_of_lt_of_le h1 (Nat.pow_le_pow_right (by decide) h)
theorem nok {a b : Int} {i j : Nat} (h1 : a.natAbs < 2 ^ i) (h2 : b.natAbs < 2 ^ j) (hi : i ≤ 1048576) (hj : j ≤ 1048576) : IntMulOk a b := by
  refine IntMulOk.of_bits ?_ ?_
  · rw [show (2 : Nat) ^ 20 = 1048576 from rfl]; exact Nat.le_trans (intBits_le h1) hi
  · rw [show (2 : Nat) ^ 20 = 1048576 from rfl]; exact Nat.le_trans (intBits_le h2) hj
theorem sc_abs {e : Nat} (he : e < 4200) : ((2 : Int) ^ e+1).natAbs < 2 ^ 4201 ∧ 2 ≤ (2 : Int) ^ e+1 := by
  have h1 : (2 : Int) ^ e = ((2 ^ e : Nat) : Int) := by rw [Int.natCast_pow]; rfl
  have h2 : 2 ^ e < 2 ^ 4200 := Nat.pow_lt_pow_right (by decide) he
  have h3 : (2 : Nat) ^ 4201 = 2 * 2 ^ 4200 := by rw [Nat.pow_succ,Nat.mul_comm]
  have h4 : 0 < 2 ^ e := Nat.pow_pos (by decide)
  generalize (2 : Nat) ^ 4200 = A at *
  generalize (2 : Nat) ^ 4201 = B at *
  rw [h1]
  generalize (2 : Nat) ^ e = x at *
  omega
theorem z_abs {sc : Int} (h : sc.natAbs < 2 ^ 4201) (h2 : 2 ≤ sc) : (sc.fdiv 3+2).natAbs < 2 ^ 4202 ∧ 0 ≤ sc.fdiv 3 := by
  have h3 : (2 : Nat) ^ 4202 = 2 * 2 ^ 4201 := by rw [Nat.pow_succ,Nat.mul_comm]
  have h4 : (4 : Nat) ≤ 2 ^ 4201 := Nat.pow_le_pow_right (n := 2) (i := 2) (by decide) (by decide)
  rw [Int.fdiv_eq_ediv_of_nonneg _ (by decide)]
  generalize (2 : Nat) ^ 4202 = A at *
  generalize (2 : Nat) ^ 4201 = B at *
  omega
theorem t18_num {n uv nv dv sc : Int} (hs : sc.natAbs < 2 ^ 4201) (hs2 : 2 ≤ sc) (hst : n * uv = nv * dv) (huv : uv.natAbs < 2 ^ 60) (hd0 : dv ≠ 0) (hdb : dv.natAbs < 2 ^ 50) (hnb : nv.natAbs < 2 ^ 90) :
    IntMulOk n uv ∧ IntMulOk (n * uv) sc ∧ IntMulOk (n * uv * sc) (sc.fdiv 3+2) ∧ IntMulOk dv sc ∧ IntMulOk nv (sc.fdiv 3+2) ∧ dv * sc ≠ 0 ∧ dv * sc < 2 ^ 7999 ∧ -(dv * sc) < 2 ^ 7999 ∧
    n * uv * sc * (sc.fdiv 3+2) + (if 0 < dv then sc - 1 else 1 - sc) < 2 ^ 8544 ∧ -(n * uv * sc * (sc.fdiv 3+2) + (if 0 < dv then sc - 1 else 1 - sc)) < 2 ^ 8544 ∧ (2 ≤ dv * sc ∨ dv * sc ≤ -2) ∧
    (n * uv * sc * (sc.fdiv 3+2) + (if 0 < dv then sc - 1 else 1 - sc)).fdiv (dv * sc) = nv * (sc.fdiv 3+2) ∧ (n * uv * sc * (sc.fdiv 3+2) + (if 0 < dv then sc - 1 else 1 - sc)).fmod (dv * sc) = (if 0 < dv then sc - 1 else 1 - sc) := by
  have hz := (z_abs hs hs2).1
  generalize sc.fdiv 3+2 = W at *
  have a1 : (n * uv).natAbs < 2 ^ 140 := by rw [hst]; exact nmul hnb hdb
  have a2 := nmul a1 hs
  have a3 := nmul a2 hz
  have b1 := nmul hdb hs
  have hr : (if 0 < dv then sc - 1 else 1 - sc).natAbs < 2 ^ 4201 := by
    generalize (2 : Nat) ^ 4201 = A at *
    split <;> omega
  have hsum : (n * uv * sc * W + (if 0 < dv then sc - 1 else 1 - sc)).natAbs < 2 ^ 8544 := by
    have h1 : (2 : Nat) ^ 8544 = 2 * 2 ^ 8543 := by rw [Nat.pow_succ,Nat.mul_comm]
    have h2 := nmono hr (show 4201 ≤ 8543 by decide)
    rw [h1]
    have h3 := Int.natAbs_add_le (n * uv * sc * W) (if 0 < dv then sc - 1 else 1 - sc)
    rw [show 140+4201+4202 = 8543 from rfl] at a3
    generalize (2 : Nat) ^ 8543 = A at *
    omega
  have hbig : (2 ≤ dv * sc ∧ 0 < dv ∧ sc ≤ dv * sc) ∨ (dv * sc ≤ -2 ∧ dv < 0 ∧ dv * sc ≤ -sc) := by
    by_cases hp : 0 < dv
    · left
      have := Int.mul_le_mul_of_nonneg_right (show 1 ≤ dv by omega) (show 0 ≤ sc by omega)
      rw [Int.one_mul] at this
      omega
    · right
      have := Int.mul_le_mul_of_nonneg_right (show dv ≤ -1 by omega) (show 0 ≤ sc by omega)
      rw [Int.neg_mul,Int.one_mul] at this
      omega
  have hdm : (n * uv * sc * W + (if 0 < dv then sc - 1 else 1 - sc)).fdiv (dv * sc) = nv * W ∧ (n * uv * sc * W + (if 0 < dv then sc - 1 else 1 - sc)).fmod (dv * sc) = (if 0 < dv then sc - 1 else 1 - sc) := by
    have e : n * uv * sc * W = nv * W * (dv * sc) := by
      rw [hst,Int.mul_assoc nv dv sc,Int.mul_assoc nv (dv * sc) W,Int.mul_comm (dv * sc) W,Int.mul_assoc]
    rw [e]
    refine fdm_of ?_
    rcases hbig with ⟨h1,h2,h3⟩ | ⟨h1,h2,h3⟩
    · rw [if_pos h2]; left; omega
    · rw [if_neg (by omega)]; right; omega
  have l1 := npow (nmono b1 (show 50+4201 ≤ 7999 by decide))
  have l2 := npow hsum
  exact ⟨IntMulOk.of_right (Nat.le_trans (intBits_le huv) (by decide)),nok a1 hs (by decide) (by decide),nok a2 hz (by decide) (by decide),nok hdb hs (by decide) (by decide),nok hnb hz (by decide) (by decide),by omega,l1.1,l1.2,l2.1,l2.2,by omega,hdm.1,hdm.2⟩
@[reducible] noncomputable def stFor18 : Stmt := by
  have e := Eq.refl (lawAt 18)
  conv at e => rhs; whnf
  exact rhsOf e
@[reducible] noncomputable def stFor19 : Stmt := by
  have e := Eq.refl (lawAt 19)
  conv at e => rhs; whnf
  exact rhsOf e
theorem words_a55 : True := by
  k_with_none
  k_with "k_ne" => (refine neN ?_; (try dsimp only); first | (with_reducible assumption) | (refine Ne.symm ?_; with_reducible assumption))
  k_with "zin" => (intro q hq; (repeat (first | exact hq | refine List.mem_cons_of_mem _ ?_)))
  k_with "subscriptTail" => ((with_reducible show wpAny _ _ (subscriptTail _ _ (Value.ref _) (Value.int _ _)) _ _ _); (with_reducible rename News _ _ _ _ => N'); first
  | (refine z_item N' (by with_reducible assumption) (by with_reducible assumption) (by walk_at "zin") (by omega) (by omega) ?_)
  | (refine zrow_item N' (by with_reducible assumption) (by with_reducible assumption) (by walk_at "zin") (by omega) (by omega) ?_; intro _)
  | (refine gen_item N' (by k_mem) (by with_reducible assumption) (by omega) (by omega) ?_))
  k_with "binaryOp Mult int int" => (with_reducible refine mul_to (by with_reducible assumption) (by with_reducible assumption) ?_)
  k_with "omega" => lia
  exact trivial
theorem t19_b0 {w : World} {p : Program} {loose : List Str} {mean : ExcName → Option Value} {mg mb : Str → Option Value}
    {dp un : Nat} {gd : Option (List Code)} {L fa : Addr} {A₀ : Around} {base h₀ : Heap} {s : Shared} {Q : Flow → Shared → Prop} {E : Value → Shared → Prop}
    (B : Below A₀ base [] h₀) (X : (Mine.hd.heap_1 w.params).In h₀) (T : Top p loose mean mg mb h₀) (hd : dp+100 < recursionLimit) (hu : un+600 < cLine)
    (ch1 : CodeHd h₀ 41 37) (ch2 : CodeHd h₀ 34 30) (ch3 : CodeHd h₀ 136 134)
   {m : Str → Option Value} {jk jq yk jm jt jp jr jl o30 o37 : Obj} {R c30 c37 T0 T1 T2 T3 T4 T5 : Addr} {kR : Nat} {ps ps30 ps37 : Array Value} {zs : List (Addr × Obj)}
   (hl : @LT.lt Nat _ 134 L) (hz : OffZ L zs) (hR : AllNe R ((L+1+1+1+1+1+1+1+1,jk)::(L+1+1+1+1+1+1+1,jq)::(L+1+1+1+1+1+1,yk)::(L+1+1+1+1+1,jm)::(L+1+1+1+1,jt)::(L+1+1+1,jp)::(L+1+1,jr)::(L+1,jl)::(37,tabObj ps37)::(30,tabObj ps30)::(134,tabObj ps)::[])) (hzR : ∀ q ∈ zs,@Ne Nat q.1 R) (DM : DmT ps30 ps37 c30 c37 o30 o37) (n30 : AllNe c30 ((R,listOf #[.ref T0,.ref T1,.ref T2,.ref T3,.ref T4,.ref T5] kR)::(L+1+1+1+1+1+1+1+1,jk)::(L+1+1+1+1+1+1+1,jq)::(L+1+1+1+1+1+1,yk)::(L+1+1+1+1+1,jm)::(L+1+1+1+1,jt)::(L+1+1+1,jp)::(L+1+1,jr)::(L+1,jl)::(134,tabObj ps)::zs)) (n37 : AllNe c37 ((R,listOf #[.ref T0,.ref T1,.ref T2,.ref T3,.ref T4,.ref T5] kR)::(L+1+1+1+1+1+1+1+1,jk)::(L+1+1+1+1+1+1+1,jq)::(L+1+1+1+1+1+1,yk)::(L+1+1+1+1+1,jm)::(L+1+1+1+1,jt)::(L+1+1+1,jp)::(L+1+1,jr)::(L+1,jl)::(134,tabObj ps)::zs)) (rest : List Stmt) {k : Nat} {DN : Addr} {dnL : List Value} {kD : Nat} {sc dv : Int} {tk tc td : Tok} (hk : k < 6) (F : Fr h₀ L s.heap m) (N : News h₀ L s.heap ((c30,o30)::(c37,o37)::(R,listOf #[.ref T0,.ref T1,.ref T2,.ref T3,.ref T4,.ref T5] kR)::(L+1+1+1+1+1+1+1+1,jk)::(L+1+1+1+1+1+1+1,jq)::(L+1+1+1+1+1+1,yk)::(L+1+1+1+1+1,jm)::(L+1+1+1+1,jt)::(L+1+1+1,jp)::(L+1+1,jr)::(L+1,jl)::(37,tabObj ps37)::(30,tabObj ps30)::(134,tabObj ps)::zs))
   (mk : m (Str.ofString "k") = some (.int (k : Int) tk)) (mc : m (Str.ofString "scale") = some (.int sc tc)) (mdn : m (Str.ofString "downs") = some (.ref DN)) (hDN : (DN,listOf dnL.toArray kD) ∈ zs) (hx : dnL[((k : Int)).toNat]? = some (.int dv td))
   (fin : ∀ h tk' m' tr,Fr h₀ L h m' → News h₀ L h ((c30,o30)::(c37,o37)::(R,listOf #[.ref T0,.ref T1,.ref T2,.ref T3,.ref T4,.ref T5] kR)::(L+1+1+1+1+1+1+1+1,jk)::(L+1+1+1+1+1+1+1,jq)::(L+1+1+1+1+1+1,yk)::(L+1+1+1+1+1,jm)::(L+1+1+1+1,jt)::(L+1+1+1,jp)::(L+1+1,jr)::(L+1,jl)::(37,tabObj ps37)::(30,tabObj ps30)::(134,tabObj ps)::zs) → (∀ y,y ≠ Str.ofString "rest" → m' y = m y) → m' (Str.ofString "rest") = some (.int (if 0 < dv then sc - 1 else 1 - sc) tr) → wpAny (model pw_ty0047_01 w) (lawA dp un gd L fa) (execs rest (lawEnv L fa)) Q E { s with heap := h,toks := tk' })
   : wpAny (model pw_ty0047_01 w) (lawA dp un gd L fa) (execs (st19b0::rest) (lawEnv L fa)) Q E s := by
  w_top off
  k_steps
  · rename dv > 0 => hp
    rw [if_pos (show 0 < dv from hp)] at fin
    exact fin _ _ _ _ (by assumption) (by assumption) (fun y h1 => if_neg h1) (by walk_at "k_opq")
  · rename ¬ dv > 0 => hp
    rw [if_neg (show ¬ 0 < dv from hp)] at fin
    exact fin _ _ _ _ (by assumption) (by assumption) (fun y h1 => if_neg h1) (by walk_at "k_opq")
theorem t19_num {dv sc fv : Int} (hs : sc.natAbs < 2 ^ 4201) (hs2 : 2 ≤ sc) (hd0 : dv ≠ 0) (hdb : dv.natAbs < 2 ^ 50) (hf : fv.natAbs < 2 ^ 4210) :
    IntMulOk dv sc ∧ IntMulOk (dv * sc) fv ∧ dv * sc ≠ 0 ∧ dv * sc < 2 ^ 7999 ∧ -(dv * sc) < 2 ^ 7999 ∧
    dv * sc * fv + (if 0 < dv then sc - 1 else 1 - sc) < 2 ^ 8544 ∧ -(dv * sc * fv + (if 0 < dv then sc - 1 else 1 - sc)) < 2 ^ 8544 ∧ (2 ≤ dv * sc ∨ dv * sc ≤ -2) ∧
    (dv * sc * fv + (if 0 < dv then sc - 1 else 1 - sc)).fdiv (dv * sc) = fv ∧ (dv * sc * fv + (if 0 < dv then sc - 1 else 1 - sc)).fmod (dv * sc) = (if 0 < dv then sc - 1 else 1 - sc) := by
  have b1 := nmul hdb hs
  have a3 := nmono (nmul b1 hf) (show 50+4201+4210 ≤ 8543 by decide)
  have hr : (if 0 < dv then sc - 1 else 1 - sc).natAbs < 2 ^ 4201 := by
    generalize (2 : Nat) ^ 4201 = A at *
    split <;> omega
  have hsum : (dv * sc * fv + (if 0 < dv then sc - 1 else 1 - sc)).natAbs < 2 ^ 8544 := by
    have h1 : (2 : Nat) ^ 8544 = 2 * 2 ^ 8543 := by rw [Nat.pow_succ,Nat.mul_comm]
    have h2 := nmono hr (show 4201 ≤ 8543 by decide)
    rw [h1]
    have h3 := Int.natAbs_add_le (dv * sc * fv) (if 0 < dv then sc - 1 else 1 - sc)
    generalize (2 : Nat) ^ 8543 = A at *
    omega
  have hbig : (2 ≤ dv * sc ∧ 0 < dv ∧ sc ≤ dv * sc) ∨ (dv * sc ≤ -2 ∧ dv < 0 ∧ dv * sc ≤ -sc) := by
    by_cases hp : 0 < dv
    · left
      have := Int.mul_le_mul_of_nonneg_right (show 1 ≤ dv by omega) (show 0 ≤ sc by omega)
      rw [Int.one_mul] at this
      omega
    · right
      have := Int.mul_le_mul_of_nonneg_right (show dv ≤ -1 by omega) (show 0 ≤ sc by omega)
      rw [Int.neg_mul,Int.one_mul] at this
      omega
  have hdm : (dv * sc * fv + (if 0 < dv then sc - 1 else 1 - sc)).fdiv (dv * sc) = fv ∧ (dv * sc * fv + (if 0 < dv then sc - 1 else 1 - sc)).fmod (dv * sc) = (if 0 < dv then sc - 1 else 1 - sc) := by
    rw [Int.mul_comm (dv * sc) fv]
    refine fdm_of ?_
    rcases hbig with ⟨h1,h2,h3⟩ | ⟨h1,h2,h3⟩
    · rw [if_pos h2]; left; omega
    · rw [if_neg (by omega)]; right; omega
  have l1 := npow (nmono b1 (show 50+4201 ≤ 7999 by decide))
  have l2 := npow hsum
  exact ⟨nok hdb hs (by decide) (by decide),nok b1 hf (by decide) (by decide),by omega,l1.1,l1.2,l2.1,l2.2,by omega,hdm.1,hdm.2⟩
noncomputable def tgtOf : Stmt → Expr
  | .For t _ _ _ _ => t
  | _ => .Constant .none 0 default
@[reducible] noncomputable def itTgt19 : Expr := by
  have e := Eq.refl (tgtOf (lawAt 19))
  conv at e => rhs; whnf
  exact rhsOf e
noncomputable abbrev tupI (x y : Int) (t u : Tok) : Obj := { cls := .type "tuple", data := .seq #[.int x t,.int y u] }
theorem words_a56 : True := by
  k_with_none
  k_with "k_ne" => (refine neN ?_; (try dsimp only); first | (with_reducible assumption) | (refine Ne.symm ?_; with_reducible assumption))
  exact trivial
theorem inM {jk jq yk jm jt jp jr jl o30 o37 : Obj} {L R c30 c37 T0 T1 T2 T3 T4 T5 : Addr} {kR : Nat} {ps ps30 ps37 : Array Value} {zs : List (Addr × Obj)} : ∀ q ∈ ((R,listOf #[.ref T0,.ref T1,.ref T2,.ref T3,.ref T4,.ref T5] kR)::(L+1+1+1+1+1+1+1+1,jk)::(L+1+1+1+1+1+1+1,jq)::(L+1+1+1+1+1+1,yk)::(L+1+1+1+1+1,jm)::(L+1+1+1+1,jt)::(L+1+1+1,jp)::(L+1+1,jr)::(L+1,jl)::(134,tabObj ps)::[] : List (Addr × Obj)),q ∈ ((c30,o30)::(c37,o37)::(R,listOf #[.ref T0,.ref T1,.ref T2,.ref T3,.ref T4,.ref T5] kR)::(L+1+1+1+1+1+1+1+1,jk)::(L+1+1+1+1+1+1+1,jq)::(L+1+1+1+1+1+1,yk)::(L+1+1+1+1+1,jm)::(L+1+1+1+1,jt)::(L+1+1+1,jp)::(L+1+1,jr)::(L+1,jl)::(37,tabObj ps37)::(30,tabObj ps30)::(134,tabObj ps)::zs : List (Addr × Obj)) := by
  walk_at "z_sub"
theorem allNe_lt {A : Addr} {l : List (Addr × Obj)} (h : AllLt A l) : AllNe A l := allNe_of fun q hq => Nat.ne_of_lt (tb_ltOf h q hq)
noncomputable def starRows (P Q : Int) : List (UInt64 × Int × Int) := [(hueB 0,P+1,Q),(hueB 1,P,Q+1),(hueB 2,P - 1,Q+1),(hueB 3,P - 1,Q),(hueB 4,P,Q - 1),(hueB 5,P+1,Q - 1)]
theorem rowA_0 : ∀ p q : Fin 4,rowA [] (((p.val : Nat) : Int)+1) (((q.val : Nat) : Int)+1) = starRows (((p.val : Nat) : Int)+1) (((q.val : Nat) : Int)+1) := by decide +kernel
theorem words_a57 : True := by
  k_with "omega" => lia
  exact trivial
theorem rowA_all {P Q : Int} (h1 : 1 ≤ P) (h2 : P ≤ 4) (h3 : 1 ≤ Q) (h4 : Q ≤ 4) : rowA [] P Q = starRows P Q := by
  have h := rowA_0 ⟨(P - 1).toNat,by omega⟩ ⟨(Q - 1).toNat,by omega⟩
  simp only [show (((P - 1).toNat : Nat) : Int) = P - 1 by omega,show (((Q - 1).toNat : Nat) : Int) = Q - 1 by omega,Int.sub_add_cancel] at h
  exact h
theorem RowZ.one {zs : List (Addr × Obj)} {xs : List Value} {x : UInt64} {i j : Int} {r : List (UInt64 × Int × Int)} (h : RowZ zs xs ((x,i,j)::r)) : ∃ (T : Addr) (t u v : Tok) (ys : List Value),xs = .ref T::ys ∧ (T,triO x t (.int i u) (.int j v)) ∈ zs ∧ RowZ zs ys r := by
  cases h with
  | cons h r => exact ⟨_,_,_,_,_,rfl,h,r⟩
theorem RowZ.end_ {zs : List (Addr × Obj)} {xs : List Value} (h : RowZ zs xs []) : xs = [] := by
  cases h
  rfl
noncomputable def ubOk (f s P Q : Int) : Bool :=
  let u := lucU f s
  decide ((u (P + Q+1)).natAbs < 2 ^ 60) && decide ((u P).natAbs < 2 ^ 60) && decide ((u Q).natAbs < 2 ^ 60)
theorem ubs_1 : ∀ f : Fin 20,∀ p q : Fin 4,ubOk (((f.val : Nat) : Int)+1) (-1) (((p.val : Nat) : Int)+1) (((q.val : Nat) : Int)+1) = true := by decide +kernel
theorem ubs_2 : ∀ f : Fin 20,∀ p q : Fin 4,ubOk (-(((f.val : Nat) : Int)+1)) (-1) (((p.val : Nat) : Int)+1) (((q.val : Nat) : Int)+1) = true := by decide +kernel
theorem ubs_3 : ∀ f : Fin 19,∀ p q : Fin 4,ubOk (((f.val : Nat) : Int)+2) 1 (((p.val : Nat) : Int)+1) (((q.val : Nat) : Int)+1) = true := by decide +kernel
theorem ubs_4 : ∀ f : Fin 19,∀ p q : Fin 4,ubOk (-(((f.val : Nat) : Int)+2)) 1 (((p.val : Nat) : Int)+1) (((q.val : Nat) : Int)+1) = true := by decide +kernel
theorem bis_grey : bisR 0 [hueB 0,hueB 1,hueB 2,hueB 3,hueB 4,hueB 5] 6 0 6 = 1 := by decide +kernel
theorem heads (a0 a1 a2 a3 a4 a5 : Int) : (1 ≤ 1 + a0.fmod 4 ∧ 1 + a0.fmod 4 ≤ 4) ∧ (1 ≤ 1 + a1.fmod 4 ∧ 1 + a1.fmod 4 ≤ 4) ∧ (0 ≤ a4.fmod 31 ∧ a4.fmod 31 ≤ 30) ∧ (1 ≤ 1 + (a4.fdiv 31).fmod 33 ∧ 1 + (a4.fdiv 31).fmod 33 ≤ 33) ∧
    ((a3.fdiv 2).fmod 2 = 0 ∨ (a3.fdiv 2).fmod 2 = 1) ∧ (0 ≤ a5.fmod 4200 ∧ a5.fmod 4200 < 4200) := by
  have k : ∀ (x : Int) (b : Int),0 < b → 0 ≤ x.fmod b ∧ x.fmod b < b := fun x b hb => ⟨Int.fmod_nonneg_of_pos _ hb,Int.fmod_lt_of_pos _ hb⟩
  have h0 := k a0 4 (by decide)
  have h1 := k a1 4 (by decide)
  have h2 := k a4 31 (by decide)
  have h3 := k (a4.fdiv 31) 33 (by decide)
  have h4 := k (a3.fdiv 2) 2 (by decide)
  have h5 := k a5 4200 (by decide)
  omega
theorem firsts (a2 a3 f s : Int) (hf : f = 1 + a2.fmod 20 - 2 * (1 + a2.fmod 20) * (a2.fdiv 20).fmod 2) (hs : s = if 1 + a2.fmod 20 = 1 then -1 else 2 * a3.fmod 2 - 1) : (-20 ≤ f ∧ f ≤ 20 ∧ f ≠ 0) ∧ (s = 1 ∨ s = -1) ∧ ((f = 1 ∨ f = -1) → s = -1) := by
  have k : ∀ (x : Int) (b : Int),0 < b → 0 ≤ x.fmod b ∧ x.fmod b < b := fun x b hb => ⟨Int.fmod_nonneg_of_pos _ hb,Int.fmod_lt_of_pos _ hb⟩
  have h0 := k a2 20 (by decide)
  have h1 := k (a2.fdiv 20) 2 (by decide)
  have h2 := k a3 2 (by decide)
  generalize a2.fmod 20 = x at *
  generalize a3.fmod 2 = z at *
  generalize (a2.fdiv 20).fmod 2 = y at *
  have hy : y = 0 ∨ y = 1 := by omega
  have hsc : s = 1 ∨ s = -1 := by
    rw [hs]
    split <;> omega
  have hs1 : x = 0 → s = -1 := fun hx => by rw [hs,if_pos (by omega)]
  rcases hy with rfl | rfl
  · rw [Int.mul_zero,Int.sub_zero] at hf
    exact ⟨by omega,hsc,fun h => hs1 (by omega)⟩
  · rw [Int.mul_one] at hf
    exact ⟨by omega,hsc,fun h => hs1 (by omega)⟩
noncomputable def fisOk (f s : Int) : Bool := decide ((-20 ≤ f ∧ f ≤ 20 ∧ f ≠ 0) ∧ (s = 1 ∨ s = -1) ∧ ((f = 1 ∨ f = -1) → s = -1))
noncomputable def smallU (f s : Int) (P Q : Int) : Bool :=
  let n := nbV (lucasL f s) s P Q
  let u := lucU f s
  -- the star: the middle's number times the ups is each neighbour's times the downs
  decide (n * u (P + Q+1) = nbV (lucasL f s) s (P+1) Q * u (P+1)) &&
  decide (n * u (P + Q+1) = nbV (lucasL f s) s P (Q+1) * u (Q+1)) &&
  decide (n * u P = nbV (lucasL f s) s (P - 1) (Q+1) * u (Q+1)) &&
  decide (n * u P = nbV (lucasL f s) s (P - 1) Q * u (P + Q)) &&
  decide (n * u Q = nbV (lucasL f s) s P (Q - 1) * u (P + Q)) &&
  decide (n * u Q = nbV (lucasL f s) s (P+1) (Q - 1) * u (P+1)) &&
  decide (u (P+1) ≠ 0) && decide (u (Q+1) ≠ 0) && decide (u (P + Q) ≠ 0) &&
  decide ((u (P+1)).natAbs < 2 ^ 50) && decide ((u (Q+1)).natAbs < 2 ^ 50) && decide ((u (P + Q)).natAbs < 2 ^ 50) &&
  decide ((nbV (lucasL f s) s (P+1) Q).natAbs < 2 ^ 90) && decide ((nbV (lucasL f s) s P (Q+1)).natAbs < 2 ^ 90) && decide ((nbV (lucasL f s) s (P - 1) (Q+1)).natAbs < 2 ^ 90) &&
  decide ((nbV (lucasL f s) s (P - 1) Q).natAbs < 2 ^ 90) && decide ((nbV (lucasL f s) s P (Q - 1)).natAbs < 2 ^ 90) && decide ((nbV (lucasL f s) s (P+1) (Q - 1)).natAbs < 2 ^ 90)
theorem star_1 : ∀ f : Fin 20,∀ p q : Fin 4,smallU (((f.val : Nat) : Int)+1) (-1) (((p.val : Nat) : Int)+1) (((q.val : Nat) : Int)+1) = true := by decide +kernel
theorem star_2 : ∀ f : Fin 20,∀ p q : Fin 4,smallU (-(((f.val : Nat) : Int)+1)) (-1) (((p.val : Nat) : Int)+1) (((q.val : Nat) : Int)+1) = true := by decide +kernel
theorem star_3 : ∀ f : Fin 19,∀ p q : Fin 4,smallU (((f.val : Nat) : Int)+2) 1 (((p.val : Nat) : Int)+1) (((q.val : Nat) : Int)+1) = true := by decide +kernel
theorem star_4 : ∀ f : Fin 19,∀ p q : Fin 4,smallU (-(((f.val : Nat) : Int)+2)) 1 (((p.val : Nat) : Int)+1) (((q.val : Nat) : Int)+1) = true := by decide +kernel
theorem news_cls {h₀ h : Heap} {L a b : Addr} {o o' : Obj} {news : List (Addr × Obj)} (N : News h₀ L h news) (h1 : (a,o) ∈ news) (h2 : (b,o') ∈ news) (hd : o.cls ≠ o'.cls) : @Ne Nat a b := fun e => by
  subst e
  have e1 := (N _ h1).1
  rw [(N _ h2).1] at e1
  cases e1
  exact hd rfl
theorem mv2 {α : Type} {a zs : List α} {x y : α} : ∀ q ∈ a ++ (x::y::zs),q ∈ x::y::(a ++ zs) := fun q hq => by
  rcases List.mem_append.mp hq with hq | hq
  · exact .tail _ (.tail _ (List.mem_append_left _ hq))
  · rcases List.mem_cons.mp hq with rfl | hq
    · exact .head _
    · rcases List.mem_cons.mp hq with rfl | hq
      · exact .tail _ (.head _)
      · exact .tail _ (.tail _ (List.mem_append_right _ hq))
theorem mv5 {α : Type} {a zs : List α} {x y b c d : α} : ∀ q ∈ x::y::(a ++ (b::c::d::zs)),q ∈ a ++ (b::c::d::x::y::zs) := fun q hq => by
  rcases List.mem_cons.mp hq with rfl | hq
  · exact List.mem_append_right _ (.tail _ (.tail _ (.tail _ (.head _))))
  · rcases List.mem_cons.mp hq with rfl | hq
    · exact List.mem_append_right _ (.tail _ (.tail _ (.tail _ (.tail _ (.head _)))))
    · rcases List.mem_append.mp hq with hq | hq
      · exact List.mem_append_left _ hq
      · refine List.mem_append_right _ ?_
        rcases List.mem_cons.mp hq with rfl | hq
        · exact .head _
        · rcases List.mem_cons.mp hq with rfl | hq
          · exact .tail _ (.head _)
          · rcases List.mem_cons.mp hq with rfl | hq
            · exact .tail _ (.tail _ (.head _))
            · exact .tail _ (.tail _ (.tail _ (.tail _ (.tail _ hq))))
theorem mv1 {α : Type} {a zs : List α} {x y : α} : ∀ q ∈ y::(a ++ (x::zs)),q ∈ y::x::(a ++ zs) := fun q hq => by
  rcases List.mem_cons.mp hq with rfl | hq
  · exact .head _
  · rcases List.mem_append.mp hq with hq | hq
    · exact .tail _ (.tail _ (List.mem_append_left _ hq))
    · rcases List.mem_cons.mp hq with rfl | hq
      · exact .tail _ (.head _)
      · exact .tail _ (.tail _ (List.mem_append_right _ hq))
theorem mvR {α : Type} {a n zs : List α} {x y t : α} : ∀ q ∈ y::x::(a ++ (t::(n ++ zs))),q ∈ y::(a ++ (t::(n ++ x::zs))) := fun q hq => by
  rcases List.mem_cons.mp hq with rfl | hq
  · exact .head _
  · rcases List.mem_cons.mp hq with rfl | hq
    · exact .tail _ (List.mem_append_right _ (.tail _ (List.mem_append_right _ (.head _))))
    · rcases List.mem_append.mp hq with hq | hq
      · exact .tail _ (List.mem_append_left _ hq)
      · rcases List.mem_cons.mp hq with rfl | hq
        · exact .tail _ (List.mem_append_right _ (.head _))
        · rcases List.mem_append.mp hq with hq | hq
          · exact .tail _ (List.mem_append_right _ (.tail _ (List.mem_append_left _ hq)))
          · exact .tail _ (List.mem_append_right _ (.tail _ (List.mem_append_right _ (.tail _ hq))))
theorem mvS {α : Type} {n zs : List α} {x t : α} : ∀ q ∈ t::(n ++ zs),q ∈ t::(n ++ x::zs) := fun q hq => by
  rcases List.mem_cons.mp hq with rfl | hq
  · exact .head _
  · rcases List.mem_append.mp hq with hq | hq
    · exact .tail _ (List.mem_append_left _ hq)
    · exact .tail _ (List.mem_append_right _ (.tail _ hq))
theorem TabZ.drop {t : Addr × Obj} {n zs : List (Addr × Obj)} {D : Addr} {o : Obj} {ps : Array Value} (hd : ∀ cvs,o.data ≠ .fields cvs) (h : TabZ (t::(n ++ (D,o)::zs)) ps) : TabZ (t::(n ++ zs)) ps := by
  refine ⟨h.1,fun pos cv e => ?_⟩
  obtain ⟨c',oc,cvs,tk,a',hm,hoc,hv⟩ := h.2 pos cv e
  refine ⟨c',oc,cvs,tk,a',?_,hoc,hv⟩
  rcases List.mem_cons.mp hm with h | h
  · rw [h]; exact .head _
  · rcases List.mem_append.mp h with h | h
    · exact .tail _ (List.mem_append_left _ h)
    · rcases List.mem_cons.mp h with h | h
      · rw [(Prod.mk.inj h).2] at hoc
        exact absurd hoc (hd cvs)
      · exact .tail _ (List.mem_append_right _ h)
namespace C2
def PP_law_n23 (w : World) (p : Program) (loose : List Str) (mean : ExcName → Option Value) (mg : Str → Option Value) (mb : Str → Option Value) (dp : Nat) (un : Nat) (gd : Option (List Code)) (L : Addr) (fa : Addr) (A₀ : Around) (base : Heap) (h₀ : Heap) (s : Shared) (Q : Flow → Shared → Prop) (E : Value → Shared → Prop) (m : Str → Option Value) (jk : Obj) (jq : Obj) (yk : Obj) (jm : Obj) (jt : Obj) (jp : Obj) (jr : Obj) (jl : Obj) (o30 : Obj) (o37 : Obj) (t37 : Obj) (t30 : Obj) (t134 : Obj) (R : Addr) (c30 : Addr) (c37 : Addr) (T0 : Addr) (T1 : Addr) (T2 : Addr) (T3 : Addr) (T4 : Addr) (T5 : Addr) (kR : Nat) (ps : Array Value) (zs : List (Addr × Obj)) (rest : List Stmt) (D1 : Addr) (D2 : Addr) (NB : Addr) (nbL : List Value) (kN : Nat) (i0 : Int) (i1 : Int) (i2 : Int) (j0 : Int) (j1 : Int) (j2 : Int) (n0 : Int) (n1 : Int) (n2 : Int) (p0 : Int) (p1 : Int) (p2 : Int) (it0 : Tok) (it1 : Tok) (it2 : Tok) (jt0 : Tok) (jt1 : Tok) (jt2 : Tok) (nt0 : Tok) (nt1 : Tok) (nt2 : Tok) (pt0 : Tok) (pt1 : Tok) (pt2 : Tok) : Prop := ∀ (B : Below A₀ base [] h₀) (X : (Mine.hd.heap_1 w.params).In h₀) (T : Top p loose mean mg mb h₀) (hd : dp+100 < recursionLimit) (hu : un+600 < cLine) (ch1 : CodeHd h₀ 41 37) (ch2 : CodeHd h₀ 34 30) (ch3 : CodeHd h₀ 136 134) (hl : @LT.lt Nat _ 134 L) (hR : AllNe R ((L+1+1+1+1+1+1+1+1,jk)::(L+1+1+1+1+1+1+1,jq)::(L+1+1+1+1+1+1,yk)::(L+1+1+1+1+1,jm)::(L+1+1+1+1,jt)::(L+1+1+1,jp)::(L+1+1,jr)::(L+1,jl)::(37,t37)::(30,t30)::(134,t134)::[])) (n30 : AllNe c30 ((R,listOf #[.ref T0,.ref T1,.ref T2,.ref T3,.ref T4,.ref T5] kR)::(L+1+1+1+1+1+1+1+1,jk)::(L+1+1+1+1+1+1+1,jq)::(L+1+1+1+1+1+1,yk)::(L+1+1+1+1+1,jm)::(L+1+1+1+1,jt)::(L+1+1+1,jp)::(L+1+1,jr)::(L+1,jl)::(134,t134)::[])) (n37 : AllNe c37 ((R,listOf #[.ref T0,.ref T1,.ref T2,.ref T3,.ref T4,.ref T5] kR)::(L+1+1+1+1+1+1+1+1,jk)::(L+1+1+1+1+1+1+1,jq)::(L+1+1+1+1+1+1,yk)::(L+1+1+1+1+1,jm)::(L+1+1+1+1,jt)::(L+1+1+1,jp)::(L+1+1,jr)::(L+1,jl)::(134,t134)::[])) (DL : DmL c30 c37 o30 o37) (Z : ZB L R c30 c37 zs ps) (F : Fr h₀ L s.heap m) (N : News h₀ L s.heap ((c30,o30)::(c37,o37)::(R,listOf #[.ref T0,.ref T1,.ref T2,.ref T3,.ref T4,.ref T5] kR)::(L+1+1+1+1+1+1+1+1,jk)::(L+1+1+1+1+1+1+1,jq)::(L+1+1+1+1+1+1,yk)::(L+1+1+1+1+1,jm)::(L+1+1+1+1,jt)::(L+1+1+1,jp)::(L+1+1,jr)::(L+1,jl)::(37,tab37 c37)::(30,tab30 c30)::(134,tabObj ps)::zs)) (cn : jk.data = .cell (some (.ref NB))) (hNB : (NB,listOf nbL.toArray kN) ∈ zs) (m1 : m (Str.ofString "ones") = some (.ref D1)) (m2 : m (Str.ofString "others") = some (.ref D2)) (hD1 : (D1,listOf #[.int i0 it0,.int i1 it1,.int i2 it2] 3) ∈ zs) (hD2 : (D2,listOf #[.int j0 jt0,.int j1 jt1,.int j2 jt2] 3) ∈ zs) (bi0 : 0 ≤ i0 ∧ i0 < 10) (ei0 : 0 ≤ i0 ∧ i0 < 10 ∧ nbL[(i0).toNat]? = some (.int n0 nt0)) (bi1 : 0 ≤ i1 ∧ i1 < 10) (ei1 : 0 ≤ i1 ∧ i1 < 10 ∧ nbL[(i1).toNat]? = some (.int n1 nt1)) (bi2 : 0 ≤ i2 ∧ i2 < 10) (ei2 : 0 ≤ i2 ∧ i2 < 10 ∧ nbL[(i2).toNat]? = some (.int n2 nt2)) (bj0 : 0 ≤ j0 ∧ j0 < 10) (ej0 : 0 ≤ (j0.fmod 6) ∧ (j0.fmod 6) < 10 ∧ nbL[((j0.fmod 6)).toNat]? = some (.int p0 pt0)) (bj1 : 0 ≤ j1 ∧ j1 < 10) (ej1 : 0 ≤ (j1.fmod 6) ∧ (j1.fmod 6) < 10 ∧ nbL[((j1.fmod 6)).toNat]? = some (.int p1 pt1)) (bj2 : 0 ≤ j2 ∧ j2 < 10) (ej2 : 0 ≤ (j2.fmod 6) ∧ (j2.fmod 6) < 10 ∧ nbL[((j2.fmod 6)).toNat]? = some (.int p2 pt2)) (hn : ∀ z ∈ [n0,n1,n2],z.natAbs < 2 ^ 4000) (hp : ∀ z ∈ [p0,p1,p2],z.natAbs < 2 ^ 4000) (hg : gcdL 0 [n0,n1,n2] = gcdL 0 [p0,p1,p2]) (fin : ∀ h tk',Fr h₀ L h m → News h₀ L h ((c30,o30)::(c37,o37)::(R,listOf #[.ref T0,.ref T1,.ref T2,.ref T3,.ref T4,.ref T5] kR)::(L+1+1+1+1+1+1+1+1,jk)::(L+1+1+1+1+1+1+1,jq)::(L+1+1+1+1+1+1,yk)::(L+1+1+1+1+1,jm)::(L+1+1+1+1,jt)::(L+1+1+1,jp)::(L+1+1,jr)::(L+1,jl)::(37,tab37 c37)::(30,tab30 c30)::(134,tabObj ps)::zs) → Q (.ret (.bool true)) { s with heap := h,toks := tk' }),
  wpAny (model pw_ty0047_01 w) (lawA dp un gd L fa) (execs (lst23::rest) (lawEnv L fa)) Q E s
def PP_law_n17 (w : World) (p : Program) (loose : List Str) (mean : ExcName → Option Value) (mg : Str → Option Value) (mb : Str → Option Value) (dp : Nat) (un : Nat) (gd : Option (List Code)) (L : Addr) (fa : Addr) (A₀ : Around) (base : Heap) (h₀ : Heap) (s : Shared) (Q : Flow → Shared → Prop) (E : Value → Shared → Prop) (m : Str → Option Value) (jk : Obj) (jq : Obj) (yk : Obj) (jm : Obj) (jt : Obj) (jp : Obj) (jr : Obj) (jl : Obj) (t37 : Obj) (t30 : Obj) (R : Addr) (T0 : Addr) (T1 : Addr) (T2 : Addr) (T3 : Addr) (T4 : Addr) (T5 : Addr) (kR : Nat) (ps : Array Value) (zs : List (Addr × Obj)) (rest : List Stmt) (TB : Addr) (us : List Int) (b : Int) (i0 : Int) (j0 : Int) (i1 : Int) (j1 : Int) (i2 : Int) (j2 : Int) (i3 : Int) (j3 : Int) (i4 : Int) (j4 : Int) (i5 : Int) (j5 : Int) (x0 : UInt64) (x1 : UInt64) (x2 : UInt64) (x3 : UInt64) (x4 : UInt64) (x5 : UInt64) (t0 : Tok) (u0 : Tok) (v0 : Tok) (t1 : Tok) (u1 : Tok) (v1 : Tok) (t2 : Tok) (u2 : Tok) (v2 : Tok) (t3 : Tok) (u3 : Tok) (v3 : Tok) (t4 : Tok) (u4 : Tok) (v4 : Tok) (t5 : Tok) (u5 : Tok) (v5 : Tok) (ov : Option Value) : Prop := ∀ (B : Below A₀ base [] h₀) (X : (Mine.hd.heap_1 w.params).In h₀) (T : Top p loose mean mg mb h₀) (hd : dp+100 < recursionLimit) (hu : un+600 < cLine) (ch1 : CodeHd h₀ 41 37) (ch2 : CodeHd h₀ 34 30) (ch3 : CodeHd h₀ 136 134) (hl : @LT.lt Nat _ 134 L) (hz : OffZ L zs) (hzR : ∀ q ∈ zs,@Ne Nat q.1 R) (hR : AllNe R ((L+1+1+1+1+1+1+1+1,jk)::(L+1+1+1+1+1+1+1,jq)::(L+1+1+1+1+1+1,yk)::(L+1+1+1+1+1,jm)::(L+1+1+1+1,jt)::(L+1+1+1,jp)::(L+1+1,jr)::(L+1,jl)::(37,t37)::(30,t30)::(134,tabObj ps)::[])) (F : Fr h₀ L s.heap m) (N : News h₀ L s.heap ((R,listOf #[.ref T0,.ref T1,.ref T2,.ref T3,.ref T4,.ref T5] kR)::(L+1+1+1+1+1+1+1+1,jk)::(L+1+1+1+1+1+1+1,jq)::(L+1+1+1+1+1+1,yk)::(L+1+1+1+1+1,jm)::(L+1+1+1+1,jt)::(L+1+1+1,jp)::(L+1+1,jr)::(L+1,jl)::(37,t37)::(30,t30)::(134,tabObj ps)::zs)) (cr : yk.data = .cell (some (.ref R))) (ct : jm.data = .cell (some (.ref TB))) (cn : jk.data = .cell ov) (hTB : TabL zs TB us b) (hT0 : (T0,triO x0 t0 (.int i0 u0) (.int j0 v0)) ∈ zs) (b0 : 0 ≤ i0 ∧ i0 < 6 ∧ 0 ≤ j0 ∧ j0 < 6) (hT1 : (T1,triO x1 t1 (.int i1 u1) (.int j1 v1)) ∈ zs) (b1 : 0 ≤ i1 ∧ i1 < 6 ∧ 0 ≤ j1 ∧ j1 < 6) (hT2 : (T2,triO x2 t2 (.int i2 u2) (.int j2 v2)) ∈ zs) (b2 : 0 ≤ i2 ∧ i2 < 6 ∧ 0 ≤ j2 ∧ j2 < 6) (hT3 : (T3,triO x3 t3 (.int i3 u3) (.int j3 v3)) ∈ zs) (b3 : 0 ≤ i3 ∧ i3 < 6 ∧ 0 ≤ j3 ∧ j3 < 6) (hT4 : (T4,triO x4 t4 (.int i4 u4) (.int j4 v4)) ∈ zs) (b4 : 0 ≤ i4 ∧ i4 < 6 ∧ 0 ≤ j4 ∧ j4 < 6) (hT5 : (T5,triO x5 t5 (.int i5 u5) (.int j5 v5)) ∈ zs) (b5 : 0 ≤ i5 ∧ i5 < 6 ∧ 0 ≤ j5 ∧ j5 < 6) (fin : ∀ h tk' NB n0 n1 n2 n3 n4 n5 oN,oN.data = .cell (some (.ref NB)) → Fr h₀ L h m → News h₀ L h ((R,listOf #[.ref T0,.ref T1,.ref T2,.ref T3,.ref T4,.ref T5] kR)::(L+1+1+1+1+1+1+1+1,oN)::(L+1+1+1+1+1+1+1,jq)::(L+1+1+1+1+1+1,yk)::(L+1+1+1+1+1,jm)::(L+1+1+1+1,jt)::(L+1+1+1,jp)::(L+1+1,jr)::(L+1,jl)::(37,t37)::(30,t30)::(134,tabObj ps)::((NB,listOf #[.int (nbV us b i0 j0) n0,.int (nbV us b i1 j1) n1,.int (nbV us b i2 j2) n2,.int (nbV us b i3 j3) n3,.int (nbV us b i4 j4) n4,.int (nbV us b i5 j5) n5] 6)::zs)) → OffZ L ((NB,listOf #[.int (nbV us b i0 j0) n0,.int (nbV us b i1 j1) n1,.int (nbV us b i2 j2) n2,.int (nbV us b i3 j3) n3,.int (nbV us b i4 j4) n4,.int (nbV us b i5 j5) n5] 6)::zs) → (∀ q ∈ (NB,listOf #[.int (nbV us b i0 j0) n0,.int (nbV us b i1 j1) n1,.int (nbV us b i2 j2) n2,.int (nbV us b i3 j3) n3,.int (nbV us b i4 j4) n4,.int (nbV us b i5 j5) n5] 6)::zs,@Ne Nat q.1 R) → wpAny (model pw_ty0047_01 w) (lawA dp un gd L fa) (execs rest (lawEnv L fa)) Q E { s with heap := h,toks := tk' }),
  wpAny (model pw_ty0047_01 w) (lawA dp un gd L fa) (execs (lst17::rest) (lawEnv L fa)) Q E s
def PP_law_n8 (w : World) (p : Program) (loose : List Str) (mean : ExcName → Option Value) (mg : Str → Option Value) (mb : Str → Option Value) (dp : Nat) (un : Nat) (gd : Option (List Code)) (L : Addr) (fa : Addr) (A₀ : Around) (base : Heap) (h₀ : Heap) (s : Shared) (Q : Flow → Shared → Prop) (E : Value → Shared → Prop) (rest : List Stmt) (m : Str → Option Value) (jk : Obj) (jq : Obj) (yk : Obj) (jm : Obj) (jt : Obj) (jp : Obj) (jr : Obj) (jl : Obj) (t37 : Obj) (t30 : Obj) (t134 : Obj) (U : Addr) (kU : Nat) (P : Int) (Q' : Int) (fi : Int) (se : Int) (sc : Int) (bo : Int) (u1 : Tok) (u2 : Tok) (tf : Tok) (ts : Tok) (tc : Tok) (tb : Tok) (w0 : Tok) (w1 : Tok) (w2 : Tok) (w3 : Tok) (w4 : Tok) (w5 : Tok) (w6 : Tok) (w7 : Tok) (w8 : Tok) (w9 : Tok) : Prop := ∀ (B : Below A₀ base [] h₀) (X : (Mine.hd.heap_1 w.params).In h₀) (T : Top p loose mean mg mb h₀) (hd : dp+100 < recursionLimit) (hu : un+600 < cLine) (ch1 : CodeHd h₀ 41 37) (ch2 : CodeHd h₀ 34 30) (ch3 : CodeHd h₀ 136 134) (hl : @LT.lt Nat _ 134 L) (F : Fr h₀ L s.heap m) (N : News h₀ L s.heap ((U,listOf #[.int (lucasU 0 fi se) w0,.int (lucasU 1 fi se) w1,.int (lucasU 2 fi se) w2,.int (lucasU 3 fi se) w3,.int (lucasU 4 fi se) w4,.int (lucasU 5 fi se) w5,.int (lucasU 6 fi se) w6,.int (lucasU 7 fi se) w7,.int (lucasU 8 fi se) w8,.int (lucasU 9 fi se) w9] kU)::(L+1+1+1+1+1+1+1+1,jk)::(L+1+1+1+1+1+1+1,jq)::(L+1+1+1+1+1+1,yk)::(L+1+1+1+1+1,jm)::(L+1+1+1+1,jt)::(L+1+1+1,jp)::(L+1+1,jr)::(L+1,jl)::(37,t37)::(30,t30)::(134,t134)::[])) (hU : AllNe U ((L+1+1+1+1+1+1+1+1,jk)::(L+1+1+1+1+1+1+1,jq)::(L+1+1+1+1+1+1,yk)::(L+1+1+1+1+1,jm)::(L+1+1+1+1,jt)::(L+1+1+1,jp)::(L+1+1,jr)::(L+1,jl)::(37,t37)::(30,t30)::(134,t134)::[])) (mu : m (Str.ofString "units") = some (.ref U)) (mp : m (Str.ofString "p") = some (.int P u1)) (mq : m (Str.ofString "q") = some (.int Q' u2)) (m2 : m (Str.ofString "second") = some (.int se ts)) (m3 : m (Str.ofString "scale") = some (.int sc tc)) (m4 : m (Str.ofString "both") = some (.int bo tb)) (hb : bnd60 se) (b2 : bnd60 (lucasU 2 fi se)) (b3 : bnd60 (lucasU 3 fi se)) (b4 : bnd60 (lucasU 4 fi se)) (b5 : bnd60 (lucasU 5 fi se)) (b6 : bnd60 (lucasU 6 fi se)) (c0 : bnd60 (se * lucasU 0 fi se)) (c1 : bnd60 (se * lucasU 1 fi se)) (c2 : bnd60 (se * lucasU 2 fi se)) (c3 : bnd60 (se * lucasU 3 fi se)) (c4 : bnd60 (se * lucasU 4 fi se)) (ct : jm.data = .cell none) (cr : yk.data = .cell none) (fin : ∀ h tk' m' T R kR zs oT oR,oT.data = .cell (some (.ref T)) → oR.data = .cell (some (.ref R)) → Fr h₀ L h m' → News h₀ L h ((R,listOf #[] kR)::(L+1+1+1+1+1+1+1+1,jk)::(L+1+1+1+1+1+1+1,jq)::(L+1+1+1+1+1+1,oR)::(L+1+1+1+1+1,oT)::(L+1+1+1+1,jt)::(L+1+1+1,jp)::(L+1+1,jr)::(L+1,jl)::(37,t37)::(30,t30)::(134,t134)::zs) → OffZ L zs → (∀ q ∈ zs,@Ne Nat q.1 R) → AllNe R ((L+1+1+1+1+1+1+1+1,jk)::(L+1+1+1+1+1+1+1,jq)::(L+1+1+1+1+1+1,yk)::(L+1+1+1+1+1,jm)::(L+1+1+1+1,jt)::(L+1+1+1,jp)::(L+1+1,jr)::(L+1,jl)::(37,t37)::(30,t30)::(134,t134)::[]) → (U,listOf #[.int (lucasU 0 fi se) w0,.int (lucasU 1 fi se) w1,.int (lucasU 2 fi se) w2,.int (lucasU 3 fi se) w3,.int (lucasU 4 fi se) w4,.int (lucasU 5 fi se) w5,.int (lucasU 6 fi se) w6,.int (lucasU 7 fi se) w7,.int (lucasU 8 fi se) w8,.int (lucasU 9 fi se) w9] kU) ∈ zs → TabL zs T [lucasU 0 fi se,lucasU 1 fi se,lucasU 2 fi se,lucasU 3 fi se,lucasU 4 fi se,lucasU 5 fi se,lucasU 6 fi se,lucasU 7 fi se,lucasU 8 fi se,lucasU 9 fi se] se → m' (Str.ofString "units") = some (.ref U) → m' (Str.ofString "p") = some (.int P u1) → m' (Str.ofString "q") = some (.int Q' u2) → m' (Str.ofString "scale") = some (.int sc tc) → m' (Str.ofString "both") = some (.int bo tb) → wpAny (model pw_ty0047_01 w) (lawA dp un gd L fa) (execs rest (lawEnv L fa)) Q E { s with heap := h,toks := tk' }),
  wpAny (model pw_ty0047_01 w) (lawA dp un gd L fa) (execs (lst8::lst9::rest) (lawEnv L fa)) Q E s
def PP_law_n12 (w : World) (p : Program) (loose : List Str) (mean : ExcName → Option Value) (mg : Str → Option Value) (mb : Str → Option Value) (dp : Nat) (un : Nat) (gd : Option (List Code)) (L : Addr) (fa : Addr) (A₀ : Around) (base : Heap) (h₀ : Heap) (s : Shared) (Q : Flow → Shared → Prop) (E : Value → Shared → Prop) (m : Str → Option Value) (jk : Obj) (jq : Obj) (yk : Obj) (jm : Obj) (jt : Obj) (jp : Obj) (jr : Obj) (jl : Obj) (t37 : Obj) (t30 : Obj) (R : Addr) (T0 : Addr) (T1 : Addr) (T2 : Addr) (T3 : Addr) (T4 : Addr) (T5 : Addr) (kR : Nat) (ps : Array Value) (zs : List (Addr × Obj)) (rest : List Stmt) (WH : Int) (tw : Tok) : Prop := ∀ (B : Below A₀ base [] h₀) (X : (Mine.hd.heap_1 w.params).In h₀) (T : Top p loose mean mg mb h₀) (hd : dp+100 < recursionLimit) (hu : un+600 < cLine) (ch1 : CodeHd h₀ 41 37) (ch2 : CodeHd h₀ 34 30) (ch3 : CodeHd h₀ 136 134) (hl : @LT.lt Nat _ 134 L) (hz : OffZ L zs) (hzR : ∀ q ∈ zs,@Ne Nat q.1 R) (hR : AllNe R ((L+1+1+1+1+1+1+1+1,jk)::(L+1+1+1+1+1+1+1,jq)::(L+1+1+1+1+1+1,yk)::(L+1+1+1+1+1,jm)::(L+1+1+1+1,jt)::(L+1+1+1,jp)::(L+1+1,jr)::(L+1,jl)::(37,t37)::(30,t30)::(134,tabObj ps)::[])) (F : Fr h₀ L s.heap m) (N : News h₀ L s.heap ((R,listOf #[.ref T0,.ref T1,.ref T2,.ref T3,.ref T4,.ref T5] kR)::(L+1+1+1+1+1+1+1+1,jk)::(L+1+1+1+1+1+1+1,jq)::(L+1+1+1+1+1+1,yk)::(L+1+1+1+1+1,jm)::(L+1+1+1+1,jt)::(L+1+1+1,jp)::(L+1+1,jr)::(L+1,jl)::(37,t37)::(30,t30)::(134,tabObj ps)::zs)) (cw : jp.data = .cell (some (.int WH tw))) (cr : yk.data = .cell (some (.ref R))) (hI : Float64.isInf (fl64 WH) = false) (hself : feq (fmin3 (fl64 WH) (fl64 WH) (fl64 WH)) (fmax3 (fl64 WH) (fl64 WH) (fl64 WH)) = true) (fin : ∀ h tk' m' Ld kL G g1 g2 g3 xl,xl = hlsL (fl64 WH) (fl64 WH) (fl64 WH) → g2 ≠ 0 → Fr h₀ L h m' → News h₀ L h ((Ld,listOf #[.ref T0,.ref T1,.ref T2,.ref T3,.ref T4,.ref T5] kL)::(R,listOf #[.ref T0,.ref T1,.ref T2,.ref T3,.ref T4,.ref T5] kR)::(L+1+1+1+1+1+1+1+1,jk)::(L+1+1+1+1+1+1+1,jq)::(L+1+1+1+1+1+1,yk)::(L+1+1+1+1+1,jm)::(L+1+1+1+1,jt)::(L+1+1+1,jp)::(L+1+1,jr)::(L+1,jl)::(37,t37)::(30,t30)::(134,tabObj ps)::((G,({ cls := .type "tuple", data := .seq #[.float 0 g1,.float xl g2,.float 0 g3] } : Obj))::zs)) → OffZ L ((G,({ cls := .type "tuple", data := .seq #[.float 0 g1,.float xl g2,.float 0 g3] } : Obj))::zs) → (∀ q ∈ ((G,({ cls := .type "tuple", data := .seq #[.float 0 g1,.float xl g2,.float 0 g3] } : Obj))::zs),@Ne Nat q.1 R) → AllNe Ld ((R,listOf #[.ref T0,.ref T1,.ref T2,.ref T3,.ref T4,.ref T5] kR)::(L+1+1+1+1+1+1+1+1,jk)::(L+1+1+1+1+1+1+1,jq)::(L+1+1+1+1+1+1,yk)::(L+1+1+1+1+1,jm)::(L+1+1+1+1,jt)::(L+1+1+1,jp)::(L+1+1,jr)::(L+1,jl)::(37,t37)::(30,t30)::(134,tabObj ps)::((G,({ cls := .type "tuple", data := .seq #[.float 0 g1,.float xl g2,.float 0 g3] } : Obj))::zs)) → (∀ y,y ≠ Str.ofString "grey" → y ≠ Str.ofString "laid" → m' y = m y) → m' (Str.ofString "grey") = some (.ref G) → m' (Str.ofString "laid") = some (.ref Ld) → wpAny (model pw_ty0047_01 w) (lawA dp un gd L fa) (execs rest (lawEnv L fa)) Q E { s with heap := h,toks := tk' }),
  wpAny (model pw_ty0047_01 w) (lawA dp un gd L fa) (execs (lst11::lst12::rest) (lawEnv L fa)) Q E s
def PP_law_n14 (w : World) (p : Program) (loose : List Str) (mean : ExcName → Option Value) (mg : Str → Option Value) (mb : Str → Option Value) (dp : Nat) (un : Nat) (gd : Option (List Code)) (L : Addr) (fa : Addr) (A₀ : Around) (base : Heap) (h₀ : Heap) (s : Shared) (Q : Flow → Shared → Prop) (E : Value → Shared → Prop) (m : Str → Option Value) (jk : Obj) (jq : Obj) (yk : Obj) (jm : Obj) (jt : Obj) (jp : Obj) (jr : Obj) (jl : Obj) (t37 : Obj) (t30 : Obj) (R : Addr) (T0 : Addr) (T1 : Addr) (T2 : Addr) (T3 : Addr) (T4 : Addr) (T5 : Addr) (kR : Nat) (ps : Array Value) (zs : List (Addr × Obj)) (rest : List Stmt) (WH : Int) (P : Int) (Q' : Int) (tw : Tok) (g1 : Tok) (g2 : Tok) (g3 : Tok) (u1 : Tok) (u2 : Tok) (u3 : Tok) (u4 : Tok) (u5 : Tok) (G : Addr) (Ta : Addr) (Ld : Addr) (kL : Nat) (xl : UInt64) : Prop := ∀ (B : Below A₀ base [] h₀) (X : (Mine.hd.heap_1 w.params).In h₀) (T : Top p loose mean mg mb h₀) (hd : dp+100 < recursionLimit) (hu : un+600 < cLine) (ch1 : CodeHd h₀ 41 37) (ch2 : CodeHd h₀ 34 30) (ch3 : CodeHd h₀ 136 134) (hl : @LT.lt Nat _ 134 L) (hz : OffZ L zs) (hzR : ∀ q ∈ zs,@Ne Nat q.1 R) (hR : AllNe R ((L+1+1+1+1+1+1+1+1,jk)::(L+1+1+1+1+1+1+1,jq)::(L+1+1+1+1+1+1,yk)::(L+1+1+1+1+1,jm)::(L+1+1+1+1,jt)::(L+1+1+1,jp)::(L+1+1,jr)::(L+1,jl)::(37,t37)::(30,t30)::(134,tabObj ps)::[])) (F : Fr h₀ L s.heap m) (N : News h₀ L s.heap ((Ld,listOf #[.ref T0,.ref Ta,.ref T1,.ref T2,.ref T3,.ref T4,.ref T5] kL)::(R,listOf #[.ref T0,.ref T1,.ref T2,.ref T3,.ref T4,.ref T5] kR)::(L+1+1+1+1+1+1+1+1,jk)::(L+1+1+1+1+1+1+1,jq)::(L+1+1+1+1+1+1,yk)::(L+1+1+1+1+1,jm)::(L+1+1+1+1,jt)::(L+1+1+1,jp)::(L+1+1,jr)::(L+1,jl)::(37,t37)::(30,t30)::(134,tabObj ps)::zs)) (hLd : AllNe Ld ((R,listOf #[.ref T0,.ref T1,.ref T2,.ref T3,.ref T4,.ref T5] kR)::(L+1+1+1+1+1+1+1+1,jk)::(L+1+1+1+1+1+1+1,jq)::(L+1+1+1+1+1+1,yk)::(L+1+1+1+1+1,jm)::(L+1+1+1+1,jt)::(L+1+1+1,jp)::(L+1+1,jr)::(L+1,jl)::(37,t37)::(30,t30)::(134,tabObj ps)::zs)) (cw : jp.data = .cell (some (.int WH tw))) (cr : yk.data = .cell (some (.ref R))) (hI : Float64.isInf (fl64 WH) = false) (hx : feq xl (fl64 WH) = true) (hg2 : g2 ≠ 0) (hG : (G,({ cls := .type "tuple", data := .seq #[.float 0 g1,.float xl g2,.float 0 g3] } : Obj)) ∈ zs) (hTa : (Ta,triO 0 u3 (.int P u4) (.int Q' u5)) ∈ zs) (mg' : m (Str.ofString "grey") = some (.ref G)) (mp : m (Str.ofString "p") = some (.int P u1)) (mq : m (Str.ofString "q") = some (.int Q' u2)) (ml : m (Str.ofString "laid") = some (.ref Ld)) (fin : ∀ h tk' D1 oD,oD.cls = .type "tuple" → Fr h₀ L h m → News h₀ L h ((D1,oD)::(Ld,listOf #[.ref T0,.ref Ta,.ref T1,.ref T2,.ref T3,.ref T4,.ref T5] kL)::(R,listOf #[.ref T0,.ref T1,.ref T2,.ref T3,.ref T4,.ref T5] kR)::(L+1+1+1+1+1+1+1+1,jk)::(L+1+1+1+1+1+1+1,jq)::(L+1+1+1+1+1+1,yk)::(L+1+1+1+1+1,jm)::(L+1+1+1+1,jt)::(L+1+1+1,jp)::(L+1+1,jr)::(L+1,jl)::(37,t37)::(30,t30)::(134,tabObj ps)::zs) → AllNe D1 ((Ld,listOf #[.ref T0,.ref Ta,.ref T1,.ref T2,.ref T3,.ref T4,.ref T5] kL)::(R,listOf #[.ref T0,.ref T1,.ref T2,.ref T3,.ref T4,.ref T5] kR)::(L+1+1+1+1+1+1+1+1,jk)::(L+1+1+1+1+1+1+1,jq)::(L+1+1+1+1+1+1,yk)::(L+1+1+1+1+1,jm)::(L+1+1+1+1,jt)::(L+1+1+1,jp)::(L+1+1,jr)::(L+1,jl)::(37,t37)::(30,t30)::(134,tabObj ps)::zs) → wpAny (model pw_ty0047_01 w) (lawA dp un gd L fa) (execs rest (lawEnv L fa)) Q E { s with heap := h,toks := tk' }),
  wpAny (model pw_ty0047_01 w) (lawA dp un gd L fa) (execs (lst14::rest) (lawEnv L fa)) Q E s
def PP_law_n15 (w : World) (p : Program) (loose : List Str) (mean : ExcName → Option Value) (mg : Str → Option Value) (mb : Str → Option Value) (dp : Nat) (un : Nat) (gd : Option (List Code)) (L : Addr) (fa : Addr) (A₀ : Around) (base : Heap) (h₀ : Heap) (s : Shared) (Q : Flow → Shared → Prop) (E : Value → Shared → Prop) (m : Str → Option Value) (jk : Obj) (jq : Obj) (yk : Obj) (jm : Obj) (jt : Obj) (jp : Obj) (jr : Obj) (jl : Obj) (t37 : Obj) (t30 : Obj) (R : Addr) (T0 : Addr) (T1 : Addr) (T2 : Addr) (T3 : Addr) (T4 : Addr) (T5 : Addr) (kR : Nat) (ps : Array Value) (zs : List (Addr × Obj)) (rest : List Stmt) (P : Int) (Q' : Int) (fi : Int) (se : Int) (u1 : Tok) (u2 : Tok) (U : Addr) (vsU : List Value) (kU : Nat) : Prop := ∀ (B : Below A₀ base [] h₀) (X : (Mine.hd.heap_1 w.params).In h₀) (T : Top p loose mean mg mb h₀) (hd : dp+100 < recursionLimit) (hu : un+600 < cLine) (ch1 : CodeHd h₀ 41 37) (ch2 : CodeHd h₀ 34 30) (ch3 : CodeHd h₀ 136 134) (hl : @LT.lt Nat _ 134 L) (hz : OffZ L zs) (hzR : ∀ q ∈ zs,@Ne Nat q.1 R) (hR : AllNe R ((L+1+1+1+1+1+1+1+1,jk)::(L+1+1+1+1+1+1+1,jq)::(L+1+1+1+1+1+1,yk)::(L+1+1+1+1+1,jm)::(L+1+1+1+1,jt)::(L+1+1+1,jp)::(L+1+1,jr)::(L+1,jl)::(37,t37)::(30,t30)::(134,tabObj ps)::[])) (F : Fr h₀ L s.heap m) (N : News h₀ L s.heap ((R,listOf #[.ref T0,.ref T1,.ref T2,.ref T3,.ref T4,.ref T5] kR)::(L+1+1+1+1+1+1+1+1,jk)::(L+1+1+1+1+1+1+1,jq)::(L+1+1+1+1+1+1,yk)::(L+1+1+1+1+1,jm)::(L+1+1+1+1,jt)::(L+1+1+1,jp)::(L+1+1,jr)::(L+1,jl)::(37,t37)::(30,t30)::(134,tabObj ps)::zs)) (hUm : (U,listOf vsU.toArray kU) ∈ zs) (hUi : IntsAre vsU (lucasL fi se)) (hP1 : 1 ≤ P) (hP4 : P ≤ 4) (hQ1 : 1 ≤ Q') (hQ4 : Q' ≤ 4) (mu : m (Str.ofString "units") = some (.ref U)) (mp : m (Str.ofString "p") = some (.int P u1)) (mq : m (Str.ofString "q") = some (.int Q' u2)) (fin : ∀ h tk' m' UP DN p0 p1 p2 p3 p4 p5 d0 d1 d2 d3 d4 d5,Fr h₀ L h m' → News h₀ L h ((R,listOf #[.ref T0,.ref T1,.ref T2,.ref T3,.ref T4,.ref T5] kR)::(L+1+1+1+1+1+1+1+1,jk)::(L+1+1+1+1+1+1+1,jq)::(L+1+1+1+1+1+1,yk)::(L+1+1+1+1+1,jm)::(L+1+1+1+1,jt)::(L+1+1+1,jp)::(L+1+1,jr)::(L+1,jl)::(37,t37)::(30,t30)::(134,tabObj ps)::((DN,listOf #[.int (lucU fi se (P+1)) d0,.int (lucU fi se (Q'+1)) d1,.int (lucU fi se (Q'+1)) d2,.int (lucU fi se (P + Q')) d3,.int (lucU fi se (P + Q')) d4,.int (lucU fi se (P+1)) d5] 0)::(UP,listOf #[.int (lucU fi se (P + Q'+1)) p0,.int (lucU fi se (P + Q'+1)) p1,.int (lucU fi se (P)) p2,.int (lucU fi se (P)) p3,.int (lucU fi se (Q')) p4,.int (lucU fi se (Q')) p5] 0)::zs)) → OffZ L (((DN,listOf #[.int (lucU fi se (P+1)) d0,.int (lucU fi se (Q'+1)) d1,.int (lucU fi se (Q'+1)) d2,.int (lucU fi se (P + Q')) d3,.int (lucU fi se (P + Q')) d4,.int (lucU fi se (P+1)) d5] 0)::(UP,listOf #[.int (lucU fi se (P + Q'+1)) p0,.int (lucU fi se (P + Q'+1)) p1,.int (lucU fi se (P)) p2,.int (lucU fi se (P)) p3,.int (lucU fi se (Q')) p4,.int (lucU fi se (Q')) p5] 0)::zs)) → (∀ q ∈ ((DN,listOf #[.int (lucU fi se (P+1)) d0,.int (lucU fi se (Q'+1)) d1,.int (lucU fi se (Q'+1)) d2,.int (lucU fi se (P + Q')) d3,.int (lucU fi se (P + Q')) d4,.int (lucU fi se (P+1)) d5] 0)::(UP,listOf #[.int (lucU fi se (P + Q'+1)) p0,.int (lucU fi se (P + Q'+1)) p1,.int (lucU fi se (P)) p2,.int (lucU fi se (P)) p3,.int (lucU fi se (Q')) p4,.int (lucU fi se (Q')) p5] 0)::zs),@Ne Nat q.1 R) → (∀ y,y ≠ Str.ofString "ups" → y ≠ Str.ofString "downs" → m' y = m y) → m' (Str.ofString "ups") = some (.ref UP) → m' (Str.ofString "downs") = some (.ref DN) → wpAny (model pw_ty0047_01 w) (lawA dp un gd L fa) (execs rest (lawEnv L fa)) Q E { s with heap := h,toks := tk' }),
  wpAny (model pw_ty0047_01 w) (lawA dp un gd L fa) (execs (lst15::lst16::rest) (lawEnv L fa)) Q E s
def PP_it_b1 (w : World) (p : Program) (loose : List Str) (mean : ExcName → Option Value) (mg : Str → Option Value) (mb : Str → Option Value) (dp : Nat) (un : Nat) (gd : Option (List Code)) (L : Addr) (fa : Addr) (A₀ : Around) (base : Heap) (h₀ : Heap) (s : Shared) (Q : Flow → Shared → Prop) (E : Value → Shared → Prop) (m : Str → Option Value) (jk : Obj) (jq : Obj) (yk : Obj) (jm : Obj) (jt : Obj) (jp : Obj) (jr : Obj) (jl : Obj) (t37 : Obj) (t30 : Obj) (R : Addr) (xs : List Value) (kR : Nat) (ps : Array Value) (zs : List (Addr × Obj)) (rest : List Stmt) (PT : Addr) (kP : Nat) (v1 : Int) (v2 : Int) (v3 : Int) (WH : Int) (UN : Int) (b1 : Int) (b2 : Int) (b3 : Int) (a1 : Tok) (a2 : Tok) (a3 : Tok) (tw : Tok) (tu : Tok) : Prop := ∀ (B : Below A₀ base [] h₀) (X : (Mine.hd.heap_1 w.params).In h₀) (T : Top p loose mean mg mb h₀) (hd : dp+100 < recursionLimit) (hu : un+600 < cLine) (ch1 : CodeHd h₀ 41 37) (ch2 : CodeHd h₀ 34 30) (ch3 : CodeHd h₀ 136 134) (hl : @LT.lt Nat _ 134 L) (hz : OffZ L zs) (hzR : ∀ q ∈ zs,@Ne Nat q.1 R) (hR : AllNe R ((L+1+1+1+1+1+1+1+1,jk)::(L+1+1+1+1+1+1+1,jq)::(L+1+1+1+1+1+1,yk)::(L+1+1+1+1+1,jm)::(L+1+1+1+1,jt)::(L+1+1+1,jp)::(L+1+1,jr)::(L+1,jl)::(37,t37)::(30,t30)::(134,tabObj ps)::[])) (F : Fr h₀ L s.heap m) (N : News h₀ L s.heap ((PT,listOf #[.int v1 a1,.int v2 a2,.int v3 a3] kP)::(R,listOf xs.toArray kR)::(L+1+1+1+1+1+1+1+1,jk)::(L+1+1+1+1+1+1+1,jq)::(L+1+1+1+1+1+1,yk)::(L+1+1+1+1+1,jm)::(L+1+1+1+1,jt)::(L+1+1+1,jp)::(L+1+1,jr)::(L+1,jl)::(37,t37)::(30,t30)::(134,tabObj ps)::zs)) (cw : jp.data = .cell (some (.int WH tw))) (cu : jt.data = .cell (some (.int UN tu))) (cp : jq.data = .cell (some (.ref PT))) (hU : ∀ c,IntMulOk UN c) (hb1 : b1 = 0 ∨ b1 = 1) (hb2 : b2 = 0 ∨ b2 = 1) (hb3 : b3 = 0 ∨ b3 = 1) (hM1 : ∀ M,(M = v1 ∨ M = v2 ∨ M = v3) → (M ≤ v1 ∧ M ≤ v2 ∧ M ≤ v3) → v1 - M = b1) (hM2 : ∀ M,(M = v1 ∨ M = v2 ∨ M = v3) → (M ≤ v1 ∧ M ≤ v2 ∧ M ≤ v3) → v2 - M = b2) (hM3 : ∀ M,(M = v1 ∨ M = v2 ∨ M = v3) → (M ≤ v1 ∧ M ≤ v2 ∧ M ≤ v3) → v3 - M = b3) (hW0 : 0 ≤ WH) (hW1 : WH ≤ 30) (hU0 : 1 ≤ UN) (hU1 : UN ≤ 33) (hhz : feq (fmin3 (fl64 (WH + UN * b1)) (fl64 (WH + UN * b2)) (fl64 (WH + UN * b3))) (fmax3 (fl64 (WH + UN * b1)) (fl64 (WH + UN * b2)) (fl64 (WH + UN * b3))) = false → Float64.isZero (Float64.sub (fmax3 (fl64 (WH + UN * b1)) (fl64 (WH + UN * b2)) (fl64 (WH + UN * b3))) (fmin3 (fl64 (WH + UN * b1)) (fl64 (WH + UN * b2)) (fl64 (WH + UN * b3)))) = false ∧
      (fle (hlsL (fl64 (WH + UN * b1)) (fl64 (WH + UN * b2)) (fl64 (WH + UN * b3))) f05 = true → Float64.isZero (Float64.add (fmax3 (fl64 (WH + UN * b1)) (fl64 (WH + UN * b2)) (fl64 (WH + UN * b3))) (fmin3 (fl64 (WH + UN * b1)) (fl64 (WH + UN * b2)) (fl64 (WH + UN * b3)))) = false) ∧
      (fle (hlsL (fl64 (WH + UN * b1)) (fl64 (WH + UN * b2)) (fl64 (WH + UN * b3))) f05 = false → Float64.isZero (Float64.sub (Float64.sub f2 (fmax3 (fl64 (WH + UN * b1)) (fl64 (WH + UN * b2)) (fl64 (WH + UN * b3)))) (fmin3 (fl64 (WH + UN * b1)) (fl64 (WH + UN * b2)) (fl64 (WH + UN * b3)))) = false)) (fin : ∀ h tk' m' g1 g2 g3,Fr h₀ L h m' → News h₀ L h ((R,listOf xs.toArray kR)::(L+1+1+1+1+1+1+1+1,jk)::(L+1+1+1+1+1+1+1,jq)::(L+1+1+1+1+1+1,yk)::(L+1+1+1+1+1,jm)::(L+1+1+1+1,jt)::(L+1+1+1,jp)::(L+1+1,jr)::(L+1,jl)::(37,t37)::(30,t30)::(134,tabObj ps)::zs) → (∀ y,y ≠ Str.ofString "hue" → y ≠ Str.ofString "light" → y ≠ Str.ofString "depth" → m' y = m y) → m' (Str.ofString "hue") = some (.float (hlsH (fl64 (WH + UN * b1)) (fl64 (WH + UN * b2)) (fl64 (WH + UN * b3))) g1) → m' (Str.ofString "light") = some (.float (hlsL (fl64 (WH + UN * b1)) (fl64 (WH + UN * b2)) (fl64 (WH + UN * b3))) g2) → m' (Str.ofString "depth") = some (.float (hlsS (fl64 (WH + UN * b1)) (fl64 (WH + UN * b2)) (fl64 (WH + UN * b3))) g3) → wpAny (model pw_ty0047_01 w) (lawA dp un gd L fa) (execs rest (lawEnv L fa)) Q E { s with heap := h,toks := tk' }),
  wpAny (model pw_ty0047_01 w) (lawA dp un gd L fa) (execs (itB1::rest) (lawEnv L fa)) Q E s
def PP_t18_b2 (w : World) (p : Program) (loose : List Str) (mean : ExcName → Option Value) (mg : Str → Option Value) (mb : Str → Option Value) (dp : Nat) (un : Nat) (gd : Option (List Code)) (L : Addr) (fa : Addr) (A₀ : Around) (base : Heap) (h₀ : Heap) (s : Shared) (Q : Flow → Shared → Prop) (E : Value → Shared → Prop) (m : Str → Option Value) (jk : Obj) (jq : Obj) (yk : Obj) (jm : Obj) (jt : Obj) (jp : Obj) (jr : Obj) (jl : Obj) (o30 : Obj) (o37 : Obj) (R : Addr) (c30 : Addr) (c37 : Addr) (T0 : Addr) (T1 : Addr) (T2 : Addr) (T3 : Addr) (T4 : Addr) (T5 : Addr) (kR : Nat) (ps : Array Value) (ps30 : Array Value) (ps37 : Array Value) (zs : List (Addr × Obj)) (rest : List Stmt) (k : Nat) (TB : Addr) (UP : Addr) (DN : Addr) (NB : Addr) (upL : List Value) (dnL : List Value) (nbL : List Value) (kU : Nat) (kD : Nat) (kN : Nat) (us : List Int) (b : Int) (P : Int) (Q' : Int) (sc : Int) (uv : Int) (dv : Int) (nv : Int) (rs : Int) (tk : Tok) (tc : Tok) (td : Tok) (tu : Tok) (tn : Tok) (tr : Tok) (u1 : Tok) (u2 : Tok) (A1 : Int) (A2 : Int) (A3 : Int) (B1 : Int) (V1 : Int) (Z : Int) (M : Nat) : Prop := ∀ (B : Below A₀ base [] h₀) (X : (Mine.hd.heap_1 w.params).In h₀) (T : Top p loose mean mg mb h₀) (hd : dp+100 < recursionLimit) (hu : un+600 < cLine) (ch1 : CodeHd h₀ 41 37) (ch2 : CodeHd h₀ 34 30) (ch3 : CodeHd h₀ 136 134) (hl : @LT.lt Nat _ 134 L) (hz : OffZ L zs) (hR : AllNe R ((L+1+1+1+1+1+1+1+1,jk)::(L+1+1+1+1+1+1+1,jq)::(L+1+1+1+1+1+1,yk)::(L+1+1+1+1+1,jm)::(L+1+1+1+1,jt)::(L+1+1+1,jp)::(L+1+1,jr)::(L+1,jl)::(37,tabObj ps37)::(30,tabObj ps30)::(134,tabObj ps)::[])) (hzR : ∀ q ∈ zs,@Ne Nat q.1 R) (DM : DmT ps30 ps37 c30 c37 o30 o37) (n30 : AllNe c30 ((R,listOf #[.ref T0,.ref T1,.ref T2,.ref T3,.ref T4,.ref T5] kR)::(L+1+1+1+1+1+1+1+1,jk)::(L+1+1+1+1+1+1+1,jq)::(L+1+1+1+1+1+1,yk)::(L+1+1+1+1+1,jm)::(L+1+1+1+1,jt)::(L+1+1+1,jp)::(L+1+1,jr)::(L+1,jl)::(134,tabObj ps)::zs)) (n37 : AllNe c37 ((R,listOf #[.ref T0,.ref T1,.ref T2,.ref T3,.ref T4,.ref T5] kR)::(L+1+1+1+1+1+1+1+1,jk)::(L+1+1+1+1+1+1+1,jq)::(L+1+1+1+1+1+1,yk)::(L+1+1+1+1+1,jm)::(L+1+1+1+1,jt)::(L+1+1+1,jp)::(L+1+1,jr)::(L+1,jl)::(134,tabObj ps)::zs)) (hk : k < 6) (F : Fr h₀ L s.heap m) (N : News h₀ L s.heap ((c30,o30)::(c37,o37)::(R,listOf #[.ref T0,.ref T1,.ref T2,.ref T3,.ref T4,.ref T5] kR)::(L+1+1+1+1+1+1+1+1,jk)::(L+1+1+1+1+1+1+1,jq)::(L+1+1+1+1+1+1,yk)::(L+1+1+1+1+1,jm)::(L+1+1+1+1,jt)::(L+1+1+1,jp)::(L+1+1,jr)::(L+1,jl)::(37,tabObj ps37)::(30,tabObj ps30)::(134,tabObj ps)::zs)) (mk : m (Str.ofString "k") = some (.int (k : Int) tk)) (mc : m (Str.ofString "scale") = some (.int sc tc)) (mp : m (Str.ofString "p") = some (.int P u1)) (mq : m (Str.ofString "q") = some (.int Q' u2)) (mr : m (Str.ofString "rest") = some (.int rs tr)) (mdn : m (Str.ofString "downs") = some (.ref DN)) (mup : m (Str.ofString "ups") = some (.ref UP)) (hP1 : 1 ≤ P) (hP4 : P ≤ 4) (hQ1 : 1 ≤ Q') (hQ4 : Q' ≤ 4) (ct : jm.data = .cell (some (.ref TB))) (cn : jk.data = .cell (some (.ref NB))) (hTB : TabL zs TB us b) (hDN : (DN,listOf dnL.toArray kD) ∈ zs) (hxd : dnL[((k : Int)).toNat]? = some (.int dv td)) (hUP : (UP,listOf upL.toArray kU) ∈ zs) (hxu : upL[((k : Int)).toNat]? = some (.int uv tu)) (hNB : (NB,listOf nbL.toArray kN) ∈ zs) (hxn : nbL[((k : Int)).toNat]? = some (.int nv tn)) (hz3 : sc.fdiv 3 = Z) (e1 : nbV us b P Q' * uv = A1) (m1 : IntMulOk (nbV us b P Q') uv) (e2 : A1 * sc = A2) (m2 : IntMulOk A1 sc) (e3 : A2 * (Z+2) = A3) (m3 : IntMulOk A2 (Z+2)) (e4 : dv * sc = B1) (m4 : IntMulOk dv sc) (e5 : nv * (Z+2) = V1) (m5 : IntMulOk nv (Z+2)) (hb : B1 ≠ 0) (hb8 : B1 < 2 ^ 7999) (hb8' : -B1 < 2 ^ 7999) (haM : A3 + rs < 2 ^ M) (haM' : -(A3 + rs) < 2 ^ M) (hM : M ≤ 8192 ∨ (M ≤ 16384 ∧ (2 ≤ B1 ∨ B1 ≤ -2))) (hq : (A3 + rs).fdiv B1 = V1) (hr : (A3 + rs).fmod B1 = rs) (fin : ∀ h tk' c1 o1 c2 o2,Fr h₀ L h m → News h₀ L h ((c1,o1)::(c2,o2)::(R,listOf #[.ref T0,.ref T1,.ref T2,.ref T3,.ref T4,.ref T5] kR)::(L+1+1+1+1+1+1+1+1,jk)::(L+1+1+1+1+1+1+1,jq)::(L+1+1+1+1+1+1,yk)::(L+1+1+1+1+1,jm)::(L+1+1+1+1,jt)::(L+1+1+1,jp)::(L+1+1,jr)::(L+1,jl)::(37,tab37 c2)::(30,tab30 c1)::(134,tabObj ps)::zs) → DmL c1 c2 o1 o2 → AllNe c1 ((R,listOf #[.ref T0,.ref T1,.ref T2,.ref T3,.ref T4,.ref T5] kR)::(L+1+1+1+1+1+1+1+1,jk)::(L+1+1+1+1+1+1+1,jq)::(L+1+1+1+1+1+1,yk)::(L+1+1+1+1+1,jm)::(L+1+1+1+1,jt)::(L+1+1+1,jp)::(L+1+1,jr)::(L+1,jl)::(134,tabObj ps)::zs) → AllNe c2 ((R,listOf #[.ref T0,.ref T1,.ref T2,.ref T3,.ref T4,.ref T5] kR)::(L+1+1+1+1+1+1+1+1,jk)::(L+1+1+1+1+1+1+1,jq)::(L+1+1+1+1+1+1,yk)::(L+1+1+1+1+1,jm)::(L+1+1+1+1,jt)::(L+1+1+1,jp)::(L+1+1,jr)::(L+1,jl)::(134,tabObj ps)::zs) → wpAny (model pw_ty0047_01 w) (lawA dp un gd L fa) (execs rest (lawEnv L fa)) Q E { s with heap := h,toks := tk' }),
  wpAny (model pw_ty0047_01 w) (lawA dp un gd L fa) (execs (st18b2::rest) (lawEnv L fa)) Q E s
def PP_law_n20 (w : World) (p : Program) (loose : List Str) (mean : ExcName → Option Value) (mg : Str → Option Value) (mb : Str → Option Value) (dp : Nat) (un : Nat) (gd : Option (List Code)) (L : Addr) (fa : Addr) (A₀ : Around) (base : Heap) (h₀ : Heap) (s : Shared) (Q : Flow → Shared → Prop) (E : Value → Shared → Prop) (m : Str → Option Value) (jk : Obj) (jq : Obj) (yk : Obj) (jm : Obj) (jt : Obj) (jp : Obj) (jr : Obj) (jl : Obj) (o30 : Obj) (o37 : Obj) (t37 : Obj) (t30 : Obj) (t134 : Obj) (R : Addr) (c30 : Addr) (c37 : Addr) (T0 : Addr) (T1 : Addr) (T2 : Addr) (T3 : Addr) (T4 : Addr) (T5 : Addr) (kR : Nat) (ps : Array Value) (zs : List (Addr × Obj)) (rest : List Stmt) (ts : Tok) (q0 : Tok) (q1 : Tok) (q2 : Tok) (q3 : Tok) (q4 : Tok) (q5 : Tok) (u0 : Value) (v0 : Value) (u1 : Value) (v1 : Value) (u2 : Value) (v2 : Value) (u3 : Value) (v3 : Value) (u4 : Value) (v4 : Value) (u5 : Value) (v5 : Value) : Prop := ∀ (B : Below A₀ base [] h₀) (X : (Mine.hd.heap_1 w.params).In h₀) (T : Top p loose mean mg mb h₀) (hd : dp+100 < recursionLimit) (hu : un+600 < cLine) (ch1 : CodeHd h₀ 41 37) (ch2 : CodeHd h₀ 34 30) (ch3 : CodeHd h₀ 136 134) (hl : @LT.lt Nat _ 134 L) (hR : AllNe R ((L+1+1+1+1+1+1+1+1,jk)::(L+1+1+1+1+1+1+1,jq)::(L+1+1+1+1+1+1,yk)::(L+1+1+1+1+1,jm)::(L+1+1+1+1,jt)::(L+1+1+1,jp)::(L+1+1,jr)::(L+1,jl)::(37,t37)::(30,t30)::(134,t134)::[])) (n30 : AllNe c30 ((R,listOf #[.ref T0,.ref T1,.ref T2,.ref T3,.ref T4,.ref T5] kR)::(L+1+1+1+1+1+1+1+1,jk)::(L+1+1+1+1+1+1+1,jq)::(L+1+1+1+1+1+1,yk)::(L+1+1+1+1+1,jm)::(L+1+1+1+1,jt)::(L+1+1+1,jp)::(L+1+1,jr)::(L+1,jl)::(134,t134)::[])) (n37 : AllNe c37 ((R,listOf #[.ref T0,.ref T1,.ref T2,.ref T3,.ref T4,.ref T5] kR)::(L+1+1+1+1+1+1+1+1,jk)::(L+1+1+1+1+1+1+1,jq)::(L+1+1+1+1+1+1,yk)::(L+1+1+1+1+1,jm)::(L+1+1+1+1,jt)::(L+1+1+1,jp)::(L+1+1,jr)::(L+1,jl)::(134,t134)::[])) {sd : Int} (hsd : sd = 0 ∨ sd = 1) (Z0 : ZB L R c30 c37 zs ps) (F : Fr h₀ L s.heap m) (N : News h₀ L s.heap ((c30,o30)::(c37,o37)::(R,listOf #[.ref T0,.ref T1,.ref T2,.ref T3,.ref T4,.ref T5] kR)::(L+1+1+1+1+1+1+1+1,jk)::(L+1+1+1+1+1+1+1,jq)::(L+1+1+1+1+1+1,yk)::(L+1+1+1+1+1,jm)::(L+1+1+1+1,jt)::(L+1+1+1,jp)::(L+1+1,jr)::(L+1,jl)::(37,t37)::(30,t30)::(134,tabObj ps)::zs)) (cr : yk.data = .cell (some (.ref R))) (cs : jr.data = .cell (some (.int sd ts))) (a0 : (T0,triO (hueB 0) q0 u0 v0) ∈ zs) (a1 : (T1,triO (hueB 1) q1 u1 v1) ∈ zs) (a2 : (T2,triO (hueB 2) q2 u2 v2) ∈ zs) (a3 : (T3,triO (hueB 3) q3 u3 v3) ∈ zs) (a4 : (T4,triO (hueB 4) q4 u4 v4) ∈ zs) (a5 : (T5,triO (hueB 5) q5 u5 v5) ∈ zs) (fin : ∀ h tk' D zs' ps' t0 t1 t2,(∀ q ∈ zs,q ∈ zs') → (D,listOf #[.int (sd) t0,.int (sd+2) t1,.int (sd+4) t2] 3) ∈ zs' → Fr h₀ L h (fun z => if z = Str.ofString "ones" then some (.ref D) else m z) → News h₀ L h ((c30,o30)::(c37,o37)::(R,listOf #[.ref T0,.ref T1,.ref T2,.ref T3,.ref T4,.ref T5] kR)::(L+1+1+1+1+1+1+1+1,jk)::(L+1+1+1+1+1+1+1,jq)::(L+1+1+1+1+1+1,yk)::(L+1+1+1+1+1,jm)::(L+1+1+1+1,jt)::(L+1+1+1,jp)::(L+1+1,jr)::(L+1,jl)::(37,t37)::(30,t30)::(134,tabObj ps')::zs') → ZB L R c30 c37 zs' ps' → wpAny (model pw_ty0047_01 w) (lawA dp un gd L fa) (execs rest (lawEnv L fa)) Q E { s with heap := h,toks := tk' }),
  wpAny (model pw_ty0047_01 w) (lawA dp un gd L fa) (execs (lst20::rest) (lawEnv L fa)) Q E s
def PP_law_n22 (w : World) (p : Program) (loose : List Str) (mean : ExcName → Option Value) (mg : Str → Option Value) (mb : Str → Option Value) (dp : Nat) (un : Nat) (gd : Option (List Code)) (L : Addr) (fa : Addr) (A₀ : Around) (base : Heap) (h₀ : Heap) (s : Shared) (Q : Flow → Shared → Prop) (E : Value → Shared → Prop) (m : Str → Option Value) (jk : Obj) (jq : Obj) (yk : Obj) (jm : Obj) (jt : Obj) (jp : Obj) (jr : Obj) (jl : Obj) (o30 : Obj) (o37 : Obj) (t37 : Obj) (t30 : Obj) (t134 : Obj) (R : Addr) (c30 : Addr) (c37 : Addr) (T0 : Addr) (T1 : Addr) (T2 : Addr) (T3 : Addr) (T4 : Addr) (T5 : Addr) (kR : Nat) (ps : Array Value) (zs : List (Addr × Obj)) (rest : List Stmt) (sd : Int) (ts : Tok) (t0 : Tok) (t1 : Tok) (t2 : Tok) (t3 : Tok) (t4 : Tok) (t5 : Tok) (D1 : Addr) (D2 : Addr) : Prop := ∀ (B : Below A₀ base [] h₀) (X : (Mine.hd.heap_1 w.params).In h₀) (T : Top p loose mean mg mb h₀) (hd : dp+100 < recursionLimit) (hu : un+600 < cLine) (ch1 : CodeHd h₀ 41 37) (ch2 : CodeHd h₀ 34 30) (ch3 : CodeHd h₀ 136 134) (hl : @LT.lt Nat _ 134 L) (hR : AllNe R ((L+1+1+1+1+1+1+1+1,jk)::(L+1+1+1+1+1+1+1,jq)::(L+1+1+1+1+1+1,yk)::(L+1+1+1+1+1,jm)::(L+1+1+1+1,jt)::(L+1+1+1,jp)::(L+1+1,jr)::(L+1,jl)::(37,t37)::(30,t30)::(134,t134)::[])) (n30 : AllNe c30 ((R,listOf #[.ref T0,.ref T1,.ref T2,.ref T3,.ref T4,.ref T5] kR)::(L+1+1+1+1+1+1+1+1,jk)::(L+1+1+1+1+1+1+1,jq)::(L+1+1+1+1+1+1,yk)::(L+1+1+1+1+1,jm)::(L+1+1+1+1,jt)::(L+1+1+1,jp)::(L+1+1,jr)::(L+1,jl)::(134,t134)::[])) (n37 : AllNe c37 ((R,listOf #[.ref T0,.ref T1,.ref T2,.ref T3,.ref T4,.ref T5] kR)::(L+1+1+1+1+1+1+1+1,jk)::(L+1+1+1+1+1+1+1,jq)::(L+1+1+1+1+1+1,yk)::(L+1+1+1+1+1,jm)::(L+1+1+1+1,jt)::(L+1+1+1,jp)::(L+1+1,jr)::(L+1,jl)::(134,t134)::[])) (hsd : sd = 0 ∨ sd = 1) (Z : ZB L R c30 c37 zs ps) (F : Fr h₀ L s.heap m) (N : News h₀ L s.heap ((c30,o30)::(c37,o37)::(R,listOf #[.ref T0,.ref T1,.ref T2,.ref T3,.ref T4,.ref T5] kR)::(L+1+1+1+1+1+1+1+1,jk)::(L+1+1+1+1+1+1+1,jq)::(L+1+1+1+1+1+1,yk)::(L+1+1+1+1+1,jm)::(L+1+1+1+1,jt)::(L+1+1+1,jp)::(L+1+1,jr)::(L+1,jl)::(37,t37)::(30,t30)::(134,tabObj ps)::zs)) (cs : jr.data = .cell (some (.int sd ts))) (m1 : m (Str.ofString "ones") = some (.ref D1)) (m2 : m (Str.ofString "others") = some (.ref D2)) (hD1 : (D1,listOf #[.int sd t0,.int (sd+2) t1,.int (sd+4) t2] 3) ∈ zs) (hD2 : (D2,listOf #[.int (sd+1) t3,.int (sd+3) t4,.int (sd+5) t5] 3) ∈ zs) (fin : ∀ h tk',Fr h₀ L h m → News h₀ L h ((c30,o30)::(c37,o37)::(R,listOf #[.ref T0,.ref T1,.ref T2,.ref T3,.ref T4,.ref T5] kR)::(L+1+1+1+1+1+1+1+1,jk)::(L+1+1+1+1+1+1+1,jq)::(L+1+1+1+1+1+1,yk)::(L+1+1+1+1+1,jm)::(L+1+1+1+1,jt)::(L+1+1+1,jp)::(L+1+1,jr)::(L+1,jl)::(37,t37)::(30,t30)::(134,tabObj ps)::zs) → wpAny (model pw_ty0047_01 w) (lawA dp un gd L fa) (execs rest (lawEnv L fa)) Q E { s with heap := h,toks := tk' }),
  wpAny (model pw_ty0047_01 w) (lawA dp un gd L fa) (execs (lst22::rest) (lawEnv L fa)) Q E s
def PP_law_n13 (w : World) (p : Program) (loose : List Str) (mean : ExcName → Option Value) (mg : Str → Option Value) (mb : Str → Option Value) (dp : Nat) (un : Nat) (gd : Option (List Code)) (L : Addr) (fa : Addr) (A₀ : Around) (base : Heap) (h₀ : Heap) (s : Shared) (Q : Flow → Shared → Prop) (E : Value → Shared → Prop) (m : Str → Option Value) (jk : Obj) (jq : Obj) (yk : Obj) (jm : Obj) (jt : Obj) (jp : Obj) (jr : Obj) (jl : Obj) (t37 : Obj) (t30 : Obj) (R : Addr) (xs : List Value) (kR : Nat) (ps : Array Value) (zs : List (Addr × Obj)) (rest : List Stmt) (i : Int) (j : Int) (th : Tok) (ui : Tok) (uj : Tok) (g2 : Tok) (g3 : Tok) (G : Addr) (xl : UInt64) (hs : List UInt64) : Prop := ∀ (B : Below A₀ base [] h₀) (X : (Mine.hd.heap_1 w.params).In h₀) (T : Top p loose mean mg mb h₀) (hd : dp+100 < recursionLimit) (hu : un+600 < cLine) (ch1 : CodeHd h₀ 41 37) (ch2 : CodeHd h₀ 34 30) (ch3 : CodeHd h₀ 136 134) (hl : @LT.lt Nat _ 134 L) (hz : OffZ L zs) (hzR : ∀ q ∈ zs,@Ne Nat q.1 R) (hR : AllNe R ((L+1+1+1+1+1+1+1+1,jk)::(L+1+1+1+1+1+1+1,jq)::(L+1+1+1+1+1+1,yk)::(L+1+1+1+1+1,jm)::(L+1+1+1+1,jt)::(L+1+1+1,jp)::(L+1+1,jr)::(L+1,jl)::(37,t37)::(30,t30)::(134,tabObj ps)::[])) (F : Fr h₀ L s.heap m) (N : News h₀ L s.heap ((R,listOf xs.toArray kR)::(L+1+1+1+1+1+1+1+1,jk)::(L+1+1+1+1+1+1+1,jq)::(L+1+1+1+1+1+1,yk)::(L+1+1+1+1+1,jm)::(L+1+1+1+1,jt)::(L+1+1+1,jp)::(L+1+1,jr)::(L+1,jl)::(37,t37)::(30,t30)::(134,tabObj ps)::zs)) (mg' : m (Str.ofString "grey") = some (.ref G)) (mp : m (Str.ofString "p") = some (.int i ui)) (mq : m (Str.ofString "q") = some (.int j uj)) (ml : m (Str.ofString "laid") = some (.ref R)) (hGm : (G,({ cls := .type "tuple", data := .seq #[.float 0 th,.float xl g2,.float 0 g3] } : Obj)) ∈ zs) (TZ : TabZ zs ps) (hln : xs.length = hs.length) (hsm : hs.length ≤ 20) (HZ : ∀ k,k < hs.length → ∃ T t u v,xs[k]? = some (.ref T) ∧ (T,triO (hs.getD k 0) t u v) ∈ zs) (fin : ∀ h tk' Ta kR' ps' new,Fr h₀ L h m → News h₀ L h ((R,listOf (kl_ins xs ((bisR 0 hs hs.length 0 hs.length : Nat) : Int) (.ref Ta)).toArray kR')::(L+1+1+1+1+1+1+1+1,jk)::(L+1+1+1+1+1+1+1,jq)::(L+1+1+1+1+1+1,yk)::(L+1+1+1+1+1,jm)::(L+1+1+1+1,jt)::(L+1+1+1,jp)::(L+1+1,jr)::(L+1,jl)::(37,t37)::(30,t30)::(134,tabObj ps')::(Ta,triO 0 th (.int i ui) (.int j uj))::(new ++ zs)) → OffZ L ((Ta,triO 0 th (.int i ui) (.int j uj))::(new ++ zs)) → (∀ q ∈ (Ta,triO 0 th (.int i ui) (.int j uj))::(new ++ zs),@Ne Nat q.1 R) → TabZ ((Ta,triO 0 th (.int i ui) (.int j uj))::(new ++ zs)) ps' → (∀ q ∈ (Ta,triO 0 th (.int i ui) (.int j uj))::new,AllNe q.1 zs) → wpAny (model pw_ty0047_01 w) (lawA dp un gd L fa) (execs rest (lawEnv L fa)) Q E { s with heap := h,toks := tk' }),
  wpAny (model pw_ty0047_01 w) (lawA dp un gd L fa) (execs (lst13::rest) (lawEnv L fa)) Q E s
def PP_it_b3 (w : World) (p : Program) (loose : List Str) (mean : ExcName → Option Value) (mg : Str → Option Value) (mb : Str → Option Value) (dp : Nat) (un : Nat) (gd : Option (List Code)) (L : Addr) (fa : Addr) (A₀ : Around) (base : Heap) (h₀ : Heap) (s : Shared) (Q : Flow → Shared → Prop) (E : Value → Shared → Prop) (m : Str → Option Value) (jk : Obj) (jq : Obj) (yk : Obj) (jm : Obj) (jt : Obj) (jp : Obj) (jr : Obj) (jl : Obj) (t37 : Obj) (t30 : Obj) (R : Addr) (xs : List Value) (kR : Nat) (ps : Array Value) (zs : List (Addr × Obj)) (rest : List Stmt) (xh : UInt64) (i : Int) (j : Int) (th : Tok) (ui : Tok) (uj : Tok) (hs : List UInt64) : Prop := ∀ (B : Below A₀ base [] h₀) (X : (Mine.hd.heap_1 w.params).In h₀) (T : Top p loose mean mg mb h₀) (hd : dp+100 < recursionLimit) (hu : un+600 < cLine) (ch1 : CodeHd h₀ 41 37) (ch2 : CodeHd h₀ 34 30) (ch3 : CodeHd h₀ 136 134) (hl : @LT.lt Nat _ 134 L) (hz : OffZ L zs) (hzR : ∀ q ∈ zs,@Ne Nat q.1 R) (hR : AllNe R ((L+1+1+1+1+1+1+1+1,jk)::(L+1+1+1+1+1+1+1,jq)::(L+1+1+1+1+1+1,yk)::(L+1+1+1+1+1,jm)::(L+1+1+1+1,jt)::(L+1+1+1,jp)::(L+1+1,jr)::(L+1,jl)::(37,t37)::(30,t30)::(134,tabObj ps)::[])) (F : Fr h₀ L s.heap m) (N : News h₀ L s.heap ((R,listOf xs.toArray kR)::(L+1+1+1+1+1+1+1+1,jk)::(L+1+1+1+1+1+1+1,jq)::(L+1+1+1+1+1+1,yk)::(L+1+1+1+1+1,jm)::(L+1+1+1+1,jt)::(L+1+1+1,jp)::(L+1+1,jr)::(L+1,jl)::(37,t37)::(30,t30)::(134,tabObj ps)::zs)) (mh : m (Str.ofString "hue") = some (.float xh th)) (mi : m (Str.ofString "i") = some (.int i ui)) (mj : m (Str.ofString "j") = some (.int j uj)) (cr : yk.data = .cell (some (.ref R))) (TZ : TabZ zs ps) (hln : xs.length = hs.length) (hsm : hs.length ≤ 20) (HZ : ∀ k,k < hs.length → ∃ T t u v,xs[k]? = some (.ref T) ∧ (T,triO (hs.getD k 0) t u v) ∈ zs) (fin : ∀ h tk' Ta kR' ps' new,Fr h₀ L h m → News h₀ L h ((R,listOf (kl_ins xs ((bisR xh hs hs.length 0 hs.length : Nat) : Int) (.ref Ta)).toArray kR')::(L+1+1+1+1+1+1+1+1,jk)::(L+1+1+1+1+1+1+1,jq)::(L+1+1+1+1+1+1,yk)::(L+1+1+1+1+1,jm)::(L+1+1+1+1,jt)::(L+1+1+1,jp)::(L+1+1,jr)::(L+1,jl)::(37,t37)::(30,t30)::(134,tabObj ps')::(Ta,triO xh th (.int i ui) (.int j uj))::(new ++ zs)) → OffZ L ((Ta,triO xh th (.int i ui) (.int j uj))::(new ++ zs)) → (∀ q ∈ (Ta,triO xh th (.int i ui) (.int j uj))::(new ++ zs),@Ne Nat q.1 R) → TabZ ((Ta,triO xh th (.int i ui) (.int j uj))::(new ++ zs)) ps' → (∀ q ∈ (Ta,triO xh th (.int i ui) (.int j uj))::new,AllNe q.1 zs) → wpAny (model pw_ty0047_01 w) (lawA dp un gd L fa) (execs rest (lawEnv L fa)) Q E { s with heap := h,toks := tk' }),
  wpAny (model pw_ty0047_01 w) (lawA dp un gd L fa) (execs (itB3::rest) (lawEnv L fa)) Q E s
def PP_it_b0 (w : World) (p : Program) (loose : List Str) (mean : ExcName → Option Value) (mg : Str → Option Value) (mb : Str → Option Value) (dp : Nat) (un : Nat) (gd : Option (List Code)) (L : Addr) (fa : Addr) (A₀ : Around) (base : Heap) (h₀ : Heap) (s : Shared) (Q : Flow → Shared → Prop) (E : Value → Shared → Prop) (m : Str → Option Value) (jk : Obj) (jq : Obj) (yk : Obj) (jm : Obj) (jt : Obj) (jp : Obj) (jr : Obj) (jl : Obj) (t37 : Obj) (t30 : Obj) (R : Addr) (xs : List Value) (kR : Nat) (ps : Array Value) (zs : List (Addr × Obj)) (rest : List Stmt) (P : Int) (Q' : Int) (i : Int) (j : Int) (u1 : Tok) (u2 : Tok) (u3 : Tok) (u4 : Tok) (ov : Option Value) : Prop := ∀ (B : Below A₀ base [] h₀) (X : (Mine.hd.heap_1 w.params).In h₀) (T : Top p loose mean mg mb h₀) (hd : dp+100 < recursionLimit) (hu : un+600 < cLine) (ch1 : CodeHd h₀ 41 37) (ch2 : CodeHd h₀ 34 30) (ch3 : CodeHd h₀ 136 134) (hl : @LT.lt Nat _ 134 L) (hz : OffZ L zs) (hzR : ∀ q ∈ zs,@Ne Nat q.1 R) (hR : AllNe R ((L+1+1+1+1+1+1+1+1,jk)::(L+1+1+1+1+1+1+1,jq)::(L+1+1+1+1+1+1,yk)::(L+1+1+1+1+1,jm)::(L+1+1+1+1,jt)::(L+1+1+1,jp)::(L+1+1,jr)::(L+1,jl)::(37,t37)::(30,t30)::(134,tabObj ps)::[])) (F : Fr h₀ L s.heap m) (N : News h₀ L s.heap ((R,listOf xs.toArray kR)::(L+1+1+1+1+1+1+1+1,jk)::(L+1+1+1+1+1+1+1,jq)::(L+1+1+1+1+1+1,yk)::(L+1+1+1+1+1,jm)::(L+1+1+1+1,jt)::(L+1+1+1,jp)::(L+1+1,jr)::(L+1,jl)::(37,t37)::(30,t30)::(134,tabObj ps)::zs)) (mp : m (Str.ofString "p") = some (.int P u1)) (mq : m (Str.ofString "q") = some (.int Q' u2)) (mi : m (Str.ofString "i") = some (.int i u3)) (mj : m (Str.ofString "j") = some (.int j u4)) (cp : jq.data = .cell ov) (fin : ∀ h tk' PT kP oP a1 a2 a3,oP.data = .cell (some (.ref PT)) → Fr h₀ L h m → News h₀ L h ((PT,listOf #[.int (i - P + j - Q') a1,.int (j - Q') a2,.int 0 a3] kP)::(R,listOf xs.toArray kR)::(L+1+1+1+1+1+1+1+1,jk)::(L+1+1+1+1+1+1+1,oP)::(L+1+1+1+1+1+1,yk)::(L+1+1+1+1+1,jm)::(L+1+1+1+1,jt)::(L+1+1+1,jp)::(L+1+1,jr)::(L+1,jl)::(37,t37)::(30,t30)::(134,tabObj ps)::zs) → AllNe PT ((R,listOf xs.toArray kR)::(L+1+1+1+1+1+1+1+1,jk)::(L+1+1+1+1+1+1+1,oP)::(L+1+1+1+1+1+1,yk)::(L+1+1+1+1+1,jm)::(L+1+1+1+1,jt)::(L+1+1+1,jp)::(L+1+1,jr)::(L+1,jl)::(37,t37)::(30,t30)::(134,tabObj ps)::zs) → (∀ q ∈ zs,@Ne Nat q.1 PT) → wpAny (model pw_ty0047_01 w) (lawA dp un gd L fa) (execs rest (lawEnv L fa)) Q E { s with heap := h,toks := tk' }),
  wpAny (model pw_ty0047_01 w) (lawA dp un gd L fa) (execs (itB0::rest) (lawEnv L fa)) Q E s
def PP_law_n7 (w : World) (p : Program) (loose : List Str) (mean : ExcName → Option Value) (mg : Str → Option Value) (mb : Str → Option Value) (dp : Nat) (un : Nat) (gd : Option (List Code)) (L : Addr) (fa : Addr) (A₀ : Around) (base : Heap) (h₀ : Heap) (s : Shared) (Q : Flow → Shared → Prop) (E : Value → Shared → Prop) (rest : List Stmt) (m : Str → Option Value) (jk : Obj) (jq : Obj) (yk : Obj) (jm : Obj) (jt : Obj) (jp : Obj) (jr : Obj) (jl : Obj) (t37 : Obj) (t30 : Obj) (t134 : Obj) (H : Addr) (oH : Obj) (P : Int) (Q' : Int) (fi : Int) (se : Int) (sc : Int) (bo : Int) (u1 : Tok) (u2 : Tok) (tf : Tok) (ts : Tok) (tc : Tok) (tb : Tok) : Prop := ∀ (B : Below A₀ base [] h₀) (X : (Mine.hd.heap_1 w.params).In h₀) (T : Top p loose mean mg mb h₀) (hd : dp+100 < recursionLimit) (hu : un+600 < cLine) (ch1 : CodeHd h₀ 41 37) (ch2 : CodeHd h₀ 34 30) (ch3 : CodeHd h₀ 136 134) (hl : @LT.lt Nat _ 134 L) (F : Fr h₀ L s.heap m) (N : News h₀ L s.heap [(L+1+1+1+1+1+1+1+1,jk),(L+1+1+1+1+1+1+1,jq),(L+1+1+1+1+1+1,yk),(L+1+1+1+1+1,jm),(L+1+1+1+1,jt),(L+1+1+1,jp),(L+1+1,jr),(L+1,jl),(37,t37),(30,t30),(134,t134),(H,oH)]) (mp : m (Str.ofString "p") = some (.int P u1)) (mq : m (Str.ofString "q") = some (.int Q' u2)) (m1 : m (Str.ofString "first") = some (.int fi tf)) (m2 : m (Str.ofString "second") = some (.int se ts)) (m3 : m (Str.ofString "scale") = some (.int sc tc)) (m4 : m (Str.ofString "both") = some (.int bo tb)) (ha : fi.natAbs ≤ 20) (hb : se.natAbs ≤ 1) (fin : ∀ h tk' m' U kU w0 w1 w2 w3 w4 w5 w6 w7 w8 w9,Fr h₀ L h m' → News h₀ L h ((U,listOf #[.int (lucasU 0 fi se) w0,.int (lucasU 1 fi se) w1,.int (lucasU 2 fi se) w2,.int (lucasU 3 fi se) w3,.int (lucasU 4 fi se) w4,.int (lucasU 5 fi se) w5,.int (lucasU 6 fi se) w6,.int (lucasU 7 fi se) w7,.int (lucasU 8 fi se) w8,.int (lucasU 9 fi se) w9] kU)::[(L+1+1+1+1+1+1+1+1,jk),(L+1+1+1+1+1+1+1,jq),(L+1+1+1+1+1+1,yk),(L+1+1+1+1+1,jm),(L+1+1+1+1,jt),(L+1+1+1,jp),(L+1+1,jr),(L+1,jl),(37,t37),(30,t30),(134,t134)]) → AllNe U [(L+1+1+1+1+1+1+1+1,jk),(L+1+1+1+1+1+1+1,jq),(L+1+1+1+1+1+1,yk),(L+1+1+1+1+1,jm),(L+1+1+1+1,jt),(L+1+1+1,jp),(L+1+1,jr),(L+1,jl),(37,t37),(30,t30),(134,t134)] → m' (Str.ofString "units") = some (.ref U) → m' (Str.ofString "p") = some (.int P u1) → m' (Str.ofString "q") = some (.int Q' u2) → m' (Str.ofString "first") = some (.int fi tf) → m' (Str.ofString "second") = some (.int se ts) → m' (Str.ofString "scale") = some (.int sc tc) → m' (Str.ofString "both") = some (.int bo tb) → wpAny (model pw_ty0047_01 w) (lawA dp un gd L fa) (execs rest (lawEnv L fa)) Q E { s with heap := h,toks := tk' }),
  wpAny (model pw_ty0047_01 w) (lawA dp un gd L fa) (execs (lst7::rest) (lawEnv L fa)) Q E s
def PP_it_b2 (w : World) (p : Program) (loose : List Str) (mean : ExcName → Option Value) (mg : Str → Option Value) (mb : Str → Option Value) (dp : Nat) (un : Nat) (gd : Option (List Code)) (L : Addr) (fa : Addr) (A₀ : Around) (base : Heap) (h₀ : Heap) (s : Shared) (Q : Flow → Shared → Prop) (E : Value → Shared → Prop) (m : Str → Option Value) (jk : Obj) (jq : Obj) (yk : Obj) (jm : Obj) (jt : Obj) (jp : Obj) (jr : Obj) (jl : Obj) (t37 : Obj) (t30 : Obj) (R : Addr) (xs : List Value) (kR : Nat) (ps : Array Value) (zs : List (Addr × Obj)) (rest : List Stmt) (xl : UInt64) (xd : UInt64) (UN : Int) (bo : Int) (tl : Tok) (td : Tok) (tb : Tok) (tu : Tok) : Prop := ∀ (B : Below A₀ base [] h₀) (X : (Mine.hd.heap_1 w.params).In h₀) (T : Top p loose mean mg mb h₀) (hd : dp+100 < recursionLimit) (hu : un+600 < cLine) (ch1 : CodeHd h₀ 41 37) (ch2 : CodeHd h₀ 34 30) (ch3 : CodeHd h₀ 136 134) (hl : @LT.lt Nat _ 134 L) (hz : OffZ L zs) (hzR : ∀ q ∈ zs,@Ne Nat q.1 R) (hR : AllNe R ((L+1+1+1+1+1+1+1+1,jk)::(L+1+1+1+1+1+1+1,jq)::(L+1+1+1+1+1+1,yk)::(L+1+1+1+1+1,jm)::(L+1+1+1+1,jt)::(L+1+1+1,jp)::(L+1+1,jr)::(L+1,jl)::(37,t37)::(30,t30)::(134,tabObj ps)::[])) (F : Fr h₀ L s.heap m) (N : News h₀ L s.heap ((R,listOf xs.toArray kR)::(L+1+1+1+1+1+1+1+1,jk)::(L+1+1+1+1+1+1+1,jq)::(L+1+1+1+1+1+1,yk)::(L+1+1+1+1+1,jm)::(L+1+1+1+1,jt)::(L+1+1+1,jp)::(L+1+1,jr)::(L+1,jl)::(37,t37)::(30,t30)::(134,tabObj ps)::zs)) (ml : m (Str.ofString "light") = some (.float xl tl)) (md : m (Str.ofString "depth") = some (.float xd td)) (mb' : m (Str.ofString "both") = some (.int bo tb)) (cu : jt.data = .cell (some (.int UN tu))) (hb1 : 1 ≤ bo) (hb2 : bo ≤ 127) (hL : feq xl (fdiv64 bo 128) = true) (hD : feq xd (fdiv64 UN (if 128 - bo < bo then 128 - bo else bo)) = true) (hI : Float64.isInf (fdiv64 UN (if 128 - bo < bo then 128 - bo else bo)) = false) (hI2 : Float64.isInf (fdiv64 bo 128) = false) (fin : ∀ h tk',Fr h₀ L h m → News h₀ L h ((R,listOf xs.toArray kR)::(L+1+1+1+1+1+1+1+1,jk)::(L+1+1+1+1+1+1+1,jq)::(L+1+1+1+1+1+1,yk)::(L+1+1+1+1+1,jm)::(L+1+1+1+1,jt)::(L+1+1+1,jp)::(L+1+1,jr)::(L+1,jl)::(37,t37)::(30,t30)::(134,tabObj ps)::zs) → wpAny (model pw_ty0047_01 w) (lawA dp un gd L fa) (execs rest (lawEnv L fa)) Q E { s with heap := h,toks := tk' }),
  wpAny (model pw_ty0047_01 w) (lawA dp un gd L fa) (execs (itB2::rest) (lawEnv L fa)) Q E s
def PP_t19_b1 (w : World) (p : Program) (loose : List Str) (mean : ExcName → Option Value) (mg : Str → Option Value) (mb : Str → Option Value) (dp : Nat) (un : Nat) (gd : Option (List Code)) (L : Addr) (fa : Addr) (A₀ : Around) (base : Heap) (h₀ : Heap) (s : Shared) (Q : Flow → Shared → Prop) (E : Value → Shared → Prop) (m : Str → Option Value) (jk : Obj) (jq : Obj) (yk : Obj) (jm : Obj) (jt : Obj) (jp : Obj) (jr : Obj) (jl : Obj) (o30 : Obj) (o37 : Obj) (R : Addr) (c30 : Addr) (c37 : Addr) (T0 : Addr) (T1 : Addr) (T2 : Addr) (T3 : Addr) (T4 : Addr) (T5 : Addr) (kR : Nat) (ps : Array Value) (ps30 : Array Value) (ps37 : Array Value) (zs : List (Addr × Obj)) (rest : List Stmt) (k : Nat) (DN : Addr) (dnL : List Value) (kD : Nat) (sc : Int) (dv : Int) (rs : Int) (fv : Int) (tk : Tok) (tc : Tok) (td : Tok) (tr : Tok) (tf : Tok) (B1 : Int) (A2 : Int) (M : Nat) : Prop := ∀ (B : Below A₀ base [] h₀) (X : (Mine.hd.heap_1 w.params).In h₀) (T : Top p loose mean mg mb h₀) (hd : dp+100 < recursionLimit) (hu : un+600 < cLine) (ch1 : CodeHd h₀ 41 37) (ch2 : CodeHd h₀ 34 30) (ch3 : CodeHd h₀ 136 134) (hl : @LT.lt Nat _ 134 L) (hz : OffZ L zs) (hR : AllNe R ((L+1+1+1+1+1+1+1+1,jk)::(L+1+1+1+1+1+1+1,jq)::(L+1+1+1+1+1+1,yk)::(L+1+1+1+1+1,jm)::(L+1+1+1+1,jt)::(L+1+1+1,jp)::(L+1+1,jr)::(L+1,jl)::(37,tabObj ps37)::(30,tabObj ps30)::(134,tabObj ps)::[])) (hzR : ∀ q ∈ zs,@Ne Nat q.1 R) (DM : DmT ps30 ps37 c30 c37 o30 o37) (n30 : AllNe c30 ((R,listOf #[.ref T0,.ref T1,.ref T2,.ref T3,.ref T4,.ref T5] kR)::(L+1+1+1+1+1+1+1+1,jk)::(L+1+1+1+1+1+1+1,jq)::(L+1+1+1+1+1+1,yk)::(L+1+1+1+1+1,jm)::(L+1+1+1+1,jt)::(L+1+1+1,jp)::(L+1+1,jr)::(L+1,jl)::(134,tabObj ps)::zs)) (n37 : AllNe c37 ((R,listOf #[.ref T0,.ref T1,.ref T2,.ref T3,.ref T4,.ref T5] kR)::(L+1+1+1+1+1+1+1+1,jk)::(L+1+1+1+1+1+1+1,jq)::(L+1+1+1+1+1+1,yk)::(L+1+1+1+1+1,jm)::(L+1+1+1+1,jt)::(L+1+1+1,jp)::(L+1+1,jr)::(L+1,jl)::(134,tabObj ps)::zs)) (hk : k < 6) (F : Fr h₀ L s.heap m) (N : News h₀ L s.heap ((c30,o30)::(c37,o37)::(R,listOf #[.ref T0,.ref T1,.ref T2,.ref T3,.ref T4,.ref T5] kR)::(L+1+1+1+1+1+1+1+1,jk)::(L+1+1+1+1+1+1+1,jq)::(L+1+1+1+1+1+1,yk)::(L+1+1+1+1+1,jm)::(L+1+1+1+1,jt)::(L+1+1+1,jp)::(L+1+1,jr)::(L+1,jl)::(37,tabObj ps37)::(30,tabObj ps30)::(134,tabObj ps)::zs)) (mk : m (Str.ofString "k") = some (.int (k : Int) tk)) (mc : m (Str.ofString "scale") = some (.int sc tc)) (mr : m (Str.ofString "rest") = some (.int rs tr)) (mf : m (Str.ofString "full") = some (.int fv tf)) (mdn : m (Str.ofString "downs") = some (.ref DN)) (hDN : (DN,listOf dnL.toArray kD) ∈ zs) (hxd : dnL[((k : Int)).toNat]? = some (.int dv td)) (e4 : dv * sc = B1) (m4 : IntMulOk dv sc) (e2 : B1 * fv = A2) (m2 : IntMulOk B1 fv) (hb : B1 ≠ 0) (hb8 : B1 < 2 ^ 7999) (hb8' : -B1 < 2 ^ 7999) (haM : A2 + rs < 2 ^ M) (haM' : -(A2 + rs) < 2 ^ M) (hM : M ≤ 8192 ∨ (M ≤ 16384 ∧ (2 ≤ B1 ∨ B1 ≤ -2))) (hq : (A2 + rs).fdiv B1 = fv) (hr : (A2 + rs).fmod B1 = rs) (fin : ∀ h tk' c1 o1 c2 o2,Fr h₀ L h m → News h₀ L h ((c1,o1)::(c2,o2)::(R,listOf #[.ref T0,.ref T1,.ref T2,.ref T3,.ref T4,.ref T5] kR)::(L+1+1+1+1+1+1+1+1,jk)::(L+1+1+1+1+1+1+1,jq)::(L+1+1+1+1+1+1,yk)::(L+1+1+1+1+1,jm)::(L+1+1+1+1,jt)::(L+1+1+1,jp)::(L+1+1,jr)::(L+1,jl)::(37,tab37 c2)::(30,tab30 c1)::(134,tabObj ps)::zs) → DmL c1 c2 o1 o2 → AllNe c1 ((R,listOf #[.ref T0,.ref T1,.ref T2,.ref T3,.ref T4,.ref T5] kR)::(L+1+1+1+1+1+1+1+1,jk)::(L+1+1+1+1+1+1+1,jq)::(L+1+1+1+1+1+1,yk)::(L+1+1+1+1+1,jm)::(L+1+1+1+1,jt)::(L+1+1+1,jp)::(L+1+1,jr)::(L+1,jl)::(134,tabObj ps)::zs) → AllNe c2 ((R,listOf #[.ref T0,.ref T1,.ref T2,.ref T3,.ref T4,.ref T5] kR)::(L+1+1+1+1+1+1+1+1,jk)::(L+1+1+1+1+1+1+1,jq)::(L+1+1+1+1+1+1,yk)::(L+1+1+1+1+1,jm)::(L+1+1+1+1,jt)::(L+1+1+1,jp)::(L+1+1,jr)::(L+1,jl)::(134,tabObj ps)::zs) → wpAny (model pw_ty0047_01 w) (lawA dp un gd L fa) (execs rest (lawEnv L fa)) Q E { s with heap := h,toks := tk' }),
  wpAny (model pw_ty0047_01 w) (lawA dp un gd L fa) (execs (st19b1::rest) (lawEnv L fa)) Q E s
def PP_t18_b0 (w : World) (p : Program) (loose : List Str) (mean : ExcName → Option Value) (mg : Str → Option Value) (mb : Str → Option Value) (dp : Nat) (un : Nat) (gd : Option (List Code)) (L : Addr) (fa : Addr) (A₀ : Around) (base : Heap) (h₀ : Heap) (s : Shared) (Q : Flow → Shared → Prop) (E : Value → Shared → Prop) (m : Str → Option Value) (jk : Obj) (jq : Obj) (yk : Obj) (jm : Obj) (jt : Obj) (jp : Obj) (jr : Obj) (jl : Obj) (o30 : Obj) (o37 : Obj) (R : Addr) (c30 : Addr) (c37 : Addr) (T0 : Addr) (T1 : Addr) (T2 : Addr) (T3 : Addr) (T4 : Addr) (T5 : Addr) (kR : Nat) (ps : Array Value) (ps30 : Array Value) (ps37 : Array Value) (zs : List (Addr × Obj)) (rest : List Stmt) (k : Nat) (Tk : Addr) (xh : UInt64) (tk : Tok) (th : Tok) (u : Value) (v : Value) : Prop := ∀ (B : Below A₀ base [] h₀) (X : (Mine.hd.heap_1 w.params).In h₀) (T : Top p loose mean mg mb h₀) (hd : dp+100 < recursionLimit) (hu : un+600 < cLine) (ch1 : CodeHd h₀ 41 37) (ch2 : CodeHd h₀ 34 30) (ch3 : CodeHd h₀ 136 134) (hl : @LT.lt Nat _ 134 L) (hz : OffZ L zs) (hR : AllNe R ((L+1+1+1+1+1+1+1+1,jk)::(L+1+1+1+1+1+1+1,jq)::(L+1+1+1+1+1+1,yk)::(L+1+1+1+1+1,jm)::(L+1+1+1+1,jt)::(L+1+1+1,jp)::(L+1+1,jr)::(L+1,jl)::(37,tabObj ps37)::(30,tabObj ps30)::(134,tabObj ps)::[])) (hzR : ∀ q ∈ zs,@Ne Nat q.1 R) (DM : DmT ps30 ps37 c30 c37 o30 o37) (n30 : AllNe c30 ((R,listOf #[.ref T0,.ref T1,.ref T2,.ref T3,.ref T4,.ref T5] kR)::(L+1+1+1+1+1+1+1+1,jk)::(L+1+1+1+1+1+1+1,jq)::(L+1+1+1+1+1+1,yk)::(L+1+1+1+1+1,jm)::(L+1+1+1+1,jt)::(L+1+1+1,jp)::(L+1+1,jr)::(L+1,jl)::(134,tabObj ps)::zs)) (n37 : AllNe c37 ((R,listOf #[.ref T0,.ref T1,.ref T2,.ref T3,.ref T4,.ref T5] kR)::(L+1+1+1+1+1+1+1+1,jk)::(L+1+1+1+1+1+1+1,jq)::(L+1+1+1+1+1+1,yk)::(L+1+1+1+1+1,jm)::(L+1+1+1+1,jt)::(L+1+1+1,jp)::(L+1+1,jr)::(L+1,jl)::(134,tabObj ps)::zs)) (hk : k < 6) (F : Fr h₀ L s.heap m) (N : News h₀ L s.heap ((c30,o30)::(c37,o37)::(R,listOf #[.ref T0,.ref T1,.ref T2,.ref T3,.ref T4,.ref T5] kR)::(L+1+1+1+1+1+1+1+1,jk)::(L+1+1+1+1+1+1+1,jq)::(L+1+1+1+1+1+1,yk)::(L+1+1+1+1+1,jm)::(L+1+1+1+1,jt)::(L+1+1+1,jp)::(L+1+1,jr)::(L+1,jl)::(37,tabObj ps37)::(30,tabObj ps30)::(134,tabObj ps)::zs)) (cr : yk.data = .cell (some (.ref R))) (mk : m (Str.ofString "k") = some (.int (k : Int) tk)) (hx : ([.ref T0,.ref T1,.ref T2,.ref T3,.ref T4,.ref T5] : List Value)[((k : Int)).toNat]? = some (.ref Tk)) (hT : (Tk,triO xh th u v) ∈ zs) (hg1 : (Float64.cmpInt (Float64.mul (Float64.sub (Float64.mul xh (Float64.ofInt 6)) (Float64.ofInt (k : Int))) (Float64.ofInt 1048576)) (-1) == some Ordering.gt) = true) (hg2 : (Float64.cmpInt (Float64.mul (Float64.sub (Float64.mul xh (Float64.ofInt 6)) (Float64.ofInt (k : Int))) (Float64.ofInt 1048576)) 1 == some Ordering.lt) = true) (fin : ∀ h tk',Fr h₀ L h m → News h₀ L h ((c30,o30)::(c37,o37)::(R,listOf #[.ref T0,.ref T1,.ref T2,.ref T3,.ref T4,.ref T5] kR)::(L+1+1+1+1+1+1+1+1,jk)::(L+1+1+1+1+1+1+1,jq)::(L+1+1+1+1+1+1,yk)::(L+1+1+1+1+1,jm)::(L+1+1+1+1,jt)::(L+1+1+1,jp)::(L+1+1,jr)::(L+1,jl)::(37,tabObj ps37)::(30,tabObj ps30)::(134,tabObj ps)::zs) → wpAny (model pw_ty0047_01 w) (lawA dp un gd L fa) (execs rest (lawEnv L fa)) Q E { s with heap := h,toks := tk' }),
  wpAny (model pw_ty0047_01 w) (lawA dp un gd L fa) (execs (st18b0::rest) (lawEnv L fa)) Q E s
abbrev VV : Type := (Nat → World) × (Nat → Program) × (Nat → (List Str)) × (Nat → (ExcName → Option Value)) × (Nat → (Str → Option Value)) × (Nat → Nat) × (Nat → (Option (List Code))) × (Nat → Addr) × (Nat → Around) × (Nat → Heap) × (Nat → Shared) × (Nat → (Flow → Shared → Prop)) × (Nat → (Value → Shared → Prop)) × (Nat → Obj) × (Nat → (Array Value)) × (Nat → (List (Addr × Obj))) × (Nat → (List Stmt)) × (Nat → (List Value)) × (Nat → Int) × (Nat → Tok) × (Nat → (List Int)) × (Nat → UInt64) × (Nat → (Option Value)) × (Nat → Value) × (Nat → (List UInt64))
noncomputable def pj0 (v : VV) : Nat → World := v.1
noncomputable def pj1 (v : VV) : Nat → Program := v.2.1
noncomputable def pj2 (v : VV) : Nat → (List Str) := v.2.2.1
noncomputable def pj3 (v : VV) : Nat → (ExcName → Option Value) := v.2.2.2.1
noncomputable def pj4 (v : VV) : Nat → (Str → Option Value) := v.2.2.2.2.1
noncomputable def pj5 (v : VV) : Nat → Nat := v.2.2.2.2.2.1
noncomputable def pj6 (v : VV) : Nat → (Option (List Code)) := v.2.2.2.2.2.2.1
noncomputable def pj7 (v : VV) : Nat → Addr := v.2.2.2.2.2.2.2.1
noncomputable def pj8 (v : VV) : Nat → Around := v.2.2.2.2.2.2.2.2.1
noncomputable def pj9 (v : VV) : Nat → Heap := v.2.2.2.2.2.2.2.2.2.1
noncomputable def pj10 (v : VV) : Nat → Shared := v.2.2.2.2.2.2.2.2.2.2.1
noncomputable def pj11 (v : VV) : Nat → (Flow → Shared → Prop) := v.2.2.2.2.2.2.2.2.2.2.2.1
noncomputable def pj12 (v : VV) : Nat → (Value → Shared → Prop) := v.2.2.2.2.2.2.2.2.2.2.2.2.1
noncomputable def pj13 (v : VV) : Nat → Obj := v.2.2.2.2.2.2.2.2.2.2.2.2.2.1
noncomputable def pj14 (v : VV) : Nat → (Array Value) := v.2.2.2.2.2.2.2.2.2.2.2.2.2.2.1
noncomputable def pj15 (v : VV) : Nat → (List (Addr × Obj)) := v.2.2.2.2.2.2.2.2.2.2.2.2.2.2.2.1
noncomputable def pj16 (v : VV) : Nat → (List Stmt) := v.2.2.2.2.2.2.2.2.2.2.2.2.2.2.2.2.1
noncomputable def pj17 (v : VV) : Nat → (List Value) := v.2.2.2.2.2.2.2.2.2.2.2.2.2.2.2.2.2.1
noncomputable def pj18 (v : VV) : Nat → Int := v.2.2.2.2.2.2.2.2.2.2.2.2.2.2.2.2.2.2.1
noncomputable def pj19 (v : VV) : Nat → Tok := v.2.2.2.2.2.2.2.2.2.2.2.2.2.2.2.2.2.2.2.1
noncomputable def pj20 (v : VV) : Nat → (List Int) := v.2.2.2.2.2.2.2.2.2.2.2.2.2.2.2.2.2.2.2.2.1
noncomputable def pj21 (v : VV) : Nat → UInt64 := v.2.2.2.2.2.2.2.2.2.2.2.2.2.2.2.2.2.2.2.2.2.1
noncomputable def pj22 (v : VV) : Nat → (Option Value) := v.2.2.2.2.2.2.2.2.2.2.2.2.2.2.2.2.2.2.2.2.2.2.1
noncomputable def pj23 (v : VV) : Nat → Value := v.2.2.2.2.2.2.2.2.2.2.2.2.2.2.2.2.2.2.2.2.2.2.2.1
noncomputable def pj24 (v : VV) : Nat → (List UInt64) := v.2.2.2.2.2.2.2.2.2.2.2.2.2.2.2.2.2.2.2.2.2.2.2.2
def GG (v : VV) : Prop := PP_law_n23 (pj0 v 0) (pj1 v 0) (pj2 v 0) (pj3 v 0) (pj4 v 0) (pj4 v 1) (pj5 v 0) (pj5 v 1) (pj6 v 0) (pj7 v 0) (pj7 v 1) (pj8 v 0) (pj9 v 0) (pj9 v 1) (pj10 v 0) (pj11 v 0) (pj12 v 0) (pj4 v 2) (pj13 v 0) (pj13 v 1) (pj13 v 2) (pj13 v 3) (pj13 v 4) (pj13 v 5) (pj13 v 6) (pj13 v 7) (pj13 v 8) (pj13 v 9) (pj13 v 10) (pj13 v 11) (pj13 v 12) (pj7 v 2) (pj7 v 3) (pj7 v 4) (pj7 v 5) (pj7 v 6) (pj7 v 7) (pj7 v 8) (pj7 v 9) (pj7 v 10) (pj5 v 2) (pj14 v 0) (pj15 v 0) (pj16 v 0) (pj7 v 11) (pj7 v 12) (pj7 v 13) (pj17 v 0) (pj5 v 3) (pj18 v 0) (pj18 v 1) (pj18 v 2) (pj18 v 3) (pj18 v 4) (pj18 v 5) (pj18 v 6) (pj18 v 7) (pj18 v 8) (pj18 v 9) (pj18 v 10) (pj18 v 11) (pj19 v 0) (pj19 v 1) (pj19 v 2) (pj19 v 3) (pj19 v 4) (pj19 v 5) (pj19 v 6) (pj19 v 7) (pj19 v 8) (pj19 v 9) (pj19 v 10) (pj19 v 11) ∧
  PP_law_n17 (pj0 v 0) (pj1 v 0) (pj2 v 0) (pj3 v 0) (pj4 v 0) (pj4 v 1) (pj5 v 0) (pj5 v 1) (pj6 v 0) (pj7 v 0) (pj7 v 1) (pj8 v 0) (pj9 v 0) (pj9 v 1) (pj10 v 0) (pj11 v 0) (pj12 v 0) (pj4 v 2) (pj13 v 0) (pj13 v 1) (pj13 v 2) (pj13 v 3) (pj13 v 4) (pj13 v 5) (pj13 v 6) (pj13 v 7) (pj13 v 10) (pj13 v 11) (pj7 v 2) (pj7 v 5) (pj7 v 6) (pj7 v 7) (pj7 v 8) (pj7 v 9) (pj7 v 10) (pj5 v 2) (pj14 v 0) (pj15 v 0) (pj16 v 0) (pj7 v 14) (pj20 v 0) (pj18 v 12) (pj18 v 0) (pj18 v 3) (pj18 v 1) (pj18 v 4) (pj18 v 2) (pj18 v 5) (pj18 v 13) (pj18 v 14) (pj18 v 15) (pj18 v 16) (pj18 v 17) (pj18 v 18) (pj21 v 0) (pj21 v 1) (pj21 v 2) (pj21 v 3) (pj21 v 4) (pj21 v 5) (pj19 v 12) (pj19 v 13) (pj19 v 14) (pj19 v 15) (pj19 v 16) (pj19 v 17) (pj19 v 18) (pj19 v 19) (pj19 v 20) (pj19 v 21) (pj19 v 22) (pj19 v 23) (pj19 v 24) (pj19 v 25) (pj19 v 26) (pj19 v 27) (pj19 v 28) (pj19 v 29) (pj22 v 0) ∧
  PP_law_n8 (pj0 v 0) (pj1 v 0) (pj2 v 0) (pj3 v 0) (pj4 v 0) (pj4 v 1) (pj5 v 0) (pj5 v 1) (pj6 v 0) (pj7 v 0) (pj7 v 1) (pj8 v 0) (pj9 v 0) (pj9 v 1) (pj10 v 0) (pj11 v 0) (pj12 v 0) (pj16 v 0) (pj4 v 2) (pj13 v 0) (pj13 v 1) (pj13 v 2) (pj13 v 3) (pj13 v 4) (pj13 v 5) (pj13 v 6) (pj13 v 7) (pj13 v 10) (pj13 v 11) (pj13 v 12) (pj7 v 15) (pj5 v 4) (pj18 v 19) (pj18 v 20) (pj18 v 21) (pj18 v 22) (pj18 v 23) (pj18 v 24) (pj19 v 16) (pj19 v 19) (pj19 v 30) (pj19 v 31) (pj19 v 32) (pj19 v 33) (pj19 v 34) (pj19 v 35) (pj19 v 36) (pj19 v 37) (pj19 v 38) (pj19 v 39) (pj19 v 40) (pj19 v 41) (pj19 v 42) (pj19 v 43) ∧
  PP_law_n12 (pj0 v 0) (pj1 v 0) (pj2 v 0) (pj3 v 0) (pj4 v 0) (pj4 v 1) (pj5 v 0) (pj5 v 1) (pj6 v 0) (pj7 v 0) (pj7 v 1) (pj8 v 0) (pj9 v 0) (pj9 v 1) (pj10 v 0) (pj11 v 0) (pj12 v 0) (pj4 v 2) (pj13 v 0) (pj13 v 1) (pj13 v 2) (pj13 v 3) (pj13 v 4) (pj13 v 5) (pj13 v 6) (pj13 v 7) (pj13 v 10) (pj13 v 11) (pj7 v 2) (pj7 v 5) (pj7 v 6) (pj7 v 7) (pj7 v 8) (pj7 v 9) (pj7 v 10) (pj5 v 2) (pj14 v 0) (pj15 v 0) (pj16 v 0) (pj18 v 25) (pj19 v 44) ∧
  PP_law_n14 (pj0 v 0) (pj1 v 0) (pj2 v 0) (pj3 v 0) (pj4 v 0) (pj4 v 1) (pj5 v 0) (pj5 v 1) (pj6 v 0) (pj7 v 0) (pj7 v 1) (pj8 v 0) (pj9 v 0) (pj9 v 1) (pj10 v 0) (pj11 v 0) (pj12 v 0) (pj4 v 2) (pj13 v 0) (pj13 v 1) (pj13 v 2) (pj13 v 3) (pj13 v 4) (pj13 v 5) (pj13 v 6) (pj13 v 7) (pj13 v 10) (pj13 v 11) (pj7 v 2) (pj7 v 5) (pj7 v 6) (pj7 v 7) (pj7 v 8) (pj7 v 9) (pj7 v 10) (pj5 v 2) (pj14 v 0) (pj15 v 0) (pj16 v 0) (pj18 v 25) (pj18 v 19) (pj18 v 20) (pj19 v 44) (pj19 v 45) (pj19 v 46) (pj19 v 47) (pj19 v 16) (pj19 v 19) (pj19 v 22) (pj19 v 25) (pj19 v 28) (pj7 v 16) (pj7 v 17) (pj7 v 18) (pj5 v 5) (pj21 v 6) ∧
  PP_law_n15 (pj0 v 0) (pj1 v 0) (pj2 v 0) (pj3 v 0) (pj4 v 0) (pj4 v 1) (pj5 v 0) (pj5 v 1) (pj6 v 0) (pj7 v 0) (pj7 v 1) (pj8 v 0) (pj9 v 0) (pj9 v 1) (pj10 v 0) (pj11 v 0) (pj12 v 0) (pj4 v 2) (pj13 v 0) (pj13 v 1) (pj13 v 2) (pj13 v 3) (pj13 v 4) (pj13 v 5) (pj13 v 6) (pj13 v 7) (pj13 v 10) (pj13 v 11) (pj7 v 2) (pj7 v 5) (pj7 v 6) (pj7 v 7) (pj7 v 8) (pj7 v 9) (pj7 v 10) (pj5 v 2) (pj14 v 0) (pj15 v 0) (pj16 v 0) (pj18 v 19) (pj18 v 20) (pj18 v 21) (pj18 v 22) (pj19 v 16) (pj19 v 19) (pj7 v 15) (pj17 v 1) (pj5 v 4) ∧
  PP_it_b1 (pj0 v 0) (pj1 v 0) (pj2 v 0) (pj3 v 0) (pj4 v 0) (pj4 v 1) (pj5 v 0) (pj5 v 1) (pj6 v 0) (pj7 v 0) (pj7 v 1) (pj8 v 0) (pj9 v 0) (pj9 v 1) (pj10 v 0) (pj11 v 0) (pj12 v 0) (pj4 v 2) (pj13 v 0) (pj13 v 1) (pj13 v 2) (pj13 v 3) (pj13 v 4) (pj13 v 5) (pj13 v 6) (pj13 v 7) (pj13 v 10) (pj13 v 11) (pj7 v 2) (pj17 v 2) (pj5 v 2) (pj14 v 0) (pj15 v 0) (pj16 v 0) (pj7 v 19) (pj5 v 6) (pj18 v 26) (pj18 v 27) (pj18 v 28) (pj18 v 25) (pj18 v 29) (pj18 v 30) (pj18 v 31) (pj18 v 32) (pj19 v 48) (pj19 v 49) (pj19 v 50) (pj19 v 44) (pj19 v 51) ∧
  PP_t18_b2 (pj0 v 0) (pj1 v 0) (pj2 v 0) (pj3 v 0) (pj4 v 0) (pj4 v 1) (pj5 v 0) (pj5 v 1) (pj6 v 0) (pj7 v 0) (pj7 v 1) (pj8 v 0) (pj9 v 0) (pj9 v 1) (pj10 v 0) (pj11 v 0) (pj12 v 0) (pj4 v 2) (pj13 v 0) (pj13 v 1) (pj13 v 2) (pj13 v 3) (pj13 v 4) (pj13 v 5) (pj13 v 6) (pj13 v 7) (pj13 v 8) (pj13 v 9) (pj7 v 2) (pj7 v 3) (pj7 v 4) (pj7 v 5) (pj7 v 6) (pj7 v 7) (pj7 v 8) (pj7 v 9) (pj7 v 10) (pj5 v 2) (pj14 v 0) (pj14 v 1) (pj14 v 2) (pj15 v 0) (pj16 v 0) (pj5 v 7) (pj7 v 14) (pj7 v 20) (pj7 v 21) (pj7 v 13) (pj17 v 3) (pj17 v 4) (pj17 v 0) (pj5 v 4) (pj5 v 8) (pj5 v 3) (pj20 v 0) (pj18 v 12) (pj18 v 19) (pj18 v 20) (pj18 v 23) (pj18 v 33) (pj18 v 34) (pj18 v 35) (pj18 v 36) (pj19 v 52) (pj19 v 32) (pj19 v 53) (pj19 v 51) (pj19 v 54) (pj19 v 55) (pj19 v 16) (pj19 v 19) (pj18 v 37) (pj18 v 38) (pj18 v 39) (pj18 v 40) (pj18 v 41) (pj18 v 42) (pj5 v 9) ∧
  PP_law_n20 (pj0 v 0) (pj1 v 0) (pj2 v 0) (pj3 v 0) (pj4 v 0) (pj4 v 1) (pj5 v 0) (pj5 v 1) (pj6 v 0) (pj7 v 0) (pj7 v 1) (pj8 v 0) (pj9 v 0) (pj9 v 1) (pj10 v 0) (pj11 v 0) (pj12 v 0) (pj4 v 2) (pj13 v 0) (pj13 v 1) (pj13 v 2) (pj13 v 3) (pj13 v 4) (pj13 v 5) (pj13 v 6) (pj13 v 7) (pj13 v 8) (pj13 v 9) (pj13 v 10) (pj13 v 11) (pj13 v 12) (pj7 v 2) (pj7 v 3) (pj7 v 4) (pj7 v 5) (pj7 v 6) (pj7 v 7) (pj7 v 8) (pj7 v 9) (pj7 v 10) (pj5 v 2) (pj14 v 0) (pj15 v 0) (pj16 v 0) (pj19 v 31) (pj19 v 56) (pj19 v 57) (pj19 v 58) (pj19 v 59) (pj19 v 60) (pj19 v 61) (pj23 v 0) (pj23 v 1) (pj23 v 2) (pj23 v 3) (pj23 v 4) (pj23 v 5) (pj23 v 6) (pj23 v 7) (pj23 v 8) (pj23 v 9) (pj23 v 10) (pj23 v 11) ∧
  PP_law_n22 (pj0 v 0) (pj1 v 0) (pj2 v 0) (pj3 v 0) (pj4 v 0) (pj4 v 1) (pj5 v 0) (pj5 v 1) (pj6 v 0) (pj7 v 0) (pj7 v 1) (pj8 v 0) (pj9 v 0) (pj9 v 1) (pj10 v 0) (pj11 v 0) (pj12 v 0) (pj4 v 2) (pj13 v 0) (pj13 v 1) (pj13 v 2) (pj13 v 3) (pj13 v 4) (pj13 v 5) (pj13 v 6) (pj13 v 7) (pj13 v 8) (pj13 v 9) (pj13 v 10) (pj13 v 11) (pj13 v 12) (pj7 v 2) (pj7 v 3) (pj7 v 4) (pj7 v 5) (pj7 v 6) (pj7 v 7) (pj7 v 8) (pj7 v 9) (pj7 v 10) (pj5 v 2) (pj14 v 0) (pj15 v 0) (pj16 v 0) (pj18 v 43) (pj19 v 31) (pj19 v 12) (pj19 v 15) (pj19 v 18) (pj19 v 21) (pj19 v 24) (pj19 v 27) (pj7 v 11) (pj7 v 12) ∧
  PP_law_n13 (pj0 v 0) (pj1 v 0) (pj2 v 0) (pj3 v 0) (pj4 v 0) (pj4 v 1) (pj5 v 0) (pj5 v 1) (pj6 v 0) (pj7 v 0) (pj7 v 1) (pj8 v 0) (pj9 v 0) (pj9 v 1) (pj10 v 0) (pj11 v 0) (pj12 v 0) (pj4 v 2) (pj13 v 0) (pj13 v 1) (pj13 v 2) (pj13 v 3) (pj13 v 4) (pj13 v 5) (pj13 v 6) (pj13 v 7) (pj13 v 10) (pj13 v 11) (pj7 v 2) (pj17 v 2) (pj5 v 2) (pj14 v 0) (pj15 v 0) (pj16 v 0) (pj18 v 44) (pj18 v 45) (pj19 v 62) (pj19 v 63) (pj19 v 64) (pj19 v 46) (pj19 v 47) (pj7 v 16) (pj21 v 6) (pj24 v 0) ∧
  PP_it_b3 (pj0 v 0) (pj1 v 0) (pj2 v 0) (pj3 v 0) (pj4 v 0) (pj4 v 1) (pj5 v 0) (pj5 v 1) (pj6 v 0) (pj7 v 0) (pj7 v 1) (pj8 v 0) (pj9 v 0) (pj9 v 1) (pj10 v 0) (pj11 v 0) (pj12 v 0) (pj4 v 2) (pj13 v 0) (pj13 v 1) (pj13 v 2) (pj13 v 3) (pj13 v 4) (pj13 v 5) (pj13 v 6) (pj13 v 7) (pj13 v 10) (pj13 v 11) (pj7 v 2) (pj17 v 2) (pj5 v 2) (pj14 v 0) (pj15 v 0) (pj16 v 0) (pj21 v 7) (pj18 v 44) (pj18 v 45) (pj19 v 62) (pj19 v 63) (pj19 v 64) (pj24 v 0) ∧
  PP_it_b0 (pj0 v 0) (pj1 v 0) (pj2 v 0) (pj3 v 0) (pj4 v 0) (pj4 v 1) (pj5 v 0) (pj5 v 1) (pj6 v 0) (pj7 v 0) (pj7 v 1) (pj8 v 0) (pj9 v 0) (pj9 v 1) (pj10 v 0) (pj11 v 0) (pj12 v 0) (pj4 v 2) (pj13 v 0) (pj13 v 1) (pj13 v 2) (pj13 v 3) (pj13 v 4) (pj13 v 5) (pj13 v 6) (pj13 v 7) (pj13 v 10) (pj13 v 11) (pj7 v 2) (pj17 v 2) (pj5 v 2) (pj14 v 0) (pj15 v 0) (pj16 v 0) (pj18 v 19) (pj18 v 20) (pj18 v 44) (pj18 v 45) (pj19 v 16) (pj19 v 19) (pj19 v 22) (pj19 v 25) (pj22 v 0) ∧
  PP_law_n7 (pj0 v 0) (pj1 v 0) (pj2 v 0) (pj3 v 0) (pj4 v 0) (pj4 v 1) (pj5 v 0) (pj5 v 1) (pj6 v 0) (pj7 v 0) (pj7 v 1) (pj8 v 0) (pj9 v 0) (pj9 v 1) (pj10 v 0) (pj11 v 0) (pj12 v 0) (pj16 v 0) (pj4 v 2) (pj13 v 0) (pj13 v 1) (pj13 v 2) (pj13 v 3) (pj13 v 4) (pj13 v 5) (pj13 v 6) (pj13 v 7) (pj13 v 10) (pj13 v 11) (pj13 v 12) (pj7 v 22) (pj13 v 13) (pj18 v 19) (pj18 v 20) (pj18 v 21) (pj18 v 22) (pj18 v 23) (pj18 v 24) (pj19 v 16) (pj19 v 19) (pj19 v 30) (pj19 v 31) (pj19 v 32) (pj19 v 33) ∧
  PP_it_b2 (pj0 v 0) (pj1 v 0) (pj2 v 0) (pj3 v 0) (pj4 v 0) (pj4 v 1) (pj5 v 0) (pj5 v 1) (pj6 v 0) (pj7 v 0) (pj7 v 1) (pj8 v 0) (pj9 v 0) (pj9 v 1) (pj10 v 0) (pj11 v 0) (pj12 v 0) (pj4 v 2) (pj13 v 0) (pj13 v 1) (pj13 v 2) (pj13 v 3) (pj13 v 4) (pj13 v 5) (pj13 v 6) (pj13 v 7) (pj13 v 10) (pj13 v 11) (pj7 v 2) (pj17 v 2) (pj5 v 2) (pj14 v 0) (pj15 v 0) (pj16 v 0) (pj21 v 6) (pj21 v 8) (pj18 v 29) (pj18 v 24) (pj19 v 65) (pj19 v 53) (pj19 v 33) (pj19 v 51) ∧
  PP_t19_b1 (pj0 v 0) (pj1 v 0) (pj2 v 0) (pj3 v 0) (pj4 v 0) (pj4 v 1) (pj5 v 0) (pj5 v 1) (pj6 v 0) (pj7 v 0) (pj7 v 1) (pj8 v 0) (pj9 v 0) (pj9 v 1) (pj10 v 0) (pj11 v 0) (pj12 v 0) (pj4 v 2) (pj13 v 0) (pj13 v 1) (pj13 v 2) (pj13 v 3) (pj13 v 4) (pj13 v 5) (pj13 v 6) (pj13 v 7) (pj13 v 8) (pj13 v 9) (pj7 v 2) (pj7 v 3) (pj7 v 4) (pj7 v 5) (pj7 v 6) (pj7 v 7) (pj7 v 8) (pj7 v 9) (pj7 v 10) (pj5 v 2) (pj14 v 0) (pj14 v 1) (pj14 v 2) (pj15 v 0) (pj16 v 0) (pj5 v 7) (pj7 v 21) (pj17 v 4) (pj5 v 8) (pj18 v 23) (pj18 v 34) (pj18 v 36) (pj18 v 46) (pj19 v 52) (pj19 v 32) (pj19 v 53) (pj19 v 55) (pj19 v 30) (pj18 v 40) (pj18 v 38) (pj5 v 9) ∧
  PP_t18_b0 (pj0 v 0) (pj1 v 0) (pj2 v 0) (pj3 v 0) (pj4 v 0) (pj4 v 1) (pj5 v 0) (pj5 v 1) (pj6 v 0) (pj7 v 0) (pj7 v 1) (pj8 v 0) (pj9 v 0) (pj9 v 1) (pj10 v 0) (pj11 v 0) (pj12 v 0) (pj4 v 2) (pj13 v 0) (pj13 v 1) (pj13 v 2) (pj13 v 3) (pj13 v 4) (pj13 v 5) (pj13 v 6) (pj13 v 7) (pj13 v 8) (pj13 v 9) (pj7 v 2) (pj7 v 3) (pj7 v 4) (pj7 v 5) (pj7 v 6) (pj7 v 7) (pj7 v 8) (pj7 v 9) (pj7 v 10) (pj5 v 2) (pj14 v 0) (pj14 v 1) (pj14 v 2) (pj15 v 0) (pj16 v 0) (pj5 v 7) (pj7 v 23) (pj21 v 7) (pj19 v 52) (pj19 v 62) (pj23 v 12) (pj23 v 13)
set_option synthInstance.maxSize 4000 in
set_option synthInstance.maxHeartbeats 400000 in
noncomputable def cc : VV := pick (by have h1 := ne_World; have h2 := ne_Around; have h3 := ne_Shared; infer_instance) GG
noncomputable section
@[irreducible] def w := pj0 cc 0
@[irreducible] def p := pj1 cc 0
@[irreducible] def loose := pj2 cc 0
@[irreducible] def mean := pj3 cc 0
@[irreducible] def mg := pj4 cc 0
@[irreducible] def mb := pj4 cc 1
@[irreducible] def dp := pj5 cc 0
@[irreducible] def un := pj5 cc 1
@[irreducible] def gd := pj6 cc 0
@[irreducible] def L := pj7 cc 0
@[irreducible] def fa := pj7 cc 1
@[irreducible] def A₀ := pj8 cc 0
@[irreducible] def base := pj9 cc 0
@[irreducible] def h₀ := pj9 cc 1
@[irreducible] def s := pj10 cc 0
@[irreducible] def Q := pj11 cc 0
@[irreducible] def E := pj12 cc 0
@[irreducible] def m := pj4 cc 2
@[irreducible] def jk := pj13 cc 0
@[irreducible] def jq := pj13 cc 1
@[irreducible] def yk := pj13 cc 2
@[irreducible] def jm := pj13 cc 3
@[irreducible] def jt := pj13 cc 4
@[irreducible] def jp := pj13 cc 5
@[irreducible] def jr := pj13 cc 6
@[irreducible] def jl := pj13 cc 7
@[irreducible] def o30 := pj13 cc 8
@[irreducible] def o37 := pj13 cc 9
@[irreducible] def t37 := pj13 cc 10
@[irreducible] def t30 := pj13 cc 11
@[irreducible] def t134 := pj13 cc 12
@[irreducible] def R := pj7 cc 2
@[irreducible] def c30 := pj7 cc 3
@[irreducible] def c37 := pj7 cc 4
@[irreducible] def T0 := pj7 cc 5
@[irreducible] def T1 := pj7 cc 6
@[irreducible] def T2 := pj7 cc 7
@[irreducible] def T3 := pj7 cc 8
@[irreducible] def T4 := pj7 cc 9
@[irreducible] def T5 := pj7 cc 10
@[irreducible] def kR := pj5 cc 2
@[irreducible] def ps := pj14 cc 0
@[irreducible] def zs := pj15 cc 0
@[irreducible] def rest := pj16 cc 0
@[irreducible] def D1 := pj7 cc 11
@[irreducible] def D2 := pj7 cc 12
@[irreducible] def NB := pj7 cc 13
@[irreducible] def nbL := pj17 cc 0
@[irreducible] def kN := pj5 cc 3
@[irreducible] def i0 := pj18 cc 0
@[irreducible] def i1 := pj18 cc 1
@[irreducible] def i2 := pj18 cc 2
@[irreducible] def j0 := pj18 cc 3
@[irreducible] def j1 := pj18 cc 4
@[irreducible] def j2 := pj18 cc 5
@[irreducible] def n0 := pj18 cc 6
@[irreducible] def n1 := pj18 cc 7
@[irreducible] def n2 := pj18 cc 8
@[irreducible] def p0 := pj18 cc 9
@[irreducible] def p1 := pj18 cc 10
@[irreducible] def p2 := pj18 cc 11
@[irreducible] def it0 := pj19 cc 0
@[irreducible] def it1 := pj19 cc 1
@[irreducible] def it2 := pj19 cc 2
@[irreducible] def jt0 := pj19 cc 3
@[irreducible] def jt1 := pj19 cc 4
@[irreducible] def jt2 := pj19 cc 5
@[irreducible] def nt0 := pj19 cc 6
@[irreducible] def nt1 := pj19 cc 7
@[irreducible] def nt2 := pj19 cc 8
@[irreducible] def pt0 := pj19 cc 9
@[irreducible] def pt1 := pj19 cc 10
@[irreducible] def pt2 := pj19 cc 11
@[irreducible] def TB := pj7 cc 14
@[irreducible] def us := pj20 cc 0
@[irreducible] def b := pj18 cc 12
@[irreducible] def i3 := pj18 cc 13
@[irreducible] def j3 := pj18 cc 14
@[irreducible] def i4 := pj18 cc 15
@[irreducible] def j4 := pj18 cc 16
@[irreducible] def i5 := pj18 cc 17
@[irreducible] def j5 := pj18 cc 18
@[irreducible] def x0 := pj21 cc 0
@[irreducible] def x1 := pj21 cc 1
@[irreducible] def x2 := pj21 cc 2
@[irreducible] def x3 := pj21 cc 3
@[irreducible] def x4 := pj21 cc 4
@[irreducible] def x5 := pj21 cc 5
@[irreducible] def t0 := pj19 cc 12
@[irreducible] def u0 := pj19 cc 13
@[irreducible] def v0 := pj19 cc 14
@[irreducible] def t1 := pj19 cc 15
@[irreducible] def u1 := pj19 cc 16
@[irreducible] def v1 := pj19 cc 17
@[irreducible] def t2 := pj19 cc 18
@[irreducible] def u2 := pj19 cc 19
@[irreducible] def v2 := pj19 cc 20
@[irreducible] def t3 := pj19 cc 21
@[irreducible] def u3 := pj19 cc 22
@[irreducible] def v3 := pj19 cc 23
@[irreducible] def t4 := pj19 cc 24
@[irreducible] def u4 := pj19 cc 25
@[irreducible] def v4 := pj19 cc 26
@[irreducible] def t5 := pj19 cc 27
@[irreducible] def u5 := pj19 cc 28
@[irreducible] def v5 := pj19 cc 29
@[irreducible] def ov := pj22 cc 0
@[irreducible] def U := pj7 cc 15
@[irreducible] def kU := pj5 cc 4
@[irreducible] def P := pj18 cc 19
@[irreducible] def Q' := pj18 cc 20
@[irreducible] def fi := pj18 cc 21
@[irreducible] def se := pj18 cc 22
@[irreducible] def sc := pj18 cc 23
@[irreducible] def bo := pj18 cc 24
@[irreducible] def tf := pj19 cc 30
@[irreducible] def ts := pj19 cc 31
@[irreducible] def tc := pj19 cc 32
@[irreducible] def tb := pj19 cc 33
@[irreducible] def w0 := pj19 cc 34
@[irreducible] def w1 := pj19 cc 35
@[irreducible] def w2 := pj19 cc 36
@[irreducible] def w3 := pj19 cc 37
@[irreducible] def w4 := pj19 cc 38
@[irreducible] def w5 := pj19 cc 39
@[irreducible] def w6 := pj19 cc 40
@[irreducible] def w7 := pj19 cc 41
@[irreducible] def w8 := pj19 cc 42
@[irreducible] def w9 := pj19 cc 43
@[irreducible] def WH := pj18 cc 25
@[irreducible] def tw := pj19 cc 44
@[irreducible] def g1 := pj19 cc 45
@[irreducible] def g2 := pj19 cc 46
@[irreducible] def g3 := pj19 cc 47
@[irreducible] def G := pj7 cc 16
@[irreducible] def Ta := pj7 cc 17
@[irreducible] def Ld := pj7 cc 18
@[irreducible] def kL := pj5 cc 5
@[irreducible] def xl := pj21 cc 6
@[irreducible] def vsU := pj17 cc 1
@[irreducible] def xs := pj17 cc 2
@[irreducible] def PT := pj7 cc 19
@[irreducible] def kP := pj5 cc 6
@[irreducible] def UN := pj18 cc 29
@[irreducible] def b1 := pj18 cc 30
@[irreducible] def b2 := pj18 cc 31
@[irreducible] def b3 := pj18 cc 32
@[irreducible] def a1 := pj19 cc 48
@[irreducible] def a2 := pj19 cc 49
@[irreducible] def a3 := pj19 cc 50
@[irreducible] def tu := pj19 cc 51
@[irreducible] def ps30 := pj14 cc 1
@[irreducible] def ps37 := pj14 cc 2
@[irreducible] def k := pj5 cc 7
@[irreducible] def UP := pj7 cc 20
@[irreducible] def DN := pj7 cc 21
@[irreducible] def upL := pj17 cc 3
@[irreducible] def dnL := pj17 cc 4
@[irreducible] def kD := pj5 cc 8
@[irreducible] def uv := pj18 cc 33
@[irreducible] def dv := pj18 cc 34
@[irreducible] def nv := pj18 cc 35
@[irreducible] def rs := pj18 cc 36
@[irreducible] def tk := pj19 cc 52
@[irreducible] def td := pj19 cc 53
@[irreducible] def tn := pj19 cc 54
@[irreducible] def tr := pj19 cc 55
@[irreducible] def A1 := pj18 cc 37
@[irreducible] def A2 := pj18 cc 38
@[irreducible] def A3 := pj18 cc 39
@[irreducible] def B1 := pj18 cc 40
@[irreducible] def V1 := pj18 cc 41
@[irreducible] def Z := pj18 cc 42
@[irreducible] def M := pj5 cc 9
@[irreducible] def q0 := pj19 cc 56
@[irreducible] def q1 := pj19 cc 57
@[irreducible] def q2 := pj19 cc 58
@[irreducible] def q3 := pj19 cc 59
@[irreducible] def q4 := pj19 cc 60
@[irreducible] def q5 := pj19 cc 61
@[irreducible] def sd := pj18 cc 43
@[irreducible] def i := pj18 cc 44
@[irreducible] def j := pj18 cc 45
@[irreducible] def th := pj19 cc 62
@[irreducible] def ui := pj19 cc 63
@[irreducible] def uj := pj19 cc 64
@[irreducible] def hs := pj24 cc 0
@[irreducible] def xh := pj21 cc 7
@[irreducible] def H := pj7 cc 22
@[irreducible] def oH := pj13 cc 13
@[irreducible] def xd := pj21 cc 8
@[irreducible] def tl := pj19 cc 65
@[irreducible] def fv := pj18 cc 46
@[irreducible] def Tk := pj7 cc 23
@[irreducible] def u := pj23 cc 12
@[irreducible] def v := pj23 cc 13
end
theorem words_a58 : True := by
  k_with_none
  k_with "k_ne" => (refine neN ?_; (try dsimp only); first | (with_reducible assumption) | (refine Ne.symm ?_; with_reducible assumption))
  exact trivial
theorem core_law_n12 : PP_law_n12 w p loose mean mg mb dp un gd L fa A₀ base h₀ s Q E m jk jq yk jm jt jp jr jl t37 t30 R T0 T1 T2 T3 T4 T5 kR ps zs rest WH tw := by
  intro B X T hd hu ch1 ch2 ch3 hl hz hzR hR F N cw cr hI hself fin
  w_top off
  obtain ⟨y0,y1,y2,y3,y4,y5,y6,y7,y8,y9,y10⟩ : (∀ q ∈ zs,q.1 ≠ L+1+1+1+1+1+1+1+1) ∧ (∀ q ∈ zs,q.1 ≠ L+1+1+1+1+1+1+1) ∧ (∀ q ∈ zs,q.1 ≠ L+1+1+1+1+1+1) ∧ (∀ q ∈ zs,q.1 ≠ L+1+1+1+1+1) ∧ (∀ q ∈ zs,q.1 ≠ L+1+1+1+1) ∧ (∀ q ∈ zs,q.1 ≠ L+1+1+1) ∧ (∀ q ∈ zs,q.1 ≠ L+1+1) ∧ (∀ q ∈ zs,q.1 ≠ L+1) ∧ (∀ q ∈ zs,q.1 ≠ 37) ∧ (∀ q ∈ zs,q.1 ≠ 30) ∧ (∀ q ∈ zs,q.1 ≠ 134) :=
    ⟨fun q hq => (hz q hq).1,fun q hq => (hz q hq).2.1,fun q hq => (hz q hq).2.2.1,fun q hq => (hz q hq).2.2.2.1,fun q hq => (hz q hq).2.2.2.2.1,fun q hq => (hz q hq).2.2.2.2.2.1,fun q hq => (hz q hq).2.2.2.2.2.2.1,fun q hq => (hz q hq).2.2.2.2.2.2.2.1,fun q hq => (hz q hq).2.2.2.2.2.2.2.2.1,fun q hq => (hz q hq).2.2.2.2.2.2.2.2.2.1,fun q hq => (hz q hq).2.2.2.2.2.2.2.2.2.2⟩
  k_steps
  · exfalso
    rename Float64.isInf _ = true => hinf
    rw [show Float64.isInf (fl64 WH) = true from hinf] at hI
    cases hI
  rename Fr h₀ L _ _ => F1
  rename News h₀ L _ _ => N1
  have eH : hlsH (fl64 WH) (fl64 WH) (fl64 WH) = 0 := by unfold hlsH; exact if_pos hself
  have eS : hlsS (fl64 WH) (fl64 WH) (fl64 WH) = 0 := by unfold hlsS; exact if_pos hself
  show wpAny _ _ (call (.ref 90) [.float (fl64 WH) _,.float (fl64 WH) _,.float (fl64 WH) _]) _ _ _
  k_dflt (refine ctr_use0 (hls_ctr2 w p loose mean mg mb (fl64 WH) (fl64 WH) (fl64 WH) _ _ _ (fun h => by rw [hself] at h; cases h)) (by k_asm) F1 (by k_asm) N1 (by k_asm) (by exact rfl) trivial (by ktr_room) (by ktr_units) ?_)
  intro r tl h9 tk9 F9 N9 hne hpost
  obtain ⟨G,g1,g2,g3,rfl,hg2,rfl⟩ := hpost
  have hG := hne _ (.head _)
  clear F1 N1 hne
  rw [eH,eS] at N9
  generalize hlsL (fl64 WH) (fl64 WH) (fl64 WH) = xl at *
  simp only [List.cons_append,List.nil_append] at N9
  try dsimp only
  k_steps
  rename Fr h₀ L _ _ => F8
  rename News h₀ L _ _ => N8
  rename_i Ld ha l1a Dp hb l1b hc hdd he
  clear l1b
  have l3 := tb_ltOf (show AllLt Ld ((G,({ cls := .type "tuple", data := .seq #[.float 0 g1,.float xl g2,.float 0 g3] } : Obj))::(R,listOf #[.ref T0,.ref T1,.ref T2,.ref T3,.ref T4,.ref T5] kR)::(L+1+1+1+1+1+1+1+1,jk)::(L+1+1+1+1+1+1+1,jq)::(L+1+1+1+1+1+1,yk)::(L+1+1+1+1+1,jm)::(L+1+1+1+1,jt)::(L+1+1+1,jp)::(L+1+1,jr)::(L+1,jl)::(37,t37)::(30,t30)::(134,tabObj ps)::zs) from l1a)
  obtain ⟨_,q0,q1,q2,q3,q4,q5,q6,q7,q8,q9,q10,_⟩ := (show AllNe G ((R,listOf #[.ref T0,.ref T1,.ref T2,.ref T3,.ref T4,.ref T5] kR)::(L+1+1+1+1+1+1+1+1,jk)::(L+1+1+1+1+1+1+1,jq)::(L+1+1+1+1+1+1,yk)::(L+1+1+1+1+1,jm)::(L+1+1+1+1,jt)::(L+1+1+1,jp)::(L+1+1,jr)::(L+1,jl)::(37,t37)::(30,t30)::(134,tabObj ps)::[]) from AllNe.sub hG (by walk_at "z_sub"))
  refine fin _ _ _ Ld 0 G g1 g2 g3 xl rfl hg2 F8 (cb_drop N8 ?_) (fun q hq => ?_) (fun q hq => ?_) (allNe_of fun q hq => Nat.ne_of_lt (l3 q ?_)) (fun y h1 h2 => (if_neg h1).trans (if_neg h2)) (by walk_at "k_opq") (by walk_at "k_opq")
  · exact fun q hq => .tail _ (by
      rcases List.mem_cons.mp hq with rfl | hq
      · exact .head _
      · rcases List.mem_append.mp (show q ∈ ((R,listOf #[.ref T0,.ref T1,.ref T2,.ref T3,.ref T4,.ref T5] kR)::(L+1+1+1+1+1+1+1+1,jk)::(L+1+1+1+1+1+1+1,jq)::(L+1+1+1+1+1+1,yk)::(L+1+1+1+1+1,jm)::(L+1+1+1+1,jt)::(L+1+1+1,jp)::(L+1+1,jr)::(L+1,jl)::(37,t37)::(30,t30)::(134,tabObj ps)::[] : List (Addr × Obj)) ++ ((G,({ cls := .type "tuple", data := .seq #[.float 0 g1,.float xl g2,.float 0 g3] } : Obj))::zs) from hq) with hq | hq
        · exact .tail _ (.tail _ (List.mem_append_left zs hq))
        · rcases List.mem_cons.mp hq with rfl | hq
          · exact .tail _ (.head _)
          · exact .tail _ (.tail _ (List.mem_append_right ((R,listOf #[.ref T0,.ref T1,.ref T2,.ref T3,.ref T4,.ref T5] kR)::(L+1+1+1+1+1+1+1+1,jk)::(L+1+1+1+1+1+1+1,jq)::(L+1+1+1+1+1+1,yk)::(L+1+1+1+1+1,jm)::(L+1+1+1+1,jt)::(L+1+1+1,jp)::(L+1+1,jr)::(L+1,jl)::(37,t37)::(30,t30)::(134,tabObj ps)::[]) hq)))
  · rcases List.mem_cons.mp hq with rfl | hq
    · exact ⟨Ne.symm q0,Ne.symm q1,Ne.symm q2,Ne.symm q3,Ne.symm q4,Ne.symm q5,Ne.symm q6,Ne.symm q7,Ne.symm q8,Ne.symm q9,Ne.symm q10⟩
    · exact hz q hq
  · rcases List.mem_cons.mp hq with rfl | hq
    · exact Ne.symm (AllNe.mem (p := (R,listOf #[.ref T0,.ref T1,.ref T2,.ref T3,.ref T4,.ref T5] kR)) hG (.head _))
    · exact hzR q hq
  · rcases List.mem_append.mp (show q ∈ ((R,listOf #[.ref T0,.ref T1,.ref T2,.ref T3,.ref T4,.ref T5] kR)::(L+1+1+1+1+1+1+1+1,jk)::(L+1+1+1+1+1+1+1,jq)::(L+1+1+1+1+1+1,yk)::(L+1+1+1+1+1,jm)::(L+1+1+1+1,jt)::(L+1+1+1,jp)::(L+1+1,jr)::(L+1,jl)::(37,t37)::(30,t30)::(134,tabObj ps)::[] : List (Addr × Obj)) ++ ((G,({ cls := .type "tuple", data := .seq #[.float 0 g1,.float xl g2,.float 0 g3] } : Obj))::zs) from hq) with hq | hq
    · exact .tail _ (List.mem_append_left zs hq)
    · rcases List.mem_cons.mp hq with rfl | hq
      · exact .head _
      · exact .tail _ (List.mem_append_right ((R,listOf #[.ref T0,.ref T1,.ref T2,.ref T3,.ref T4,.ref T5] kR)::(L+1+1+1+1+1+1+1+1,jk)::(L+1+1+1+1+1+1+1,jq)::(L+1+1+1+1+1+1,yk)::(L+1+1+1+1+1,jm)::(L+1+1+1+1,jt)::(L+1+1+1,jp)::(L+1+1,jr)::(L+1,jl)::(37,t37)::(30,t30)::(134,tabObj ps)::[]) hq)
theorem core_law_n14 : PP_law_n14 w p loose mean mg mb dp un gd L fa A₀ base h₀ s Q E m jk jq yk jm jt jp jr jl t37 t30 R T0 T1 T2 T3 T4 T5 kR ps zs rest WH P Q' tw g1 g2 g3 u1 u2 u3 u4 u5 G Ta Ld kL xl := by
  intro B X T hd hu ch1 ch2 ch3 hl hz hzR hR F N hLd cw cr hI hx hg2 hG hTa mg' mp mq ml fin
  w_top off
  obtain ⟨y0,y1,y2,y3,y4,y5,y6,y7,y8,y9,y10⟩ : (∀ q ∈ zs,q.1 ≠ L+1+1+1+1+1+1+1+1) ∧ (∀ q ∈ zs,q.1 ≠ L+1+1+1+1+1+1+1) ∧ (∀ q ∈ zs,q.1 ≠ L+1+1+1+1+1+1) ∧ (∀ q ∈ zs,q.1 ≠ L+1+1+1+1+1) ∧ (∀ q ∈ zs,q.1 ≠ L+1+1+1+1) ∧ (∀ q ∈ zs,q.1 ≠ L+1+1+1) ∧ (∀ q ∈ zs,q.1 ≠ L+1+1) ∧ (∀ q ∈ zs,q.1 ≠ L+1) ∧ (∀ q ∈ zs,q.1 ≠ 37) ∧ (∀ q ∈ zs,q.1 ≠ 30) ∧ (∀ q ∈ zs,q.1 ≠ 134) :=
    ⟨fun q hq => (hz q hq).1,fun q hq => (hz q hq).2.1,fun q hq => (hz q hq).2.2.1,fun q hq => (hz q hq).2.2.2.1,fun q hq => (hz q hq).2.2.2.2.1,fun q hq => (hz q hq).2.2.2.2.2.1,fun q hq => (hz q hq).2.2.2.2.2.2.1,fun q hq => (hz q hq).2.2.2.2.2.2.2.1,fun q hq => (hz q hq).2.2.2.2.2.2.2.2.1,fun q hq => (hz q hq).2.2.2.2.2.2.2.2.2.1,fun q hq => (hz q hq).2.2.2.2.2.2.2.2.2.2⟩
  k_steps
  · exfalso
    rename Float64.isInf _ = true => hinf
    rw [show Float64.isInf (fl64 WH) = true from hinf] at hI
    cases hI
  rename Fr h₀ L _ _ => F1
  rename News h₀ L _ _ => N1
  rename_i D1 hh1 l1
  have hGm := List.mem_append_right ((Ld,listOf #[.ref T0,.ref Ta,.ref T1,.ref T2,.ref T3,.ref T4,.ref T5] kL)::(R,listOf #[.ref T0,.ref T1,.ref T2,.ref T3,.ref T4,.ref T5] kR)::(L+1+1+1+1+1+1+1+1,jk)::(L+1+1+1+1+1+1+1,jq)::(L+1+1+1+1+1+1,yk)::(L+1+1+1+1+1,jm)::(L+1+1+1+1,jt)::(L+1+1+1,jp)::(L+1+1,jr)::(L+1,jl)::(37,t37)::(30,t30)::(134,tabObj ps)::[]) hG
  have hX1 := X.keeps F1.keep
  refine ne_grey (y := fl64 WH) N1 (.tail _ hGm) (.head _) (by show un < cLine; omega) (booked_none hX1) hg2 (Nat.succ_ne_zero _) hx ?_
  k_steps
  rename Fr h₀ L _ _ => F2
  rename News h₀ L _ _ => N2
  have hTm := List.mem_append_right ((Ld,listOf #[.ref T0,.ref Ta,.ref T1,.ref T2,.ref T3,.ref T4,.ref T5] kL)::(R,listOf #[.ref T0,.ref T1,.ref T2,.ref T3,.ref T4,.ref T5] kR)::(L+1+1+1+1+1+1+1+1,jk)::(L+1+1+1+1+1+1+1,jq)::(L+1+1+1+1+1+1,yk)::(L+1+1+1+1+1,jm)::(L+1+1+1+1,jt)::(L+1+1+1,jp)::(L+1+1,jr)::(L+1,jl)::(37,t37)::(30,t30)::(134,tabObj ps)::[]) hTa
  refine ne_laid N2 (.tail _ (.tail _ (.tail _ (.tail _ (.tail _ (.tail _ (.tail _ hTm))))))) (.tail _ (.tail _ (.tail _ (.tail _ (.head _))))) (.tail _ (.tail _ (.tail _ (.tail _ (.tail _ (.tail _ (.tail _ (.head _)))))))) ⟨_,(N2 _ (.head _)).1,rfl,_,rfl⟩ (news_ne N2 (.tail _ (.tail _ (.tail _ (.tail _ (.tail _ (.tail _ (.tail _ hTm))))))) (.tail _ (.tail _ (.tail _ (.tail _ (.head _))))) (fun e => by cases e)) (by show un+4 < cLine; omega) ?_
  k_steps
  rename Fr h₀ L _ _ => F3
  rename News h₀ L _ _ => N3
  refine fin _ _ D1 _ ?_ F3 (cb_drop N3 fun q hq => .tail _ (.tail _ (.tail _ (.tail _ (.tail _ (.tail _ hq)))))) (allNe_of fun q hq => Nat.ne_of_lt (tb_ltOf (show AllLt D1 ((Ld,listOf #[.ref T0,.ref Ta,.ref T1,.ref T2,.ref T3,.ref T4,.ref T5] kL)::(R,listOf #[.ref T0,.ref T1,.ref T2,.ref T3,.ref T4,.ref T5] kR)::(L+1+1+1+1+1+1+1+1,jk)::(L+1+1+1+1+1+1+1,jq)::(L+1+1+1+1+1+1,yk)::(L+1+1+1+1+1,jm)::(L+1+1+1+1,jt)::(L+1+1+1,jp)::(L+1+1,jr)::(L+1,jl)::(37,t37)::(30,t30)::(134,tabObj ps)::zs) from l1) q hq))
  rfl
namespace X_it_b1
@[irreducible] noncomputable def v1 := pj18 cc 26
@[irreducible] noncomputable def v2 := pj18 cc 27
@[irreducible] noncomputable def v3 := pj18 cc 28
theorem core_it_b1 : PP_it_b1 w p loose mean mg mb dp un gd L fa A₀ base h₀ s Q E m jk jq yk jm jt jp jr jl t37 t30 R xs kR ps zs rest PT kP v1 v2 v3 WH UN b1 b2 b3 a1 a2 a3 tw tu := by
  intro B X T hd hu ch1 ch2 ch3 hl hz hzR hR F N cw cu cp hU hb1 hb2 hb3 hM1 hM2 hM3 hW0 hW1 hU0 hU1 hhz fin
  w_top off
  obtain ⟨y0,y1,y2,y3,y4,y5,y6,y7,y8,y9,y10⟩ : (∀ q ∈ zs,q.1 ≠ L+1+1+1+1+1+1+1+1) ∧ (∀ q ∈ zs,q.1 ≠ L+1+1+1+1+1+1+1) ∧ (∀ q ∈ zs,q.1 ≠ L+1+1+1+1+1+1) ∧ (∀ q ∈ zs,q.1 ≠ L+1+1+1+1+1) ∧ (∀ q ∈ zs,q.1 ≠ L+1+1+1+1) ∧ (∀ q ∈ zs,q.1 ≠ L+1+1+1) ∧ (∀ q ∈ zs,q.1 ≠ L+1+1) ∧ (∀ q ∈ zs,q.1 ≠ L+1) ∧ (∀ q ∈ zs,q.1 ≠ 37) ∧ (∀ q ∈ zs,q.1 ≠ 30) ∧ (∀ q ∈ zs,q.1 ≠ 134) :=
    ⟨fun q hq => (hz q hq).1,fun q hq => (hz q hq).2.1,fun q hq => (hz q hq).2.2.1,fun q hq => (hz q hq).2.2.2.1,fun q hq => (hz q hq).2.2.2.2.1,fun q hq => (hz q hq).2.2.2.2.2.1,fun q hq => (hz q hq).2.2.2.2.2.2.1,fun q hq => (hz q hq).2.2.2.2.2.2.2.1,fun q hq => (hz q hq).2.2.2.2.2.2.2.2.1,fun q hq => (hz q hq).2.2.2.2.2.2.2.2.2.1,fun q hq => (hz q hq).2.2.2.2.2.2.2.2.2.2⟩
  iterate 5 (first | walk1 | (dsimp only; walk1))
  refine LCg.ListComp_U (cl := [(Str.ofString "white", L+1+1+1),(Str.ofString "unit", L+1+1+1+1),(Str.ofString "parts", L+1+1+1+1+1+1+1)]) (F₀ := F) (by rfl) (by decide) (by rfl) (by decide) (by rfl) ?_
  walk1
  refine LCg.CompSrc.ledger (its := #[.int v1 a1,.int v2 a2,.int v3 a3]) (by rfl) F N (.head _) (show 3 ≤ _ by decide) ?_
  intro g
  show LCg.CompRest _ _ _ _ _ _ _ _ _ _ _ _ _ _ _ 3 0 [] _
  refine LCg.CompRest.succ ?_
  intro vv1 I1 oI1 C1 oC1 D1 m1 h1 tk1 E1 hv1 hC1 hx1 F1 N1 off1 ne1
  obtain rfl : vv1 = .int v1 a1 := (Option.some.inj hv1).symm
  refine it_elt (cW := L+1+1+1) (cU := L+1+1+1+1) (cP := L+1+1+1+1+1+1+1) B X T hd hu ch1 ch2 ch3 F1 N1 (.tail _ (.head _)) hC1 hx1 (by k_mem) (by k_mem) (by k_mem) (by k_mem) cw cu cp hU (b := b1) hb1 hM1 hW0 hW1 hU0 hU1 ?_
  intro tt1 hh1 tkk1 FF1 NN1
  refine ⟨hh1,tkk1,_,rfl,FF1,NN1,off1,.inr ⟨_,by k_mem,rfl,_,rfl⟩,?_⟩
  refine LCg.CompRest.succ ?_
  intro vv2 I2 oI2 C2 oC2 D2 m2 h2 tk2 E2 hv2 hC2 hx2 F2 N2 off2 ne2
  obtain rfl : vv2 = .int v2 a2 := (Option.some.inj hv2).symm
  refine it_elt (cW := L+1+1+1) (cU := L+1+1+1+1) (cP := L+1+1+1+1+1+1+1) B X T hd hu ch1 ch2 ch3 F2 N2 (.tail _ (.head _)) hC2 hx2 (by k_mem) (by k_mem) (by k_mem) (by k_mem) cw cu cp hU (b := b2) hb2 hM2 hW0 hW1 hU0 hU1 ?_
  intro tt2 hh2 tkk2 FF2 NN2
  refine ⟨hh2,tkk2,_,rfl,FF2,NN2,off2,.inr ⟨_,by k_mem,rfl,_,rfl⟩,?_⟩
  refine LCg.CompRest.succ ?_
  intro vv3 I3 oI3 C3 oC3 D3 m3 h3 tk3 E3 hv3 hC3 hx3 F3 N3 off3 ne3
  obtain rfl : vv3 = .int v3 a3 := (Option.some.inj hv3).symm
  refine it_elt (cW := L+1+1+1) (cU := L+1+1+1+1) (cP := L+1+1+1+1+1+1+1) B X T hd hu ch1 ch2 ch3 F3 N3 (.tail _ (.head _)) hC3 hx3 (by k_mem) (by k_mem) (by k_mem) (by k_mem) cw cu cp hU (b := b3) hb3 hM3 hW0 hW1 hU0 hU1 ?_
  intro tt3 hh3 tkk3 FF3 NN3
  refine ⟨hh3,tkk3,_,rfl,FF3,NN3,off3,.inr ⟨_,by k_mem,rfl,_,rfl⟩,?_⟩
  refine LCg.CompRest.zero ?_
  clear F N F1 N1 F2 N2 F3 N3 FF1 NN1 FF2 NN2 FF3 NN3 off1 off2 off3 ne1 ne2 ne3 hC1 hC2 hC3 hx1 hx2 hx3 hv1 hv2 hv3
  k_steps
  rename Fr h₀ L _ _ => F4
  rename News h₀ L _ _ => N4
  k_dflt (refine ctr_use0 (hls_ctr w p loose mean mg mb _ _ _ _ _ _ hhz) (by k_asm) F4 (by k_asm) N4 (by k_asm) (by exact rfl) trivial (by ktr_room) (by ktr_units) ?_)
  intro r tl h9 tk9 F9 N9 hne hpost
  obtain ⟨t9,g1,g2,g3,rfl,rfl⟩ := hpost
  clear F4 N4 hne
  simp only [List.cons_append,List.nil_append] at N9
  try dsimp only
  generalize hlsH (fl64 (WH + UN * b1)) (fl64 (WH + UN * b2)) (fl64 (WH + UN * b3)) = xh at *
  generalize hlsL (fl64 (WH + UN * b1)) (fl64 (WH + UN * b2)) (fl64 (WH + UN * b3)) = xl at *
  generalize hlsS (fl64 (WH + UN * b1)) (fl64 (WH + UN * b2)) (fl64 (WH + UN * b3)) = xs9 at *
  k_steps
  rename Fr h₀ L _ _ => F8
  rename News h₀ L _ _ => N8
  exact fin _ _ _ _ _ _ F8 (cb_drop N8 (by walk_at "z_sub")) (fun y h1 h2 h3 => (if_neg h3).trans ((if_neg h2).trans (if_neg h1))) (by walk_at "k_opq") (by walk_at "k_opq") (by walk_at "k_opq")
end X_it_b1
namespace X_law_n20
@[irreducible] noncomputable def u0 := pj23 cc 0
@[irreducible] noncomputable def v0 := pj23 cc 1
@[irreducible] noncomputable def u1 := pj23 cc 2
@[irreducible] noncomputable def v1 := pj23 cc 3
@[irreducible] noncomputable def u2 := pj23 cc 4
@[irreducible] noncomputable def v2 := pj23 cc 5
@[irreducible] noncomputable def u3 := pj23 cc 6
@[irreducible] noncomputable def v3 := pj23 cc 7
@[irreducible] noncomputable def u4 := pj23 cc 8
@[irreducible] noncomputable def v4 := pj23 cc 9
@[irreducible] noncomputable def u5 := pj23 cc 10
@[irreducible] noncomputable def v5 := pj23 cc 11
theorem core_law_n20 : PP_law_n20 w p loose mean mg mb dp un gd L fa A₀ base h₀ s Q E m jk jq yk jm jt jp jr jl o30 o37 t37 t30 t134 R c30 c37 T0 T1 T2 T3 T4 T5 kR ps zs rest ts q0 q1 q2 q3 q4 q5 u0 v0 u1 v1 u2 v2 u3 v3 u4 v4 u5 v5 := by
  intro B X T hd hu ch1 ch2 ch3 hl hR n30 n37 sd hsd Z0 F N cr cs a0 a1 a2 a3 a4 a5 fin
  w_top off
  have HZ : ∀ k,k < 6 → ∃ T t u v,([.ref T0,.ref T1,.ref T2,.ref T3,.ref T4,.ref T5] : List Value)[k]? = some (.ref T) ∧ (T,triO (([hueB 0,hueB 1,hueB 2,hueB 3,hueB 4,hueB 5] : List UInt64).getD k 0) t u v) ∈ zs := fun k hk => by
    match k,hk with
    | 0,_ => exact ⟨_,_,_,_,rfl,a0⟩
    | 1,_ => exact ⟨_,_,_,_,rfl,a1⟩
    | 2,_ => exact ⟨_,_,_,_,rfl,a2⟩
    | 3,_ => exact ⟨_,_,_,_,rfl,a3⟩
    | 4,_ => exact ⟨_,_,_,_,rfl,a4⟩
    | 5,_ => exact ⟨_,_,_,_,rfl,a5⟩
    | n+6,h => exact absurd h (by omega)
  refine wpAny_execs_cons ?_
  refine LCg.Assign_ListComp_U (cl := [(Str.ofString "side", L+1+1),(Str.ofString "row", L+1+1+1+1+1+1)]) (F₀ := F) (by rfl) (by with_unfolding_all rfl) (by rfl) (by decide) (by rfl) (by decide) (by rfl) (by rfl) (by rfl) ?_
  iterate 12 (first | (with_reducible show LCg.CompSrc _ _ _ _ _ _ _ _ _ _ _ _ _ _) | walk1 | (dsimp only; walk1))
  rename IsRange _ _ _ _ _ _ _ _ => hr
  rename Fr h₀ L _ _ => F9
  rename News h₀ L _ _ => N9
  show LCg.CompSrc _ _ _ _ _ _ _ _ _ _ _ _ _ _
  refine LCg.CompSrc.range (n := 3) (by rfl) F9 N9 hr (by decide) (by rfl) (by decide) ?_
  intro g
  clear F9 N9 hr
  rcases hsd with rfl | rfl
  · refine LCg.CompRest.succ ?_
    intro v0 I0 oI0 C0 oC0 D0 m0 h0 tk0 E0 hv0 hC0 hx0 F0 N0 off0 ne0
    obtain ⟨tv0,rfl⟩ := hv0
    refine on_turn (Ta := T0) (lo := 0) B X T hd hu ch1 ch2 ch3 hl hR n30 n37 Z0 F0 N0 off0 hC0 hx0 cr cs (fun k hk => let ⟨T,t,u,v,a,b⟩ := HZ k hk; ⟨T,t,u,v,a,b⟩) (by decide) (by decide) (by decide) (by decide) rfl (a0) ?_
    intro t0 nw1 ps1 Z1
    rw [bisL_0_0]
    refine LCg.CompRest.succ ?_
    intro v1 I1 oI1 C1 oC1 D1 m1 h1 tk1 E1 hv1 hC1 hx1 F1 N1 off1 ne1
    obtain ⟨tv1,rfl⟩ := hv1
    refine on_turn (Ta := T0) (lo := 2) B X T hd hu ch1 ch2 ch3 hl hR n30 n37 Z1 F1 N1 off1 hC1 hx1 cr cs (fun k hk => let ⟨T,t,u,v,a,b⟩ := HZ k hk; ⟨T,t,u,v,a,List.mem_append_right _ b⟩) (by decide) (by decide) (by decide) (by decide) rfl (List.mem_append_right _ a0) ?_
    intro t1 nw2 ps2 Z2
    rw [bisL_1_0]
    refine LCg.CompRest.succ ?_
    intro v2 I2 oI2 C2 oC2 D2 m2 h2 tk2 E2 hv2 hC2 hx2 F2 N2 off2 ne2
    obtain ⟨tv2,rfl⟩ := hv2
    refine on_turn (Ta := T0) (lo := 4) B X T hd hu ch1 ch2 ch3 hl hR n30 n37 Z2 F2 N2 off2 hC2 hx2 cr cs (fun k hk => let ⟨T,t,u,v,a,b⟩ := HZ k hk; ⟨T,t,u,v,a,List.mem_append_right _ (List.mem_append_right _ b)⟩) (by decide) (by decide) (by decide) (by decide) rfl (List.mem_append_right _ (List.mem_append_right _ a0)) ?_
    intro t2 nw3 ps3 Z3
    rw [bisL_2_0]
    refine LCg.CompRest.zero ?_
    unfold LCg.FinA
    intro D9 h9 tk9 F9 N9 o1
    have zz := Z3.cons (A := D9) (oA := listOf #[.int 0 t0,.int 2 t1,.int 4 t2] 3) (o30 := o30) (o37 := o37) (lo := listOf #[.ref T0,.ref T1,.ref T2,.ref T3,.ref T4,.ref T5] kR) (allNe_of fun q hq => off1_mem o1 (List.mem_append_left (nw3 ++ (nw2 ++ (nw1 ++ zs))) hq))
    exact fin h9 tk9 D9 ((D9,listOf #[.int 0 t0,.int 2 t1,.int 4 t2] 3)::(nw3 ++ (nw2 ++ (nw1 ++ zs)))) ps3 t0 t1 t2 (fun q hq => .tail _ (List.mem_append_right _ (List.mem_append_right _ (List.mem_append_right _ hq)))) (.head _) F9 (cb_drop N9 (mem_shuf2 (a := (c30,o30)::(c37,o37)::(R,listOf #[.ref T0,.ref T1,.ref T2,.ref T3,.ref T4,.ref T5] kR)::(L+1+1+1+1+1+1+1+1,jk)::(L+1+1+1+1+1+1+1,jq)::(L+1+1+1+1+1+1,yk)::(L+1+1+1+1+1,jm)::(L+1+1+1+1,jt)::(L+1+1+1,jp)::(L+1+1,jr)::(L+1,jl)::(37,t37)::(30,t30)::[]) (x := (134,tabObj ps3)) (z := (D9,_)))) zz
  · refine LCg.CompRest.succ ?_
    intro v0 I0 oI0 C0 oC0 D0 m0 h0 tk0 E0 hv0 hC0 hx0 F0 N0 off0 ne0
    obtain ⟨tv0,rfl⟩ := hv0
    refine on_turn (Ta := T1) (lo := 0) B X T hd hu ch1 ch2 ch3 hl hR n30 n37 Z0 F0 N0 off0 hC0 hx0 cr cs (fun k hk => let ⟨T,t,u,v,a,b⟩ := HZ k hk; ⟨T,t,u,v,a,b⟩) (by decide) (by decide) (by decide) (by decide) rfl (a1) ?_
    intro t0 nw1 ps1 Z1
    rw [bisL_0_1]
    refine LCg.CompRest.succ ?_
    intro v1 I1 oI1 C1 oC1 D1 m1 h1 tk1 E1 hv1 hC1 hx1 F1 N1 off1 ne1
    obtain ⟨tv1,rfl⟩ := hv1
    refine on_turn (Ta := T3) (lo := 2) B X T hd hu ch1 ch2 ch3 hl hR n30 n37 Z1 F1 N1 off1 hC1 hx1 cr cs (fun k hk => let ⟨T,t,u,v,a,b⟩ := HZ k hk; ⟨T,t,u,v,a,List.mem_append_right _ b⟩) (by decide) (by decide) (by decide) (by decide) rfl (List.mem_append_right _ a3) ?_
    intro t1 nw2 ps2 Z2
    rw [bisL_1_1]
    refine LCg.CompRest.succ ?_
    intro v2 I2 oI2 C2 oC2 D2 m2 h2 tk2 E2 hv2 hC2 hx2 F2 N2 off2 ne2
    obtain ⟨tv2,rfl⟩ := hv2
    refine on_turn (Ta := T5) (lo := 4) B X T hd hu ch1 ch2 ch3 hl hR n30 n37 Z2 F2 N2 off2 hC2 hx2 cr cs (fun k hk => let ⟨T,t,u,v,a,b⟩ := HZ k hk; ⟨T,t,u,v,a,List.mem_append_right _ (List.mem_append_right _ b)⟩) (by decide) (by decide) (by decide) (by decide) rfl (List.mem_append_right _ (List.mem_append_right _ a5)) ?_
    intro t2 nw3 ps3 Z3
    rw [bisL_2_1]
    refine LCg.CompRest.zero ?_
    unfold LCg.FinA
    intro D9 h9 tk9 F9 N9 o1
    have zz := Z3.cons (A := D9) (oA := listOf #[.int 1 t0,.int 3 t1,.int 5 t2] 3) (o30 := o30) (o37 := o37) (lo := listOf #[.ref T0,.ref T1,.ref T2,.ref T3,.ref T4,.ref T5] kR) (allNe_of fun q hq => off1_mem o1 (List.mem_append_left (nw3 ++ (nw2 ++ (nw1 ++ zs))) hq))
    exact fin h9 tk9 D9 ((D9,listOf #[.int 1 t0,.int 3 t1,.int 5 t2] 3)::(nw3 ++ (nw2 ++ (nw1 ++ zs)))) ps3 t0 t1 t2 (fun q hq => .tail _ (List.mem_append_right _ (List.mem_append_right _ (List.mem_append_right _ hq)))) (.head _) F9 (cb_drop N9 (mem_shuf2 (a := (c30,o30)::(c37,o37)::(R,listOf #[.ref T0,.ref T1,.ref T2,.ref T3,.ref T4,.ref T5] kR)::(L+1+1+1+1+1+1+1+1,jk)::(L+1+1+1+1+1+1+1,jq)::(L+1+1+1+1+1+1,yk)::(L+1+1+1+1+1,jm)::(L+1+1+1+1,jt)::(L+1+1+1,jp)::(L+1+1,jr)::(L+1,jl)::(37,t37)::(30,t30)::[]) (x := (134,tabObj ps3)) (z := (D9,_)))) zz
end X_law_n20
theorem core_law_n13 : PP_law_n13 w p loose mean mg mb dp un gd L fa A₀ base h₀ s Q E m jk jq yk jm jt jp jr jl t37 t30 R xs kR ps zs rest i j th ui uj g2 g3 G xl hs := by
  intro B X T hd hu ch1 ch2 ch3 hl hz hzR hR F N mg' mp mq ml hGm TZ hln hsm HZ fin
  w_top off
  have hGm2 : (G,({ cls := .type "tuple", data := .seq #[.float 0 th,.float xl g2,.float 0 g3] } : Obj)) ∈ ((R,listOf xs.toArray kR)::(L+1+1+1+1+1+1+1+1,jk)::(L+1+1+1+1+1+1+1,jq)::(L+1+1+1+1+1+1,yk)::(L+1+1+1+1+1,jm)::(L+1+1+1+1,jt)::(L+1+1+1,jp)::(L+1+1,jr)::(L+1,jl)::(37,t37)::(30,t30)::(134,tabObj ps)::zs) := List.mem_append_right ((R,listOf xs.toArray kR)::(L+1+1+1+1+1+1+1+1,jk)::(L+1+1+1+1+1+1+1,jq)::(L+1+1+1+1+1+1,yk)::(L+1+1+1+1+1,jm)::(L+1+1+1+1,jt)::(L+1+1+1,jp)::(L+1+1,jr)::(L+1,jl)::(37,t37)::(30,t30)::(134,tabObj ps)::[]) hGm
  obtain ⟨y0,y1,y2,y3,y4,y5,y6,y7,y8,y9,y10⟩ : (∀ q ∈ zs,q.1 ≠ L+1+1+1+1+1+1+1+1) ∧ (∀ q ∈ zs,q.1 ≠ L+1+1+1+1+1+1+1) ∧ (∀ q ∈ zs,q.1 ≠ L+1+1+1+1+1+1) ∧ (∀ q ∈ zs,q.1 ≠ L+1+1+1+1+1) ∧ (∀ q ∈ zs,q.1 ≠ L+1+1+1+1) ∧ (∀ q ∈ zs,q.1 ≠ L+1+1+1) ∧ (∀ q ∈ zs,q.1 ≠ L+1+1) ∧ (∀ q ∈ zs,q.1 ≠ L+1) ∧ (∀ q ∈ zs,q.1 ≠ 37) ∧ (∀ q ∈ zs,q.1 ≠ 30) ∧ (∀ q ∈ zs,q.1 ≠ 134) :=
    ⟨fun q hq => (hz q hq).1,fun q hq => (hz q hq).2.1,fun q hq => (hz q hq).2.2.1,fun q hq => (hz q hq).2.2.2.1,fun q hq => (hz q hq).2.2.2.2.1,fun q hq => (hz q hq).2.2.2.2.2.1,fun q hq => (hz q hq).2.2.2.2.2.2.1,fun q hq => (hz q hq).2.2.2.2.2.2.2.1,fun q hq => (hz q hq).2.2.2.2.2.2.2.2.1,fun q hq => (hz q hq).2.2.2.2.2.2.2.2.2.1,fun q hq => (hz q hq).2.2.2.2.2.2.2.2.2.2⟩
  k_steps
  rename Fr h₀ L _ _ => F1
  rename News h₀ L _ _ => N1
  rename @LT.lt Nat _ _ _ ∧ _ => l1
  rename_i Ta hh1
  have l3 := tb_ltOf (show AllLt Ta ((R,listOf xs.toArray kR)::(L+1+1+1+1+1+1+1+1,jk)::(L+1+1+1+1+1+1+1,jq)::(L+1+1+1+1+1+1,yk)::(L+1+1+1+1+1,jm)::(L+1+1+1+1,jt)::(L+1+1+1,jp)::(L+1+1,jr)::(L+1,jl)::(37,t37)::(30,t30)::(134,tabObj ps)::zs) from l1)
  refine kla_eval rfl ?_
  refine lam_mk (pre := (_,triO 0 th (.int i ui) (.int j uj))::(R,listOf xs.toArray kR)::(L+1+1+1+1+1+1+1+1,jk)::(L+1+1+1+1+1+1+1,jq)::(L+1+1+1+1+1+1,yk)::(L+1+1+1+1+1,jm)::(L+1+1+1+1,jt)::(L+1+1+1,jp)::(L+1+1,jr)::(L+1,jl)::(37,t37)::(30,t30)::[]) (post := zs) (zs := zs) (ps := ps) rfl rfl rfl F1 N1 ?_ (fun q hq => y10 q hq) T ch3 TZ (fun q hq => List.mem_append_right ((_,triO 0 th (.int i ui) (.int j uj))::(R,listOf xs.toArray kR)::(L+1+1+1+1+1+1+1+1,jk)::(L+1+1+1+1+1+1+1,jq)::(L+1+1+1+1+1+1,yk)::(L+1+1+1+1+1,jm)::(L+1+1+1+1,jt)::(L+1+1+1,jp)::(L+1+1,jr)::(L+1,jl)::(37,t37)::(30,t30)::[]) (.tail _ hq)) rfl ?_
  · exact AllNe.all ⟨Nat.ne_of_gt l1.2.2.2.2.2.2.2.2.2.2.2.1,Ne.symm hR.2.2.2.2.2.2.2.2.2.2.1,cl0 hl (Nat.le_add_right L 8),cl0 hl (Nat.le_add_right L 7),cl0 hl (Nat.le_add_right L 6),cl0 hl (Nat.le_add_right L 5),cl0 hl (Nat.le_add_right L 4),cl0 hl (Nat.le_add_right L 3),cl0 hl (Nat.le_add_right L 2),cl0 hl (Nat.le_add_right L 1),nn37,nn30,trivial⟩
  intro K lo new pm c' ctv oc cvs t ps' h2 tk2 hlo F2 N2 hco hoc hcv TZ2 hKne hnew
  simp only [List.cons_append,List.nil_append] at N2 hKne
  clear F1 N1
  try dsimp only
  k_steps
  have hR' : AllNe R ((L+1+1+1+1+1+1+1+1,jk)::(L+1+1+1+1+1+1+1,jq)::(L+1+1+1+1+1+1,yk)::(L+1+1+1+1+1,jm)::(L+1+1+1+1,jt)::(L+1+1+1,jp)::(L+1+1,jr)::(L+1,jl)::(37,t37)::(30,t30)::(134,tabObj ps')::[]) := hR
  have l4 : ∀ q ∈ ((L+1+1+1+1+1+1+1+1,jk)::(L+1+1+1+1+1+1+1,jq)::(L+1+1+1+1+1+1,yk)::(L+1+1+1+1+1,jm)::(L+1+1+1+1,jt)::(L+1+1+1,jp)::(L+1+1,jr)::(L+1,jl)::(37,t37)::(30,t30)::(134,tabObj ps')::[] : List (Addr × Obj)),@LT.lt Nat _ q.1 Ta := fun q hq => tb_ltOf (show AllLt Ta ((L+1+1+1+1+1+1+1+1,jk)::(L+1+1+1+1+1+1+1,jq)::(L+1+1+1+1+1+1,yk)::(L+1+1+1+1+1,jm)::(L+1+1+1+1,jt)::(L+1+1+1,jp)::(L+1+1,jr)::(L+1,jl)::(37,t37)::(30,t30)::(134,tabObj ps')::zs) from l1.2) q (List.mem_append_left zs hq)
  have HL : HueL ((R,listOf xs.toArray kR)::(K,lo)::(Ta,triO 0 th (.int i ui) (.int j uj))::(new ++ zs)) R xs kR hs := ⟨.head _,hln,hsm,fun k hk => let ⟨T,t,u,v,a,b⟩ := HZ k hk; ⟨T,t,u,v,a,.tail _ (.tail _ (.tail _ (List.mem_append_right _ b)))⟩⟩
  have LL : LamL ((R,listOf xs.toArray kR)::(K,lo)::(Ta,triO 0 th (.int i ui) (.int j uj))::(new ++ zs)) K := LamL.of hlo hoc hcv (.tail _ (.head _)) (.tail _ (.tail _ (.tail _ hco)))
  have hne : ∀ q ∈ (K,lo)::(Ta,triO 0 th (.int i ui) (.int j uj))::(new ++ zs),@Ne Nat q.1 R := fun q hq => by
    rcases List.mem_cons.mp hq with rfl | hq
    · exact Ne.symm (hKne (R,listOf xs.toArray kR) (List.mem_append_right _ (.tail _ (.head _))))
    · rcases List.mem_cons.mp hq with rfl | hq
      · exact Nat.ne_of_gt (l3 _ (.head _))
      · rcases List.mem_append.mp hq with hq | hq
        · exact Ne.symm (AllNe.mem (p := (R,listOf xs.toArray kR)) (hnew q hq) (.tail _ (.head _)))
        · exact hzR q hq
  show wpAny _ _ (call (.ref 65) [.ref R,.ref Ta] [(Str.ofString "key", .ref K)]) _ _ _
  have inR : ∀ q ∈ ((L+1+1+1+1+1+1+1+1,jk)::(L+1+1+1+1+1+1+1,jq)::(L+1+1+1+1+1+1,yk)::(L+1+1+1+1+1,jm)::(L+1+1+1+1,jt)::(L+1+1+1,jp)::(L+1+1,jr)::(L+1,jl)::(37,t37)::(30,t30)::(134,tabObj ps')::[] : List (Addr × Obj)),q ∈ (K,lo)::(new ++ (Ta,triO 0 th (.int i ui) (.int j uj))::(R,listOf xs.toArray kR)::(((L+1+1+1+1+1+1+1+1,jk)::(L+1+1+1+1+1+1+1,jq)::(L+1+1+1+1+1+1,yk)::(L+1+1+1+1+1,jm)::(L+1+1+1+1,jt)::(L+1+1+1,jp)::(L+1+1,jr)::(L+1,jl)::(37,t37)::(30,t30)::(134,tabObj ps')::[]) ++ zs)) := fun q hq => .tail _ (List.mem_append_right _ (.tail _ (.tail _ (List.mem_append_left _ hq))))
  k_dflt (refine ctr_use (ins_ctr w p loose mean mg mb _ R K Ta xs hs kR 0 th _ _ HL LL (.tail _ (.tail _ (.head _))) hne) ((L+1+1+1+1+1+1+1+1,jk)::(L+1+1+1+1+1+1+1,jq)::(L+1+1+1+1+1+1,yk)::(L+1+1+1+1+1,jm)::(L+1+1+1+1,jt)::(L+1+1+1,jp)::(L+1+1,jr)::(L+1,jl)::(37,t37)::(30,t30)::(134,tabObj ps')::[]) (by k_asm) F2 (by k_asm) N2 (by k_asm) (by exact rfl) ?hm ?hr trivial (by ktr_room) (by ktr_units) ?_)
  case hm =>
    intro q hq
    rcases List.mem_cons.mp hq with rfl | hq
    · exact .tail _ (List.mem_append_right _ (.tail _ (.head _)))
    · rcases List.mem_cons.mp hq with rfl | hq
      · exact .head _
      · rcases List.mem_cons.mp hq with rfl | hq
        · exact .tail _ (List.mem_append_right _ (.head _))
        · rcases List.mem_append.mp hq with hq | hq
          · exact .tail _ (List.mem_append_left _ hq)
          · exact .tail _ (List.mem_append_right _ (.tail _ (.tail _ (List.mem_append_right ((L+1+1+1+1+1+1+1+1,jk)::(L+1+1+1+1+1+1+1,jq)::(L+1+1+1+1+1+1,yk)::(L+1+1+1+1+1,jm)::(L+1+1+1+1,jt)::(L+1+1+1,jp)::(L+1+1,jr)::(L+1,jl)::(37,t37)::(30,t30)::(134,tabObj ps')::[]) hq))))
  case hr =>
    intro q hq
    refine ⟨inR q hq,not_addr fun r hr => ?_⟩
    rcases List.mem_cons.mp hr with rfl | hr
    · exact Ne.symm (AllNe.mem hR' hq)
    · rcases List.mem_cons.mp hr with rfl | hr
      · exact Ne.symm (hKne q (List.mem_append_right _ (.tail _ (.tail _ (List.mem_append_left zs hq)))))
      · rcases List.mem_cons.mp hr with rfl | hr
        · exact Nat.ne_of_gt (l4 q hq)
        · rcases List.mem_append.mp hr with hr | hr
          · exact Ne.symm (AllNe.mem (hnew r hr) (.tail _ (.tail _ (List.mem_append_left zs hq))))
          · exact OffZ.ne hz hr hq
  intro r9 tl9 h9 tk9 F9 N9 hne9 hpost
  obtain ⟨rfl,rfl⟩ := hpost
  have hnew2 : ∀ q ∈ new,AllNe q.1 ((L+1+1+1+1+1+1+1+1,jk)::(L+1+1+1+1+1+1+1,jq)::(L+1+1+1+1+1+1,yk)::(L+1+1+1+1+1,jm)::(L+1+1+1+1,jt)::(L+1+1+1,jp)::(L+1+1,jr)::(L+1,jl)::(37,t37)::(30,t30)::(134,tabObj ps')::[]) := fun q hq => AllNe.sub (hnew q hq) fun r hr => .tail _ (.tail _ (List.mem_append_left zs hr))
  try dsimp only
  refine fin _ _ Ta (kR+1) ps' new F9 (cb_drop N9 fun q hq => ?_) (OffZ.cons (ys := []) (allNe_of fun q hq => Nat.ne_of_lt (l4 q hq)) (offZ_new hz hnew2)) (fun q hq => hne q (.tail _ hq)) (TZ2.mono fun q hq => .tail _ hq) ?_
  rotate_left
  · intro q hq
    rcases List.mem_cons.mp hq with rfl | hq
    · exact allNe_of fun r hr => Nat.ne_of_lt (l3 r (List.mem_append_right ((R,listOf xs.toArray kR)::(L+1+1+1+1+1+1+1+1,jk)::(L+1+1+1+1+1+1+1,jq)::(L+1+1+1+1+1+1,yk)::(L+1+1+1+1+1,jm)::(L+1+1+1+1,jt)::(L+1+1+1,jp)::(L+1+1,jr)::(L+1,jl)::(37,t37)::(30,t30)::(134,tabObj ps)::[]) hr))
    · exact AllNe.sub (hnew q hq) fun r hr => .tail _ (.tail _ (List.mem_append_right ((L+1+1+1+1+1+1+1+1,jk)::(L+1+1+1+1+1+1+1,jq)::(L+1+1+1+1+1+1,yk)::(L+1+1+1+1+1,jm)::(L+1+1+1+1,jt)::(L+1+1+1,jp)::(L+1+1,jr)::(L+1,jl)::(37,t37)::(30,t30)::(134,tabObj ps')::[]) hr))
  rcases List.mem_cons.mp hq with rfl | hq
  · exact .head _
  · rcases List.mem_append.mp (show q ∈ ((L+1+1+1+1+1+1+1+1,jk)::(L+1+1+1+1+1+1+1,jq)::(L+1+1+1+1+1+1,yk)::(L+1+1+1+1+1,jm)::(L+1+1+1+1,jt)::(L+1+1+1,jp)::(L+1+1,jr)::(L+1,jl)::(37,t37)::(30,t30)::(134,tabObj ps')::[] : List (Addr × Obj)) ++ ((Ta,triO 0 th (.int i ui) (.int j uj))::(new ++ zs)) from hq) with hq | hq
    · exact List.mem_append_right _ hq
    · exact List.mem_append_left _ (.tail _ (.tail _ hq))
theorem core_it_b3 : PP_it_b3 w p loose mean mg mb dp un gd L fa A₀ base h₀ s Q E m jk jq yk jm jt jp jr jl t37 t30 R xs kR ps zs rest xh i j th ui uj hs := by
  intro B X T hd hu ch1 ch2 ch3 hl hz hzR hR F N mh mi mj cr TZ hln hsm HZ fin
  w_top off
  obtain ⟨y0,y1,y2,y3,y4,y5,y6,y7,y8,y9,y10⟩ : (∀ q ∈ zs,q.1 ≠ L+1+1+1+1+1+1+1+1) ∧ (∀ q ∈ zs,q.1 ≠ L+1+1+1+1+1+1+1) ∧ (∀ q ∈ zs,q.1 ≠ L+1+1+1+1+1+1) ∧ (∀ q ∈ zs,q.1 ≠ L+1+1+1+1+1) ∧ (∀ q ∈ zs,q.1 ≠ L+1+1+1+1) ∧ (∀ q ∈ zs,q.1 ≠ L+1+1+1) ∧ (∀ q ∈ zs,q.1 ≠ L+1+1) ∧ (∀ q ∈ zs,q.1 ≠ L+1) ∧ (∀ q ∈ zs,q.1 ≠ 37) ∧ (∀ q ∈ zs,q.1 ≠ 30) ∧ (∀ q ∈ zs,q.1 ≠ 134) :=
    ⟨fun q hq => (hz q hq).1,fun q hq => (hz q hq).2.1,fun q hq => (hz q hq).2.2.1,fun q hq => (hz q hq).2.2.2.1,fun q hq => (hz q hq).2.2.2.2.1,fun q hq => (hz q hq).2.2.2.2.2.1,fun q hq => (hz q hq).2.2.2.2.2.2.1,fun q hq => (hz q hq).2.2.2.2.2.2.2.1,fun q hq => (hz q hq).2.2.2.2.2.2.2.2.1,fun q hq => (hz q hq).2.2.2.2.2.2.2.2.2.1,fun q hq => (hz q hq).2.2.2.2.2.2.2.2.2.2⟩
  k_steps
  rename Fr h₀ L _ _ => F1
  rename News h₀ L _ _ => N1
  rename @LT.lt Nat _ _ _ ∧ _ => l1
  rename_i Ta hh1
  have l3 := tb_ltOf (show AllLt Ta ((R,listOf xs.toArray kR)::(L+1+1+1+1+1+1+1+1,jk)::(L+1+1+1+1+1+1+1,jq)::(L+1+1+1+1+1+1,yk)::(L+1+1+1+1+1,jm)::(L+1+1+1+1,jt)::(L+1+1+1,jp)::(L+1+1,jr)::(L+1,jl)::(37,t37)::(30,t30)::(134,tabObj ps)::zs) from l1)
  refine kla_eval rfl ?_
  refine lam_mk (pre := (_,triO xh th (.int i ui) (.int j uj))::(R,listOf xs.toArray kR)::(L+1+1+1+1+1+1+1+1,jk)::(L+1+1+1+1+1+1+1,jq)::(L+1+1+1+1+1+1,yk)::(L+1+1+1+1+1,jm)::(L+1+1+1+1,jt)::(L+1+1+1,jp)::(L+1+1,jr)::(L+1,jl)::(37,t37)::(30,t30)::[]) (post := zs) (zs := zs) (ps := ps) rfl rfl rfl F1 N1 ?_ (fun q hq => y10 q hq) T ch3 TZ (fun q hq => List.mem_append_right ((_,triO xh th (.int i ui) (.int j uj))::(R,listOf xs.toArray kR)::(L+1+1+1+1+1+1+1+1,jk)::(L+1+1+1+1+1+1+1,jq)::(L+1+1+1+1+1+1,yk)::(L+1+1+1+1+1,jm)::(L+1+1+1+1,jt)::(L+1+1+1,jp)::(L+1+1,jr)::(L+1,jl)::(37,t37)::(30,t30)::[]) (.tail _ hq)) rfl ?_
  · exact AllNe.all ⟨Nat.ne_of_gt l1.2.2.2.2.2.2.2.2.2.2.2.1,Ne.symm hR.2.2.2.2.2.2.2.2.2.2.1,cl0 hl (Nat.le_add_right L 8),cl0 hl (Nat.le_add_right L 7),cl0 hl (Nat.le_add_right L 6),cl0 hl (Nat.le_add_right L 5),cl0 hl (Nat.le_add_right L 4),cl0 hl (Nat.le_add_right L 3),cl0 hl (Nat.le_add_right L 2),cl0 hl (Nat.le_add_right L 1),nn37,nn30,trivial⟩
  intro K lo new pm c' ctv oc cvs t ps' h2 tk2 hlo F2 N2 hco hoc hcv TZ2 hKne hnew
  simp only [List.cons_append,List.nil_append] at N2 hKne
  clear F1 N1
  try dsimp only
  k_steps
  have hR' : AllNe R ((L+1+1+1+1+1+1+1+1,jk)::(L+1+1+1+1+1+1+1,jq)::(L+1+1+1+1+1+1,yk)::(L+1+1+1+1+1,jm)::(L+1+1+1+1,jt)::(L+1+1+1,jp)::(L+1+1,jr)::(L+1,jl)::(37,t37)::(30,t30)::(134,tabObj ps')::[]) := hR
  have l4 : ∀ q ∈ ((L+1+1+1+1+1+1+1+1,jk)::(L+1+1+1+1+1+1+1,jq)::(L+1+1+1+1+1+1,yk)::(L+1+1+1+1+1,jm)::(L+1+1+1+1,jt)::(L+1+1+1,jp)::(L+1+1,jr)::(L+1,jl)::(37,t37)::(30,t30)::(134,tabObj ps')::[] : List (Addr × Obj)),@LT.lt Nat _ q.1 Ta := fun q hq => tb_ltOf (show AllLt Ta ((L+1+1+1+1+1+1+1+1,jk)::(L+1+1+1+1+1+1+1,jq)::(L+1+1+1+1+1+1,yk)::(L+1+1+1+1+1,jm)::(L+1+1+1+1,jt)::(L+1+1+1,jp)::(L+1+1,jr)::(L+1,jl)::(37,t37)::(30,t30)::(134,tabObj ps')::zs) from l1.2) q (List.mem_append_left zs hq)
  have HL : HueL ((R,listOf xs.toArray kR)::(K,lo)::(Ta,triO xh th (.int i ui) (.int j uj))::(new ++ zs)) R xs kR hs := ⟨.head _,hln,hsm,fun k hk => let ⟨T,t,u,v,a,b⟩ := HZ k hk; ⟨T,t,u,v,a,.tail _ (.tail _ (.tail _ (List.mem_append_right _ b)))⟩⟩
  have LL : LamL ((R,listOf xs.toArray kR)::(K,lo)::(Ta,triO xh th (.int i ui) (.int j uj))::(new ++ zs)) K := LamL.of hlo hoc hcv (.tail _ (.head _)) (.tail _ (.tail _ (.tail _ hco)))
  have hne : ∀ q ∈ (K,lo)::(Ta,triO xh th (.int i ui) (.int j uj))::(new ++ zs),@Ne Nat q.1 R := fun q hq => by
    rcases List.mem_cons.mp hq with rfl | hq
    · exact Ne.symm (hKne (R,listOf xs.toArray kR) (List.mem_append_right _ (.tail _ (.head _))))
    · rcases List.mem_cons.mp hq with rfl | hq
      · exact Nat.ne_of_gt (l3 _ (.head _))
      · rcases List.mem_append.mp hq with hq | hq
        · exact Ne.symm (AllNe.mem (p := (R,listOf xs.toArray kR)) (hnew q hq) (.tail _ (.head _)))
        · exact hzR q hq
  show wpAny _ _ (call (.ref 65) [.ref R,.ref Ta] [(Str.ofString "key", .ref K)]) _ _ _
  have inR : ∀ q ∈ ((L+1+1+1+1+1+1+1+1,jk)::(L+1+1+1+1+1+1+1,jq)::(L+1+1+1+1+1+1,yk)::(L+1+1+1+1+1,jm)::(L+1+1+1+1,jt)::(L+1+1+1,jp)::(L+1+1,jr)::(L+1,jl)::(37,t37)::(30,t30)::(134,tabObj ps')::[] : List (Addr × Obj)),q ∈ (K,lo)::(new ++ (Ta,triO xh th (.int i ui) (.int j uj))::(R,listOf xs.toArray kR)::(((L+1+1+1+1+1+1+1+1,jk)::(L+1+1+1+1+1+1+1,jq)::(L+1+1+1+1+1+1,yk)::(L+1+1+1+1+1,jm)::(L+1+1+1+1,jt)::(L+1+1+1,jp)::(L+1+1,jr)::(L+1,jl)::(37,t37)::(30,t30)::(134,tabObj ps')::[]) ++ zs)) := fun q hq => .tail _ (List.mem_append_right _ (.tail _ (.tail _ (List.mem_append_left _ hq))))
  k_dflt (refine ctr_use (ins_ctr w p loose mean mg mb _ R K Ta xs hs kR xh th _ _ HL LL (.tail _ (.tail _ (.head _))) hne) ((L+1+1+1+1+1+1+1+1,jk)::(L+1+1+1+1+1+1+1,jq)::(L+1+1+1+1+1+1,yk)::(L+1+1+1+1+1,jm)::(L+1+1+1+1,jt)::(L+1+1+1,jp)::(L+1+1,jr)::(L+1,jl)::(37,t37)::(30,t30)::(134,tabObj ps')::[]) (by k_asm) F2 (by k_asm) N2 (by k_asm) (by exact rfl) ?hm ?hr trivial (by ktr_room) (by ktr_units) ?_)
  case hm =>
    intro q hq
    rcases List.mem_cons.mp hq with rfl | hq
    · exact .tail _ (List.mem_append_right _ (.tail _ (.head _)))
    · rcases List.mem_cons.mp hq with rfl | hq
      · exact .head _
      · rcases List.mem_cons.mp hq with rfl | hq
        · exact .tail _ (List.mem_append_right _ (.head _))
        · rcases List.mem_append.mp hq with hq | hq
          · exact .tail _ (List.mem_append_left _ hq)
          · exact .tail _ (List.mem_append_right _ (.tail _ (.tail _ (List.mem_append_right ((L+1+1+1+1+1+1+1+1,jk)::(L+1+1+1+1+1+1+1,jq)::(L+1+1+1+1+1+1,yk)::(L+1+1+1+1+1,jm)::(L+1+1+1+1,jt)::(L+1+1+1,jp)::(L+1+1,jr)::(L+1,jl)::(37,t37)::(30,t30)::(134,tabObj ps')::[]) hq))))
  case hr =>
    intro q hq
    refine ⟨inR q hq,not_addr fun r hr => ?_⟩
    rcases List.mem_cons.mp hr with rfl | hr
    · exact Ne.symm (AllNe.mem hR' hq)
    · rcases List.mem_cons.mp hr with rfl | hr
      · exact Ne.symm (hKne q (List.mem_append_right _ (.tail _ (.tail _ (List.mem_append_left zs hq)))))
      · rcases List.mem_cons.mp hr with rfl | hr
        · exact Nat.ne_of_gt (l4 q hq)
        · rcases List.mem_append.mp hr with hr | hr
          · exact Ne.symm (AllNe.mem (hnew r hr) (.tail _ (.tail _ (List.mem_append_left zs hq))))
          · exact OffZ.ne hz hr hq
  intro r9 tl9 h9 tk9 F9 N9 hne9 hpost
  obtain ⟨rfl,rfl⟩ := hpost
  have hnew2 : ∀ q ∈ new,AllNe q.1 ((L+1+1+1+1+1+1+1+1,jk)::(L+1+1+1+1+1+1+1,jq)::(L+1+1+1+1+1+1,yk)::(L+1+1+1+1+1,jm)::(L+1+1+1+1,jt)::(L+1+1+1,jp)::(L+1+1,jr)::(L+1,jl)::(37,t37)::(30,t30)::(134,tabObj ps')::[]) := fun q hq => AllNe.sub (hnew q hq) fun r hr => .tail _ (.tail _ (List.mem_append_left zs hr))
  try dsimp only
  refine fin _ _ Ta (kR+1) ps' new F9 (cb_drop N9 fun q hq => ?_) (OffZ.cons (ys := []) (allNe_of fun q hq => Nat.ne_of_lt (l4 q hq)) (offZ_new hz hnew2)) (fun q hq => hne q (.tail _ hq)) (TZ2.mono fun q hq => .tail _ hq) ?_
  rotate_left
  · intro q hq
    rcases List.mem_cons.mp hq with rfl | hq
    · exact allNe_of fun r hr => Nat.ne_of_lt (l3 r (List.mem_append_right ((R,listOf xs.toArray kR)::(L+1+1+1+1+1+1+1+1,jk)::(L+1+1+1+1+1+1+1,jq)::(L+1+1+1+1+1+1,yk)::(L+1+1+1+1+1,jm)::(L+1+1+1+1,jt)::(L+1+1+1,jp)::(L+1+1,jr)::(L+1,jl)::(37,t37)::(30,t30)::(134,tabObj ps)::[]) hr))
    · exact AllNe.sub (hnew q hq) fun r hr => .tail _ (.tail _ (List.mem_append_right ((L+1+1+1+1+1+1+1+1,jk)::(L+1+1+1+1+1+1+1,jq)::(L+1+1+1+1+1+1,yk)::(L+1+1+1+1+1,jm)::(L+1+1+1+1,jt)::(L+1+1+1,jp)::(L+1+1,jr)::(L+1,jl)::(37,t37)::(30,t30)::(134,tabObj ps')::[]) hr))
  rcases List.mem_cons.mp hq with rfl | hq
  · exact .head _
  · rcases List.mem_append.mp (show q ∈ ((L+1+1+1+1+1+1+1+1,jk)::(L+1+1+1+1+1+1+1,jq)::(L+1+1+1+1+1+1,yk)::(L+1+1+1+1+1,jm)::(L+1+1+1+1,jt)::(L+1+1+1,jp)::(L+1+1,jr)::(L+1,jl)::(37,t37)::(30,t30)::(134,tabObj ps')::[] : List (Addr × Obj)) ++ ((Ta,triO xh th (.int i ui) (.int j uj))::(new ++ zs)) from hq) with hq | hq
    · exact List.mem_append_right _ hq
    · exact List.mem_append_left _ (.tail _ (.tail _ hq))
theorem core_law_n7 : PP_law_n7 w p loose mean mg mb dp un gd L fa A₀ base h₀ s Q E rest m jk jq yk jm jt jp jr jl t37 t30 t134 H oH P Q' fi se sc bo u1 u2 tf ts tc tb := by
  intro B X T hd hu ch1 ch2 ch3 hl F N mp mq m1 m2 m3 m4 ha hb fin
  w_top off
  k_steps
  k_dflt (refine ctr_use0 (lucas_ctr w p loose mean mg mb fi se tf ts ha hb) (by k_asm) F (by k_asm) N (by k_asm) (by exact rfl) trivial (by ktr_room) (by ktr_units) ?_)
  intro r tl h7 tk7 F7 N7 hne hpost
  obtain ⟨U,vs,kU,rfl,rfl,hI⟩ := hpost
  obtain ⟨w0,w1,w2,w3,w4,w5,w6,w7,w8,w9,rfl⟩ := ints10 (x0 := lucasU 0 fi se) (x1 := lucasU 1 fi se) (x2 := lucasU 2 fi se) (x3 := lucasU 3 fi se) (x4 := lucasU 4 fi se) (x5 := lucasU 5 fi se) (x6 := lucasU 6 fi se) (x7 := lucasU 7 fi se) (x8 := lucasU 8 fi se) (x9 := lucasU 9 fi se) hI
  clear F N
  have hU := hne _ (.head _)
  clear hne
  simp only [List.cons_append,List.nil_append] at N7
  try dsimp only
  k_steps
  rename Fr h₀ L _ _ => F9
  rename News h₀ L _ _ => N9
  exact fin _ _ _ _ _ _ _ _ _ _ _ _ _ _ _ F9 (cb_drop N9 (by lcg_sub)) (AllNe.sub hU (by lcg_sub)) (by walk_at "k_opq") (by walk_at "k_opq") (by walk_at "k_opq") (by walk_at "k_opq") (by walk_at "k_opq") (by walk_at "k_opq") (by walk_at "k_opq")
theorem core_it_b2 : PP_it_b2 w p loose mean mg mb dp un gd L fa A₀ base h₀ s Q E m jk jq yk jm jt jp jr jl t37 t30 R xs kR ps zs rest xl xd UN bo tl td tb tu := by
  intro B X T hd hu ch1 ch2 ch3 hl hz hzR hR F N ml md mb' cu hb1 hb2 hL hD hI hI2 fin
  w_top off
  obtain ⟨y0,y1,y2,y3,y4,y5,y6,y7,y8,y9,y10⟩ : (∀ q ∈ zs,q.1 ≠ L+1+1+1+1+1+1+1+1) ∧ (∀ q ∈ zs,q.1 ≠ L+1+1+1+1+1+1+1) ∧ (∀ q ∈ zs,q.1 ≠ L+1+1+1+1+1+1) ∧ (∀ q ∈ zs,q.1 ≠ L+1+1+1+1+1) ∧ (∀ q ∈ zs,q.1 ≠ L+1+1+1+1) ∧ (∀ q ∈ zs,q.1 ≠ L+1+1+1) ∧ (∀ q ∈ zs,q.1 ≠ L+1+1) ∧ (∀ q ∈ zs,q.1 ≠ L+1) ∧ (∀ q ∈ zs,q.1 ≠ 37) ∧ (∀ q ∈ zs,q.1 ≠ 30) ∧ (∀ q ∈ zs,q.1 ≠ 134) :=
    ⟨fun q hq => (hz q hq).1,fun q hq => (hz q hq).2.1,fun q hq => (hz q hq).2.2.1,fun q hq => (hz q hq).2.2.2.1,fun q hq => (hz q hq).2.2.2.2.1,fun q hq => (hz q hq).2.2.2.2.2.1,fun q hq => (hz q hq).2.2.2.2.2.2.1,fun q hq => (hz q hq).2.2.2.2.2.2.2.1,fun q hq => (hz q hq).2.2.2.2.2.2.2.2.1,fun q hq => (hz q hq).2.2.2.2.2.2.2.2.2.1,fun q hq => (hz q hq).2.2.2.2.2.2.2.2.2.2⟩
  k_steps
  all_goals first
    | (refine fin _ _ ?_ ?_ <;> assumption)
    | (exfalso
       rename (_ != _) = true => hx
       first
         | (have h2 : (!(feq xl (fdiv64 bo 128))) = true := hx
            rw [hL] at h2
            cases h2)
         | (have h2 : (!(feq xd (fdiv64 UN (if 128 - bo < bo then 128 - bo else bo)))) = true := hx
            rw [hD] at h2
            cases h2))
    | (exfalso
       rename Float64.isInf _ = true => hx
       first
         | (have h2 : Float64.isInf (fdiv64 UN (if 128 - bo < bo then 128 - bo else bo)) = true := hx
            rw [hI] at h2
            cases h2)
         | (have h2 : Float64.isInf (fdiv64 bo 128) = true := hx
            rw [hI2] at h2
            cases h2))
theorem words_a59 : True := by
  k_with "omega" => lia
  exact trivial
theorem core_law_n23 : PP_law_n23 w p loose mean mg mb dp un gd L fa A₀ base h₀ s Q E m jk jq yk jm jt jp jr jl o30 o37 t37 t30 t134 R c30 c37 T0 T1 T2 T3 T4 T5 kR ps zs rest D1 D2 NB nbL kN i0 i1 i2 j0 j1 j2 n0 n1 n2 p0 p1 p2 it0 it1 it2 jt0 jt1 jt2 nt0 nt1 nt2 pt0 pt1 pt2 := by
  intro B X T hd hu ch1 ch2 ch3 hl hR n30 n37 DL Z F N cn hNB m1 m2 hD1 hD2 bi0 ei0 bi1 ei1 bi2 ei2 bj0 ej0 bj1 ej1 bj2 ej2 hn hp hg fin
  w_top off
  have h1m : (D1,listOf #[.int i0 it0,.int i1 it1,.int i2 it2] 3) ∈ ((c30,o30)::(c37,o37)::(R,listOf #[.ref T0,.ref T1,.ref T2,.ref T3,.ref T4,.ref T5] kR)::(L+1+1+1+1+1+1+1+1,jk)::(L+1+1+1+1+1+1+1,jq)::(L+1+1+1+1+1+1,yk)::(L+1+1+1+1+1,jm)::(L+1+1+1+1,jt)::(L+1+1+1,jp)::(L+1+1,jr)::(L+1,jl)::(37,tab37 c37)::(30,tab30 c30)::(134,tabObj ps)::zs : List (Addr × Obj)) := List.mem_append_right ((c30,o30)::(c37,o37)::(R,listOf #[.ref T0,.ref T1,.ref T2,.ref T3,.ref T4,.ref T5] kR)::(L+1+1+1+1+1+1+1+1,jk)::(L+1+1+1+1+1+1+1,jq)::(L+1+1+1+1+1+1,yk)::(L+1+1+1+1+1,jm)::(L+1+1+1+1,jt)::(L+1+1+1,jp)::(L+1+1,jr)::(L+1,jl)::(37,tab37 c37)::(30,tab30 c30)::(134,tabObj ps)::[]) hD1
  have h2m : (D2,listOf #[.int j0 jt0,.int j1 jt1,.int j2 jt2] 3) ∈ ((c30,o30)::(c37,o37)::(R,listOf #[.ref T0,.ref T1,.ref T2,.ref T3,.ref T4,.ref T5] kR)::(L+1+1+1+1+1+1+1+1,jk)::(L+1+1+1+1+1+1+1,jq)::(L+1+1+1+1+1+1,yk)::(L+1+1+1+1+1,jm)::(L+1+1+1+1,jt)::(L+1+1+1,jp)::(L+1+1,jr)::(L+1,jl)::(37,tab37 c37)::(30,tab30 c30)::(134,tabObj ps)::zs : List (Addr × Obj)) := List.mem_append_right ((c30,o30)::(c37,o37)::(R,listOf #[.ref T0,.ref T1,.ref T2,.ref T3,.ref T4,.ref T5] kR)::(L+1+1+1+1+1+1+1+1,jk)::(L+1+1+1+1+1+1+1,jq)::(L+1+1+1+1+1+1,yk)::(L+1+1+1+1+1,jm)::(L+1+1+1+1,jt)::(L+1+1+1,jp)::(L+1+1,jr)::(L+1,jl)::(37,tab37 c37)::(30,tab30 c30)::(134,tabObj ps)::[]) hD2
  have hNBm : (NB,listOf nbL.toArray kN) ∈ ((c30,o30)::(c37,o37)::(R,listOf #[.ref T0,.ref T1,.ref T2,.ref T3,.ref T4,.ref T5] kR)::(L+1+1+1+1+1+1+1+1,jk)::(L+1+1+1+1+1+1+1,jq)::(L+1+1+1+1+1+1,yk)::(L+1+1+1+1+1,jm)::(L+1+1+1+1,jt)::(L+1+1+1,jp)::(L+1+1,jr)::(L+1,jl)::(37,tab37 c37)::(30,tab30 c30)::(134,tabObj ps)::zs : List (Addr × Obj)) := List.mem_append_right ((c30,o30)::(c37,o37)::(R,listOf #[.ref T0,.ref T1,.ref T2,.ref T3,.ref T4,.ref T5] kR)::(L+1+1+1+1+1+1+1+1,jk)::(L+1+1+1+1+1+1+1,jq)::(L+1+1+1+1+1+1,yk)::(L+1+1+1+1+1,jm)::(L+1+1+1+1,jt)::(L+1+1+1,jp)::(L+1+1,jr)::(L+1,jl)::(37,tab37 c37)::(30,tab30 c30)::(134,tabObj ps)::[]) hNB
  iterate 12 (first | (with_reducible show wpAny _ _ (eval (Expr.ListComp _ _ _ _) _) _ _ _) | walk1 | (dsimp only; walk1))
  refine LCg.ListComp_U (cl := [(Str.ofString "numbers", L+1+1+1+1+1+1+1+1)]) (F₀ := F) (by rfl) (by decide) (by rfl) (by decide) (by rfl) ?_
  iterate 6 (first | (with_reducible show LCg.CompSrc _ _ _ _ _ _ _ _ _ _ _ _ _ _) | walk1 | (dsimp only; walk1))
  refine LCg.CompSrc.ledger (its := #[.int i0 it0,.int i1 it1,.int i2 it2]) (by rfl) F N h1m (show 3 ≤ _ by decide) ?_
  intro g1
  show LCg.CompRest _ _ _ _ _ _ _ _ _ _ _ _ _ _ _ 3 0 [] _
  refine LCg.CompRest.succ ?_
  intro vv0 I0 oI0 C0 oC0 D0 m0 h0 tk0 E0 hv0 hC0 hx0 F0 N0 off0 ne0
  obtain rfl : vv0 = .int i0 it0 := (Option.some.inj hv0).symm
  refine r1_elt (cN := L+1+1+1+1+1+1+1+1) (nbL := nbL) B X T hd hu ch1 ch2 ch3 F0 N0 (.tail _ (.head _)) hC0 hx0 (by k_mem) cn (.tail _ (.tail _ (.tail _ hNBm))) bi0.1 (by omega) ei0.1 ei0.2.1 ei0.2.2 ?_
  intro hh0 tkk0 FF0 NN0
  refine ⟨hh0,tkk0,_,rfl,FF0,NN0,off0,.inr ⟨_,h1m,rfl,_,rfl⟩,?_⟩
  refine LCg.CompRest.succ ?_
  intro vv1 I1 oI1 C1 oC1 D1 m1 h1 tk1 E1 hv1 hC1 hx1 F1 N1 off1 ne1
  obtain rfl : vv1 = .int i1 it1 := (Option.some.inj hv1).symm
  refine r1_elt (cN := L+1+1+1+1+1+1+1+1) (nbL := nbL) B X T hd hu ch1 ch2 ch3 F1 N1 (.tail _ (.head _)) hC1 hx1 (by k_mem) cn (.tail _ (.tail _ (.tail _ hNBm))) bi1.1 (by omega) ei1.1 ei1.2.1 ei1.2.2 ?_
  intro hh1 tkk1 FF1 NN1
  refine ⟨hh1,tkk1,_,rfl,FF1,NN1,off1,.inr ⟨_,h1m,rfl,_,rfl⟩,?_⟩
  refine LCg.CompRest.succ ?_
  intro vv2 I2 oI2 C2 oC2 D2 m2 h2 tk2 E2 hv2 hC2 hx2 F2 N2 off2 ne2
  obtain rfl : vv2 = .int i2 it2 := (Option.some.inj hv2).symm
  refine r1_elt (cN := L+1+1+1+1+1+1+1+1) (nbL := nbL) B X T hd hu ch1 ch2 ch3 F2 N2 (.tail _ (.head _)) hC2 hx2 (by k_mem) cn (.tail _ (.tail _ (.tail _ hNBm))) bi2.1 (by omega) ei2.1 ei2.2.1 ei2.2.2 ?_
  intro hh2 tkk2 FF2 NN2
  refine ⟨hh2,tkk2,_,rfl,FF2,NN2,off2,.inr ⟨_,h1m,rfl,_,rfl⟩,?_⟩
  refine LCg.CompRest.zero ?_
  clear F0 N0 FF0 NN0 off0 ne0 hC0 hx0 hv0 F1 N1 FF1 NN1 off1 ne1 hC1 hx1 hv1 F2 N2 FF2 NN2 off2 ne2 hC2 hx2 hv2
  unfold LCg.FinE
  intro G1 hG1 tkG1 FG1 NG1 oG1
  k_steps
  have G1n : AllNe G1 ((c30,o30)::(c37,o37)::(R,listOf #[.ref T0,.ref T1,.ref T2,.ref T3,.ref T4,.ref T5] kR)::(L+1+1+1+1+1+1+1+1,jk)::(L+1+1+1+1+1+1+1,jq)::(L+1+1+1+1+1+1,yk)::(L+1+1+1+1+1,jm)::(L+1+1+1+1,jt)::(L+1+1+1,jp)::(L+1+1,jr)::(L+1,jl)::(37,tab37 c37)::(30,tab30 c30)::(134,tabObj ps)::zs) := allNe_off1 oG1
  have hz := Z.hz
  have Ag : AllNe G1 ((R,listOf #[.ref T0,.ref T1,.ref T2,.ref T3,.ref T4,.ref T5] kR)::(L+1+1+1+1+1+1+1+1,jk)::(L+1+1+1+1+1+1+1,jq)::(L+1+1+1+1+1+1,yk)::(L+1+1+1+1+1,jm)::(L+1+1+1+1,jt)::(L+1+1+1,jp)::(L+1+1,jr)::(L+1,jl)::(134,tabObj ps)::zs) := AllNe.sub G1n (mA (a := ((R,listOf #[.ref T0,.ref T1,.ref T2,.ref T3,.ref T4,.ref T5] kR)::(L+1+1+1+1+1+1+1+1,jk)::(L+1+1+1+1+1+1+1,jq)::(L+1+1+1+1+1+1,yk)::(L+1+1+1+1+1,jm)::(L+1+1+1+1,jt)::(L+1+1+1,jp)::(L+1+1,jr)::(L+1,jl)::[])))
  have A30 : AllNe 30 ((R,listOf #[.ref T0,.ref T1,.ref T2,.ref T3,.ref T4,.ref T5] kR)::(L+1+1+1+1+1+1+1+1,jk)::(L+1+1+1+1+1+1+1,jq)::(L+1+1+1+1+1+1,yk)::(L+1+1+1+1+1,jm)::(L+1+1+1+1,jt)::(L+1+1+1,jp)::(L+1+1,jr)::(L+1,jl)::(134,tabObj ps)::zs) := AllNe.app (a := (R,listOf #[.ref T0,.ref T1,.ref T2,.ref T3,.ref T4,.ref T5] kR)::(L+1+1+1+1+1+1+1+1,jk)::(L+1+1+1+1+1+1+1,jq)::(L+1+1+1+1+1+1,yk)::(L+1+1+1+1+1,jm)::(L+1+1+1+1,jt)::(L+1+1+1,jp)::(L+1+1,jr)::(L+1,jl)::(134,tabObj ps)::[]) ⟨Ne.symm hR.2.2.2.2.2.2.2.2.2.1,cl2 hl (Nat.le_add_right L 8),cl2 hl (Nat.le_add_right L 7),cl2 hl (Nat.le_add_right L 6),cl2 hl (Nat.le_add_right L 5),cl2 hl (Nat.le_add_right L 4),cl2 hl (Nat.le_add_right L 3),cl2 hl (Nat.le_add_right L 2),cl2 hl (Nat.le_add_right L 1),n134b,trivial⟩ fun q hq => (hz q hq).2.2.2.2.2.2.2.2.2.1
  have A37 : AllNe 37 ((R,listOf #[.ref T0,.ref T1,.ref T2,.ref T3,.ref T4,.ref T5] kR)::(L+1+1+1+1+1+1+1+1,jk)::(L+1+1+1+1+1+1+1,jq)::(L+1+1+1+1+1+1,yk)::(L+1+1+1+1+1,jm)::(L+1+1+1+1,jt)::(L+1+1+1,jp)::(L+1+1,jr)::(L+1,jl)::(134,tabObj ps)::zs) := AllNe.app (a := (R,listOf #[.ref T0,.ref T1,.ref T2,.ref T3,.ref T4,.ref T5] kR)::(L+1+1+1+1+1+1+1+1,jk)::(L+1+1+1+1+1+1+1,jq)::(L+1+1+1+1+1+1,yk)::(L+1+1+1+1+1,jm)::(L+1+1+1+1,jt)::(L+1+1+1,jp)::(L+1+1,jr)::(L+1,jl)::(134,tabObj ps)::[]) ⟨Ne.symm hR.2.2.2.2.2.2.2.2.1,cl1 hl (Nat.le_add_right L 8),cl1 hl (Nat.le_add_right L 7),cl1 hl (Nat.le_add_right L 6),cl1 hl (Nat.le_add_right L 5),cl1 hl (Nat.le_add_right L 4),cl1 hl (Nat.le_add_right L 3),cl1 hl (Nat.le_add_right L 2),cl1 hl (Nat.le_add_right L 1),n134a,trivial⟩ fun q hq => (hz q hq).2.2.2.2.2.2.2.2.1
  have B30 : AllNe c30 ((R,listOf #[.ref T0,.ref T1,.ref T2,.ref T3,.ref T4,.ref T5] kR)::(L+1+1+1+1+1+1+1+1,jk)::(L+1+1+1+1+1+1+1,jq)::(L+1+1+1+1+1+1,yk)::(L+1+1+1+1+1,jm)::(L+1+1+1+1,jt)::(L+1+1+1,jp)::(L+1+1,jr)::(L+1,jl)::(134,tabObj ps)::zs) := AllNe.app (a := (R,listOf #[.ref T0,.ref T1,.ref T2,.ref T3,.ref T4,.ref T5] kR)::(L+1+1+1+1+1+1+1+1,jk)::(L+1+1+1+1+1+1+1,jq)::(L+1+1+1+1+1+1,yk)::(L+1+1+1+1+1,jm)::(L+1+1+1+1,jt)::(L+1+1+1,jp)::(L+1+1,jr)::(L+1,jl)::(134,tabObj ps)::[]) n30 Z.h30
  have B37 : AllNe c37 ((R,listOf #[.ref T0,.ref T1,.ref T2,.ref T3,.ref T4,.ref T5] kR)::(L+1+1+1+1+1+1+1+1,jk)::(L+1+1+1+1+1+1+1,jq)::(L+1+1+1+1+1+1,yk)::(L+1+1+1+1+1,jm)::(L+1+1+1+1,jt)::(L+1+1+1,jp)::(L+1+1,jr)::(L+1,jl)::(134,tabObj ps)::zs) := AllNe.app (a := (R,listOf #[.ref T0,.ref T1,.ref T2,.ref T3,.ref T4,.ref T5] kR)::(L+1+1+1+1+1+1+1+1,jk)::(L+1+1+1+1+1+1+1,jq)::(L+1+1+1+1+1+1,yk)::(L+1+1+1+1+1,jm)::(L+1+1+1+1,jt)::(L+1+1+1,jp)::(L+1+1,jr)::(L+1,jl)::(134,tabObj ps)::[]) n37 Z.h37
  have hG0 : h₀.get? G1 = none := (NG1 _ (.head _)).2.2
  have hDm : G1 ∉ addrs (mtL c30 c37 o30 o37) := not_addr (mt4 (Ne.symm G1n.2.2.2.2.2.2.2.2.2.2.2.2.1) (Ne.symm G1n.1) (Ne.symm G1n.2.2.2.2.2.2.2.2.2.2.2.1) (Ne.symm G1n.2.1))
  k_dflt (refine ctr_use (ru_ctr w p loose mean mg mb G1 3 ([.int n0 nt0,.int n1 nt1,.int n2 nt2]) [n0,n1,n2] (by with_unfolding_all exact ints3) hn c30 c37 o30 o37 DL hDm) ((R,listOf #[.ref T0,.ref T1,.ref T2,.ref T3,.ref T4,.ref T5] kR)::(L+1+1+1+1+1+1+1+1,jk)::(L+1+1+1+1+1+1+1,jq)::(L+1+1+1+1+1+1,yk)::(L+1+1+1+1+1,jm)::(L+1+1+1+1,jt)::(L+1+1+1,jp)::(L+1+1,jr)::(L+1,jl)::(134,tabObj ps)::zs) (by k_asm) FG1 (by k_asm) NG1 (by k_asm) (by exact rfl) ?hm ?hr ⟨⟨codeHd_keep ch2 FG1,codeHd_keep ch1 FG1⟩,Ne.symm (codeHd_ne ch2 hG0),Ne.symm (codeHd_ne ch1 hG0)⟩ (by ktr_room) (by ktr_units) ?_)
  case hm => exact List.forall_mem_cons.mpr ⟨.head _,fun q hq => .tail _ (mB (a := ((R,listOf #[.ref T0,.ref T1,.ref T2,.ref T3,.ref T4,.ref T5] kR)::(L+1+1+1+1+1+1+1+1,jk)::(L+1+1+1+1+1+1+1,jq)::(L+1+1+1+1+1+1,yk)::(L+1+1+1+1+1,jm)::(L+1+1+1+1,jt)::(L+1+1+1,jp)::(L+1+1,jr)::(L+1,jl)::[])) q hq)⟩
  case hr => exact fun q hq => ⟨.tail _ (mA (a := ((R,listOf #[.ref T0,.ref T1,.ref T2,.ref T3,.ref T4,.ref T5] kR)::(L+1+1+1+1+1+1+1+1,jk)::(L+1+1+1+1+1+1+1,jq)::(L+1+1+1+1+1+1,yk)::(L+1+1+1+1+1,jm)::(L+1+1+1+1,jt)::(L+1+1+1,jp)::(L+1+1,jr)::(L+1,jl)::[])) q hq),not_addr (List.forall_mem_cons.mpr ⟨Ne.symm (AllNe.mem Ag hq),mt4 (AllNe.mem A30 hq) (AllNe.mem B30 hq) (AllNe.mem A37 hq) (AllNe.mem B37 hq)⟩)⟩
  intro r tl h7 tk7 F7 N7 hne7 hpost
  obtain ⟨tv,rfl,rfl⟩ := hpost
  clear NG1 FG1 hne7
  have N8 : News h₀ L h7 ((c30,o30)::(c37,o37)::(R,listOf #[.ref T0,.ref T1,.ref T2,.ref T3,.ref T4,.ref T5] kR)::(L+1+1+1+1+1+1+1+1,jk)::(L+1+1+1+1+1+1+1,jq)::(L+1+1+1+1+1+1,yk)::(L+1+1+1+1+1,jm)::(L+1+1+1+1,jt)::(L+1+1+1,jp)::(L+1+1,jr)::(L+1,jl)::(37,tab37 c37)::(30,tab30 c30)::(134,tabObj ps)::zs) := cb_drop N7 (mC (a := ((R,listOf #[.ref T0,.ref T1,.ref T2,.ref T3,.ref T4,.ref T5] kR)::(L+1+1+1+1+1+1+1+1,jk)::(L+1+1+1+1+1+1+1,jq)::(L+1+1+1+1+1+1,yk)::(L+1+1+1+1+1,jm)::(L+1+1+1+1,jt)::(L+1+1+1,jp)::(L+1+1,jr)::(L+1,jl)::[])) (l := (G1,LCg.lst ([.int n0 nt0,.int n1 nt1,.int n2 nt2]))::mtL c30 c37 o30 o37) (.tail _ (.head _)) (.tail _ (.tail _ (.head _))) (.tail _ (.tail _ (.tail _ (.head _)))) (.tail _ (.tail _ (.tail _ (.tail _ (.head _))))))
  clear N7
  iterate 12 (first | (with_reducible show wpAny _ _ (eval (Expr.ListComp _ _ _ _) _) _ _ _) | walk1 | (dsimp only; walk1))
  refine LCg.ListComp_U (cl := [(Str.ofString "numbers", L+1+1+1+1+1+1+1+1)]) (F₀ := F7) (by rfl) (by decide) (by rfl) (by decide) (by rfl) ?_
  iterate 6 (first | (with_reducible show LCg.CompSrc _ _ _ _ _ _ _ _ _ _ _ _ _ _) | walk1 | (dsimp only; walk1))
  refine LCg.CompSrc.ledger (its := #[.int j0 jt0,.int j1 jt1,.int j2 jt2]) (by rfl) F7 N8 h2m (show 3 ≤ _ by decide) ?_
  intro g2
  show LCg.CompRest _ _ _ _ _ _ _ _ _ _ _ _ _ _ _ 3 0 [] _
  refine LCg.CompRest.succ ?_
  intro vv0 I0 oI0 C0 oC0 D0 m0 h0 tk0 E0 hv0 hC0 hx0 F0 N0 off0 ne0
  obtain rfl : vv0 = .int j0 jt0 := (Option.some.inj hv0).symm
  refine r2_elt (cN := L+1+1+1+1+1+1+1+1) (nbL := nbL) B X T hd hu ch1 ch2 ch3 F0 N0 (.tail _ (.head _)) hC0 hx0 (by k_mem) cn (.tail _ (.tail _ (.tail _ hNBm))) bj0.1 (by omega) ej0.1 ej0.2.1 ej0.2.2 ?_
  intro hh0 tkk0 FF0 NN0
  refine ⟨hh0,tkk0,_,rfl,FF0,NN0,off0,.inr ⟨_,h2m,rfl,_,rfl⟩,?_⟩
  refine LCg.CompRest.succ ?_
  intro vv1 I1 oI1 C1 oC1 D1 m1 h1 tk1 E1 hv1 hC1 hx1 F1 N1 off1 ne1
  obtain rfl : vv1 = .int j1 jt1 := (Option.some.inj hv1).symm
  refine r2_elt (cN := L+1+1+1+1+1+1+1+1) (nbL := nbL) B X T hd hu ch1 ch2 ch3 F1 N1 (.tail _ (.head _)) hC1 hx1 (by k_mem) cn (.tail _ (.tail _ (.tail _ hNBm))) bj1.1 (by omega) ej1.1 ej1.2.1 ej1.2.2 ?_
  intro hh1 tkk1 FF1 NN1
  refine ⟨hh1,tkk1,_,rfl,FF1,NN1,off1,.inr ⟨_,h2m,rfl,_,rfl⟩,?_⟩
  refine LCg.CompRest.succ ?_
  intro vv2 I2 oI2 C2 oC2 D2 m2 h2 tk2 E2 hv2 hC2 hx2 F2 N2 off2 ne2
  obtain rfl : vv2 = .int j2 jt2 := (Option.some.inj hv2).symm
  refine r2_elt (cN := L+1+1+1+1+1+1+1+1) (nbL := nbL) B X T hd hu ch1 ch2 ch3 F2 N2 (.tail _ (.head _)) hC2 hx2 (by k_mem) cn (.tail _ (.tail _ (.tail _ hNBm))) bj2.1 (by omega) ej2.1 ej2.2.1 ej2.2.2 ?_
  intro hh2 tkk2 FF2 NN2
  refine ⟨hh2,tkk2,_,rfl,FF2,NN2,off2,.inr ⟨_,h2m,rfl,_,rfl⟩,?_⟩
  refine LCg.CompRest.zero ?_
  clear F0 N0 FF0 NN0 off0 ne0 hC0 hx0 hv0 F1 N1 FF1 NN1 off1 ne1 hC1 hx1 hv1 F2 N2 FF2 NN2 off2 ne2 hC2 hx2 hv2
  unfold LCg.FinE
  intro G2 hG2 tkG2 FG2 NG2 oG2
  k_steps
  have G2n : AllNe G2 ((c30,o30)::(c37,o37)::(R,listOf #[.ref T0,.ref T1,.ref T2,.ref T3,.ref T4,.ref T5] kR)::(L+1+1+1+1+1+1+1+1,jk)::(L+1+1+1+1+1+1+1,jq)::(L+1+1+1+1+1+1,yk)::(L+1+1+1+1+1,jm)::(L+1+1+1+1,jt)::(L+1+1+1,jp)::(L+1+1,jr)::(L+1,jl)::(37,tab37 c37)::(30,tab30 c30)::(134,tabObj ps)::zs) := allNe_off1 oG2
  k_dflt (refine ctr_use (pl_ctr w p loose mean mg mb G2 3 ([.int p0 pt0,.int p1 pt1,.int p2 pt2]) [p0,p1,p2] (by with_unfolding_all exact ints3) hp) ((c30,o30)::(c37,o37)::(R,listOf #[.ref T0,.ref T1,.ref T2,.ref T3,.ref T4,.ref T5] kR)::(L+1+1+1+1+1+1+1+1,jk)::(L+1+1+1+1+1+1+1,jq)::(L+1+1+1+1+1+1,yk)::(L+1+1+1+1+1,jm)::(L+1+1+1+1,jt)::(L+1+1+1,jp)::(L+1+1,jr)::(L+1,jl)::(37,tab37 c37)::(30,tab30 c30)::(134,tabObj ps)::zs) (by k_asm) FG2 (by k_asm) NG2 (by k_asm) (by exact rfl) (fun q hq => (List.mem_singleton.mp hq) ▸ .head _) (fun q hq => ⟨.tail _ hq,fun hm => AllNe.mem G2n hq (List.mem_singleton.mp hm)⟩) trivial (by ktr_room) (by ktr_units) ?_)
  intro r tl h8 tk8 F8 N8' hne8 hpost
  obtain ⟨tv2,rfl,rfl⟩ := hpost
  clear NG2 FG2 hne8
  rw [hg]
  k_steps
  rw [beq_self_eq_true]
  exact fin _ _ F8 (cb_drop N8' fun q hq => .tail _ hq)
theorem core_law_n17 : PP_law_n17 w p loose mean mg mb dp un gd L fa A₀ base h₀ s Q E m jk jq yk jm jt jp jr jl t37 t30 R T0 T1 T2 T3 T4 T5 kR ps zs rest TB us b i0 j0 i1 j1 i2 j2 i3 j3 i4 j4 i5 j5 x0 x1 x2 x3 x4 x5 t0 u0 v0 t1 u1 v1 t2 u2 v2 t3 u3 v3 t4 u4 v4 t5 u5 v5 ov := by
  intro B X T hd hu ch1 ch2 ch3 hl hz hzR hR F N cr ct cn hTB hT0 b0 hT1 b1 hT2 b2 hT3 b3 hT4 b4 hT5 b5 fin
  w_top off
  obtain ⟨y0,y1,y2,y3,y4,y5,y6,y7,y8,y9,y10⟩ : (∀ q ∈ zs,q.1 ≠ L+1+1+1+1+1+1+1+1) ∧ (∀ q ∈ zs,q.1 ≠ L+1+1+1+1+1+1+1) ∧ (∀ q ∈ zs,q.1 ≠ L+1+1+1+1+1+1) ∧ (∀ q ∈ zs,q.1 ≠ L+1+1+1+1+1) ∧ (∀ q ∈ zs,q.1 ≠ L+1+1+1+1) ∧ (∀ q ∈ zs,q.1 ≠ L+1+1+1) ∧ (∀ q ∈ zs,q.1 ≠ L+1+1) ∧ (∀ q ∈ zs,q.1 ≠ L+1) ∧ (∀ q ∈ zs,q.1 ≠ 37) ∧ (∀ q ∈ zs,q.1 ≠ 30) ∧ (∀ q ∈ zs,q.1 ≠ 134) :=
    ⟨fun q hq => (hz q hq).1,fun q hq => (hz q hq).2.1,fun q hq => (hz q hq).2.2.1,fun q hq => (hz q hq).2.2.2.1,fun q hq => (hz q hq).2.2.2.2.1,fun q hq => (hz q hq).2.2.2.2.2.1,fun q hq => (hz q hq).2.2.2.2.2.2.1,fun q hq => (hz q hq).2.2.2.2.2.2.2.1,fun q hq => (hz q hq).2.2.2.2.2.2.2.2.1,fun q hq => (hz q hq).2.2.2.2.2.2.2.2.2.1,fun q hq => (hz q hq).2.2.2.2.2.2.2.2.2.2⟩
  iterate 2 (first | walk1 | (dsimp only; walk1))
  refine LCg.ListComp_U (cl := [(Str.ofString "table", L+1+1+1+1+1)]) (F₀ := F) (by rfl) (by decide) (by rfl) (by decide) (by rfl) ?_
  walk1
  refine LCg.CompSrc.ledger (its := #[.ref T0,.ref T1,.ref T2,.ref T3,.ref T4,.ref T5]) (by rfl) F N (.head _) (show 6 ≤ _ by decide) ?_
  intro g
  show LCg.CompRest _ _ _ _ _ _ _ _ _ _ _ _ _ _ _ 6 0 [] _
  refine LCg.CompRest.succ ?_
  intro vv0 I0 oI0 C0 oC0 D0 m0 h0 tk0 E0 hv0 hC0 hx0 F0 N0 off0 ne0
  obtain rfl : vv0 = .ref T0 := (Option.some.inj hv0).symm
  refine nb_elt (cT := L+1+1+1+1+1) B X T hd hu ch1 ch2 ch3 F0 N0 (.tail _ (.head _)) hC0 hx0 (.tail _ (.tail _ (.tail _ (List.mem_append_right ((R,listOf #[.ref T0,.ref T1,.ref T2,.ref T3,.ref T4,.ref T5] kR)::(L+1+1+1+1+1+1+1+1,jk)::(L+1+1+1+1+1+1+1,jq)::(L+1+1+1+1+1+1,yk)::(L+1+1+1+1+1,jm)::(L+1+1+1+1,jt)::(L+1+1+1,jp)::(L+1+1,jr)::(L+1,jl)::(37,t37)::(30,t30)::(134,tabObj ps)::[]) hT0)))) (by k_mem) ct (hTB.mono fun q hq => .tail _ (.tail _ (.tail _ (List.mem_append_right ((R,listOf #[.ref T0,.ref T1,.ref T2,.ref T3,.ref T4,.ref T5] kR)::(L+1+1+1+1+1+1+1+1,jk)::(L+1+1+1+1+1+1+1,jq)::(L+1+1+1+1+1+1,yk)::(L+1+1+1+1+1,jm)::(L+1+1+1+1,jt)::(L+1+1+1,jp)::(L+1+1,jr)::(L+1,jl)::(37,t37)::(30,t30)::(134,tabObj ps)::[]) hq)))) b0.1 b0.2.1 b0.2.2.1 b0.2.2.2 ?_
  intro tt0 hh0 tkk0 FF0 NN0
  refine ⟨hh0,tkk0,_,rfl,FF0,NN0,off0,.inr ⟨_,.head _,rfl,_,rfl⟩,?_⟩
  refine LCg.CompRest.succ ?_
  intro vv1 I1 oI1 C1 oC1 D1 m1 h1 tk1 E1 hv1 hC1 hx1 F1 N1 off1 ne1
  obtain rfl : vv1 = .ref T1 := (Option.some.inj hv1).symm
  refine nb_elt (cT := L+1+1+1+1+1) B X T hd hu ch1 ch2 ch3 F1 N1 (.tail _ (.head _)) hC1 hx1 (.tail _ (.tail _ (.tail _ (List.mem_append_right ((R,listOf #[.ref T0,.ref T1,.ref T2,.ref T3,.ref T4,.ref T5] kR)::(L+1+1+1+1+1+1+1+1,jk)::(L+1+1+1+1+1+1+1,jq)::(L+1+1+1+1+1+1,yk)::(L+1+1+1+1+1,jm)::(L+1+1+1+1,jt)::(L+1+1+1,jp)::(L+1+1,jr)::(L+1,jl)::(37,t37)::(30,t30)::(134,tabObj ps)::[]) hT1)))) (by k_mem) ct (hTB.mono fun q hq => .tail _ (.tail _ (.tail _ (List.mem_append_right ((R,listOf #[.ref T0,.ref T1,.ref T2,.ref T3,.ref T4,.ref T5] kR)::(L+1+1+1+1+1+1+1+1,jk)::(L+1+1+1+1+1+1+1,jq)::(L+1+1+1+1+1+1,yk)::(L+1+1+1+1+1,jm)::(L+1+1+1+1,jt)::(L+1+1+1,jp)::(L+1+1,jr)::(L+1,jl)::(37,t37)::(30,t30)::(134,tabObj ps)::[]) hq)))) b1.1 b1.2.1 b1.2.2.1 b1.2.2.2 ?_
  intro tt1 hh1 tkk1 FF1 NN1
  refine ⟨hh1,tkk1,_,rfl,FF1,NN1,off1,.inr ⟨_,.head _,rfl,_,rfl⟩,?_⟩
  refine LCg.CompRest.succ ?_
  intro vv2 I2 oI2 C2 oC2 D2 m2 h2 tk2 E2 hv2 hC2 hx2 F2 N2 off2 ne2
  obtain rfl : vv2 = .ref T2 := (Option.some.inj hv2).symm
  refine nb_elt (cT := L+1+1+1+1+1) B X T hd hu ch1 ch2 ch3 F2 N2 (.tail _ (.head _)) hC2 hx2 (.tail _ (.tail _ (.tail _ (List.mem_append_right ((R,listOf #[.ref T0,.ref T1,.ref T2,.ref T3,.ref T4,.ref T5] kR)::(L+1+1+1+1+1+1+1+1,jk)::(L+1+1+1+1+1+1+1,jq)::(L+1+1+1+1+1+1,yk)::(L+1+1+1+1+1,jm)::(L+1+1+1+1,jt)::(L+1+1+1,jp)::(L+1+1,jr)::(L+1,jl)::(37,t37)::(30,t30)::(134,tabObj ps)::[]) hT2)))) (by k_mem) ct (hTB.mono fun q hq => .tail _ (.tail _ (.tail _ (List.mem_append_right ((R,listOf #[.ref T0,.ref T1,.ref T2,.ref T3,.ref T4,.ref T5] kR)::(L+1+1+1+1+1+1+1+1,jk)::(L+1+1+1+1+1+1+1,jq)::(L+1+1+1+1+1+1,yk)::(L+1+1+1+1+1,jm)::(L+1+1+1+1,jt)::(L+1+1+1,jp)::(L+1+1,jr)::(L+1,jl)::(37,t37)::(30,t30)::(134,tabObj ps)::[]) hq)))) b2.1 b2.2.1 b2.2.2.1 b2.2.2.2 ?_
  intro tt2 hh2 tkk2 FF2 NN2
  refine ⟨hh2,tkk2,_,rfl,FF2,NN2,off2,.inr ⟨_,.head _,rfl,_,rfl⟩,?_⟩
  refine LCg.CompRest.succ ?_
  intro vv3 I3 oI3 C3 oC3 D3 m3 h3 tk3 E3 hv3 hC3 hx3 F3 N3 off3 ne3
  obtain rfl : vv3 = .ref T3 := (Option.some.inj hv3).symm
  refine nb_elt (cT := L+1+1+1+1+1) B X T hd hu ch1 ch2 ch3 F3 N3 (.tail _ (.head _)) hC3 hx3 (.tail _ (.tail _ (.tail _ (List.mem_append_right ((R,listOf #[.ref T0,.ref T1,.ref T2,.ref T3,.ref T4,.ref T5] kR)::(L+1+1+1+1+1+1+1+1,jk)::(L+1+1+1+1+1+1+1,jq)::(L+1+1+1+1+1+1,yk)::(L+1+1+1+1+1,jm)::(L+1+1+1+1,jt)::(L+1+1+1,jp)::(L+1+1,jr)::(L+1,jl)::(37,t37)::(30,t30)::(134,tabObj ps)::[]) hT3)))) (by k_mem) ct (hTB.mono fun q hq => .tail _ (.tail _ (.tail _ (List.mem_append_right ((R,listOf #[.ref T0,.ref T1,.ref T2,.ref T3,.ref T4,.ref T5] kR)::(L+1+1+1+1+1+1+1+1,jk)::(L+1+1+1+1+1+1+1,jq)::(L+1+1+1+1+1+1,yk)::(L+1+1+1+1+1,jm)::(L+1+1+1+1,jt)::(L+1+1+1,jp)::(L+1+1,jr)::(L+1,jl)::(37,t37)::(30,t30)::(134,tabObj ps)::[]) hq)))) b3.1 b3.2.1 b3.2.2.1 b3.2.2.2 ?_
  intro tt3 hh3 tkk3 FF3 NN3
  refine ⟨hh3,tkk3,_,rfl,FF3,NN3,off3,.inr ⟨_,.head _,rfl,_,rfl⟩,?_⟩
  refine LCg.CompRest.succ ?_
  intro vv4 I4 oI4 C4 oC4 D4 m4 h4 tk4 E4 hv4 hC4 hx4 F4 N4 off4 ne4
  obtain rfl : vv4 = .ref T4 := (Option.some.inj hv4).symm
  refine nb_elt (cT := L+1+1+1+1+1) B X T hd hu ch1 ch2 ch3 F4 N4 (.tail _ (.head _)) hC4 hx4 (.tail _ (.tail _ (.tail _ (List.mem_append_right ((R,listOf #[.ref T0,.ref T1,.ref T2,.ref T3,.ref T4,.ref T5] kR)::(L+1+1+1+1+1+1+1+1,jk)::(L+1+1+1+1+1+1+1,jq)::(L+1+1+1+1+1+1,yk)::(L+1+1+1+1+1,jm)::(L+1+1+1+1,jt)::(L+1+1+1,jp)::(L+1+1,jr)::(L+1,jl)::(37,t37)::(30,t30)::(134,tabObj ps)::[]) hT4)))) (by k_mem) ct (hTB.mono fun q hq => .tail _ (.tail _ (.tail _ (List.mem_append_right ((R,listOf #[.ref T0,.ref T1,.ref T2,.ref T3,.ref T4,.ref T5] kR)::(L+1+1+1+1+1+1+1+1,jk)::(L+1+1+1+1+1+1+1,jq)::(L+1+1+1+1+1+1,yk)::(L+1+1+1+1+1,jm)::(L+1+1+1+1,jt)::(L+1+1+1,jp)::(L+1+1,jr)::(L+1,jl)::(37,t37)::(30,t30)::(134,tabObj ps)::[]) hq)))) b4.1 b4.2.1 b4.2.2.1 b4.2.2.2 ?_
  intro tt4 hh4 tkk4 FF4 NN4
  refine ⟨hh4,tkk4,_,rfl,FF4,NN4,off4,.inr ⟨_,.head _,rfl,_,rfl⟩,?_⟩
  refine LCg.CompRest.succ ?_
  intro vv5 I5 oI5 C5 oC5 D5 m5 h5 tk5 E5 hv5 hC5 hx5 F5 N5 off5 ne5
  obtain rfl : vv5 = .ref T5 := (Option.some.inj hv5).symm
  refine nb_elt (cT := L+1+1+1+1+1) B X T hd hu ch1 ch2 ch3 F5 N5 (.tail _ (.head _)) hC5 hx5 (.tail _ (.tail _ (.tail _ (List.mem_append_right ((R,listOf #[.ref T0,.ref T1,.ref T2,.ref T3,.ref T4,.ref T5] kR)::(L+1+1+1+1+1+1+1+1,jk)::(L+1+1+1+1+1+1+1,jq)::(L+1+1+1+1+1+1,yk)::(L+1+1+1+1+1,jm)::(L+1+1+1+1,jt)::(L+1+1+1,jp)::(L+1+1,jr)::(L+1,jl)::(37,t37)::(30,t30)::(134,tabObj ps)::[]) hT5)))) (by k_mem) ct (hTB.mono fun q hq => .tail _ (.tail _ (.tail _ (List.mem_append_right ((R,listOf #[.ref T0,.ref T1,.ref T2,.ref T3,.ref T4,.ref T5] kR)::(L+1+1+1+1+1+1+1+1,jk)::(L+1+1+1+1+1+1+1,jq)::(L+1+1+1+1+1+1,yk)::(L+1+1+1+1+1,jm)::(L+1+1+1+1,jt)::(L+1+1+1,jp)::(L+1+1,jr)::(L+1,jl)::(37,t37)::(30,t30)::(134,tabObj ps)::[]) hq)))) b5.1 b5.2.1 b5.2.2.1 b5.2.2.2 ?_
  intro tt5 hh5 tkk5 FF5 NN5
  refine ⟨hh5,tkk5,_,rfl,FF5,NN5,off5,.inr ⟨_,.head _,rfl,_,rfl⟩,?_⟩
  refine LCg.CompRest.zero ?_
  clear F N F0 N0 FF0 NN0 off0 ne0 hC0 hx0 hv0 F1 N1 FF1 NN1 off1 ne1 hC1 hx1 hv1 F2 N2 FF2 NN2 off2 ne2 hC2 hx2 hv2 F3 N3 FF3 NN3 off3 ne3 hC3 hx3 hv3 F4 N4 FF4 NN4 off4 ne4 hC4 hx4 hv4 F5 N5 FF5 NN5 off5 ne5 hC5 hx5 hv5
  unfold LCg.FinE
  intro D h9 tk9 F9 N9 o1
  obtain ⟨xx0,xx1,xx2,xx3,xx4,xx5,xx6,xx7,xx8,xx9,xx10,xx11,_⟩ := id o1
  obtain ⟨ww0,ww1,ww2,ww3,ww4,ww5,ww6,ww7,ww8,ww9,ww10,_⟩ := id hR
  simp only [List.nil_append,List.cons_append] at N9
  try dsimp only
  k_steps
  rename Fr h₀ L _ _ => F8
  rename News h₀ L _ _ => N8
  have z1 := zs_put2 (A := D) (o := listOf #[.int (nbV us b i0 j0) tt0,.int (nbV us b i1 j1) tt1,.int (nbV us b i2 j2) tt2,.int (nbV us b i3 j3) tt3,.int (nbV us b i4 j4) tt4,.int (nbV us b i5 j5) tt5] 6) (fun q hq => off1_mem o1 (List.mem_append_left zs hq)) hz hzR
  exact fin _ _ D tt0 tt1 tt2 tt3 tt4 tt5 _ (by assumption) F8 (cb_drop N8 mv_zs) z1.1 z1.2
theorem core_law_n8 : PP_law_n8 w p loose mean mg mb dp un gd L fa A₀ base h₀ s Q E rest m jk jq yk jm jt jp jr jl t37 t30 t134 U kU P Q' fi se sc bo u1 u2 tf ts tc tb w0 w1 w2 w3 w4 w5 w6 w7 w8 w9 := by
  intro B X T hd hu ch1 ch2 ch3 hl F N hU mu mp mq m2 m3 m4 hb b2 b3 b4 b5 b6 c0 c1 c2 c3 c4 ct cr fin
  w_top off
  k_steps
  k_dflt (refine ctr_use (tab_ctr w p loose mean mg mb U kU se _ _ _ _ _ _ _ _ _ _ ts _ _ _ _ _ _ _ _ _ _ hb b2 b3 b4 b5 b6 c0 c1 c2 c3 c4) ((L+1+1+1+1+1+1+1+1,jk)::(L+1+1+1+1+1+1+1,jq)::(L+1+1+1+1+1+1,yk)::(L+1+1+1+1+1,jm)::(L+1+1+1+1,jt)::(L+1+1+1,jp)::(L+1+1,jr)::(L+1,jl)::(37,t37)::(30,t30)::(134,t134)::[]) (by k_asm) F (by k_asm) N (by k_asm) (by exact rfl) (fun q hq => (List.mem_singleton.mp hq) ▸ .head _) (fun q hq => ⟨.tail _ hq,fun hm => AllNe.mem hU hq (List.mem_singleton.mp hm)⟩) trivial (by ktr_room) (by ktr_units) ?_)
  intro r tl h7 tk7 F7 N7 hne hpost
  obtain ⟨T,r0,r1,r2,r3,r4,r5,a0,a1,a2,a3,a4,a5,kT,k0,k1,k2,k3,k4,k5,l1,l2,l3,l4,l5,rfl,rfl,i0,i1,i2,i3,i4,i5,n1,n2,n3,n4,n5⟩ := hpost
  have g5 := hne _ (.head _)
  have g4 := hne _ (.tail _ (.head _))
  have g3 := hne _ (.tail _ (.tail _ (.head _)))
  have g2 := hne _ (.tail _ (.tail _ (.tail _ (.head _))))
  have g1 := hne _ (.tail _ (.tail _ (.tail _ (.tail _ (.head _)))))
  have g0 := hne _ (.tail _ (.tail _ (.tail _ (.tail _ (.tail _ (.head _))))))
  have gT := hne _ (.tail _ (.tail _ (.tail _ (.tail _ (.tail _ (.tail _ (.head _)))))))
  clear F N hne
  have hz : OffZ L [(r5,listOf a5 k5),(r4,listOf a4 k4),(r3,listOf a3 k3),(r2,listOf a2 k2),(r1,listOf a1 k1),(r0,listOf a0 k0),(T,listOf #[.ref r0,.ref r1,.ref r2,.ref r3,.ref r4,.ref r5] kT),(U,listOf #[.int (lucasU 0 fi se) w0,.int (lucasU 1 fi se) w1,.int (lucasU 2 fi se) w2,.int (lucasU 3 fi se) w3,.int (lucasU 4 fi se) w4,.int (lucasU 5 fi se) w5,.int (lucasU 6 fi se) w6,.int (lucasU 7 fi se) w7,.int (lucasU 8 fi se) w8,.int (lucasU 9 fi se) w9] kU)] :=
    .cons g5 (.cons g4 (.cons g3 (.cons g2 (.cons g1 (.cons g0 (.cons gT (.cons hU .nil)))))))
  have hT : TabL [(r5,listOf a5 k5),(r4,listOf a4 k4),(r3,listOf a3 k3),(r2,listOf a2 k2),(r1,listOf a1 k1),(r0,listOf a0 k0),(T,listOf #[.ref r0,.ref r1,.ref r2,.ref r3,.ref r4,.ref r5] kT),(U,listOf #[.int (lucasU 0 fi se) w0,.int (lucasU 1 fi se) w1,.int (lucasU 2 fi se) w2,.int (lucasU 3 fi se) w3,.int (lucasU 4 fi se) w4,.int (lucasU 5 fi se) w5,.int (lucasU 6 fi se) w6,.int (lucasU 7 fi se) w7,.int (lucasU 8 fi se) w8,.int (lucasU 9 fi se) w9] kU)] T [lucasU 0 fi se,lucasU 1 fi se,lucasU 2 fi se,lucasU 3 fi se,lucasU 4 fi se,lucasU 5 fi se,lucasU 6 fi se,lucasU 7 fi se,lucasU 8 fi se,lucasU 9 fi se] se := by
    refine ⟨[.ref r0,.ref r1,.ref r2,.ref r3,.ref r4,.ref r5],kT,by k_mem,rfl,?_⟩
    have e1 := n1.eq
    have e2 := n2.eq
    have e3 := n3.eq
    have e4 := n4.eq
    have e5 := n5.eq
    subst e1; subst e2; subst e3; subst e4; subst e5
    intro i hi
    match i,hi with
    | 0,_ => exact ⟨r0,a0.toList,k0,rfl,by rw [Array.toArray_toList]; k_mem,i0⟩
    | 1,_ => exact ⟨r1,a1.toList,k1,rfl,by rw [Array.toArray_toList]; k_mem,i1⟩
    | 2,_ => exact ⟨r2,a2.toList,k2,rfl,by rw [Array.toArray_toList]; k_mem,i2⟩
    | 3,_ => exact ⟨r3,a3.toList,k3,rfl,by rw [Array.toArray_toList]; k_mem,i3⟩
    | 4,_ => exact ⟨r4,a4.toList,k4,rfl,by rw [Array.toArray_toList]; k_mem,i4⟩
    | 5,_ => exact ⟨r5,a5.toList,k5,rfl,by rw [Array.toArray_toList]; k_mem,i5⟩
    | n+6,h => omega
  clear g5 g4 g3 g2 g1 g0 gT hU i0 i1 i2 i3 i4 i5 n1 n2 n3 n4 n5
  revert hz hT N7
  generalize hzs : [(r5,listOf a5 k5),(r4,listOf a4 k4),(r3,listOf a3 k3),(r2,listOf a2 k2),(r1,listOf a1 k1),(r0,listOf a0 k0),(T,listOf #[.ref r0,.ref r1,.ref r2,.ref r3,.ref r4,.ref r5] kT),(U,listOf #[.int (lucasU 0 fi se) w0,.int (lucasU 1 fi se) w1,.int (lucasU 2 fi se) w2,.int (lucasU 3 fi se) w3,.int (lucasU 4 fi se) w4,.int (lucasU 5 fi se) w5,.int (lucasU 6 fi se) w6,.int (lucasU 7 fi se) w7,.int (lucasU 8 fi se) w8,.int (lucasU 9 fi se) w9] kU)] = zs
  intro N7 hz hT
  have hUm : (U,listOf #[.int (lucasU 0 fi se) w0,.int (lucasU 1 fi se) w1,.int (lucasU 2 fi se) w2,.int (lucasU 3 fi se) w3,.int (lucasU 4 fi se) w4,.int (lucasU 5 fi se) w5,.int (lucasU 6 fi se) w6,.int (lucasU 7 fi se) w7,.int (lucasU 8 fi se) w8,.int (lucasU 9 fi se) w9] kU) ∈ zs := by rw [← hzs]; k_mem
  have N8 : News h₀ L h7 ((L+1+1+1+1+1+1+1+1,jk)::(L+1+1+1+1+1+1+1,jq)::(L+1+1+1+1+1+1,yk)::(L+1+1+1+1+1,jm)::(L+1+1+1+1,jt)::(L+1+1+1,jp)::(L+1+1,jr)::(L+1,jl)::(37,t37)::(30,t30)::(134,t134)::zs) := cb_drop N7 (fun q hq => List.mem_append.mpr ((List.mem_append.mp (show q ∈ ((L+1+1+1+1+1+1+1+1,jk)::(L+1+1+1+1+1+1+1,jq)::(L+1+1+1+1+1+1,yk)::(L+1+1+1+1+1,jm)::(L+1+1+1+1,jt)::(L+1+1+1,jp)::(L+1+1,jr)::(L+1,jl)::(37,t37)::(30,t30)::(134,t134)::[] : List (Addr × Obj)) ++ zs from hq)).symm))
  clear N7 hzs
  obtain ⟨y0,y1,y2,y3,y4,y5,y6,y7,y8,y9,y10⟩ : (∀ q ∈ zs,q.1 ≠ L+1+1+1+1+1+1+1+1) ∧ (∀ q ∈ zs,q.1 ≠ L+1+1+1+1+1+1+1) ∧ (∀ q ∈ zs,q.1 ≠ L+1+1+1+1+1+1) ∧ (∀ q ∈ zs,q.1 ≠ L+1+1+1+1+1) ∧ (∀ q ∈ zs,q.1 ≠ L+1+1+1+1) ∧ (∀ q ∈ zs,q.1 ≠ L+1+1+1) ∧ (∀ q ∈ zs,q.1 ≠ L+1+1) ∧ (∀ q ∈ zs,q.1 ≠ L+1) ∧ (∀ q ∈ zs,q.1 ≠ 37) ∧ (∀ q ∈ zs,q.1 ≠ 30) ∧ (∀ q ∈ zs,q.1 ≠ 134) :=
    ⟨fun q hq => (hz q hq).1,fun q hq => (hz q hq).2.1,fun q hq => (hz q hq).2.2.1,fun q hq => (hz q hq).2.2.2.1,fun q hq => (hz q hq).2.2.2.2.1,fun q hq => (hz q hq).2.2.2.2.2.1,fun q hq => (hz q hq).2.2.2.2.2.2.1,fun q hq => (hz q hq).2.2.2.2.2.2.2.1,fun q hq => (hz q hq).2.2.2.2.2.2.2.2.1,fun q hq => (hz q hq).2.2.2.2.2.2.2.2.2.1,fun q hq => (hz q hq).2.2.2.2.2.2.2.2.2.2⟩
  try dsimp only
  k_steps
  rename Fr h₀ L _ _ => F9
  rename News h₀ L _ _ => N9
  rename @LT.lt Nat _ _ _ ∧ _ => l1
  have l2 : AllLt _ ((L+1+1+1+1+1+1+1+1,jk)::(L+1+1+1+1+1+1+1,jq)::(L+1+1+1+1+1+1,yk)::(L+1+1+1+1+1,jm)::(L+1+1+1+1,jt)::(L+1+1+1,jp)::(L+1+1,jr)::(L+1,jl)::(37,t37)::(30,t30)::(134,t134)::zs) := l1
  have l3 := tb_ltOf l2
  exact fin _ _ _ _ _ _ zs _ _ (by assumption) (by assumption) F9 N9 hz (fun q hq => Nat.ne_of_lt (l3 q (List.mem_append_right ((L+1+1+1+1+1+1+1+1,jk)::(L+1+1+1+1+1+1+1,jq)::(L+1+1+1+1+1+1,yk)::(L+1+1+1+1+1,jm)::(L+1+1+1+1,jt)::(L+1+1+1,jp)::(L+1+1,jr)::(L+1,jl)::(37,t37)::(30,t30)::(134,t134)::[]) hq))) (allNe_of fun q hq => Nat.ne_of_lt (l3 (q.1,q.2) (by
    have h9 := List.mem_append_left zs hq
    exact h9))) hUm hT (by walk_at "k_opq") (by walk_at "k_opq") (by walk_at "k_opq") (by walk_at "k_opq") (by walk_at "k_opq")
theorem core_law_n22 : PP_law_n22 w p loose mean mg mb dp un gd L fa A₀ base h₀ s Q E m jk jq yk jm jt jp jr jl o30 o37 t37 t30 t134 R c30 c37 T0 T1 T2 T3 T4 T5 kR ps zs rest sd ts t0 t1 t2 t3 t4 t5 D1 D2 := by
  intro B X T hd hu ch1 ch2 ch3 hl hR n30 n37 hsd Z F N cs m1 m2 hD1 hD2 fin
  w_top off
  have hz := Z.hz
  obtain ⟨y0,y1,y2,y3,y4,y5,y6,y7,y8,y9,y10⟩ : (∀ q ∈ zs,q.1 ≠ L+1+1+1+1+1+1+1+1) ∧ (∀ q ∈ zs,q.1 ≠ L+1+1+1+1+1+1+1) ∧ (∀ q ∈ zs,q.1 ≠ L+1+1+1+1+1+1) ∧ (∀ q ∈ zs,q.1 ≠ L+1+1+1+1+1) ∧ (∀ q ∈ zs,q.1 ≠ L+1+1+1+1) ∧ (∀ q ∈ zs,q.1 ≠ L+1+1+1) ∧ (∀ q ∈ zs,q.1 ≠ L+1+1) ∧ (∀ q ∈ zs,q.1 ≠ L+1) ∧ (∀ q ∈ zs,q.1 ≠ 37) ∧ (∀ q ∈ zs,q.1 ≠ 30) ∧ (∀ q ∈ zs,q.1 ≠ 134) :=
    ⟨fun q hq => (hz q hq).1,fun q hq => (hz q hq).2.1,fun q hq => (hz q hq).2.2.1,fun q hq => (hz q hq).2.2.2.1,fun q hq => (hz q hq).2.2.2.2.1,fun q hq => (hz q hq).2.2.2.2.2.1,fun q hq => (hz q hq).2.2.2.2.2.2.1,fun q hq => (hz q hq).2.2.2.2.2.2.2.1,fun q hq => (hz q hq).2.2.2.2.2.2.2.2.1,fun q hq => (hz q hq).2.2.2.2.2.2.2.2.2.1,fun q hq => (hz q hq).2.2.2.2.2.2.2.2.2.2⟩
  have hD1' : (D1,listOf #[.int sd t0,.int (sd+2) t1,.int (sd+4) t2] 3) ∈ ((c30,o30)::(c37,o37)::(R,listOf #[.ref T0,.ref T1,.ref T2,.ref T3,.ref T4,.ref T5] kR)::(L+1+1+1+1+1+1+1+1,jk)::(L+1+1+1+1+1+1+1,jq)::(L+1+1+1+1+1+1,yk)::(L+1+1+1+1+1,jm)::(L+1+1+1+1,jt)::(L+1+1+1,jp)::(L+1+1,jr)::(L+1,jl)::(37,t37)::(30,t30)::(134,tabObj ps)::zs : List (Addr × Obj)) := List.mem_append_right ((c30,o30)::(c37,o37)::(R,listOf #[.ref T0,.ref T1,.ref T2,.ref T3,.ref T4,.ref T5] kR)::(L+1+1+1+1+1+1+1+1,jk)::(L+1+1+1+1+1+1+1,jq)::(L+1+1+1+1+1+1,yk)::(L+1+1+1+1+1,jm)::(L+1+1+1+1,jt)::(L+1+1+1,jp)::(L+1+1,jr)::(L+1,jl)::(37,t37)::(30,t30)::(134,tabObj ps)::[]) hD1
  have hD2' : (D2,listOf #[.int (sd+1) t3,.int (sd+3) t4,.int (sd+5) t5] 3) ∈ ((c30,o30)::(c37,o37)::(R,listOf #[.ref T0,.ref T1,.ref T2,.ref T3,.ref T4,.ref T5] kR)::(L+1+1+1+1+1+1+1+1,jk)::(L+1+1+1+1+1+1+1,jq)::(L+1+1+1+1+1+1,yk)::(L+1+1+1+1+1,jm)::(L+1+1+1+1,jt)::(L+1+1+1,jp)::(L+1+1,jr)::(L+1,jl)::(37,t37)::(30,t30)::(134,tabObj ps)::zs : List (Addr × Obj)) := List.mem_append_right ((c30,o30)::(c37,o37)::(R,listOf #[.ref T0,.ref T1,.ref T2,.ref T3,.ref T4,.ref T5] kR)::(L+1+1+1+1+1+1+1+1,jk)::(L+1+1+1+1+1+1+1,jq)::(L+1+1+1+1+1+1,yk)::(L+1+1+1+1+1,jm)::(L+1+1+1+1,jt)::(L+1+1+1,jp)::(L+1+1,jr)::(L+1,jl)::(37,t37)::(30,t30)::(134,tabObj ps)::[]) hD2
  have hs0 : 0 ≤ sd := by omega
  have hs1 : sd ≤ 1 := by omega
  k_steps
  rename News h₀ L _ _ => N1
  refine ne_three N1 (.tail _ hD1') ⟨_,(N1 _ (.head _)).1,rfl,_,rfl⟩ (by show un+4 < cLine; omega) ?_
  k_steps
  rename News h₀ L _ _ => N2
  refine ne_three N2 (.tail _ (.tail _ hD2')) ⟨_,(N2 _ (.head _)).1,rfl,_,rfl⟩ (by show un+4 < cLine; omega) ?_
  k_steps
  rename News h₀ L _ _ => N3
  rename Fr h₀ L _ _ => F3
  exact fin _ _ F3 (cb_drop N3 fun q hq => .tail _ (.tail _ hq))
theorem core_it_b0 : PP_it_b0 w p loose mean mg mb dp un gd L fa A₀ base h₀ s Q E m jk jq yk jm jt jp jr jl t37 t30 R xs kR ps zs rest P Q' i j u1 u2 u3 u4 ov := by
  intro B X T hd hu ch1 ch2 ch3 hl hz hzR hR F N mp mq mi mj cp fin
  w_top off
  obtain ⟨y0,y1,y2,y3,y4,y5,y6,y7,y8,y9,y10⟩ : (∀ q ∈ zs,q.1 ≠ L+1+1+1+1+1+1+1+1) ∧ (∀ q ∈ zs,q.1 ≠ L+1+1+1+1+1+1+1) ∧ (∀ q ∈ zs,q.1 ≠ L+1+1+1+1+1+1) ∧ (∀ q ∈ zs,q.1 ≠ L+1+1+1+1+1) ∧ (∀ q ∈ zs,q.1 ≠ L+1+1+1+1) ∧ (∀ q ∈ zs,q.1 ≠ L+1+1+1) ∧ (∀ q ∈ zs,q.1 ≠ L+1+1) ∧ (∀ q ∈ zs,q.1 ≠ L+1) ∧ (∀ q ∈ zs,q.1 ≠ 37) ∧ (∀ q ∈ zs,q.1 ≠ 30) ∧ (∀ q ∈ zs,q.1 ≠ 134) :=
    ⟨fun q hq => (hz q hq).1,fun q hq => (hz q hq).2.1,fun q hq => (hz q hq).2.2.1,fun q hq => (hz q hq).2.2.2.1,fun q hq => (hz q hq).2.2.2.2.1,fun q hq => (hz q hq).2.2.2.2.2.1,fun q hq => (hz q hq).2.2.2.2.2.2.1,fun q hq => (hz q hq).2.2.2.2.2.2.2.1,fun q hq => (hz q hq).2.2.2.2.2.2.2.2.1,fun q hq => (hz q hq).2.2.2.2.2.2.2.2.2.1,fun q hq => (hz q hq).2.2.2.2.2.2.2.2.2.2⟩
  obtain ⟨ww0,ww1,ww2,ww3,ww4,ww5,ww6,ww7,ww8,ww9,ww10,_⟩ := id hR
  k_steps
  rename Fr h₀ L _ _ => F9
  rename News h₀ L _ _ => N9
  rename @LT.lt Nat _ _ _ ∧ _ => l1
  have l2 : AllLt _ ((R,listOf xs.toArray kR)::(L+1+1+1+1+1+1+1+1,jk)::(L+1+1+1+1+1+1+1,jq)::(L+1+1+1+1+1+1,yk)::(L+1+1+1+1+1,jm)::(L+1+1+1+1,jt)::(L+1+1+1,jp)::(L+1+1,jr)::(L+1,jl)::(37,t37)::(30,t30)::(134,tabObj ps)::zs) := l1
  have l3 := tb_ltOf l2
  exact fin _ _ _ _ _ _ _ _ (by assumption) F9 N9 (show AllNe _ ((R,listOf xs.toArray kR)::(L+1+1+1+1+1+1+1+1,jk)::(L+1+1+1+1+1+1+1,jq)::(L+1+1+1+1+1+1,yk)::(L+1+1+1+1+1,jm)::(L+1+1+1+1,jt)::(L+1+1+1,jp)::(L+1+1,jr)::(L+1,jl)::(37,t37)::(30,t30)::(134,tabObj ps)::zs) from allNe_of fun q hq => Nat.ne_of_lt (l3 q hq)) (fun q hq => Nat.ne_of_lt (l3 q (List.mem_append_right ((R,listOf xs.toArray kR)::(L+1+1+1+1+1+1+1+1,jk)::(L+1+1+1+1+1+1+1,jq)::(L+1+1+1+1+1+1,yk)::(L+1+1+1+1+1,jm)::(L+1+1+1+1,jt)::(L+1+1+1,jp)::(L+1+1,jr)::(L+1,jl)::(37,t37)::(30,t30)::(134,tabObj ps)::[]) hq)))
theorem words_a60 : True := by
  k_with_none
  k_with "k_ne" => (refine neN ?_; (try dsimp only); first | (with_reducible assumption) | (refine Ne.symm ?_; with_reducible assumption))
  k_with "zin" => (intro q hq; (repeat (first | exact hq | refine List.mem_cons_of_mem _ ?_)))
  k_with "subscriptTail" => ((with_reducible show wpAny _ _ (subscriptTail _ _ (Value.ref _) (Value.int _ _)) _ _ _); (with_reducible rename News _ _ _ _ => N'); (refine units_item N' (by with_reducible assumption) (by with_reducible assumption) (by walk_at "zin") (by omega) (by omega) ?_); intro _)
  exact trivial
theorem core_law_n15 : PP_law_n15 w p loose mean mg mb dp un gd L fa A₀ base h₀ s Q E m jk jq yk jm jt jp jr jl t37 t30 R T0 T1 T2 T3 T4 T5 kR ps zs rest P Q' fi se u1 u2 U vsU kU := by
  intro B X T hd hu ch1 ch2 ch3 hl hz hzR hR F N hUm hUi hP1 hP4 hQ1 hQ4 mu mp mq fin
  w_top off
  obtain ⟨y0,y1,y2,y3,y4,y5,y6,y7,y8,y9,y10⟩ : (∀ q ∈ zs,q.1 ≠ L+1+1+1+1+1+1+1+1) ∧ (∀ q ∈ zs,q.1 ≠ L+1+1+1+1+1+1+1) ∧ (∀ q ∈ zs,q.1 ≠ L+1+1+1+1+1+1) ∧ (∀ q ∈ zs,q.1 ≠ L+1+1+1+1+1) ∧ (∀ q ∈ zs,q.1 ≠ L+1+1+1+1) ∧ (∀ q ∈ zs,q.1 ≠ L+1+1+1) ∧ (∀ q ∈ zs,q.1 ≠ L+1+1) ∧ (∀ q ∈ zs,q.1 ≠ L+1) ∧ (∀ q ∈ zs,q.1 ≠ 37) ∧ (∀ q ∈ zs,q.1 ≠ 30) ∧ (∀ q ∈ zs,q.1 ≠ 134) :=
    ⟨fun q hq => (hz q hq).1,fun q hq => (hz q hq).2.1,fun q hq => (hz q hq).2.2.1,fun q hq => (hz q hq).2.2.2.1,fun q hq => (hz q hq).2.2.2.2.1,fun q hq => (hz q hq).2.2.2.2.2.1,fun q hq => (hz q hq).2.2.2.2.2.2.1,fun q hq => (hz q hq).2.2.2.2.2.2.2.1,fun q hq => (hz q hq).2.2.2.2.2.2.2.2.1,fun q hq => (hz q hq).2.2.2.2.2.2.2.2.2.1,fun q hq => (hz q hq).2.2.2.2.2.2.2.2.2.2⟩
  k_steps
  rename Fr h₀ L _ _ => F8
  rename News h₀ L _ _ => N8
  rename_i p0 p1 p2 p3 p4 p5 UP h3 l1a h2 d0 d1 d2 d3 d4 d5 DN h1 l1b hh
  have z1 := zs_put (o := listOf #[.int (lucU fi se (P + Q'+1)) p0,.int (lucU fi se (P + Q'+1)) p1,.int (lucU fi se (P)) p2,.int (lucU fi se (P)) p3,.int (lucU fi se (Q')) p4,.int (lucU fi se (Q')) p5] 0) (show AllLt UP ((R,listOf #[.ref T0,.ref T1,.ref T2,.ref T3,.ref T4,.ref T5] kR)::(L+1+1+1+1+1+1+1+1,jk)::(L+1+1+1+1+1+1+1,jq)::(L+1+1+1+1+1+1,yk)::(L+1+1+1+1+1,jm)::(L+1+1+1+1,jt)::(L+1+1+1,jp)::(L+1+1,jr)::(L+1,jl)::(37,t37)::(30,t30)::(134,tabObj ps)::zs) from l1a) hz hzR
  have N9 := cb_drop N8 (fun q hq => by
    rcases List.mem_cons.mp hq with rfl | hq
    · exact .head _
    · exact .tail _ (mv_zs q hq) : ∀ q ∈ _::((R,listOf #[.ref T0,.ref T1,.ref T2,.ref T3,.ref T4,.ref T5] kR)::(L+1+1+1+1+1+1+1+1,jk)::(L+1+1+1+1+1+1+1,jq)::(L+1+1+1+1+1+1,yk)::(L+1+1+1+1+1,jm)::(L+1+1+1+1,jt)::(L+1+1+1,jp)::(L+1+1,jr)::(L+1,jl)::(37,t37)::(30,t30)::(134,tabObj ps)::((UP,listOf #[.int (lucU fi se (P + Q'+1)) p0,.int (lucU fi se (P + Q'+1)) p1,.int (lucU fi se (P)) p2,.int (lucU fi se (P)) p3,.int (lucU fi se (Q')) p4,.int (lucU fi se (Q')) p5] 0)::zs)),q ∈ _)
  have z2 := zs_put (o := listOf #[.int (lucU fi se (P+1)) d0,.int (lucU fi se (Q'+1)) d1,.int (lucU fi se (Q'+1)) d2,.int (lucU fi se (P + Q')) d3,.int (lucU fi se (P + Q')) d4,.int (lucU fi se (P+1)) d5] 0) (show AllLt DN ((R,listOf #[.ref T0,.ref T1,.ref T2,.ref T3,.ref T4,.ref T5] kR)::(L+1+1+1+1+1+1+1+1,jk)::(L+1+1+1+1+1+1+1,jq)::(L+1+1+1+1+1+1,yk)::(L+1+1+1+1+1,jm)::(L+1+1+1+1,jt)::(L+1+1+1,jp)::(L+1+1,jr)::(L+1,jl)::(37,t37)::(30,t30)::(134,tabObj ps)::((UP,listOf #[.int (lucU fi se (P + Q'+1)) p0,.int (lucU fi se (P + Q'+1)) p1,.int (lucU fi se (P)) p2,.int (lucU fi se (P)) p3,.int (lucU fi se (Q')) p4,.int (lucU fi se (Q')) p5] 0)::zs)) from allLt_sub (show AllLt DN (((UP,listOf #[.int (lucU fi se (P + Q'+1)) p0,.int (lucU fi se (P + Q'+1)) p1,.int (lucU fi se (P)) p2,.int (lucU fi se (P)) p3,.int (lucU fi se (Q')) p4,.int (lucU fi se (Q')) p5] 0))::(R,listOf #[.ref T0,.ref T1,.ref T2,.ref T3,.ref T4,.ref T5] kR)::(L+1+1+1+1+1+1+1+1,jk)::(L+1+1+1+1+1+1+1,jq)::(L+1+1+1+1+1+1,yk)::(L+1+1+1+1+1,jm)::(L+1+1+1+1,jt)::(L+1+1+1,jp)::(L+1+1,jr)::(L+1,jl)::(37,t37)::(30,t30)::(134,tabObj ps)::zs) from l1b) mv_zs) z1.1 z1.2
  exact fin _ _ _ UP DN _ _ _ _ _ _ _ _ _ _ _ _ F8 (cb_drop N9 mv_zs) z2.1 z2.2 (fun y h1 h2 => (if_neg h2).trans (if_neg h1)) (by walk_at "k_opq") (by walk_at "k_opq")
theorem words_a61 : True := by
  k_with_none
  k_with "k_ne" => (refine neN ?_; (try dsimp only); first | (with_reducible assumption) | (refine Ne.symm ?_; with_reducible assumption))
  k_with "zin" => (intro q hq; (repeat (first | exact hq | refine List.mem_cons_of_mem _ ?_)))
  k_with "subscriptTail" => ((with_reducible show wpAny _ _ (subscriptTail _ _ (Value.ref _) (Value.int _ _)) _ _ _); (with_reducible rename News _ _ _ _ => N'); first
  | (refine z_item N' (by with_reducible assumption) (by with_reducible assumption) (by walk_at "zin") (by omega) (by omega) ?_)
  | (refine zrow_item N' (by with_reducible assumption) (by with_reducible assumption) (by walk_at "zin") (by omega) (by omega) ?_; intro _)
  | (refine gen_item N' (by k_mem) (by with_reducible assumption) (by omega) (by omega) ?_))
  exact trivial
theorem core_t18_b0 : PP_t18_b0 w p loose mean mg mb dp un gd L fa A₀ base h₀ s Q E m jk jq yk jm jt jp jr jl o30 o37 R c30 c37 T0 T1 T2 T3 T4 T5 kR ps ps30 ps37 zs rest k Tk xh tk th u v := by
  intro B X T hd hu ch1 ch2 ch3 hl hz hR hzR DM n30 n37 hk F N cr mk hx hT hg1 hg2 fin
  w_top off
  have hT2 := List.mem_append_right ((c30,o30)::(c37,o37)::(R,listOf #[.ref T0,.ref T1,.ref T2,.ref T3,.ref T4,.ref T5] kR)::(L+1+1+1+1+1+1+1+1,jk)::(L+1+1+1+1+1+1+1,jq)::(L+1+1+1+1+1+1,yk)::(L+1+1+1+1+1,jm)::(L+1+1+1+1,jt)::(L+1+1+1,jp)::(L+1+1,jr)::(L+1,jl)::(37,tabObj ps37)::(30,tabObj ps30)::(134,tabObj ps)::[]) hT
  k_steps
  all_goals first
    | (refine fin _ _ ?_ ?_ <;> assumption)
    | (exfalso
       rename (_ == _) = false => hf
       first
         | (rw [hg1] at hf; cases hf)
         | (rw [hg2] at hf; cases hf))
theorem words_a62 : True := by
  k_with_none
  k_with "k_ne" => (refine neN ?_; (try dsimp only); first | (with_reducible assumption) | (refine Ne.symm ?_; with_reducible assumption))
  k_with "zin" => (intro q hq; (repeat (first | exact hq | refine List.mem_cons_of_mem _ ?_)))
  k_with "subscriptTail" => ((with_reducible show wpAny _ _ (subscriptTail _ _ (Value.ref _) (Value.int _ _)) _ _ _); (with_reducible rename News _ _ _ _ => N'); first
  | (refine z_item N' (by with_reducible assumption) (by with_reducible assumption) (by walk_at "zin") (by omega) (by omega) ?_)
  | (refine zrow_item N' (by with_reducible assumption) (by with_reducible assumption) (by walk_at "zin") (by omega) (by omega) ?_; intro _)
  | (refine gen_item N' (by k_mem) (by with_reducible assumption) (by omega) (by omega) ?_))
  k_with "binaryOp Mult int int" => (with_reducible refine mul_to (by with_reducible assumption) (by with_reducible assumption) ?_)
  k_with "omega" => lia
  exact trivial
theorem core_t19_b1 : PP_t19_b1 w p loose mean mg mb dp un gd L fa A₀ base h₀ s Q E m jk jq yk jm jt jp jr jl o30 o37 R c30 c37 T0 T1 T2 T3 T4 T5 kR ps ps30 ps37 zs rest k DN dnL kD sc dv rs fv tk tc td tr tf B1 A2 M := by
  intro B X T hd hu ch1 ch2 ch3 hl hz hR hzR DM n30 n37 hk F N mk mc mr mf mdn hDN hxd e4 m4 e2 m2 hb hb8 hb8' haM haM' hM hq hr fin
  w_top off
  k_steps
  rename Fr h₀ L _ _ => F4
  rename News h₀ L _ _ => N4
  refine idm_use B X T hd hu ch1 ch2 ch3 hl hz hR hzR DM n30 n37 M F4 N4 hb hb8 hb8' haM haM' hM ?_
  intro h5 tk5 t5 u5 v5 c1 o1 c2 o2 F5 N5 DL5 k30 k37
  rw [hq,hr] at N5
  clear F4 N4
  try dsimp only
  k_steps
  rename Fr h₀ L _ _ => F6
  rename News h₀ L _ _ => N6
  exact fin _ _ c1 o1 c2 o2 F6 (cb_drop N6 fun q hq => .tail _ (.tail _ hq)) DL5 k30 k37
theorem words_a63 : True := by
  k_with "binaryOp FloorDiv int int" => ((with_reducible refine fdiv_to (by decide) (by decide) (by with_reducible assumption) ?_))
  exact trivial
theorem core_t18_b2 : PP_t18_b2 w p loose mean mg mb dp un gd L fa A₀ base h₀ s Q E m jk jq yk jm jt jp jr jl o30 o37 R c30 c37 T0 T1 T2 T3 T4 T5 kR ps ps30 ps37 zs rest k TB UP DN NB upL dnL nbL kU kD kN us b P Q' sc uv dv nv rs tk tc td tu tn tr u1 u2 A1 A2 A3 B1 V1 Z M := by
  intro B X T hd hu ch1 ch2 ch3 hl hz hR hzR DM n30 n37 hk F N mk mc mp mq mr mdn mup hP1 hP4 hQ1 hQ4 ct cn hTB hDN hxd hUP hxu hNB hxn hz3 e1 m1 e2 m2 e3 m3 e4 m4 e5 m5 hb hb8 hb8' haM haM' hM hq hr fin
  w_top off
  obtain ⟨xs,kT,hTBm,_,hrow⟩ := hTB.ex
  obtain ⟨r,vs,kr,hxr,hrm,hvi⟩ := hrow P.toNat (by omega)
  k_steps
  rename Fr h₀ L _ _ => F4
  rename News h₀ L _ _ => N4
  refine idm_use B X T hd hu ch1 ch2 ch3 hl hz hR hzR DM n30 n37 M F4 N4 hb hb8 hb8' haM haM' hM ?_
  intro h5 tk5 t5 u5 v5 c1 o1 c2 o2 F5 N5 DL5 k30 k37
  rw [hq,hr] at N5
  clear F4 N4
  try dsimp only
  k_steps
  rename Fr h₀ L _ _ => F6
  rename News h₀ L _ _ => N6
  exact fin _ _ c1 o1 c2 o2 F6 (cb_drop N6 fun q hq => .tail _ (.tail _ hq)) DL5 k30 k37
theorem gg (v : VV) : GG v := pick_all (by with_unfolding_all exact ⟨core_law_n23,core_law_n17,core_law_n8,core_law_n12,core_law_n14,core_law_n15,X_it_b1.core_it_b1,core_t18_b2,X_law_n20.core_law_n20,core_law_n22,core_law_n13,core_it_b3,core_it_b0,core_law_n7,core_it_b2,core_t19_b1,core_t18_b0⟩) v
theorem gg_law_n23 (v : VV) : PP_law_n23 (pj0 v 0) (pj1 v 0) (pj2 v 0) (pj3 v 0) (pj4 v 0) (pj4 v 1) (pj5 v 0) (pj5 v 1) (pj6 v 0) (pj7 v 0) (pj7 v 1) (pj8 v 0) (pj9 v 0) (pj9 v 1) (pj10 v 0) (pj11 v 0) (pj12 v 0) (pj4 v 2) (pj13 v 0) (pj13 v 1) (pj13 v 2) (pj13 v 3) (pj13 v 4) (pj13 v 5) (pj13 v 6) (pj13 v 7) (pj13 v 8) (pj13 v 9) (pj13 v 10) (pj13 v 11) (pj13 v 12) (pj7 v 2) (pj7 v 3) (pj7 v 4) (pj7 v 5) (pj7 v 6) (pj7 v 7) (pj7 v 8) (pj7 v 9) (pj7 v 10) (pj5 v 2) (pj14 v 0) (pj15 v 0) (pj16 v 0) (pj7 v 11) (pj7 v 12) (pj7 v 13) (pj17 v 0) (pj5 v 3) (pj18 v 0) (pj18 v 1) (pj18 v 2) (pj18 v 3) (pj18 v 4) (pj18 v 5) (pj18 v 6) (pj18 v 7) (pj18 v 8) (pj18 v 9) (pj18 v 10) (pj18 v 11) (pj19 v 0) (pj19 v 1) (pj19 v 2) (pj19 v 3) (pj19 v 4) (pj19 v 5) (pj19 v 6) (pj19 v 7) (pj19 v 8) (pj19 v 9) (pj19 v 10) (pj19 v 11) := (gg v).1
theorem gg_law_n17 (v : VV) : PP_law_n17 (pj0 v 0) (pj1 v 0) (pj2 v 0) (pj3 v 0) (pj4 v 0) (pj4 v 1) (pj5 v 0) (pj5 v 1) (pj6 v 0) (pj7 v 0) (pj7 v 1) (pj8 v 0) (pj9 v 0) (pj9 v 1) (pj10 v 0) (pj11 v 0) (pj12 v 0) (pj4 v 2) (pj13 v 0) (pj13 v 1) (pj13 v 2) (pj13 v 3) (pj13 v 4) (pj13 v 5) (pj13 v 6) (pj13 v 7) (pj13 v 10) (pj13 v 11) (pj7 v 2) (pj7 v 5) (pj7 v 6) (pj7 v 7) (pj7 v 8) (pj7 v 9) (pj7 v 10) (pj5 v 2) (pj14 v 0) (pj15 v 0) (pj16 v 0) (pj7 v 14) (pj20 v 0) (pj18 v 12) (pj18 v 0) (pj18 v 3) (pj18 v 1) (pj18 v 4) (pj18 v 2) (pj18 v 5) (pj18 v 13) (pj18 v 14) (pj18 v 15) (pj18 v 16) (pj18 v 17) (pj18 v 18) (pj21 v 0) (pj21 v 1) (pj21 v 2) (pj21 v 3) (pj21 v 4) (pj21 v 5) (pj19 v 12) (pj19 v 13) (pj19 v 14) (pj19 v 15) (pj19 v 16) (pj19 v 17) (pj19 v 18) (pj19 v 19) (pj19 v 20) (pj19 v 21) (pj19 v 22) (pj19 v 23) (pj19 v 24) (pj19 v 25) (pj19 v 26) (pj19 v 27) (pj19 v 28) (pj19 v 29) (pj22 v 0) := (gg v).2.1
theorem gg_law_n8 (v : VV) : PP_law_n8 (pj0 v 0) (pj1 v 0) (pj2 v 0) (pj3 v 0) (pj4 v 0) (pj4 v 1) (pj5 v 0) (pj5 v 1) (pj6 v 0) (pj7 v 0) (pj7 v 1) (pj8 v 0) (pj9 v 0) (pj9 v 1) (pj10 v 0) (pj11 v 0) (pj12 v 0) (pj16 v 0) (pj4 v 2) (pj13 v 0) (pj13 v 1) (pj13 v 2) (pj13 v 3) (pj13 v 4) (pj13 v 5) (pj13 v 6) (pj13 v 7) (pj13 v 10) (pj13 v 11) (pj13 v 12) (pj7 v 15) (pj5 v 4) (pj18 v 19) (pj18 v 20) (pj18 v 21) (pj18 v 22) (pj18 v 23) (pj18 v 24) (pj19 v 16) (pj19 v 19) (pj19 v 30) (pj19 v 31) (pj19 v 32) (pj19 v 33) (pj19 v 34) (pj19 v 35) (pj19 v 36) (pj19 v 37) (pj19 v 38) (pj19 v 39) (pj19 v 40) (pj19 v 41) (pj19 v 42) (pj19 v 43) := (gg v).2.2.1
theorem gg_law_n12 (v : VV) : PP_law_n12 (pj0 v 0) (pj1 v 0) (pj2 v 0) (pj3 v 0) (pj4 v 0) (pj4 v 1) (pj5 v 0) (pj5 v 1) (pj6 v 0) (pj7 v 0) (pj7 v 1) (pj8 v 0) (pj9 v 0) (pj9 v 1) (pj10 v 0) (pj11 v 0) (pj12 v 0) (pj4 v 2) (pj13 v 0) (pj13 v 1) (pj13 v 2) (pj13 v 3) (pj13 v 4) (pj13 v 5) (pj13 v 6) (pj13 v 7) (pj13 v 10) (pj13 v 11) (pj7 v 2) (pj7 v 5) (pj7 v 6) (pj7 v 7) (pj7 v 8) (pj7 v 9) (pj7 v 10) (pj5 v 2) (pj14 v 0) (pj15 v 0) (pj16 v 0) (pj18 v 25) (pj19 v 44) := (gg v).2.2.2.1
theorem gg_law_n14 (v : VV) : PP_law_n14 (pj0 v 0) (pj1 v 0) (pj2 v 0) (pj3 v 0) (pj4 v 0) (pj4 v 1) (pj5 v 0) (pj5 v 1) (pj6 v 0) (pj7 v 0) (pj7 v 1) (pj8 v 0) (pj9 v 0) (pj9 v 1) (pj10 v 0) (pj11 v 0) (pj12 v 0) (pj4 v 2) (pj13 v 0) (pj13 v 1) (pj13 v 2) (pj13 v 3) (pj13 v 4) (pj13 v 5) (pj13 v 6) (pj13 v 7) (pj13 v 10) (pj13 v 11) (pj7 v 2) (pj7 v 5) (pj7 v 6) (pj7 v 7) (pj7 v 8) (pj7 v 9) (pj7 v 10) (pj5 v 2) (pj14 v 0) (pj15 v 0) (pj16 v 0) (pj18 v 25) (pj18 v 19) (pj18 v 20) (pj19 v 44) (pj19 v 45) (pj19 v 46) (pj19 v 47) (pj19 v 16) (pj19 v 19) (pj19 v 22) (pj19 v 25) (pj19 v 28) (pj7 v 16) (pj7 v 17) (pj7 v 18) (pj5 v 5) (pj21 v 6) := (gg v).2.2.2.2.1
theorem gg_law_n15 (v : VV) : PP_law_n15 (pj0 v 0) (pj1 v 0) (pj2 v 0) (pj3 v 0) (pj4 v 0) (pj4 v 1) (pj5 v 0) (pj5 v 1) (pj6 v 0) (pj7 v 0) (pj7 v 1) (pj8 v 0) (pj9 v 0) (pj9 v 1) (pj10 v 0) (pj11 v 0) (pj12 v 0) (pj4 v 2) (pj13 v 0) (pj13 v 1) (pj13 v 2) (pj13 v 3) (pj13 v 4) (pj13 v 5) (pj13 v 6) (pj13 v 7) (pj13 v 10) (pj13 v 11) (pj7 v 2) (pj7 v 5) (pj7 v 6) (pj7 v 7) (pj7 v 8) (pj7 v 9) (pj7 v 10) (pj5 v 2) (pj14 v 0) (pj15 v 0) (pj16 v 0) (pj18 v 19) (pj18 v 20) (pj18 v 21) (pj18 v 22) (pj19 v 16) (pj19 v 19) (pj7 v 15) (pj17 v 1) (pj5 v 4) := (gg v).2.2.2.2.2.1
theorem gg_it_b1 (v : VV) : PP_it_b1 (pj0 v 0) (pj1 v 0) (pj2 v 0) (pj3 v 0) (pj4 v 0) (pj4 v 1) (pj5 v 0) (pj5 v 1) (pj6 v 0) (pj7 v 0) (pj7 v 1) (pj8 v 0) (pj9 v 0) (pj9 v 1) (pj10 v 0) (pj11 v 0) (pj12 v 0) (pj4 v 2) (pj13 v 0) (pj13 v 1) (pj13 v 2) (pj13 v 3) (pj13 v 4) (pj13 v 5) (pj13 v 6) (pj13 v 7) (pj13 v 10) (pj13 v 11) (pj7 v 2) (pj17 v 2) (pj5 v 2) (pj14 v 0) (pj15 v 0) (pj16 v 0) (pj7 v 19) (pj5 v 6) (pj18 v 26) (pj18 v 27) (pj18 v 28) (pj18 v 25) (pj18 v 29) (pj18 v 30) (pj18 v 31) (pj18 v 32) (pj19 v 48) (pj19 v 49) (pj19 v 50) (pj19 v 44) (pj19 v 51) := (gg v).2.2.2.2.2.2.1
theorem gg_t18_b2 (v : VV) : PP_t18_b2 (pj0 v 0) (pj1 v 0) (pj2 v 0) (pj3 v 0) (pj4 v 0) (pj4 v 1) (pj5 v 0) (pj5 v 1) (pj6 v 0) (pj7 v 0) (pj7 v 1) (pj8 v 0) (pj9 v 0) (pj9 v 1) (pj10 v 0) (pj11 v 0) (pj12 v 0) (pj4 v 2) (pj13 v 0) (pj13 v 1) (pj13 v 2) (pj13 v 3) (pj13 v 4) (pj13 v 5) (pj13 v 6) (pj13 v 7) (pj13 v 8) (pj13 v 9) (pj7 v 2) (pj7 v 3) (pj7 v 4) (pj7 v 5) (pj7 v 6) (pj7 v 7) (pj7 v 8) (pj7 v 9) (pj7 v 10) (pj5 v 2) (pj14 v 0) (pj14 v 1) (pj14 v 2) (pj15 v 0) (pj16 v 0) (pj5 v 7) (pj7 v 14) (pj7 v 20) (pj7 v 21) (pj7 v 13) (pj17 v 3) (pj17 v 4) (pj17 v 0) (pj5 v 4) (pj5 v 8) (pj5 v 3) (pj20 v 0) (pj18 v 12) (pj18 v 19) (pj18 v 20) (pj18 v 23) (pj18 v 33) (pj18 v 34) (pj18 v 35) (pj18 v 36) (pj19 v 52) (pj19 v 32) (pj19 v 53) (pj19 v 51) (pj19 v 54) (pj19 v 55) (pj19 v 16) (pj19 v 19) (pj18 v 37) (pj18 v 38) (pj18 v 39) (pj18 v 40) (pj18 v 41) (pj18 v 42) (pj5 v 9) := (gg v).2.2.2.2.2.2.2.1
theorem gg_law_n20 (v : VV) : PP_law_n20 (pj0 v 0) (pj1 v 0) (pj2 v 0) (pj3 v 0) (pj4 v 0) (pj4 v 1) (pj5 v 0) (pj5 v 1) (pj6 v 0) (pj7 v 0) (pj7 v 1) (pj8 v 0) (pj9 v 0) (pj9 v 1) (pj10 v 0) (pj11 v 0) (pj12 v 0) (pj4 v 2) (pj13 v 0) (pj13 v 1) (pj13 v 2) (pj13 v 3) (pj13 v 4) (pj13 v 5) (pj13 v 6) (pj13 v 7) (pj13 v 8) (pj13 v 9) (pj13 v 10) (pj13 v 11) (pj13 v 12) (pj7 v 2) (pj7 v 3) (pj7 v 4) (pj7 v 5) (pj7 v 6) (pj7 v 7) (pj7 v 8) (pj7 v 9) (pj7 v 10) (pj5 v 2) (pj14 v 0) (pj15 v 0) (pj16 v 0) (pj19 v 31) (pj19 v 56) (pj19 v 57) (pj19 v 58) (pj19 v 59) (pj19 v 60) (pj19 v 61) (pj23 v 0) (pj23 v 1) (pj23 v 2) (pj23 v 3) (pj23 v 4) (pj23 v 5) (pj23 v 6) (pj23 v 7) (pj23 v 8) (pj23 v 9) (pj23 v 10) (pj23 v 11) := (gg v).2.2.2.2.2.2.2.2.1
theorem gg_law_n22 (v : VV) : PP_law_n22 (pj0 v 0) (pj1 v 0) (pj2 v 0) (pj3 v 0) (pj4 v 0) (pj4 v 1) (pj5 v 0) (pj5 v 1) (pj6 v 0) (pj7 v 0) (pj7 v 1) (pj8 v 0) (pj9 v 0) (pj9 v 1) (pj10 v 0) (pj11 v 0) (pj12 v 0) (pj4 v 2) (pj13 v 0) (pj13 v 1) (pj13 v 2) (pj13 v 3) (pj13 v 4) (pj13 v 5) (pj13 v 6) (pj13 v 7) (pj13 v 8) (pj13 v 9) (pj13 v 10) (pj13 v 11) (pj13 v 12) (pj7 v 2) (pj7 v 3) (pj7 v 4) (pj7 v 5) (pj7 v 6) (pj7 v 7) (pj7 v 8) (pj7 v 9) (pj7 v 10) (pj5 v 2) (pj14 v 0) (pj15 v 0) (pj16 v 0) (pj18 v 43) (pj19 v 31) (pj19 v 12) (pj19 v 15) (pj19 v 18) (pj19 v 21) (pj19 v 24) (pj19 v 27) (pj7 v 11) (pj7 v 12) := (gg v).2.2.2.2.2.2.2.2.2.1
theorem gg_law_n13 (v : VV) : PP_law_n13 (pj0 v 0) (pj1 v 0) (pj2 v 0) (pj3 v 0) (pj4 v 0) (pj4 v 1) (pj5 v 0) (pj5 v 1) (pj6 v 0) (pj7 v 0) (pj7 v 1) (pj8 v 0) (pj9 v 0) (pj9 v 1) (pj10 v 0) (pj11 v 0) (pj12 v 0) (pj4 v 2) (pj13 v 0) (pj13 v 1) (pj13 v 2) (pj13 v 3) (pj13 v 4) (pj13 v 5) (pj13 v 6) (pj13 v 7) (pj13 v 10) (pj13 v 11) (pj7 v 2) (pj17 v 2) (pj5 v 2) (pj14 v 0) (pj15 v 0) (pj16 v 0) (pj18 v 44) (pj18 v 45) (pj19 v 62) (pj19 v 63) (pj19 v 64) (pj19 v 46) (pj19 v 47) (pj7 v 16) (pj21 v 6) (pj24 v 0) := (gg v).2.2.2.2.2.2.2.2.2.2.1
theorem gg_it_b3 (v : VV) : PP_it_b3 (pj0 v 0) (pj1 v 0) (pj2 v 0) (pj3 v 0) (pj4 v 0) (pj4 v 1) (pj5 v 0) (pj5 v 1) (pj6 v 0) (pj7 v 0) (pj7 v 1) (pj8 v 0) (pj9 v 0) (pj9 v 1) (pj10 v 0) (pj11 v 0) (pj12 v 0) (pj4 v 2) (pj13 v 0) (pj13 v 1) (pj13 v 2) (pj13 v 3) (pj13 v 4) (pj13 v 5) (pj13 v 6) (pj13 v 7) (pj13 v 10) (pj13 v 11) (pj7 v 2) (pj17 v 2) (pj5 v 2) (pj14 v 0) (pj15 v 0) (pj16 v 0) (pj21 v 7) (pj18 v 44) (pj18 v 45) (pj19 v 62) (pj19 v 63) (pj19 v 64) (pj24 v 0) := (gg v).2.2.2.2.2.2.2.2.2.2.2.1
theorem gg_it_b0 (v : VV) : PP_it_b0 (pj0 v 0) (pj1 v 0) (pj2 v 0) (pj3 v 0) (pj4 v 0) (pj4 v 1) (pj5 v 0) (pj5 v 1) (pj6 v 0) (pj7 v 0) (pj7 v 1) (pj8 v 0) (pj9 v 0) (pj9 v 1) (pj10 v 0) (pj11 v 0) (pj12 v 0) (pj4 v 2) (pj13 v 0) (pj13 v 1) (pj13 v 2) (pj13 v 3) (pj13 v 4) (pj13 v 5) (pj13 v 6) (pj13 v 7) (pj13 v 10) (pj13 v 11) (pj7 v 2) (pj17 v 2) (pj5 v 2) (pj14 v 0) (pj15 v 0) (pj16 v 0) (pj18 v 19) (pj18 v 20) (pj18 v 44) (pj18 v 45) (pj19 v 16) (pj19 v 19) (pj19 v 22) (pj19 v 25) (pj22 v 0) := (gg v).2.2.2.2.2.2.2.2.2.2.2.2.1
theorem gg_law_n7 (v : VV) : PP_law_n7 (pj0 v 0) (pj1 v 0) (pj2 v 0) (pj3 v 0) (pj4 v 0) (pj4 v 1) (pj5 v 0) (pj5 v 1) (pj6 v 0) (pj7 v 0) (pj7 v 1) (pj8 v 0) (pj9 v 0) (pj9 v 1) (pj10 v 0) (pj11 v 0) (pj12 v 0) (pj16 v 0) (pj4 v 2) (pj13 v 0) (pj13 v 1) (pj13 v 2) (pj13 v 3) (pj13 v 4) (pj13 v 5) (pj13 v 6) (pj13 v 7) (pj13 v 10) (pj13 v 11) (pj13 v 12) (pj7 v 22) (pj13 v 13) (pj18 v 19) (pj18 v 20) (pj18 v 21) (pj18 v 22) (pj18 v 23) (pj18 v 24) (pj19 v 16) (pj19 v 19) (pj19 v 30) (pj19 v 31) (pj19 v 32) (pj19 v 33) := (gg v).2.2.2.2.2.2.2.2.2.2.2.2.2.1
theorem gg_it_b2 (v : VV) : PP_it_b2 (pj0 v 0) (pj1 v 0) (pj2 v 0) (pj3 v 0) (pj4 v 0) (pj4 v 1) (pj5 v 0) (pj5 v 1) (pj6 v 0) (pj7 v 0) (pj7 v 1) (pj8 v 0) (pj9 v 0) (pj9 v 1) (pj10 v 0) (pj11 v 0) (pj12 v 0) (pj4 v 2) (pj13 v 0) (pj13 v 1) (pj13 v 2) (pj13 v 3) (pj13 v 4) (pj13 v 5) (pj13 v 6) (pj13 v 7) (pj13 v 10) (pj13 v 11) (pj7 v 2) (pj17 v 2) (pj5 v 2) (pj14 v 0) (pj15 v 0) (pj16 v 0) (pj21 v 6) (pj21 v 8) (pj18 v 29) (pj18 v 24) (pj19 v 65) (pj19 v 53) (pj19 v 33) (pj19 v 51) := (gg v).2.2.2.2.2.2.2.2.2.2.2.2.2.2.1
theorem gg_t19_b1 (v : VV) : PP_t19_b1 (pj0 v 0) (pj1 v 0) (pj2 v 0) (pj3 v 0) (pj4 v 0) (pj4 v 1) (pj5 v 0) (pj5 v 1) (pj6 v 0) (pj7 v 0) (pj7 v 1) (pj8 v 0) (pj9 v 0) (pj9 v 1) (pj10 v 0) (pj11 v 0) (pj12 v 0) (pj4 v 2) (pj13 v 0) (pj13 v 1) (pj13 v 2) (pj13 v 3) (pj13 v 4) (pj13 v 5) (pj13 v 6) (pj13 v 7) (pj13 v 8) (pj13 v 9) (pj7 v 2) (pj7 v 3) (pj7 v 4) (pj7 v 5) (pj7 v 6) (pj7 v 7) (pj7 v 8) (pj7 v 9) (pj7 v 10) (pj5 v 2) (pj14 v 0) (pj14 v 1) (pj14 v 2) (pj15 v 0) (pj16 v 0) (pj5 v 7) (pj7 v 21) (pj17 v 4) (pj5 v 8) (pj18 v 23) (pj18 v 34) (pj18 v 36) (pj18 v 46) (pj19 v 52) (pj19 v 32) (pj19 v 53) (pj19 v 55) (pj19 v 30) (pj18 v 40) (pj18 v 38) (pj5 v 9) := (gg v).2.2.2.2.2.2.2.2.2.2.2.2.2.2.2.1
theorem gg_t18_b0 (v : VV) : PP_t18_b0 (pj0 v 0) (pj1 v 0) (pj2 v 0) (pj3 v 0) (pj4 v 0) (pj4 v 1) (pj5 v 0) (pj5 v 1) (pj6 v 0) (pj7 v 0) (pj7 v 1) (pj8 v 0) (pj9 v 0) (pj9 v 1) (pj10 v 0) (pj11 v 0) (pj12 v 0) (pj4 v 2) (pj13 v 0) (pj13 v 1) (pj13 v 2) (pj13 v 3) (pj13 v 4) (pj13 v 5) (pj13 v 6) (pj13 v 7) (pj13 v 8) (pj13 v 9) (pj7 v 2) (pj7 v 3) (pj7 v 4) (pj7 v 5) (pj7 v 6) (pj7 v 7) (pj7 v 8) (pj7 v 9) (pj7 v 10) (pj5 v 2) (pj14 v 0) (pj14 v 1) (pj14 v 2) (pj15 v 0) (pj16 v 0) (pj5 v 7) (pj7 v 23) (pj21 v 7) (pj19 v 52) (pj19 v 62) (pj23 v 12) (pj23 v 13) := (gg v).2.2.2.2.2.2.2.2.2.2.2.2.2.2.2.2
end C2
theorem law_n23 {w p loose mean mg mb dp un gd L fa A₀ base h₀ s Q E m jk jq yk jm jt jp jr jl o30 o37 t37 t30 t134 R c30 c37 T0 T1 T2 T3 T4 T5 kR ps zs rest D1 D2 NB nbL kN i0 i1 i2 j0 j1 j2 n0 n1 n2 p0 p1 p2 it0 it1 it2 jt0 jt1 jt2 nt0 nt1 nt2 pt0 pt1 pt2} : C2.PP_law_n23 w p loose mean mg mb dp un gd L fa A₀ base h₀ s Q E m jk jq yk jm jt jp jr jl o30 o37 t37 t30 t134 R c30 c37 T0 T1 T2 T3 T4 T5 kR ps zs rest D1 D2 NB nbL kN i0 i1 i2 j0 j1 j2 n0 n1 n2 p0 p1 p2 it0 it1 it2 jt0 jt1 jt2 nt0 nt1 nt2 pt0 pt1 pt2 :=
  C2.gg_law_n23 (fun n => [w].getD n w,fun n => [p].getD n p,fun n => [loose].getD n loose,fun n => [mean].getD n mean,fun n => [mg,mb,m].getD n mg,fun n => [dp,un,kR,kN].getD n dp,fun n => [gd].getD n gd,fun n => [L,fa,R,c30,c37,T0,T1,T2,T3,T4,T5,D1,D2,NB].getD n L,fun n => [A₀].getD n A₀,fun n => [base,h₀].getD n base,fun n => [s].getD n s,fun n => [Q].getD n Q,fun n => [E].getD n E,fun n => [jk,jq,yk,jm,jt,jp,jr,jl,o30,o37,t37,t30,t134].getD n jk,fun n => [ps].getD n ps,fun n => [zs].getD n zs,fun n => [rest].getD n rest,fun n => [nbL].getD n nbL,fun n => [i0,i1,i2,j0,j1,j2,n0,n1,n2,p0,p1,p2].getD n i0,fun n => [it0,it1,it2,jt0,jt1,jt2,nt0,nt1,nt2,pt0,pt1,pt2].getD n it0,C2.pj20 C2.cc,C2.pj21 C2.cc,C2.pj22 C2.cc,C2.pj23 C2.cc,C2.pj24 C2.cc)
theorem law_n17 {w p loose mean mg mb dp un gd L fa A₀ base h₀ s Q E m jk jq yk jm jt jp jr jl t37 t30 R T0 T1 T2 T3 T4 T5 kR ps zs rest TB us b i0 j0 i1 j1 i2 j2 i3 j3 i4 j4 i5 j5 x0 x1 x2 x3 x4 x5 t0 u0 v0 t1 u1 v1 t2 u2 v2 t3 u3 v3 t4 u4 v4 t5 u5 v5 ov} : C2.PP_law_n17 w p loose mean mg mb dp un gd L fa A₀ base h₀ s Q E m jk jq yk jm jt jp jr jl t37 t30 R T0 T1 T2 T3 T4 T5 kR ps zs rest TB us b i0 j0 i1 j1 i2 j2 i3 j3 i4 j4 i5 j5 x0 x1 x2 x3 x4 x5 t0 u0 v0 t1 u1 v1 t2 u2 v2 t3 u3 v3 t4 u4 v4 t5 u5 v5 ov :=
  C2.gg_law_n17 (fun n => [w].getD n w,fun n => [p].getD n p,fun n => [loose].getD n loose,fun n => [mean].getD n mean,fun n => [mg,mb,m].getD n mg,fun n => [dp,un,kR].getD n dp,fun n => [gd].getD n gd,fun n => [L,fa,R,L,L,T0,T1,T2,T3,T4,T5,L,L,L,TB].getD n L,fun n => [A₀].getD n A₀,fun n => [base,h₀].getD n base,fun n => [s].getD n s,fun n => [Q].getD n Q,fun n => [E].getD n E,fun n => [jk,jq,yk,jm,jt,jp,jr,jl,jk,jk,t37,t30].getD n jk,fun n => [ps].getD n ps,fun n => [zs].getD n zs,fun n => [rest].getD n rest,C2.pj17 C2.cc,fun n => [i0,i1,i2,j0,j1,j2,b,b,b,b,b,b,b,i3,j3,i4,j4,i5,j5].getD n b,fun n => [t0,t0,t0,t0,t0,t0,t0,t0,t0,t0,t0,t0,t0,u0,v0,t1,u1,v1,t2,u2,v2,t3,u3,v3,t4,u4,v4,t5,u5,v5].getD n t0,fun n => [us].getD n us,fun n => [x0,x1,x2,x3,x4,x5].getD n x0,fun n => [ov].getD n ov,C2.pj23 C2.cc,C2.pj24 C2.cc)
theorem law_n8 {w p loose mean mg mb dp un gd L fa A₀ base h₀ s Q E rest m jk jq yk jm jt jp jr jl t37 t30 t134 U kU P Q' fi se sc bo u1 u2 tf ts tc tb w0 w1 w2 w3 w4 w5 w6 w7 w8 w9} : C2.PP_law_n8 w p loose mean mg mb dp un gd L fa A₀ base h₀ s Q E rest m jk jq yk jm jt jp jr jl t37 t30 t134 U kU P Q' fi se sc bo u1 u2 tf ts tc tb w0 w1 w2 w3 w4 w5 w6 w7 w8 w9 :=
  C2.gg_law_n8 (fun n => [w].getD n w,fun n => [p].getD n p,fun n => [loose].getD n loose,fun n => [mean].getD n mean,fun n => [mg,mb,m].getD n mg,fun n => [dp,un,dp,dp,kU].getD n dp,fun n => [gd].getD n gd,fun n => [L,fa,L,L,L,L,L,L,L,L,L,L,L,L,L,U].getD n L,fun n => [A₀].getD n A₀,fun n => [base,h₀].getD n base,fun n => [s].getD n s,fun n => [Q].getD n Q,fun n => [E].getD n E,fun n => [jk,jq,yk,jm,jt,jp,jr,jl,jk,jk,t37,t30,t134].getD n jk,C2.pj14 C2.cc,C2.pj15 C2.cc,fun n => [rest].getD n rest,C2.pj17 C2.cc,fun n => [P,P,P,P,P,P,P,P,P,P,P,P,P,P,P,P,P,P,P,P,Q',fi,se,sc,bo].getD n P,fun n => [u1,u1,u1,u1,u1,u1,u1,u1,u1,u1,u1,u1,u1,u1,u1,u1,u1,u1,u1,u2,u1,u1,u1,u1,u1,u1,u1,u1,u1,u1,tf,ts,tc,tb,w0,w1,w2,w3,w4,w5,w6,w7,w8,w9].getD n u1,C2.pj20 C2.cc,C2.pj21 C2.cc,C2.pj22 C2.cc,C2.pj23 C2.cc,C2.pj24 C2.cc)
theorem law_n12 {w p loose mean mg mb dp un gd L fa A₀ base h₀ s Q E m jk jq yk jm jt jp jr jl t37 t30 R T0 T1 T2 T3 T4 T5 kR ps zs rest WH tw} : C2.PP_law_n12 w p loose mean mg mb dp un gd L fa A₀ base h₀ s Q E m jk jq yk jm jt jp jr jl t37 t30 R T0 T1 T2 T3 T4 T5 kR ps zs rest WH tw :=
  C2.gg_law_n12 (fun n => [w].getD n w,fun n => [p].getD n p,fun n => [loose].getD n loose,fun n => [mean].getD n mean,fun n => [mg,mb,m].getD n mg,fun n => [dp,un,kR].getD n dp,fun n => [gd].getD n gd,fun n => [L,fa,R,L,L,T0,T1,T2,T3,T4,T5].getD n L,fun n => [A₀].getD n A₀,fun n => [base,h₀].getD n base,fun n => [s].getD n s,fun n => [Q].getD n Q,fun n => [E].getD n E,fun n => [jk,jq,yk,jm,jt,jp,jr,jl,jk,jk,t37,t30].getD n jk,fun n => [ps].getD n ps,fun n => [zs].getD n zs,fun n => [rest].getD n rest,C2.pj17 C2.cc,fun n => [WH,WH,WH,WH,WH,WH,WH,WH,WH,WH,WH,WH,WH,WH,WH,WH,WH,WH,WH,WH,WH,WH,WH,WH,WH,WH].getD n WH,fun n => [tw,tw,tw,tw,tw,tw,tw,tw,tw,tw,tw,tw,tw,tw,tw,tw,tw,tw,tw,tw,tw,tw,tw,tw,tw,tw,tw,tw,tw,tw,tw,tw,tw,tw,tw,tw,tw,tw,tw,tw,tw,tw,tw,tw,tw].getD n tw,C2.pj20 C2.cc,C2.pj21 C2.cc,C2.pj22 C2.cc,C2.pj23 C2.cc,C2.pj24 C2.cc)
theorem law_n14 {w p loose mean mg mb dp un gd L fa A₀ base h₀ s Q E m jk jq yk jm jt jp jr jl t37 t30 R T0 T1 T2 T3 T4 T5 kR ps zs rest WH P Q' tw g1 g2 g3 u1 u2 u3 u4 u5 G Ta Ld kL xl} : C2.PP_law_n14 w p loose mean mg mb dp un gd L fa A₀ base h₀ s Q E m jk jq yk jm jt jp jr jl t37 t30 R T0 T1 T2 T3 T4 T5 kR ps zs rest WH P Q' tw g1 g2 g3 u1 u2 u3 u4 u5 G Ta Ld kL xl :=
  C2.gg_law_n14 (fun n => [w].getD n w,fun n => [p].getD n p,fun n => [loose].getD n loose,fun n => [mean].getD n mean,fun n => [mg,mb,m].getD n mg,fun n => [dp,un,kR,dp,dp,kL].getD n dp,fun n => [gd].getD n gd,fun n => [L,fa,R,L,L,T0,T1,T2,T3,T4,T5,L,L,L,L,L,G,Ta,Ld].getD n L,fun n => [A₀].getD n A₀,fun n => [base,h₀].getD n base,fun n => [s].getD n s,fun n => [Q].getD n Q,fun n => [E].getD n E,fun n => [jk,jq,yk,jm,jt,jp,jr,jl,jk,jk,t37,t30].getD n jk,fun n => [ps].getD n ps,fun n => [zs].getD n zs,fun n => [rest].getD n rest,C2.pj17 C2.cc,fun n => [WH,WH,WH,WH,WH,WH,WH,WH,WH,WH,WH,WH,WH,WH,WH,WH,WH,WH,WH,P,Q',WH,WH,WH,WH,WH].getD n WH,fun n => [tw,tw,tw,tw,tw,tw,tw,tw,tw,tw,tw,tw,tw,tw,tw,tw,u1,tw,tw,u2,tw,tw,u3,tw,tw,u4,tw,tw,u5,tw,tw,tw,tw,tw,tw,tw,tw,tw,tw,tw,tw,tw,tw,tw,tw,g1,g2,g3].getD n tw,C2.pj20 C2.cc,fun n => [xl,xl,xl,xl,xl,xl,xl].getD n xl,C2.pj22 C2.cc,C2.pj23 C2.cc,C2.pj24 C2.cc)
theorem law_n15 {w p loose mean mg mb dp un gd L fa A₀ base h₀ s Q E m jk jq yk jm jt jp jr jl t37 t30 R T0 T1 T2 T3 T4 T5 kR ps zs rest P Q' fi se u1 u2 U vsU kU} : C2.PP_law_n15 w p loose mean mg mb dp un gd L fa A₀ base h₀ s Q E m jk jq yk jm jt jp jr jl t37 t30 R T0 T1 T2 T3 T4 T5 kR ps zs rest P Q' fi se u1 u2 U vsU kU :=
  C2.gg_law_n15 (fun n => [w].getD n w,fun n => [p].getD n p,fun n => [loose].getD n loose,fun n => [mean].getD n mean,fun n => [mg,mb,m].getD n mg,fun n => [dp,un,kR,dp,kU].getD n dp,fun n => [gd].getD n gd,fun n => [L,fa,R,L,L,T0,T1,T2,T3,T4,T5,L,L,L,L,U].getD n L,fun n => [A₀].getD n A₀,fun n => [base,h₀].getD n base,fun n => [s].getD n s,fun n => [Q].getD n Q,fun n => [E].getD n E,fun n => [jk,jq,yk,jm,jt,jp,jr,jl,jk,jk,t37,t30].getD n jk,fun n => [ps].getD n ps,fun n => [zs].getD n zs,fun n => [rest].getD n rest,fun n => [vsU,vsU].getD n vsU,fun n => [P,P,P,P,P,P,P,P,P,P,P,P,P,P,P,P,P,P,P,P,Q',fi,se].getD n P,fun n => [u1,u1,u1,u1,u1,u1,u1,u1,u1,u1,u1,u1,u1,u1,u1,u1,u1,u1,u1,u2].getD n u1,C2.pj20 C2.cc,C2.pj21 C2.cc,C2.pj22 C2.cc,C2.pj23 C2.cc,C2.pj24 C2.cc)
theorem it_b1 {w p loose mean mg mb dp un gd L fa A₀ base h₀ s Q E m jk jq yk jm jt jp jr jl t37 t30 R xs kR ps zs rest PT kP v1 v2 v3 WH UN b1 b2 b3 a1 a2 a3 tw tu} : C2.PP_it_b1 w p loose mean mg mb dp un gd L fa A₀ base h₀ s Q E m jk jq yk jm jt jp jr jl t37 t30 R xs kR ps zs rest PT kP v1 v2 v3 WH UN b1 b2 b3 a1 a2 a3 tw tu :=
  C2.gg_it_b1 (fun n => [w].getD n w,fun n => [p].getD n p,fun n => [loose].getD n loose,fun n => [mean].getD n mean,fun n => [mg,mb,m].getD n mg,fun n => [dp,un,kR,dp,dp,dp,kP].getD n dp,fun n => [gd].getD n gd,fun n => [L,fa,R,L,L,L,L,L,L,L,L,L,L,L,L,L,L,L,L,PT].getD n L,fun n => [A₀].getD n A₀,fun n => [base,h₀].getD n base,fun n => [s].getD n s,fun n => [Q].getD n Q,fun n => [E].getD n E,fun n => [jk,jq,yk,jm,jt,jp,jr,jl,jk,jk,t37,t30].getD n jk,fun n => [ps].getD n ps,fun n => [zs].getD n zs,fun n => [rest].getD n rest,fun n => [xs,xs,xs].getD n xs,fun n => [v1,v1,v1,v1,v1,v1,v1,v1,v1,v1,v1,v1,v1,v1,v1,v1,v1,v1,v1,v1,v1,v1,v1,v1,v1,WH,v1,v2,v3,UN,b1,b2,b3].getD n v1,fun n => [a1,a1,a1,a1,a1,a1,a1,a1,a1,a1,a1,a1,a1,a1,a1,a1,a1,a1,a1,a1,a1,a1,a1,a1,a1,a1,a1,a1,a1,a1,a1,a1,a1,a1,a1,a1,a1,a1,a1,a1,a1,a1,a1,a1,tw,a1,a1,a1,a1,a2,a3,tu].getD n a1,C2.pj20 C2.cc,C2.pj21 C2.cc,C2.pj22 C2.cc,C2.pj23 C2.cc,C2.pj24 C2.cc)
theorem t18_b2 {w p loose mean mg mb dp un gd L fa A₀ base h₀ s Q E m jk jq yk jm jt jp jr jl o30 o37 R c30 c37 T0 T1 T2 T3 T4 T5 kR ps ps30 ps37 zs rest k TB UP DN NB upL dnL nbL kU kD kN us b P Q' sc uv dv nv rs tk tc td tu tn tr u1 u2 A1 A2 A3 B1 V1 Z M} : C2.PP_t18_b2 w p loose mean mg mb dp un gd L fa A₀ base h₀ s Q E m jk jq yk jm jt jp jr jl o30 o37 R c30 c37 T0 T1 T2 T3 T4 T5 kR ps ps30 ps37 zs rest k TB UP DN NB upL dnL nbL kU kD kN us b P Q' sc uv dv nv rs tk tc td tu tn tr u1 u2 A1 A2 A3 B1 V1 Z M :=
  C2.gg_t18_b2 (fun n => [w].getD n w,fun n => [p].getD n p,fun n => [loose].getD n loose,fun n => [mean].getD n mean,fun n => [mg,mb,m].getD n mg,fun n => [dp,un,kR,kN,kU,dp,dp,k,kD,M].getD n dp,fun n => [gd].getD n gd,fun n => [L,fa,R,c30,c37,T0,T1,T2,T3,T4,T5,L,L,NB,TB,L,L,L,L,L,UP,DN].getD n L,fun n => [A₀].getD n A₀,fun n => [base,h₀].getD n base,fun n => [s].getD n s,fun n => [Q].getD n Q,fun n => [E].getD n E,fun n => [jk,jq,yk,jm,jt,jp,jr,jl,o30,o37].getD n jk,fun n => [ps,ps30,ps37].getD n ps,fun n => [zs].getD n zs,fun n => [rest].getD n rest,fun n => [nbL,upL,upL,upL,dnL].getD n upL,fun n => [b,b,b,b,b,b,b,b,b,b,b,b,b,b,b,b,b,b,b,P,Q',b,b,sc,b,b,b,b,b,b,b,b,b,uv,dv,nv,rs,A1,A2,A3,B1,V1,Z].getD n b,fun n => [tk,tk,tk,tk,tk,tk,tk,tk,tk,tk,tk,tk,tk,tk,tk,tk,u1,tk,tk,u2,tk,tk,tk,tk,tk,tk,tk,tk,tk,tk,tk,tk,tc,tk,tk,tk,tk,tk,tk,tk,tk,tk,tk,tk,tk,tk,tk,tk,tk,tk,tk,tu,tk,td,tn,tr].getD n tk,fun n => [us].getD n us,C2.pj21 C2.cc,C2.pj22 C2.cc,C2.pj23 C2.cc,C2.pj24 C2.cc)
theorem law_n20 {w p loose mean mg mb dp un gd L fa A₀ base h₀ s Q E m jk jq yk jm jt jp jr jl o30 o37 t37 t30 t134 R c30 c37 T0 T1 T2 T3 T4 T5 kR ps zs rest ts q0 q1 q2 q3 q4 q5 u0 v0 u1 v1 u2 v2 u3 v3 u4 v4 u5 v5} : C2.PP_law_n20 w p loose mean mg mb dp un gd L fa A₀ base h₀ s Q E m jk jq yk jm jt jp jr jl o30 o37 t37 t30 t134 R c30 c37 T0 T1 T2 T3 T4 T5 kR ps zs rest ts q0 q1 q2 q3 q4 q5 u0 v0 u1 v1 u2 v2 u3 v3 u4 v4 u5 v5 :=
  C2.gg_law_n20 (fun n => [w].getD n w,fun n => [p].getD n p,fun n => [loose].getD n loose,fun n => [mean].getD n mean,fun n => [mg,mb,m].getD n mg,fun n => [dp,un,kR].getD n dp,fun n => [gd].getD n gd,fun n => [L,fa,R,c30,c37,T0,T1,T2,T3,T4,T5].getD n L,fun n => [A₀].getD n A₀,fun n => [base,h₀].getD n base,fun n => [s].getD n s,fun n => [Q].getD n Q,fun n => [E].getD n E,fun n => [jk,jq,yk,jm,jt,jp,jr,jl,o30,o37,t37,t30,t134].getD n jk,fun n => [ps].getD n ps,fun n => [zs].getD n zs,fun n => [rest].getD n rest,C2.pj17 C2.cc,C2.pj18 C2.cc,fun n => [ts,ts,ts,ts,ts,ts,ts,ts,ts,ts,ts,ts,ts,ts,ts,ts,ts,ts,ts,ts,ts,ts,ts,ts,ts,ts,ts,ts,ts,ts,ts,ts,ts,ts,ts,ts,ts,ts,ts,ts,ts,ts,ts,ts,ts,ts,ts,ts,ts,ts,ts,ts,ts,ts,ts,ts,q0,q1,q2,q3,q4,q5].getD n ts,C2.pj20 C2.cc,C2.pj21 C2.cc,C2.pj22 C2.cc,fun n => [u0,v0,u1,v1,u2,v2,u3,v3,u4,v4,u5,v5].getD n u0,C2.pj24 C2.cc)
theorem law_n22 {w p loose mean mg mb dp un gd L fa A₀ base h₀ s Q E m jk jq yk jm jt jp jr jl o30 o37 t37 t30 t134 R c30 c37 T0 T1 T2 T3 T4 T5 kR ps zs rest sd ts t0 t1 t2 t3 t4 t5 D1 D2} : C2.PP_law_n22 w p loose mean mg mb dp un gd L fa A₀ base h₀ s Q E m jk jq yk jm jt jp jr jl o30 o37 t37 t30 t134 R c30 c37 T0 T1 T2 T3 T4 T5 kR ps zs rest sd ts t0 t1 t2 t3 t4 t5 D1 D2 :=
  C2.gg_law_n22 (fun n => [w].getD n w,fun n => [p].getD n p,fun n => [loose].getD n loose,fun n => [mean].getD n mean,fun n => [mg,mb,m].getD n mg,fun n => [dp,un,kR].getD n dp,fun n => [gd].getD n gd,fun n => [L,fa,R,c30,c37,T0,T1,T2,T3,T4,T5,D1,D2].getD n L,fun n => [A₀].getD n A₀,fun n => [base,h₀].getD n base,fun n => [s].getD n s,fun n => [Q].getD n Q,fun n => [E].getD n E,fun n => [jk,jq,yk,jm,jt,jp,jr,jl,o30,o37,t37,t30,t134].getD n jk,fun n => [ps].getD n ps,fun n => [zs].getD n zs,fun n => [rest].getD n rest,C2.pj17 C2.cc,fun n => [sd,sd,sd,sd,sd,sd,sd,sd,sd,sd,sd,sd,sd,sd,sd,sd,sd,sd,sd,sd,sd,sd,sd,sd,sd,sd,sd,sd,sd,sd,sd,sd,sd,sd,sd,sd,sd,sd,sd,sd,sd,sd,sd,sd].getD n sd,fun n => [ts,ts,ts,ts,ts,ts,ts,ts,ts,ts,ts,ts,t0,ts,ts,t1,ts,ts,t2,ts,ts,t3,ts,ts,t4,ts,ts,t5,ts,ts,ts,ts].getD n ts,C2.pj20 C2.cc,C2.pj21 C2.cc,C2.pj22 C2.cc,C2.pj23 C2.cc,C2.pj24 C2.cc)
theorem law_n13 {w p loose mean mg mb dp un gd L fa A₀ base h₀ s Q E m jk jq yk jm jt jp jr jl t37 t30 R xs kR ps zs rest i j th ui uj g2 g3 G xl hs} : C2.PP_law_n13 w p loose mean mg mb dp un gd L fa A₀ base h₀ s Q E m jk jq yk jm jt jp jr jl t37 t30 R xs kR ps zs rest i j th ui uj g2 g3 G xl hs :=
  C2.gg_law_n13 (fun n => [w].getD n w,fun n => [p].getD n p,fun n => [loose].getD n loose,fun n => [mean].getD n mean,fun n => [mg,mb,m].getD n mg,fun n => [dp,un,kR].getD n dp,fun n => [gd].getD n gd,fun n => [L,fa,R,L,L,L,L,L,L,L,L,L,L,L,L,L,G].getD n L,fun n => [A₀].getD n A₀,fun n => [base,h₀].getD n base,fun n => [s].getD n s,fun n => [Q].getD n Q,fun n => [E].getD n E,fun n => [jk,jq,yk,jm,jt,jp,jr,jl,jk,jk,t37,t30].getD n jk,fun n => [ps].getD n ps,fun n => [zs].getD n zs,fun n => [rest].getD n rest,fun n => [xs,xs,xs].getD n xs,fun n => [i,i,i,i,i,i,i,i,i,i,i,i,i,i,i,i,i,i,i,i,i,i,i,i,i,i,i,i,i,i,i,i,i,i,i,i,i,i,i,i,i,i,i,i,i,j].getD n i,fun n => [th,th,th,th,th,th,th,th,th,th,th,th,th,th,th,th,th,th,th,th,th,th,th,th,th,th,th,th,th,th,th,th,th,th,th,th,th,th,th,th,th,th,th,th,th,th,g2,g3,th,th,th,th,th,th,th,th,th,th,th,th,th,th,th,ui,uj].getD n th,C2.pj20 C2.cc,fun n => [xl,xl,xl,xl,xl,xl,xl].getD n xl,C2.pj22 C2.cc,C2.pj23 C2.cc,fun n => [hs].getD n hs)
theorem it_b3 {w p loose mean mg mb dp un gd L fa A₀ base h₀ s Q E m jk jq yk jm jt jp jr jl t37 t30 R xs kR ps zs rest xh i j th ui uj hs} : C2.PP_it_b3 w p loose mean mg mb dp un gd L fa A₀ base h₀ s Q E m jk jq yk jm jt jp jr jl t37 t30 R xs kR ps zs rest xh i j th ui uj hs :=
  C2.gg_it_b3 (fun n => [w].getD n w,fun n => [p].getD n p,fun n => [loose].getD n loose,fun n => [mean].getD n mean,fun n => [mg,mb,m].getD n mg,fun n => [dp,un,kR].getD n dp,fun n => [gd].getD n gd,fun n => [L,fa,R].getD n L,fun n => [A₀].getD n A₀,fun n => [base,h₀].getD n base,fun n => [s].getD n s,fun n => [Q].getD n Q,fun n => [E].getD n E,fun n => [jk,jq,yk,jm,jt,jp,jr,jl,jk,jk,t37,t30].getD n jk,fun n => [ps].getD n ps,fun n => [zs].getD n zs,fun n => [rest].getD n rest,fun n => [xs,xs,xs].getD n xs,fun n => [i,i,i,i,i,i,i,i,i,i,i,i,i,i,i,i,i,i,i,i,i,i,i,i,i,i,i,i,i,i,i,i,i,i,i,i,i,i,i,i,i,i,i,i,i,j].getD n i,fun n => [th,th,th,th,th,th,th,th,th,th,th,th,th,th,th,th,th,th,th,th,th,th,th,th,th,th,th,th,th,th,th,th,th,th,th,th,th,th,th,th,th,th,th,th,th,th,th,th,th,th,th,th,th,th,th,th,th,th,th,th,th,th,th,ui,uj].getD n th,C2.pj20 C2.cc,fun n => [xh,xh,xh,xh,xh,xh,xh,xh].getD n xh,C2.pj22 C2.cc,C2.pj23 C2.cc,fun n => [hs].getD n hs)
theorem it_b0 {w p loose mean mg mb dp un gd L fa A₀ base h₀ s Q E m jk jq yk jm jt jp jr jl t37 t30 R xs kR ps zs rest P Q' i j u1 u2 u3 u4 ov} : C2.PP_it_b0 w p loose mean mg mb dp un gd L fa A₀ base h₀ s Q E m jk jq yk jm jt jp jr jl t37 t30 R xs kR ps zs rest P Q' i j u1 u2 u3 u4 ov :=
  C2.gg_it_b0 (fun n => [w].getD n w,fun n => [p].getD n p,fun n => [loose].getD n loose,fun n => [mean].getD n mean,fun n => [mg,mb,m].getD n mg,fun n => [dp,un,kR].getD n dp,fun n => [gd].getD n gd,fun n => [L,fa,R].getD n L,fun n => [A₀].getD n A₀,fun n => [base,h₀].getD n base,fun n => [s].getD n s,fun n => [Q].getD n Q,fun n => [E].getD n E,fun n => [jk,jq,yk,jm,jt,jp,jr,jl,jk,jk,t37,t30].getD n jk,fun n => [ps].getD n ps,fun n => [zs].getD n zs,fun n => [rest].getD n rest,fun n => [xs,xs,xs].getD n xs,fun n => [P,P,P,P,P,P,P,P,P,P,P,P,P,P,P,P,P,P,P,P,Q',P,P,P,P,P,P,P,P,P,P,P,P,P,P,P,P,P,P,P,P,P,P,P,i,j].getD n P,fun n => [u1,u1,u1,u1,u1,u1,u1,u1,u1,u1,u1,u1,u1,u1,u1,u1,u1,u1,u1,u2,u1,u1,u3,u1,u1,u4].getD n u1,C2.pj20 C2.cc,C2.pj21 C2.cc,fun n => [ov].getD n ov,C2.pj23 C2.cc,C2.pj24 C2.cc)
theorem law_n7 {w p loose mean mg mb dp un gd L fa A₀ base h₀ s Q E rest m jk jq yk jm jt jp jr jl t37 t30 t134 H oH P Q' fi se sc bo u1 u2 tf ts tc tb} : C2.PP_law_n7 w p loose mean mg mb dp un gd L fa A₀ base h₀ s Q E rest m jk jq yk jm jt jp jr jl t37 t30 t134 H oH P Q' fi se sc bo u1 u2 tf ts tc tb :=
  C2.gg_law_n7 (fun n => [w].getD n w,fun n => [p].getD n p,fun n => [loose].getD n loose,fun n => [mean].getD n mean,fun n => [mg,mb,m].getD n mg,fun n => [dp,un].getD n dp,fun n => [gd].getD n gd,fun n => [L,fa,L,L,L,L,L,L,L,L,L,L,L,L,L,L,L,L,L,L,L,L,H].getD n L,fun n => [A₀].getD n A₀,fun n => [base,h₀].getD n base,fun n => [s].getD n s,fun n => [Q].getD n Q,fun n => [E].getD n E,fun n => [jk,jq,yk,jm,jt,jp,jr,jl,jk,jk,t37,t30,t134,oH].getD n jk,C2.pj14 C2.cc,C2.pj15 C2.cc,fun n => [rest].getD n rest,C2.pj17 C2.cc,fun n => [P,P,P,P,P,P,P,P,P,P,P,P,P,P,P,P,P,P,P,P,Q',fi,se,sc,bo].getD n P,fun n => [u1,u1,u1,u1,u1,u1,u1,u1,u1,u1,u1,u1,u1,u1,u1,u1,u1,u1,u1,u2,u1,u1,u1,u1,u1,u1,u1,u1,u1,u1,tf,ts,tc,tb].getD n u1,C2.pj20 C2.cc,C2.pj21 C2.cc,C2.pj22 C2.cc,C2.pj23 C2.cc,C2.pj24 C2.cc)
theorem it_b2 {w p loose mean mg mb dp un gd L fa A₀ base h₀ s Q E m jk jq yk jm jt jp jr jl t37 t30 R xs kR ps zs rest xl xd UN bo tl td tb tu} : C2.PP_it_b2 w p loose mean mg mb dp un gd L fa A₀ base h₀ s Q E m jk jq yk jm jt jp jr jl t37 t30 R xs kR ps zs rest xl xd UN bo tl td tb tu :=
  C2.gg_it_b2 (fun n => [w].getD n w,fun n => [p].getD n p,fun n => [loose].getD n loose,fun n => [mean].getD n mean,fun n => [mg,mb,m].getD n mg,fun n => [dp,un,kR].getD n dp,fun n => [gd].getD n gd,fun n => [L,fa,R].getD n L,fun n => [A₀].getD n A₀,fun n => [base,h₀].getD n base,fun n => [s].getD n s,fun n => [Q].getD n Q,fun n => [E].getD n E,fun n => [jk,jq,yk,jm,jt,jp,jr,jl,jk,jk,t37,t30].getD n jk,fun n => [ps].getD n ps,fun n => [zs].getD n zs,fun n => [rest].getD n rest,fun n => [xs,xs,xs].getD n xs,fun n => [UN,UN,UN,UN,UN,UN,UN,UN,UN,UN,UN,UN,UN,UN,UN,UN,UN,UN,UN,UN,UN,UN,UN,UN,bo,UN,UN,UN,UN,UN].getD n UN,fun n => [tl,tl,tl,tl,tl,tl,tl,tl,tl,tl,tl,tl,tl,tl,tl,tl,tl,tl,tl,tl,tl,tl,tl,tl,tl,tl,tl,tl,tl,tl,tl,tl,tl,tb,tl,tl,tl,tl,tl,tl,tl,tl,tl,tl,tl,tl,tl,tl,tl,tl,tl,tu,tl,td,tl,tl,tl,tl,tl,tl,tl,tl,tl,tl,tl,tl].getD n tl,C2.pj20 C2.cc,fun n => [xl,xl,xl,xl,xl,xl,xl,xl,xd].getD n xl,C2.pj22 C2.cc,C2.pj23 C2.cc,C2.pj24 C2.cc)
theorem t19_b1 {w p loose mean mg mb dp un gd L fa A₀ base h₀ s Q E m jk jq yk jm jt jp jr jl o30 o37 R c30 c37 T0 T1 T2 T3 T4 T5 kR ps ps30 ps37 zs rest k DN dnL kD sc dv rs fv tk tc td tr tf B1 A2 M} : C2.PP_t19_b1 w p loose mean mg mb dp un gd L fa A₀ base h₀ s Q E m jk jq yk jm jt jp jr jl o30 o37 R c30 c37 T0 T1 T2 T3 T4 T5 kR ps ps30 ps37 zs rest k DN dnL kD sc dv rs fv tk tc td tr tf B1 A2 M :=
  C2.gg_t19_b1 (fun n => [w].getD n w,fun n => [p].getD n p,fun n => [loose].getD n loose,fun n => [mean].getD n mean,fun n => [mg,mb,m].getD n mg,fun n => [dp,un,kR,dp,dp,dp,dp,k,kD,M].getD n dp,fun n => [gd].getD n gd,fun n => [L,fa,R,c30,c37,T0,T1,T2,T3,T4,T5,L,L,L,L,L,L,L,L,L,L,DN].getD n L,fun n => [A₀].getD n A₀,fun n => [base,h₀].getD n base,fun n => [s].getD n s,fun n => [Q].getD n Q,fun n => [E].getD n E,fun n => [jk,jq,yk,jm,jt,jp,jr,jl,o30,o37].getD n jk,fun n => [ps,ps30,ps37].getD n ps,fun n => [zs].getD n zs,fun n => [rest].getD n rest,fun n => [dnL,dnL,dnL,dnL,dnL].getD n dnL,fun n => [sc,sc,sc,sc,sc,sc,sc,sc,sc,sc,sc,sc,sc,sc,sc,sc,sc,sc,sc,sc,sc,sc,sc,sc,sc,sc,sc,sc,sc,sc,sc,sc,sc,sc,dv,sc,rs,sc,A2,sc,B1,sc,sc,sc,sc,sc,fv].getD n sc,fun n => [tk,tk,tk,tk,tk,tk,tk,tk,tk,tk,tk,tk,tk,tk,tk,tk,tk,tk,tk,tk,tk,tk,tk,tk,tk,tk,tk,tk,tk,tk,tf,tk,tc,tk,tk,tk,tk,tk,tk,tk,tk,tk,tk,tk,tk,tk,tk,tk,tk,tk,tk,tk,tk,td,tk,tr].getD n tk,C2.pj20 C2.cc,C2.pj21 C2.cc,C2.pj22 C2.cc,C2.pj23 C2.cc,C2.pj24 C2.cc)
theorem t18_b0 {w p loose mean mg mb dp un gd L fa A₀ base h₀ s Q E m jk jq yk jm jt jp jr jl o30 o37 R c30 c37 T0 T1 T2 T3 T4 T5 kR ps ps30 ps37 zs rest k Tk xh tk th u v} : C2.PP_t18_b0 w p loose mean mg mb dp un gd L fa A₀ base h₀ s Q E m jk jq yk jm jt jp jr jl o30 o37 R c30 c37 T0 T1 T2 T3 T4 T5 kR ps ps30 ps37 zs rest k Tk xh tk th u v :=
  C2.gg_t18_b0 (fun n => [w].getD n w,fun n => [p].getD n p,fun n => [loose].getD n loose,fun n => [mean].getD n mean,fun n => [mg,mb,m].getD n mg,fun n => [dp,un,kR,dp,dp,dp,dp,k].getD n dp,fun n => [gd].getD n gd,fun n => [L,fa,R,c30,c37,T0,T1,T2,T3,T4,T5,L,L,L,L,L,L,L,L,L,L,L,L,Tk].getD n L,fun n => [A₀].getD n A₀,fun n => [base,h₀].getD n base,fun n => [s].getD n s,fun n => [Q].getD n Q,fun n => [E].getD n E,fun n => [jk,jq,yk,jm,jt,jp,jr,jl,o30,o37].getD n jk,fun n => [ps,ps30,ps37].getD n ps,fun n => [zs].getD n zs,fun n => [rest].getD n rest,C2.pj17 C2.cc,C2.pj18 C2.cc,fun n => [tk,tk,tk,tk,tk,tk,tk,tk,tk,tk,tk,tk,tk,tk,tk,tk,tk,tk,tk,tk,tk,tk,tk,tk,tk,tk,tk,tk,tk,tk,tk,tk,tk,tk,tk,tk,tk,tk,tk,tk,tk,tk,tk,tk,tk,tk,tk,tk,tk,tk,tk,tk,tk,tk,tk,tk,tk,tk,tk,tk,tk,tk,th].getD n tk,C2.pj20 C2.cc,fun n => [xh,xh,xh,xh,xh,xh,xh,xh].getD n xh,C2.pj22 C2.cc,fun n => [u,u,u,u,u,u,u,u,u,u,u,u,u,v].getD n u,C2.pj24 C2.cc)
theorem it_one {w : World} {p : Program} {loose : List Str} {mean : ExcName → Option Value} {mg mb : Str → Option Value}
    {dp un : Nat} {gd : Option (List Code)} {L fa : Addr} {A₀ : Around} {base h₀ : Heap} {s : Shared} {Q : Flow → Shared → Prop} {E : Value → Shared → Prop}
    (B : Below A₀ base [] h₀) (X : (Mine.hd.heap_1 w.params).In h₀) (T : Top p loose mean mg mb h₀) (hd : dp+100 < recursionLimit) (hu : un+600 < cLine)
    (ch1 : CodeHd h₀ 41 37) (ch2 : CodeHd h₀ 34 30) (ch3 : CodeHd h₀ 136 134)
   {m : Str → Option Value} {jk jq yk jm jt jp jr jl t37 t30 : Obj} {R : Addr} {xs : List Value} {kR : Nat} {ps : Array Value} {zs : List (Addr × Obj)} {P Q' i j WH UN : Int} {u1 u2 u3 u4 tb tw tu : Tok} {rows : List (UInt64 × Int × Int)} {ov : Option Value} {ipos : Pos}
   (hl : @LT.lt Nat _ 134 L) (hz : OffZ L zs) (hzR : ∀ q ∈ zs,@Ne Nat q.1 R) (hR : AllNe R ((L+1+1+1+1+1+1+1+1,jk)::(L+1+1+1+1+1+1+1,jq)::(L+1+1+1+1+1+1,yk)::(L+1+1+1+1+1,jm)::(L+1+1+1+1,jt)::(L+1+1+1,jp)::(L+1+1,jr)::(L+1,jl)::(37,t37)::(30,t30)::(134,tabObj ps)::[])) (TZ : TabZ zs ps) (RZ : RowZ zs xs rows) (hrl : rows.length ≤ 12)
   (F : Fr h₀ L s.heap m) (N : News h₀ L s.heap ((R,listOf (xs).toArray kR)::(L+1+1+1+1+1+1+1+1,jk)::(L+1+1+1+1+1+1+1,jq)::(L+1+1+1+1+1+1,yk)::(L+1+1+1+1+1,jm)::(L+1+1+1+1,jt)::(L+1+1+1,jp)::(L+1+1,jr)::(L+1,jl)::(37,t37)::(30,t30)::(134,tabObj ps)::zs)) (mp : m (Str.ofString "p") = some (.int P u1)) (mq : m (Str.ofString "q") = some (.int Q' u2)) (mi : m (Str.ofString "i") = some (.int i u3)) (mj : m (Str.ofString "j") = some (.int j u4)) (mb' : m (Str.ofString "both") = some (.int (2 * WH + UN) tb))
   (cw : jp.data = .cell (some (.int WH tw))) (cu : jt.data = .cell (some (.int UN tu))) (cr : yk.data = .cell (some (.ref R))) (co : jq.data = .cell ov)
   (hP1 : 1 ≤ P) (hP4 : P ≤ 4) (hQ1 : 1 ≤ Q') (hQ4 : Q' ≤ 4) (hi1 : P - 1 ≤ i) (hi2 : i ≤ P+1) (hj1 : Q' - 1 ≤ j) (hj2 : j ≤ Q'+1) (hW0 : 0 ≤ WH) (hW1 : WH ≤ 30) (hU0 : 1 ≤ UN) (hU1 : UN ≤ 33)
   (fin : ∀ h tk' m' xs' kR' ps' own oP' ov',Fr h₀ L h m' → News h₀ L h ((R,listOf (xs').toArray kR')::(L+1+1+1+1+1+1+1+1,jk)::(L+1+1+1+1+1+1+1,oP')::(L+1+1+1+1+1+1,yk)::(L+1+1+1+1+1,jm)::(L+1+1+1+1,jt)::(L+1+1+1,jp)::(L+1+1,jr)::(L+1,jl)::(37,t37)::(30,t30)::(134,tabObj ps')::(own ++ zs)) → (∀ y,y ≠ Str.ofString "hue" → y ≠ Str.ofString "light" → y ≠ Str.ofString "depth" → m' y = m y) → OffZ L (own ++ zs) → (∀ q ∈ own ++ zs,@Ne Nat q.1 R) → TabZ (own ++ zs) ps' → RowZ (own ++ zs) xs' (stepRow rows P Q' i j) → oP'.data = .cell ov' → (∀ q ∈ own,AllNe q.1 zs) → Q .next { s with heap := h,toks := tk' })
   : wpAny (model pw_ty0047_01 w) (lawA dp un gd L fa) (exec (.If itTest [itB0,itB1,itB2,itB3] [] ipos) (lawEnv L fa)) Q E s := by
  refine wpAny_If ?_
  refine it_test B X T hd hu ch1 ch2 ch3 hl hz hzR hR F N mp mq mi mj hP1 hP4 hQ1 hQ4 hi1 hi2 hj1 hj2 ?_
  intro h1 tk1 F1 N1
  by_cases hd2 : levD (i - P) (j - Q') = 2
  · have hc : (levD (i - P) (j - Q') == 2) = true := by rw [hd2]; rfl
    rw [if_pos hc]
    obtain ⟨b1,b2,b3,hb1,hb2,hb3,hM1,hM2,hM3,CF⟩ := col_pick (W := WH) (U := UN) (by omega) (by omega) (by omega) (by omega) hd2 (base_all hW0 hW1 hU0 hU1)
    have hU : ∀ c,IntMulOk UN c := fun c => IntMulOk.of_left (intBits_le_64 (by omega) (by omega))
    refine it_b0 B X T hd hu ch1 ch2 ch3 hl hz hzR hR F1 N1 mp mq mi mj co ?_
    intro h2 tk2 PT kP oP a1 a2 a3 cP F2 N2 _ _
    have hR2 : AllNe R ((L+1+1+1+1+1+1+1+1,jk)::(L+1+1+1+1+1+1+1,oP)::(L+1+1+1+1+1+1,yk)::(L+1+1+1+1+1,jm)::(L+1+1+1+1,jt)::(L+1+1+1,jp)::(L+1+1,jr)::(L+1,jl)::(37,t37)::(30,t30)::(134,tabObj ps)::[]) := hR
    rw [show i - P + j - Q' = i - P + (j - Q') by omega] at N2
    refine it_b1 B X T hd hu ch1 ch2 ch3 hl hz hzR hR2 F2 N2 cw cu cP hU hb1 hb2 hb3 hM1 hM2 hM3 hW0 hW1 hU0 hU1 CF.hz ?_
    intro h3 tk3 m3 g1 g2 g3 F3 N3 keep mh ml md
    rw [CF.hue] at mh
    have mb3 : m3 (Str.ofString "both") = some (.int (2 * WH + UN) tb) := (keep _ (by decide) (by decide) (by decide)).trans mb'
    refine it_b2 B X T hd hu ch1 ch2 ch3 hl hz hzR hR2 F3 N3 ml md mb3 cu (by omega) (by omega) CF.hL CF.hD CF.hI CF.hI2 ?_
    intro h4 tk4 F4 N4
    have mi3 : m3 (Str.ofString "i") = some (.int i u3) := (keep _ (by decide) (by decide) (by decide)).trans mi
    have mj3 : m3 (Str.ofString "j") = some (.int j u4) := (keep _ (by decide) (by decide) (by decide)).trans mj
    refine it_b3 (hs := rows.map (·.1)) B X T hd hu ch1 ch2 ch3 hl hz hzR hR2 F4 N4 mh mi3 mj3 cr TZ (by rw [List.length_map]; exact RZ.len) (by rw [List.length_map]; omega) RZ.hz ?_
    intro h5 tk5 Ta kR' ps' new F5 N5 hz5 hzR5 TZ5 hd5
    refine wpAny_execs_nil ?_
    have hsub : ∀ q ∈ zs,q ∈ (Ta,triO (hueC (i - P) (j - Q')) g1 (.int i u3) (.int j u4))::(new ++ zs) := fun q hq => .tail _ (List.mem_append_right _ hq)
    refine fin _ _ m3 _ kR' ps' ((Ta,triO (hueC (i - P) (j - Q')) g1 (.int i u3) (.int j u4))::new) oP _ F5 N5 keep hz5 hzR5 TZ5 ?_ cP hd5
    unfold stepRow
    rw [if_pos hd2]
    exact RZ.ins hsub (.head _)
  · have hc : ¬ (levD (i - P) (j - Q') == 2) = true := fun h => hd2 (beq_iff_eq.mp h)
    rw [if_neg hc]
    refine wpAny_execs_nil ?_
    refine fin _ _ m xs kR ps [] jq ov F1 N1 (fun _ _ _ _ => rfl) hz hzR TZ ?_ co (fun _ h => nomatch h)
    unfold stepRow
    rw [if_neg hd2]
    exact RZ
theorem words_a64 : True := by
  k_with_none
  k_with "k_ne" => (refine neN ?_; (try dsimp only); first | (with_reducible assumption) | (refine Ne.symm ?_; with_reducible assumption))
  exact trivial
theorem t19_turn {w : World} {p : Program} {loose : List Str} {mean : ExcName → Option Value} {mg mb : Str → Option Value}
    {dp un : Nat} {gd : Option (List Code)} {L fa : Addr} {A₀ : Around} {base h₀ : Heap} {s : Shared} {Q : Flow → Shared → Prop} {E : Value → Shared → Prop}
    (B : Below A₀ base [] h₀) (X : (Mine.hd.heap_1 w.params).In h₀) (T' : Top p loose mean mg mb h₀) (hd : dp+100 < recursionLimit) (hu : un+600 < cLine)
    (ch1 : CodeHd h₀ 41 37) (ch2 : CodeHd h₀ 34 30) (ch3 : CodeHd h₀ 136 134)
   {m : Str → Option Value} {jk jq yk jm jt jp jr jl o30 o37 : Obj} {R c30 c37 T0 T1 T2 T3 T4 T5 : Addr} {kR : Nat} {ps ps30 ps37 : Array Value} {zs : List (Addr × Obj)}
   (hl : @LT.lt Nat _ 134 L) (hz : OffZ L zs) (hR : AllNe R ((L+1+1+1+1+1+1+1+1,jk)::(L+1+1+1+1+1+1+1,jq)::(L+1+1+1+1+1+1,yk)::(L+1+1+1+1+1,jm)::(L+1+1+1+1,jt)::(L+1+1+1,jp)::(L+1+1,jr)::(L+1,jl)::(37,tabObj ps37)::(30,tabObj ps30)::(134,tabObj ps)::[])) (hzR : ∀ q ∈ zs,@Ne Nat q.1 R) (DM : DmT ps30 ps37 c30 c37 o30 o37) (n30 : AllNe c30 ((R,listOf #[.ref T0,.ref T1,.ref T2,.ref T3,.ref T4,.ref T5] kR)::(L+1+1+1+1+1+1+1+1,jk)::(L+1+1+1+1+1+1+1,jq)::(L+1+1+1+1+1+1,yk)::(L+1+1+1+1+1,jm)::(L+1+1+1+1,jt)::(L+1+1+1,jp)::(L+1+1,jr)::(L+1,jl)::(134,tabObj ps)::zs)) (n37 : AllNe c37 ((R,listOf #[.ref T0,.ref T1,.ref T2,.ref T3,.ref T4,.ref T5] kR)::(L+1+1+1+1+1+1+1+1,jk)::(L+1+1+1+1+1+1+1,jq)::(L+1+1+1+1+1+1,yk)::(L+1+1+1+1+1,jm)::(L+1+1+1+1,jt)::(L+1+1+1,jp)::(L+1+1,jr)::(L+1,jl)::(134,tabObj ps)::zs)) {k : Nat} {T DN : Addr} {dnL : List Value} {kD : Nat} {sc dv fv : Int} {tc td a b : Tok} (tgt : Expr) (htgt : tgt = itTgt19) (hk : k < 6) (F : Fr h₀ L s.heap m) (N : News h₀ L s.heap ((c30,o30)::(c37,o37)::(R,listOf #[.ref T0,.ref T1,.ref T2,.ref T3,.ref T4,.ref T5] kR)::(L+1+1+1+1+1+1+1+1,jk)::(L+1+1+1+1+1+1+1,jq)::(L+1+1+1+1+1+1,yk)::(L+1+1+1+1+1,jm)::(L+1+1+1+1,jt)::(L+1+1+1,jp)::(L+1+1,jr)::(L+1,jl)::(37,tabObj ps37)::(30,tabObj ps30)::(134,tabObj ps)::zs))
   (mc : m (Str.ofString "scale") = some (.int sc tc)) (mdn : m (Str.ofString "downs") = some (.ref DN)) (hDN : (DN,listOf dnL.toArray kD) ∈ zs) (hxd : dnL[((k : Int)).toNat]? = some (.int dv td)) (hTm : (T,tupI (k : Int) fv a b) ∈ zs)
   (hs : sc.natAbs < 2 ^ 4201) (hs2 : 2 ≤ sc) (hd0 : dv ≠ 0) (hdb : dv.natAbs < 2 ^ 50) (hf : fv.natAbs < 2 ^ 4210)
   (fin : ∀ h tk' m' c1 o1 c2 o2,Fr h₀ L h m' → News h₀ L h ((c1,o1)::(c2,o2)::(R,listOf #[.ref T0,.ref T1,.ref T2,.ref T3,.ref T4,.ref T5] kR)::(L+1+1+1+1+1+1+1+1,jk)::(L+1+1+1+1+1+1+1,jq)::(L+1+1+1+1+1+1,yk)::(L+1+1+1+1+1,jm)::(L+1+1+1+1,jt)::(L+1+1+1,jp)::(L+1+1,jr)::(L+1,jl)::(37,tab37 c2)::(30,tab30 c1)::(134,tabObj ps)::zs) → DmL c1 c2 o1 o2 → AllNe c1 ((R,listOf #[.ref T0,.ref T1,.ref T2,.ref T3,.ref T4,.ref T5] kR)::(L+1+1+1+1+1+1+1+1,jk)::(L+1+1+1+1+1+1+1,jq)::(L+1+1+1+1+1+1,yk)::(L+1+1+1+1+1,jm)::(L+1+1+1+1,jt)::(L+1+1+1,jp)::(L+1+1,jr)::(L+1,jl)::(134,tabObj ps)::zs) → AllNe c2 ((R,listOf #[.ref T0,.ref T1,.ref T2,.ref T3,.ref T4,.ref T5] kR)::(L+1+1+1+1+1+1+1+1,jk)::(L+1+1+1+1+1+1+1,jq)::(L+1+1+1+1+1+1,yk)::(L+1+1+1+1+1,jm)::(L+1+1+1+1,jt)::(L+1+1+1,jp)::(L+1+1,jr)::(L+1,jl)::(134,tabObj ps)::zs) → (∀ y,y ≠ Str.ofString "k" → y ≠ Str.ofString "full" → y ≠ Str.ofString "rest" → m' y = m y) → Q .next { s with heap := h,toks := tk' })
   : wpAny (model pw_ty0047_01 w) (lawA dp un gd L fa) (assign tgt (lawEnv L fa) (.ref T)) (fun _ s₂ => wpAny (model pw_ty0047_01 w) (lawA dp un gd L fa) (execs [st19b0,st19b1] (lawEnv L fa)) Q E s₂) E s := by
  w_top off
  subst htgt
  have hT2 := List.mem_append_right ((c30,o30)::(c37,o37)::(R,listOf #[.ref T0,.ref T1,.ref T2,.ref T3,.ref T4,.ref T5] kR)::(L+1+1+1+1+1+1+1+1,jk)::(L+1+1+1+1+1+1+1,jq)::(L+1+1+1+1+1+1,yk)::(L+1+1+1+1+1,jm)::(L+1+1+1+1,jt)::(L+1+1+1,jp)::(L+1+1,jr)::(L+1,jl)::(37,tabObj ps37)::(30,tabObj ps30)::(134,tabObj ps)::[]) hTm
  obtain ⟨m4,m2,q1,q2,q3,q4,q5,q6,q7,q8⟩ := t19_num hs hs2 hd0 hdb hf
  generalize hrest : [st19b0,st19b1] = rst
  k_steps
  subst hrest
  rename Fr h₀ L _ _ => F1
  rename News h₀ L _ _ => N1
  refine t19_b0 B X T' hd hu ch1 ch2 ch3 hl hz hR hzR DM n30 n37 _ hk F1 N1 (by walk_at "k_opq") (by walk_at "k_opq") (by walk_at "k_opq") hDN hxd ?_
  intro h2 tk2 m5 tr F2 N2 keep mr
  refine t19_b1 B X T' hd hu ch1 ch2 ch3 hl hz hR hzR DM n30 n37 hk F2 N2 ((keep _ (by decide)).trans (by walk_at "k_opq")) ((keep _ (by decide)).trans (by walk_at "k_opq")) mr ((keep _ (by decide)).trans (by walk_at "k_opq")) ((keep _ (by decide)).trans (by walk_at "k_opq")) hDN hxd rfl m4 rfl m2 (M := 8544) q1 q2 q3 q4 q5 (.inr ⟨by decide,q6⟩) q7 q8 ?_
  intro h3 tk3 c1 o1 c2 o2 F3 N3 DL k30 k37
  refine wpAny_execs_nil ?_
  exact fin _ _ m5 c1 o1 c2 o2 F3 N3 DL k30 k37 (fun y h1 h2 h3 => (keep y h3).trans ((if_neg h2).trans (if_neg h1)))
namespace C3
def PP_law_n19b (w : World) (p : Program) (loose : List Str) (mean : ExcName → Option Value) (mg : Str → Option Value) (mb : Str → Option Value) (dp : Nat) (un : Nat) (gd : Option (List Code)) (L : Addr) (fa : Addr) (A₀ : Around) (base : Heap) (h₀ : Heap) (s : Shared) (Q : Flow → Shared → Prop) (E : Value → Shared → Prop) (m : Str → Option Value) (jk : Obj) (jq : Obj) (yk : Obj) (jm : Obj) (jt : Obj) (jp : Obj) (jr : Obj) (jl : Obj) (o30 : Obj) (o37 : Obj) (R : Addr) (c30 : Addr) (c37 : Addr) (T0 : Addr) (T1 : Addr) (T2 : Addr) (T3 : Addr) (T4 : Addr) (T5 : Addr) (kR : Nat) (ps : Array Value) (ps30 : Array Value) (ps37 : Array Value) (zs : List (Addr × Obj)) (DN : Addr) (Lst : Addr) (Ta : Addr) (Tb : Addr) (kl : Nat) (dnL : List Value) (kD : Nat) (sc : Int) (d0 : Int) (d3 : Int) (f0 : Int) (f3 : Int) (tc : Tok) (td0 : Tok) (td3 : Tok) (a1 : Tok) (b1 : Tok) (a2 : Tok) (b2 : Tok) (tgt : Expr) : Prop := ∀ (B : Below A₀ base [] h₀) (X : (Mine.hd.heap_1 w.params).In h₀) (T : Top p loose mean mg mb h₀) (hd : dp+100 < recursionLimit) (hu : un+600 < cLine) (ch1 : CodeHd h₀ 41 37) (ch2 : CodeHd h₀ 34 30) (ch3 : CodeHd h₀ 136 134) (hl : @LT.lt Nat _ 134 L) (hz : OffZ L zs) (hR : AllNe R ((L+1+1+1+1+1+1+1+1,jk)::(L+1+1+1+1+1+1+1,jq)::(L+1+1+1+1+1+1,yk)::(L+1+1+1+1+1,jm)::(L+1+1+1+1,jt)::(L+1+1+1,jp)::(L+1+1,jr)::(L+1,jl)::(37,tabObj ps37)::(30,tabObj ps30)::(134,tabObj ps)::[])) (hzR : ∀ q ∈ zs,@Ne Nat q.1 R) (DM : DmT ps30 ps37 c30 c37 o30 o37) (n30 : AllNe c30 ((R,listOf #[.ref T0,.ref T1,.ref T2,.ref T3,.ref T4,.ref T5] kR)::(L+1+1+1+1+1+1+1+1,jk)::(L+1+1+1+1+1+1+1,jq)::(L+1+1+1+1+1+1,yk)::(L+1+1+1+1+1,jm)::(L+1+1+1+1,jt)::(L+1+1+1,jp)::(L+1+1,jr)::(L+1,jl)::(134,tabObj ps)::zs)) (n37 : AllNe c37 ((R,listOf #[.ref T0,.ref T1,.ref T2,.ref T3,.ref T4,.ref T5] kR)::(L+1+1+1+1+1+1+1+1,jk)::(L+1+1+1+1+1+1+1,jq)::(L+1+1+1+1+1+1,yk)::(L+1+1+1+1+1,jm)::(L+1+1+1+1,jt)::(L+1+1+1,jp)::(L+1+1,jr)::(L+1,jl)::(134,tabObj ps)::zs)) {body : List Stmt} (htgt : tgt = itTgt19) (hbody : body = [st19b0,st19b1]) (F : Fr h₀ L s.heap m) (N : News h₀ L s.heap ((Lst,listOf ([.ref Ta,.ref Tb] : List Value).toArray kl)::(Tb,tupI 3 f3 a2 b2)::(Ta,tupI 0 f0 a1 b1)::(c30,o30)::(c37,o37)::(R,listOf #[.ref T0,.ref T1,.ref T2,.ref T3,.ref T4,.ref T5] kR)::(L+1+1+1+1+1+1+1+1,jk)::(L+1+1+1+1+1+1+1,jq)::(L+1+1+1+1+1+1,yk)::(L+1+1+1+1+1,jm)::(L+1+1+1+1,jt)::(L+1+1+1,jp)::(L+1+1,jr)::(L+1,jl)::(37,tabObj ps37)::(30,tabObj ps30)::(134,tabObj ps)::zs)) (kL : AllNe Lst ((Tb,tupI 3 f3 a2 b2)::(Ta,tupI 0 f0 a1 b1)::(c30,o30)::(c37,o37)::(R,listOf #[.ref T0,.ref T1,.ref T2,.ref T3,.ref T4,.ref T5] kR)::(L+1+1+1+1+1+1+1+1,jk)::(L+1+1+1+1+1+1+1,jq)::(L+1+1+1+1+1+1,yk)::(L+1+1+1+1+1,jm)::(L+1+1+1+1,jt)::(L+1+1+1,jp)::(L+1+1,jr)::(L+1,jl)::(37,tabObj ps37)::(30,tabObj ps30)::(134,tabObj ps)::zs)) (kb : AllNe Tb ((Ta,tupI 0 f0 a1 b1)::(c30,o30)::(c37,o37)::(R,listOf #[.ref T0,.ref T1,.ref T2,.ref T3,.ref T4,.ref T5] kR)::(L+1+1+1+1+1+1+1+1,jk)::(L+1+1+1+1+1+1+1,jq)::(L+1+1+1+1+1+1,yk)::(L+1+1+1+1+1,jm)::(L+1+1+1+1,jt)::(L+1+1+1,jp)::(L+1+1,jr)::(L+1,jl)::(37,tabObj ps37)::(30,tabObj ps30)::(134,tabObj ps)::zs)) (ka : AllNe Ta ((c30,o30)::(c37,o37)::(R,listOf #[.ref T0,.ref T1,.ref T2,.ref T3,.ref T4,.ref T5] kR)::(L+1+1+1+1+1+1+1+1,jk)::(L+1+1+1+1+1+1+1,jq)::(L+1+1+1+1+1+1,yk)::(L+1+1+1+1+1,jm)::(L+1+1+1+1,jt)::(L+1+1+1,jp)::(L+1+1,jr)::(L+1,jl)::(37,tabObj ps37)::(30,tabObj ps30)::(134,tabObj ps)::zs)) (mc : m (Str.ofString "scale") = some (.int sc tc)) (mdn : m (Str.ofString "downs") = some (.ref DN)) (hDN : (DN,listOf dnL.toArray kD) ∈ zs) (hx0 : dnL[((0 : Nat) : Int).toNat]? = some (.int d0 td0)) (hx3 : dnL[((3 : Nat) : Int).toNat]? = some (.int d3 td3)) (hs : sc.natAbs < 2 ^ 4201) (hs2 : 2 ≤ sc) (hd0 : d0 ≠ 0) (hdb0 : d0.natAbs < 2 ^ 50) (hd3 : d3 ≠ 0) (hdb3 : d3.natAbs < 2 ^ 50) (hf0 : f0.natAbs < 2 ^ 4210) (hf3 : f3.natAbs < 2 ^ 4210) (fin : ∀ h tk' m' c1 o1 c2 o2,Fr h₀ L h m' → News h₀ L h ((c1,o1)::(c2,o2)::(R,listOf #[.ref T0,.ref T1,.ref T2,.ref T3,.ref T4,.ref T5] kR)::(L+1+1+1+1+1+1+1+1,jk)::(L+1+1+1+1+1+1+1,jq)::(L+1+1+1+1+1+1,yk)::(L+1+1+1+1+1,jm)::(L+1+1+1+1,jt)::(L+1+1+1,jp)::(L+1+1,jr)::(L+1,jl)::(37,tab37 c2)::(30,tab30 c1)::(134,tabObj ps)::zs) → DmL c1 c2 o1 o2 → AllNe c1 ((R,listOf #[.ref T0,.ref T1,.ref T2,.ref T3,.ref T4,.ref T5] kR)::(L+1+1+1+1+1+1+1+1,jk)::(L+1+1+1+1+1+1+1,jq)::(L+1+1+1+1+1+1,yk)::(L+1+1+1+1+1,jm)::(L+1+1+1+1,jt)::(L+1+1+1,jp)::(L+1+1,jr)::(L+1,jl)::(134,tabObj ps)::zs) → AllNe c2 ((R,listOf #[.ref T0,.ref T1,.ref T2,.ref T3,.ref T4,.ref T5] kR)::(L+1+1+1+1+1+1+1+1,jk)::(L+1+1+1+1+1+1+1,jq)::(L+1+1+1+1+1+1,yk)::(L+1+1+1+1+1,jm)::(L+1+1+1+1,jt)::(L+1+1+1,jp)::(L+1+1,jr)::(L+1,jl)::(134,tabObj ps)::zs) → (∀ y,y ≠ Str.ofString "k" → y ≠ Str.ofString "full" → y ≠ Str.ofString "rest" → m' y = m y) → Q .next { s with heap := h,toks := tk' }),
  wpAny (model pw_ty0047_01 w) (lawA dp un gd L fa) (pyIter (.ref Lst)) (fun it s₂ => TurnsAt pw_ty0047_01 w (lawA dp un gd L fa) h₀ (lawEnv L fa) tgt body Q E it s₂) E s
def PP_it_for2 (w : World) (p : Program) (loose : List Str) (mean : ExcName → Option Value) (mg : Str → Option Value) (mb : Str → Option Value) (dp : Nat) (un : Nat) (gd : Option (List Code)) (L : Addr) (fa : Addr) (A₀ : Around) (base : Heap) (h₀ : Heap) (s : Shared) (Q : Flow → Shared → Prop) (E : Value → Shared → Prop) (m : Str → Option Value) (jk : Obj) (jq : Obj) (yk : Obj) (jm : Obj) (jt : Obj) (jp : Obj) (jr : Obj) (jl : Obj) (t37 : Obj) (t30 : Obj) (R : Addr) (xs : List Value) (kR : Nat) (ps : Array Value) (zs : List (Addr × Obj)) (P : Int) (Q' : Int) (i : Int) (WH : Int) (UN : Int) (u1 : Tok) (u2 : Tok) (u3 : Tok) (tb : Tok) (tw : Tok) (tu : Tok) (rows : List (UInt64 × Int × Int)) (ov : Option Value) : Prop := ∀ (B : Below A₀ base [] h₀) (X : (Mine.hd.heap_1 w.params).In h₀) (T : Top p loose mean mg mb h₀) (hd : dp+100 < recursionLimit) (hu : un+600 < cLine) (ch1 : CodeHd h₀ 41 37) (ch2 : CodeHd h₀ 34 30) (ch3 : CodeHd h₀ 136 134) (hE : PassesOwn (model pw_ty0047_01 w) (lawA dp un gd L fa) (lawEnv L fa) E) (hl : @LT.lt Nat _ 134 L) (hz : OffZ L zs) (hzR : ∀ q ∈ zs,@Ne Nat q.1 R) (hR : AllNe R ((L+1+1+1+1+1+1+1+1,jk)::(L+1+1+1+1+1+1+1,jq)::(L+1+1+1+1+1+1,yk)::(L+1+1+1+1+1,jm)::(L+1+1+1+1,jt)::(L+1+1+1,jp)::(L+1+1,jr)::(L+1,jl)::(37,t37)::(30,t30)::(134,tabObj ps)::[])) (TZ : TabZ zs ps) (RZ : RowZ zs xs rows) (hrl : rows.length ≤ 7) (F : Fr h₀ L s.heap m) (N : News h₀ L s.heap ((R,listOf (xs).toArray kR)::(L+1+1+1+1+1+1+1+1,jk)::(L+1+1+1+1+1+1+1,jq)::(L+1+1+1+1+1+1,yk)::(L+1+1+1+1+1,jm)::(L+1+1+1+1,jt)::(L+1+1+1,jp)::(L+1+1,jr)::(L+1,jl)::(37,t37)::(30,t30)::(134,tabObj ps)::zs)) (mp : m (Str.ofString "p") = some (.int P u1)) (mq : m (Str.ofString "q") = some (.int Q' u2)) (mi : m (Str.ofString "i") = some (.int i u3)) (mb' : m (Str.ofString "both") = some (.int (2 * WH + UN) tb)) (cw : jp.data = .cell (some (.int WH tw))) (cu : jt.data = .cell (some (.int UN tu))) (cr : yk.data = .cell (some (.ref R))) (co : jq.data = .cell ov) (hP1 : 1 ≤ P) (hP4 : P ≤ 4) (hQ1 : 1 ≤ Q') (hQ4 : Q' ≤ 4) (hi1 : P - 1 ≤ i) (hi2 : i ≤ P+1) (hW0 : 0 ≤ WH) (hW1 : WH ≤ 30) (hU0 : 1 ≤ UN) (hU1 : UN ≤ 33) (fin : ∀ h tk' m' xs' kR' ps' own oP' ov',Fr h₀ L h m' → News h₀ L h ((R,listOf (xs').toArray kR')::(L+1+1+1+1+1+1+1+1,jk)::(L+1+1+1+1+1+1+1,oP')::(L+1+1+1+1+1+1,yk)::(L+1+1+1+1+1,jm)::(L+1+1+1+1,jt)::(L+1+1+1,jp)::(L+1+1,jr)::(L+1,jl)::(37,t37)::(30,t30)::(134,tabObj ps')::(own ++ zs)) → (∀ y,y ≠ Str.ofString "j" → y ≠ Str.ofString "hue" → y ≠ Str.ofString "light" → y ≠ Str.ofString "depth" → m' y = m y) → OffZ L (own ++ zs) → (∀ q ∈ own ++ zs,@Ne Nat q.1 R) → TabZ (own ++ zs) ps' → RowZ (own ++ zs) xs' (rowJ rows P Q' i) → oP'.data = .cell ov' → (∀ q ∈ own,AllNe q.1 zs) → Q .next { s with heap := h,toks := tk' }),
  wpAny (model pw_ty0047_01 w) (lawA dp un gd L fa) (exec itForJ (lawEnv L fa)) Q E s
def PP_t18_turn (w : World) (p : Program) (loose : List Str) (mean : ExcName → Option Value) (mg : Str → Option Value) (mb : Str → Option Value) (dp : Nat) (un : Nat) (gd : Option (List Code)) (L : Addr) (fa : Addr) (A₀ : Around) (base : Heap) (h₀ : Heap) (s : Shared) (Q : Flow → Shared → Prop) (E : Value → Shared → Prop) (m : Str → Option Value) (jk : Obj) (jq : Obj) (yk : Obj) (jm : Obj) (jt : Obj) (jp : Obj) (jr : Obj) (jl : Obj) (o30 : Obj) (o37 : Obj) (R : Addr) (c30 : Addr) (c37 : Addr) (T0 : Addr) (T1 : Addr) (T2 : Addr) (T3 : Addr) (T4 : Addr) (T5 : Addr) (kR : Nat) (ps : Array Value) (ps30 : Array Value) (ps37 : Array Value) (zs : List (Addr × Obj)) (rest : List Stmt) (TB : Addr) (UP : Addr) (DN : Addr) (NB : Addr) (upL : List Value) (dnL : List Value) (nbL : List Value) (kU : Nat) (kD : Nat) (kN : Nat) (us : List Int) (b : Int) (P : Int) (Q' : Int) (sc : Int) (tc : Tok) (u1 : Tok) (u2 : Tok) (k : Nat) (tk : Tok) : Prop := ∀ (B : Below A₀ base [] h₀) (X : (Mine.hd.heap_1 w.params).In h₀) (T : Top p loose mean mg mb h₀) (hd : dp+100 < recursionLimit) (hu : un+600 < cLine) (ch1 : CodeHd h₀ 41 37) (ch2 : CodeHd h₀ 34 30) (ch3 : CodeHd h₀ 136 134) (hl : @LT.lt Nat _ 134 L) (hz : OffZ L zs) (hR : AllNe R ((L+1+1+1+1+1+1+1+1,jk)::(L+1+1+1+1+1+1+1,jq)::(L+1+1+1+1+1+1,yk)::(L+1+1+1+1+1,jm)::(L+1+1+1+1,jt)::(L+1+1+1,jp)::(L+1+1,jr)::(L+1,jl)::(37,tabObj ps37)::(30,tabObj ps30)::(134,tabObj ps)::[])) (hzR : ∀ q ∈ zs,@Ne Nat q.1 R) (DM : DmT ps30 ps37 c30 c37 o30 o37) (n30 : AllNe c30 ((R,listOf #[.ref T0,.ref T1,.ref T2,.ref T3,.ref T4,.ref T5] kR)::(L+1+1+1+1+1+1+1+1,jk)::(L+1+1+1+1+1+1+1,jq)::(L+1+1+1+1+1+1,yk)::(L+1+1+1+1+1,jm)::(L+1+1+1+1,jt)::(L+1+1+1,jp)::(L+1+1,jr)::(L+1,jl)::(134,tabObj ps)::zs)) (n37 : AllNe c37 ((R,listOf #[.ref T0,.ref T1,.ref T2,.ref T3,.ref T4,.ref T5] kR)::(L+1+1+1+1+1+1+1+1,jk)::(L+1+1+1+1+1+1+1,jq)::(L+1+1+1+1+1+1,yk)::(L+1+1+1+1+1,jm)::(L+1+1+1+1,jt)::(L+1+1+1,jp)::(L+1+1,jr)::(L+1,jl)::(134,tabObj ps)::zs)) (hk : k < 6) (F : Fr h₀ L s.heap m) (N : News h₀ L s.heap ((c30,o30)::(c37,o37)::(R,listOf #[.ref T0,.ref T1,.ref T2,.ref T3,.ref T4,.ref T5] kR)::(L+1+1+1+1+1+1+1+1,jk)::(L+1+1+1+1+1+1+1,jq)::(L+1+1+1+1+1+1,yk)::(L+1+1+1+1+1,jm)::(L+1+1+1+1,jt)::(L+1+1+1,jp)::(L+1+1,jr)::(L+1,jl)::(37,tabObj ps37)::(30,tabObj ps30)::(134,tabObj ps)::zs)) (mk : m (Str.ofString "k") = some (.int (k : Int) tk)) (mc : m (Str.ofString "scale") = some (.int sc tc)) (mp : m (Str.ofString "p") = some (.int P u1)) (mq : m (Str.ofString "q") = some (.int Q' u2)) (mdn : m (Str.ofString "downs") = some (.ref DN)) (mup : m (Str.ofString "ups") = some (.ref UP)) (hP1 : 1 ≤ P) (hP4 : P ≤ 4) (hQ1 : 1 ≤ Q') (hQ4 : Q' ≤ 4) (cr : yk.data = .cell (some (.ref R))) (ct : jm.data = .cell (some (.ref TB))) (cn : jk.data = .cell (some (.ref NB))) (hTB : TabL zs TB us b) (hDN : (DN,listOf dnL.toArray kD) ∈ zs) (hUP : (UP,listOf upL.toArray kU) ∈ zs) (hNB : (NB,listOf nbL.toArray kN) ∈ zs) (hs : sc.natAbs < 2 ^ 4201) (hs2 : 2 ≤ sc) (HT : ∀ k,k < 6 → ∃ (Tk : Addr) (th : Tok) (u v : Value) (uv dv nv : Int) (tu td tn : Tok),([.ref T0,.ref T1,.ref T2,.ref T3,.ref T4,.ref T5] : List Value)[k]? = some (.ref Tk) ∧ (Tk,triO (hueB k) th u v) ∈ zs ∧ upL[k]? = some (.int uv tu) ∧ dnL[k]? = some (.int dv td) ∧ nbL[k]? = some (.int nv tn) ∧
     nbV us b P Q' * uv = nv * dv ∧ uv.natAbs < 2 ^ 60 ∧ dv ≠ 0 ∧ dv.natAbs < 2 ^ 50 ∧ nv.natAbs < 2 ^ 90) (fin : ∀ h tk' m' c1 o1 c2 o2,Fr h₀ L h m' → News h₀ L h ((c1,o1)::(c2,o2)::(R,listOf #[.ref T0,.ref T1,.ref T2,.ref T3,.ref T4,.ref T5] kR)::(L+1+1+1+1+1+1+1+1,jk)::(L+1+1+1+1+1+1+1,jq)::(L+1+1+1+1+1+1,yk)::(L+1+1+1+1+1,jm)::(L+1+1+1+1,jt)::(L+1+1+1,jp)::(L+1+1,jr)::(L+1,jl)::(37,tab37 c2)::(30,tab30 c1)::(134,tabObj ps)::zs) → DmL c1 c2 o1 o2 → AllNe c1 ((R,listOf #[.ref T0,.ref T1,.ref T2,.ref T3,.ref T4,.ref T5] kR)::(L+1+1+1+1+1+1+1+1,jk)::(L+1+1+1+1+1+1+1,jq)::(L+1+1+1+1+1+1,yk)::(L+1+1+1+1+1,jm)::(L+1+1+1+1,jt)::(L+1+1+1,jp)::(L+1+1,jr)::(L+1,jl)::(134,tabObj ps)::zs) → AllNe c2 ((R,listOf #[.ref T0,.ref T1,.ref T2,.ref T3,.ref T4,.ref T5] kR)::(L+1+1+1+1+1+1+1+1,jk)::(L+1+1+1+1+1+1+1,jq)::(L+1+1+1+1+1+1,yk)::(L+1+1+1+1+1,jm)::(L+1+1+1+1,jt)::(L+1+1+1,jp)::(L+1+1,jr)::(L+1,jl)::(134,tabObj ps)::zs) → (∀ y,y ≠ Str.ofString "rest" → m' y = m y) → wpAny (model pw_ty0047_01 w) (lawA dp un gd L fa) (execs rest (lawEnv L fa)) Q E { s with heap := h,toks := tk' }),
  wpAny (model pw_ty0047_01 w) (lawA dp un gd L fa) (execs (st18b0::st18b1::st18b2::rest) (lawEnv L fa)) Q E s
def PP_law_n21 (w : World) (p : Program) (loose : List Str) (mean : ExcName → Option Value) (mg : Str → Option Value) (mb : Str → Option Value) (dp : Nat) (un : Nat) (gd : Option (List Code)) (L : Addr) (fa : Addr) (A₀ : Around) (base : Heap) (h₀ : Heap) (s : Shared) (Q : Flow → Shared → Prop) (E : Value → Shared → Prop) (m : Str → Option Value) (jk : Obj) (jq : Obj) (yk : Obj) (jm : Obj) (jt : Obj) (jp : Obj) (jr : Obj) (jl : Obj) (o30 : Obj) (o37 : Obj) (t37 : Obj) (t30 : Obj) (t134 : Obj) (R : Addr) (c30 : Addr) (c37 : Addr) (T0 : Addr) (T1 : Addr) (T2 : Addr) (T3 : Addr) (T4 : Addr) (T5 : Addr) (kR : Nat) (ps : Array Value) (zs : List (Addr × Obj)) (rest : List Stmt) (ts : Tok) (q0 : Tok) (q1 : Tok) (q2 : Tok) (q3 : Tok) (q4 : Tok) (q5 : Tok) (u0 : Value) (v0 : Value) (u1 : Value) (v1 : Value) (u2 : Value) (v2 : Value) (u3 : Value) (v3 : Value) (u4 : Value) (v4 : Value) (u5 : Value) (v5 : Value) : Prop := ∀ (B : Below A₀ base [] h₀) (X : (Mine.hd.heap_1 w.params).In h₀) (T : Top p loose mean mg mb h₀) (hd : dp+100 < recursionLimit) (hu : un+600 < cLine) (ch1 : CodeHd h₀ 41 37) (ch2 : CodeHd h₀ 34 30) (ch3 : CodeHd h₀ 136 134) (hl : @LT.lt Nat _ 134 L) (hR : AllNe R ((L+1+1+1+1+1+1+1+1,jk)::(L+1+1+1+1+1+1+1,jq)::(L+1+1+1+1+1+1,yk)::(L+1+1+1+1+1,jm)::(L+1+1+1+1,jt)::(L+1+1+1,jp)::(L+1+1,jr)::(L+1,jl)::(37,t37)::(30,t30)::(134,t134)::[])) (n30 : AllNe c30 ((R,listOf #[.ref T0,.ref T1,.ref T2,.ref T3,.ref T4,.ref T5] kR)::(L+1+1+1+1+1+1+1+1,jk)::(L+1+1+1+1+1+1+1,jq)::(L+1+1+1+1+1+1,yk)::(L+1+1+1+1+1,jm)::(L+1+1+1+1,jt)::(L+1+1+1,jp)::(L+1+1,jr)::(L+1,jl)::(134,t134)::[])) (n37 : AllNe c37 ((R,listOf #[.ref T0,.ref T1,.ref T2,.ref T3,.ref T4,.ref T5] kR)::(L+1+1+1+1+1+1+1+1,jk)::(L+1+1+1+1+1+1+1,jq)::(L+1+1+1+1+1+1,yk)::(L+1+1+1+1+1,jm)::(L+1+1+1+1,jt)::(L+1+1+1,jp)::(L+1+1,jr)::(L+1,jl)::(134,t134)::[])) {sd : Int} (hsd : sd = 0 ∨ sd = 1) (Z0 : ZB L R c30 c37 zs ps) (F : Fr h₀ L s.heap m) (N : News h₀ L s.heap ((c30,o30)::(c37,o37)::(R,listOf #[.ref T0,.ref T1,.ref T2,.ref T3,.ref T4,.ref T5] kR)::(L+1+1+1+1+1+1+1+1,jk)::(L+1+1+1+1+1+1+1,jq)::(L+1+1+1+1+1+1,yk)::(L+1+1+1+1+1,jm)::(L+1+1+1+1,jt)::(L+1+1+1,jp)::(L+1+1,jr)::(L+1,jl)::(37,t37)::(30,t30)::(134,tabObj ps)::zs)) (cr : yk.data = .cell (some (.ref R))) (cs : jr.data = .cell (some (.int sd ts))) (a0 : (T0,triO (hueB 0) q0 u0 v0) ∈ zs) (a1 : (T1,triO (hueB 1) q1 u1 v1) ∈ zs) (a2 : (T2,triO (hueB 2) q2 u2 v2) ∈ zs) (a3 : (T3,triO (hueB 3) q3 u3 v3) ∈ zs) (a4 : (T4,triO (hueB 4) q4 u4 v4) ∈ zs) (a5 : (T5,triO (hueB 5) q5 u5 v5) ∈ zs) (fin : ∀ h tk' D zs' ps' t0 t1 t2,(∀ q ∈ zs,q ∈ zs') → (D,listOf #[.int (sd+1) t0,.int (sd+3) t1,.int (sd+5) t2] 3) ∈ zs' → Fr h₀ L h (fun z => if z = Str.ofString "others" then some (.ref D) else m z) → News h₀ L h ((c30,o30)::(c37,o37)::(R,listOf #[.ref T0,.ref T1,.ref T2,.ref T3,.ref T4,.ref T5] kR)::(L+1+1+1+1+1+1+1+1,jk)::(L+1+1+1+1+1+1+1,jq)::(L+1+1+1+1+1+1,yk)::(L+1+1+1+1+1,jm)::(L+1+1+1+1,jt)::(L+1+1+1,jp)::(L+1+1,jr)::(L+1,jl)::(37,t37)::(30,t30)::(134,tabObj ps')::zs') → ZB L R c30 c37 zs' ps' → wpAny (model pw_ty0047_01 w) (lawA dp un gd L fa) (execs rest (lawEnv L fa)) Q E { s with heap := h,toks := tk' }),
  wpAny (model pw_ty0047_01 w) (lawA dp un gd L fa) (execs (lst21::rest) (lawEnv L fa)) Q E s
abbrev VV : Type := (Nat → World) × (Nat → Program) × (Nat → (List Str)) × (Nat → (ExcName → Option Value)) × (Nat → (Str → Option Value)) × (Nat → Nat) × (Nat → (Option (List Code))) × (Nat → Addr) × (Nat → Around) × (Nat → Heap) × (Nat → Shared) × (Nat → (Flow → Shared → Prop)) × (Nat → (Value → Shared → Prop)) × (Nat → Obj) × (Nat → (Array Value)) × (Nat → (List (Addr × Obj))) × (Nat → (List Value)) × (Nat → Int) × (Nat → Tok) × (Nat → Expr) × (Nat → (List (UInt64 × Int × Int))) × (Nat → (Option Value)) × (Nat → (List Stmt)) × (Nat → (List Int)) × (Nat → Value)
noncomputable def pj0 (v : VV) : Nat → World := v.1
noncomputable def pj1 (v : VV) : Nat → Program := v.2.1
noncomputable def pj2 (v : VV) : Nat → (List Str) := v.2.2.1
noncomputable def pj3 (v : VV) : Nat → (ExcName → Option Value) := v.2.2.2.1
noncomputable def pj4 (v : VV) : Nat → (Str → Option Value) := v.2.2.2.2.1
noncomputable def pj5 (v : VV) : Nat → Nat := v.2.2.2.2.2.1
noncomputable def pj6 (v : VV) : Nat → (Option (List Code)) := v.2.2.2.2.2.2.1
noncomputable def pj7 (v : VV) : Nat → Addr := v.2.2.2.2.2.2.2.1
noncomputable def pj8 (v : VV) : Nat → Around := v.2.2.2.2.2.2.2.2.1
noncomputable def pj9 (v : VV) : Nat → Heap := v.2.2.2.2.2.2.2.2.2.1
noncomputable def pj10 (v : VV) : Nat → Shared := v.2.2.2.2.2.2.2.2.2.2.1
noncomputable def pj11 (v : VV) : Nat → (Flow → Shared → Prop) := v.2.2.2.2.2.2.2.2.2.2.2.1
noncomputable def pj12 (v : VV) : Nat → (Value → Shared → Prop) := v.2.2.2.2.2.2.2.2.2.2.2.2.1
noncomputable def pj13 (v : VV) : Nat → Obj := v.2.2.2.2.2.2.2.2.2.2.2.2.2.1
noncomputable def pj14 (v : VV) : Nat → (Array Value) := v.2.2.2.2.2.2.2.2.2.2.2.2.2.2.1
noncomputable def pj15 (v : VV) : Nat → (List (Addr × Obj)) := v.2.2.2.2.2.2.2.2.2.2.2.2.2.2.2.1
noncomputable def pj16 (v : VV) : Nat → (List Value) := v.2.2.2.2.2.2.2.2.2.2.2.2.2.2.2.2.1
noncomputable def pj17 (v : VV) : Nat → Int := v.2.2.2.2.2.2.2.2.2.2.2.2.2.2.2.2.2.1
noncomputable def pj18 (v : VV) : Nat → Tok := v.2.2.2.2.2.2.2.2.2.2.2.2.2.2.2.2.2.2.1
noncomputable def pj19 (v : VV) : Nat → Expr := v.2.2.2.2.2.2.2.2.2.2.2.2.2.2.2.2.2.2.2.1
noncomputable def pj20 (v : VV) : Nat → (List (UInt64 × Int × Int)) := v.2.2.2.2.2.2.2.2.2.2.2.2.2.2.2.2.2.2.2.2.1
noncomputable def pj21 (v : VV) : Nat → (Option Value) := v.2.2.2.2.2.2.2.2.2.2.2.2.2.2.2.2.2.2.2.2.2.1
noncomputable def pj22 (v : VV) : Nat → (List Stmt) := v.2.2.2.2.2.2.2.2.2.2.2.2.2.2.2.2.2.2.2.2.2.2.1
noncomputable def pj23 (v : VV) : Nat → (List Int) := v.2.2.2.2.2.2.2.2.2.2.2.2.2.2.2.2.2.2.2.2.2.2.2.1
noncomputable def pj24 (v : VV) : Nat → Value := v.2.2.2.2.2.2.2.2.2.2.2.2.2.2.2.2.2.2.2.2.2.2.2.2
def GG (v : VV) : Prop := PP_law_n19b (pj0 v 0) (pj1 v 0) (pj2 v 0) (pj3 v 0) (pj4 v 0) (pj4 v 1) (pj5 v 0) (pj5 v 1) (pj6 v 0) (pj7 v 0) (pj7 v 1) (pj8 v 0) (pj9 v 0) (pj9 v 1) (pj10 v 0) (pj11 v 0) (pj12 v 0) (pj4 v 2) (pj13 v 0) (pj13 v 1) (pj13 v 2) (pj13 v 3) (pj13 v 4) (pj13 v 5) (pj13 v 6) (pj13 v 7) (pj13 v 8) (pj13 v 9) (pj7 v 2) (pj7 v 3) (pj7 v 4) (pj7 v 5) (pj7 v 6) (pj7 v 7) (pj7 v 8) (pj7 v 9) (pj7 v 10) (pj5 v 2) (pj14 v 0) (pj14 v 1) (pj14 v 2) (pj15 v 0) (pj7 v 11) (pj7 v 12) (pj7 v 13) (pj7 v 14) (pj5 v 3) (pj16 v 0) (pj5 v 4) (pj17 v 0) (pj17 v 1) (pj17 v 2) (pj17 v 3) (pj17 v 4) (pj18 v 0) (pj18 v 1) (pj18 v 2) (pj18 v 3) (pj18 v 4) (pj18 v 5) (pj18 v 6) (pj19 v 0) ∧
  PP_it_for2 (pj0 v 0) (pj1 v 0) (pj2 v 0) (pj3 v 0) (pj4 v 0) (pj4 v 1) (pj5 v 0) (pj5 v 1) (pj6 v 0) (pj7 v 0) (pj7 v 1) (pj8 v 0) (pj9 v 0) (pj9 v 1) (pj10 v 0) (pj11 v 0) (pj12 v 0) (pj4 v 2) (pj13 v 0) (pj13 v 1) (pj13 v 2) (pj13 v 3) (pj13 v 4) (pj13 v 5) (pj13 v 6) (pj13 v 7) (pj13 v 10) (pj13 v 11) (pj7 v 2) (pj16 v 1) (pj5 v 2) (pj14 v 0) (pj15 v 0) (pj17 v 5) (pj17 v 6) (pj17 v 7) (pj17 v 8) (pj17 v 9) (pj18 v 7) (pj18 v 8) (pj18 v 9) (pj18 v 10) (pj18 v 11) (pj18 v 12) (pj20 v 0) (pj21 v 0) ∧
  PP_t18_turn (pj0 v 0) (pj1 v 0) (pj2 v 0) (pj3 v 0) (pj4 v 0) (pj4 v 1) (pj5 v 0) (pj5 v 1) (pj6 v 0) (pj7 v 0) (pj7 v 1) (pj8 v 0) (pj9 v 0) (pj9 v 1) (pj10 v 0) (pj11 v 0) (pj12 v 0) (pj4 v 2) (pj13 v 0) (pj13 v 1) (pj13 v 2) (pj13 v 3) (pj13 v 4) (pj13 v 5) (pj13 v 6) (pj13 v 7) (pj13 v 8) (pj13 v 9) (pj7 v 2) (pj7 v 3) (pj7 v 4) (pj7 v 5) (pj7 v 6) (pj7 v 7) (pj7 v 8) (pj7 v 9) (pj7 v 10) (pj5 v 2) (pj14 v 0) (pj14 v 1) (pj14 v 2) (pj15 v 0) (pj22 v 0) (pj7 v 15) (pj7 v 16) (pj7 v 11) (pj7 v 17) (pj16 v 2) (pj16 v 0) (pj16 v 3) (pj5 v 5) (pj5 v 4) (pj5 v 6) (pj23 v 0) (pj17 v 10) (pj17 v 5) (pj17 v 6) (pj17 v 0) (pj18 v 0) (pj18 v 7) (pj18 v 8) (pj5 v 7) (pj18 v 13) ∧
  PP_law_n21 (pj0 v 0) (pj1 v 0) (pj2 v 0) (pj3 v 0) (pj4 v 0) (pj4 v 1) (pj5 v 0) (pj5 v 1) (pj6 v 0) (pj7 v 0) (pj7 v 1) (pj8 v 0) (pj9 v 0) (pj9 v 1) (pj10 v 0) (pj11 v 0) (pj12 v 0) (pj4 v 2) (pj13 v 0) (pj13 v 1) (pj13 v 2) (pj13 v 3) (pj13 v 4) (pj13 v 5) (pj13 v 6) (pj13 v 7) (pj13 v 8) (pj13 v 9) (pj13 v 10) (pj13 v 11) (pj13 v 12) (pj7 v 2) (pj7 v 3) (pj7 v 4) (pj7 v 5) (pj7 v 6) (pj7 v 7) (pj7 v 8) (pj7 v 9) (pj7 v 10) (pj5 v 2) (pj14 v 0) (pj15 v 0) (pj22 v 0) (pj18 v 14) (pj18 v 15) (pj18 v 16) (pj18 v 17) (pj18 v 18) (pj18 v 19) (pj18 v 20) (pj24 v 0) (pj24 v 1) (pj24 v 2) (pj24 v 3) (pj24 v 4) (pj24 v 5) (pj24 v 6) (pj24 v 7) (pj24 v 8) (pj24 v 9) (pj24 v 10) (pj24 v 11)
set_option synthInstance.maxSize 4000 in
set_option synthInstance.maxHeartbeats 400000 in
noncomputable def cc : VV := pick (by have h1 := ne_World; have h2 := ne_Around; have h3 := ne_Shared; infer_instance) GG
noncomputable section
@[irreducible] def w := pj0 cc 0
@[irreducible] def p := pj1 cc 0
@[irreducible] def loose := pj2 cc 0
@[irreducible] def mean := pj3 cc 0
@[irreducible] def mg := pj4 cc 0
@[irreducible] def mb := pj4 cc 1
@[irreducible] def dp := pj5 cc 0
@[irreducible] def un := pj5 cc 1
@[irreducible] def gd := pj6 cc 0
@[irreducible] def L := pj7 cc 0
@[irreducible] def fa := pj7 cc 1
@[irreducible] def A₀ := pj8 cc 0
@[irreducible] def base := pj9 cc 0
@[irreducible] def h₀ := pj9 cc 1
@[irreducible] def s := pj10 cc 0
@[irreducible] def Q := pj11 cc 0
@[irreducible] def E := pj12 cc 0
@[irreducible] def m := pj4 cc 2
@[irreducible] def jk := pj13 cc 0
@[irreducible] def jq := pj13 cc 1
@[irreducible] def yk := pj13 cc 2
@[irreducible] def jm := pj13 cc 3
@[irreducible] def jt := pj13 cc 4
@[irreducible] def jp := pj13 cc 5
@[irreducible] def jr := pj13 cc 6
@[irreducible] def jl := pj13 cc 7
@[irreducible] def o30 := pj13 cc 8
@[irreducible] def o37 := pj13 cc 9
@[irreducible] def R := pj7 cc 2
@[irreducible] def c30 := pj7 cc 3
@[irreducible] def c37 := pj7 cc 4
@[irreducible] def T0 := pj7 cc 5
@[irreducible] def T1 := pj7 cc 6
@[irreducible] def T2 := pj7 cc 7
@[irreducible] def T3 := pj7 cc 8
@[irreducible] def T4 := pj7 cc 9
@[irreducible] def T5 := pj7 cc 10
@[irreducible] def kR := pj5 cc 2
@[irreducible] def ps := pj14 cc 0
@[irreducible] def ps30 := pj14 cc 1
@[irreducible] def ps37 := pj14 cc 2
@[irreducible] def zs := pj15 cc 0
@[irreducible] def DN := pj7 cc 11
@[irreducible] def Lst := pj7 cc 12
@[irreducible] def Ta := pj7 cc 13
@[irreducible] def Tb := pj7 cc 14
@[irreducible] def kl := pj5 cc 3
@[irreducible] def dnL := pj16 cc 0
@[irreducible] def kD := pj5 cc 4
@[irreducible] def sc := pj17 cc 0
@[irreducible] def d0 := pj17 cc 1
@[irreducible] def d3 := pj17 cc 2
@[irreducible] def f0 := pj17 cc 3
@[irreducible] def f3 := pj17 cc 4
@[irreducible] def tc := pj18 cc 0
@[irreducible] def td0 := pj18 cc 1
@[irreducible] def td3 := pj18 cc 2
@[irreducible] def a1 := pj18 cc 3
@[irreducible] def b1 := pj18 cc 4
@[irreducible] def a2 := pj18 cc 5
@[irreducible] def b2 := pj18 cc 6
@[irreducible] def tgt := pj19 cc 0
@[irreducible] def t37 := pj13 cc 10
@[irreducible] def t30 := pj13 cc 11
@[irreducible] def xs := pj16 cc 1
@[irreducible] def P := pj17 cc 5
@[irreducible] def Q' := pj17 cc 6
@[irreducible] def i := pj17 cc 7
@[irreducible] def WH := pj17 cc 8
@[irreducible] def UN := pj17 cc 9
@[irreducible] def u1 := pj18 cc 7
@[irreducible] def u2 := pj18 cc 8
@[irreducible] def u3 := pj18 cc 9
@[irreducible] def tb := pj18 cc 10
@[irreducible] def tw := pj18 cc 11
@[irreducible] def tu := pj18 cc 12
@[irreducible] def rows := pj20 cc 0
@[irreducible] def ov := pj21 cc 0
@[irreducible] def rest := pj22 cc 0
@[irreducible] def TB := pj7 cc 15
@[irreducible] def UP := pj7 cc 16
@[irreducible] def NB := pj7 cc 17
@[irreducible] def upL := pj16 cc 2
@[irreducible] def nbL := pj16 cc 3
@[irreducible] def kU := pj5 cc 5
@[irreducible] def kN := pj5 cc 6
@[irreducible] def us := pj23 cc 0
@[irreducible] def b := pj17 cc 10
@[irreducible] def k := pj5 cc 7
@[irreducible] def tk := pj18 cc 13
@[irreducible] def t134 := pj13 cc 12
@[irreducible] def ts := pj18 cc 14
@[irreducible] def q0 := pj18 cc 15
@[irreducible] def q1 := pj18 cc 16
@[irreducible] def q2 := pj18 cc 17
@[irreducible] def q3 := pj18 cc 18
@[irreducible] def q4 := pj18 cc 19
@[irreducible] def q5 := pj18 cc 20
@[irreducible] def u0 := pj24 cc 0
@[irreducible] def v0 := pj24 cc 1
@[irreducible] def v1 := pj24 cc 3
@[irreducible] def v2 := pj24 cc 5
@[irreducible] def v3 := pj24 cc 7
@[irreducible] def u4 := pj24 cc 8
@[irreducible] def v4 := pj24 cc 9
@[irreducible] def u5 := pj24 cc 10
@[irreducible] def v5 := pj24 cc 11
end
theorem core_law_n19b : PP_law_n19b w p loose mean mg mb dp un gd L fa A₀ base h₀ s Q E m jk jq yk jm jt jp jr jl o30 o37 R c30 c37 T0 T1 T2 T3 T4 T5 kR ps ps30 ps37 zs DN Lst Ta Tb kl dnL kD sc d0 d3 f0 f3 tc td0 td3 a1 b1 a2 b2 tgt := by
  intro B X T hd hu ch1 ch2 ch3 hl hz hR hzR DM n30 n37 body htgt hbody F N kL kb ka mc mdn hDN hx0 hx3 hs hs2 hd0 hdb0 hd3 hdb3 hf0 hf3 fin
  subst hbody
  refine iter_listTurns (vs := [.ref Ta,.ref Tb]) (n := kl) rfl F N (.head _) rfl rfl ?_
  intro I lI
  have hI : AllNe I ((Lst,listOf ([.ref Ta,.ref Tb] : List Value).toArray kl)::(Tb,tupI 3 f3 a2 b2)::(Ta,tupI 0 f0 a1 b1)::(c30,o30)::(c37,o37)::(R,listOf #[.ref T0,.ref T1,.ref T2,.ref T3,.ref T4,.ref T5] kR)::(L+1+1+1+1+1+1+1+1,jk)::(L+1+1+1+1+1+1+1,jq)::(L+1+1+1+1+1+1,yk)::(L+1+1+1+1+1,jm)::(L+1+1+1+1,jt)::(L+1+1+1,jp)::(L+1+1,jr)::(L+1,jl)::(37,tabObj ps37)::(30,tabObj ps30)::(134,tabObj ps)::zs) := allNe_of fun q hq => Nat.ne_of_lt (lI q hq)
  show ItemsRest _ _ _ _ _ _ _ _ _ _ _ _ [.val (.ref Ta),.val (.ref Tb)] _ _
  have hzT : OffZ L ((Lst,listOf ([.ref Ta,.ref Tb] : List Value).toArray kl)::(Tb,tupI 3 f3 a2 b2)::(Ta,tupI 0 f0 a1 b1)::zs) := OffZ.cons (ys := []) (show AllNe Lst ((L+1+1+1+1+1+1+1+1,jk)::(L+1+1+1+1+1+1+1,jq)::(L+1+1+1+1+1+1,yk)::(L+1+1+1+1+1,jm)::(L+1+1+1+1,jt)::(L+1+1+1,jp)::(L+1+1,jr)::(L+1,jl)::(37,tabObj ps37)::(30,tabObj ps30)::(134,tabObj ps)::[]) from AllNe.sub kL (by walk_at "z_sub")) (OffZ.cons (ys := []) (show AllNe Tb ((L+1+1+1+1+1+1+1+1,jk)::(L+1+1+1+1+1+1+1,jq)::(L+1+1+1+1+1+1,yk)::(L+1+1+1+1+1,jm)::(L+1+1+1+1,jt)::(L+1+1+1,jp)::(L+1+1,jr)::(L+1,jl)::(37,tabObj ps37)::(30,tabObj ps30)::(134,tabObj ps)::[]) from AllNe.sub kb (by walk_at "z_sub")) (OffZ.cons (ys := []) (show AllNe Ta ((L+1+1+1+1+1+1+1+1,jk)::(L+1+1+1+1+1+1+1,jq)::(L+1+1+1+1+1+1,yk)::(L+1+1+1+1+1,jm)::(L+1+1+1+1,jt)::(L+1+1+1,jp)::(L+1+1,jr)::(L+1,jl)::(37,tabObj ps37)::(30,tabObj ps30)::(134,tabObj ps)::[]) from AllNe.sub ka (by walk_at "z_sub")) hz))
  have hzTR : ∀ q ∈ ((Lst,listOf ([.ref Ta,.ref Tb] : List Value).toArray kl)::(Tb,tupI 3 f3 a2 b2)::(Ta,tupI 0 f0 a1 b1)::zs),@Ne Nat q.1 R := fun q hq => by
    rcases List.mem_cons.mp hq with rfl | hq
    · exact Ne.symm (AllNe.mem (p := (R,listOf #[.ref T0,.ref T1,.ref T2,.ref T3,.ref T4,.ref T5] kR)) kL (by k_mem))
    · rcases List.mem_cons.mp hq with rfl | hq
      · exact Ne.symm (AllNe.mem (p := (R,listOf #[.ref T0,.ref T1,.ref T2,.ref T3,.ref T4,.ref T5] kR)) kb (by k_mem))
      · rcases List.mem_cons.mp hq with rfl | hq
        · exact Ne.symm (AllNe.mem (p := (R,listOf #[.ref T0,.ref T1,.ref T2,.ref T3,.ref T4,.ref T5] kR)) ka (by k_mem))
        · exact hzR q hq
  have hIZ : ∀ o : Obj,OffZ L ((I,o)::((Lst,listOf ([.ref Ta,.ref Tb] : List Value).toArray kl)::(Tb,tupI 3 f3 a2 b2)::(Ta,tupI 0 f0 a1 b1)::zs)) := fun o => OffZ.cons (ys := []) (show AllNe I ((L+1+1+1+1+1+1+1+1,jk)::(L+1+1+1+1+1+1+1,jq)::(L+1+1+1+1+1+1,yk)::(L+1+1+1+1+1,jm)::(L+1+1+1+1,jt)::(L+1+1+1,jp)::(L+1+1,jr)::(L+1,jl)::(37,tabObj ps37)::(30,tabObj ps30)::(134,tabObj ps)::[]) from AllNe.sub hI (by walk_at "z_sub")) hzT
  have hIR : @Ne Nat I R := Ne.symm (AllNe.mem (p := (R,listOf #[.ref T0,.ref T1,.ref T2,.ref T3,.ref T4,.ref T5] kR)) hI (by k_mem))
  have hIT : ∀ q ∈ ((Lst,listOf ([.ref Ta,.ref Tb] : List Value).toArray kl)::(Tb,tupI 3 f3 a2 b2)::(Ta,tupI 0 f0 a1 b1)::zs),@Ne Nat q.1 I := fun q hq => by
    rcases List.mem_cons.mp hq with rfl | hq
    · exact AllNe.mem hI (.head _)
    · rcases List.mem_cons.mp hq with rfl | hq
      · exact AllNe.mem hI (.tail _ (.head _))
      · rcases List.mem_cons.mp hq with rfl | hq
        · exact AllNe.mem hI (.tail _ (.tail _ (.head _)))
        · exact AllNe.mem hI (.tail _ (.tail _ (.tail _ (List.mem_append_right ((c30,o30)::(c37,o37)::(R,listOf #[.ref T0,.ref T1,.ref T2,.ref T3,.ref T4,.ref T5] kR)::(L+1+1+1+1+1+1+1+1,jk)::(L+1+1+1+1+1+1+1,jq)::(L+1+1+1+1+1+1,yk)::(L+1+1+1+1+1,jm)::(L+1+1+1+1,jt)::(L+1+1+1,jp)::(L+1+1,jr)::(L+1,jl)::(37,tabObj ps37)::(30,tabObj ps30)::(134,tabObj ps)::[]) hq))))
  have hIRM : ∀ q ∈ ((R,listOf #[.ref T0,.ref T1,.ref T2,.ref T3,.ref T4,.ref T5] kR)::(L+1+1+1+1+1+1+1+1,jk)::(L+1+1+1+1+1+1+1,jq)::(L+1+1+1+1+1+1,yk)::(L+1+1+1+1+1,jm)::(L+1+1+1+1,jt)::(L+1+1+1,jp)::(L+1+1,jr)::(L+1,jl)::(134,tabObj ps)::[] : List (Addr × Obj)),@Ne Nat q.1 I := fun q hq => AllNe.mem hI (.tail _ (.tail _ (.tail _ (inM q hq))))
  have up : ∀ {d : Addr} {o od : Obj},(d,od) ∈ ((c30,o30)::(c37,o37)::(R,listOf #[.ref T0,.ref T1,.ref T2,.ref T3,.ref T4,.ref T5] kR)::(L+1+1+1+1+1+1+1+1,jk)::(L+1+1+1+1+1+1+1,jq)::(L+1+1+1+1+1+1,yk)::(L+1+1+1+1+1,jm)::(L+1+1+1+1,jt)::(L+1+1+1,jp)::(L+1+1,jr)::(L+1,jl)::(37,tabObj ps37)::(30,tabObj ps30)::(134,tabObj ps)::zs : List (Addr × Obj)) → AllNe d ((R,listOf #[.ref T0,.ref T1,.ref T2,.ref T3,.ref T4,.ref T5] kR)::(L+1+1+1+1+1+1+1+1,jk)::(L+1+1+1+1+1+1+1,jq)::(L+1+1+1+1+1+1,yk)::(L+1+1+1+1+1,jm)::(L+1+1+1+1,jt)::(L+1+1+1,jp)::(L+1+1,jr)::(L+1,jl)::(134,tabObj ps)::zs) → AllNe d ((R,listOf #[.ref T0,.ref T1,.ref T2,.ref T3,.ref T4,.ref T5] kR)::(L+1+1+1+1+1+1+1+1,jk)::(L+1+1+1+1+1+1+1,jq)::(L+1+1+1+1+1+1,yk)::(L+1+1+1+1+1,jm)::(L+1+1+1+1,jt)::(L+1+1+1,jp)::(L+1+1,jr)::(L+1,jl)::(134,tabObj ps)::((I,o)::((Lst,listOf ([.ref Ta,.ref Tb] : List Value).toArray kl)::(Tb,tupI 3 f3 a2 b2)::(Ta,tupI 0 f0 a1 b1)::zs))) := fun {d o od} hm h => allNe_of fun q hq => by
    rcases List.mem_append.mp (show q ∈ ((R,listOf #[.ref T0,.ref T1,.ref T2,.ref T3,.ref T4,.ref T5] kR)::(L+1+1+1+1+1+1+1+1,jk)::(L+1+1+1+1+1+1+1,jq)::(L+1+1+1+1+1+1,yk)::(L+1+1+1+1+1,jm)::(L+1+1+1+1,jt)::(L+1+1+1,jp)::(L+1+1,jr)::(L+1,jl)::(134,tabObj ps)::[] : List (Addr × Obj)) ++ ((I,o)::((Lst,listOf ([.ref Ta,.ref Tb] : List Value).toArray kl)::(Tb,tupI 3 f3 a2 b2)::(Ta,tupI 0 f0 a1 b1)::zs)) from hq) with hq | hq
    · exact AllNe.mem h (List.mem_append_left zs hq)
    · rcases List.mem_cons.mp hq with rfl | hq
      · exact Ne.symm (AllNe.mem (p := (d,od)) hI (.tail _ (.tail _ (.tail _ hm))))
      · rcases List.mem_cons.mp hq with rfl | hq
        · exact Ne.symm (AllNe.mem (p := (d,od)) kL (.tail _ (.tail _ hm)))
        · rcases List.mem_cons.mp hq with rfl | hq
          · exact Ne.symm (AllNe.mem (p := (d,od)) kb (.tail _ hm))
          · rcases List.mem_cons.mp hq with rfl | hq
            · exact Ne.symm (AllNe.mem (p := (d,od)) ka hm)
            · exact AllNe.mem h (List.mem_append_right ((R,listOf #[.ref T0,.ref T1,.ref T2,.ref T3,.ref T4,.ref T5] kR)::(L+1+1+1+1+1+1+1+1,jk)::(L+1+1+1+1+1+1+1,jq)::(L+1+1+1+1+1+1,yk)::(L+1+1+1+1+1,jm)::(L+1+1+1+1,jt)::(L+1+1+1,jp)::(L+1+1,jr)::(L+1,jl)::(134,tabObj ps)::[]) hq)
  have down : ∀ {d : Addr} {o : Obj},AllNe d ((R,listOf #[.ref T0,.ref T1,.ref T2,.ref T3,.ref T4,.ref T5] kR)::(L+1+1+1+1+1+1+1+1,jk)::(L+1+1+1+1+1+1+1,jq)::(L+1+1+1+1+1+1,yk)::(L+1+1+1+1+1,jm)::(L+1+1+1+1,jt)::(L+1+1+1,jp)::(L+1+1,jr)::(L+1,jl)::(134,tabObj ps)::((I,o)::((Lst,listOf ([.ref Ta,.ref Tb] : List Value).toArray kl)::(Tb,tupI 3 f3 a2 b2)::(Ta,tupI 0 f0 a1 b1)::zs))) → AllNe d ((R,listOf #[.ref T0,.ref T1,.ref T2,.ref T3,.ref T4,.ref T5] kR)::(L+1+1+1+1+1+1+1+1,jk)::(L+1+1+1+1+1+1+1,jq)::(L+1+1+1+1+1+1,yk)::(L+1+1+1+1+1,jm)::(L+1+1+1+1,jt)::(L+1+1+1,jp)::(L+1+1,jr)::(L+1,jl)::(134,tabObj ps)::zs) ∧ @Ne Nat d I := fun {d o} h => ⟨allNe_of fun q hq => by
    rcases List.mem_append.mp (show q ∈ ((R,listOf #[.ref T0,.ref T1,.ref T2,.ref T3,.ref T4,.ref T5] kR)::(L+1+1+1+1+1+1+1+1,jk)::(L+1+1+1+1+1+1+1,jq)::(L+1+1+1+1+1+1,yk)::(L+1+1+1+1+1,jm)::(L+1+1+1+1,jt)::(L+1+1+1,jp)::(L+1+1,jr)::(L+1,jl)::(134,tabObj ps)::[] : List (Addr × Obj)) ++ zs from hq) with hq | hq
    · exact AllNe.mem h (List.mem_append_left ((I,o)::((Lst,listOf ([.ref Ta,.ref Tb] : List Value).toArray kl)::(Tb,tupI 3 f3 a2 b2)::(Ta,tupI 0 f0 a1 b1)::zs)) hq)
    · exact AllNe.mem h (List.mem_append_right ((R,listOf #[.ref T0,.ref T1,.ref T2,.ref T3,.ref T4,.ref T5] kR)::(L+1+1+1+1+1+1+1+1,jk)::(L+1+1+1+1+1+1+1,jq)::(L+1+1+1+1+1+1,yk)::(L+1+1+1+1+1,jm)::(L+1+1+1+1,jt)::(L+1+1+1,jp)::(L+1+1,jr)::(L+1,jl)::(134,tabObj ps)::[]) (.tail _ (.tail _ (.tail _ (.tail _ hq))))),Ne.symm (AllNe.mem (p := (I,o)) h (List.mem_append_right ((R,listOf #[.ref T0,.ref T1,.ref T2,.ref T3,.ref T4,.ref T5] kR)::(L+1+1+1+1+1+1+1+1,jk)::(L+1+1+1+1+1+1+1,jq)::(L+1+1+1+1+1+1,yk)::(L+1+1+1+1+1,jm)::(L+1+1+1+1,jt)::(L+1+1+1,jp)::(L+1+1,jr)::(L+1,jl)::(134,tabObj ps)::[]) (.head _)))⟩
  refine ItemsRest.val ?_
  intro h1 tk1 F1 o ho N1
  have N1' : News h₀ L h1 ((c30,o30)::(c37,o37)::(R,listOf #[.ref T0,.ref T1,.ref T2,.ref T3,.ref T4,.ref T5] kR)::(L+1+1+1+1+1+1+1+1,jk)::(L+1+1+1+1+1+1+1,jq)::(L+1+1+1+1+1+1,yk)::(L+1+1+1+1+1,jm)::(L+1+1+1+1,jt)::(L+1+1+1,jp)::(L+1+1,jr)::(L+1,jl)::(37,tabObj ps37)::(30,tabObj ps30)::(134,tabObj ps)::((I,o)::((Lst,listOf ([.ref Ta,.ref Tb] : List Value).toArray kl)::(Tb,tupI 3 f3 a2 b2)::(Ta,tupI 0 f0 a1 b1)::zs))) := cb_drop N1 (fun q hq => by
    rcases List.mem_append.mp (show q ∈ ((c30,o30)::(c37,o37)::(R,listOf #[.ref T0,.ref T1,.ref T2,.ref T3,.ref T4,.ref T5] kR)::(L+1+1+1+1+1+1+1+1,jk)::(L+1+1+1+1+1+1+1,jq)::(L+1+1+1+1+1+1,yk)::(L+1+1+1+1+1,jm)::(L+1+1+1+1,jt)::(L+1+1+1,jp)::(L+1+1,jr)::(L+1,jl)::(37,tabObj ps37)::(30,tabObj ps30)::(134,tabObj ps)::[] : List (Addr × Obj)) ++ ((I,o)::((Lst,listOf ([.ref Ta,.ref Tb] : List Value).toArray kl)::(Tb,tupI 3 f3 a2 b2)::(Ta,tupI 0 f0 a1 b1)::zs)) from hq) with hq | hq
    · exact .tail _ (.tail _ (.tail _ (.tail _ (List.mem_append_left zs hq))))
    · rcases List.mem_cons.mp hq with rfl | hq
      · exact .head _
      · rcases List.mem_cons.mp hq with rfl | hq
        · exact .tail _ (.head _)
        · rcases List.mem_cons.mp hq with rfl | hq
          · exact .tail _ (.tail _ (.head _))
          · rcases List.mem_cons.mp hq with rfl | hq
            · exact .tail _ (.tail _ (.tail _ (.head _)))
            · exact .tail _ (.tail _ (.tail _ (.tail _ (List.mem_append_right ((c30,o30)::(c37,o37)::(R,listOf #[.ref T0,.ref T1,.ref T2,.ref T3,.ref T4,.ref T5] kR)::(L+1+1+1+1+1+1+1+1,jk)::(L+1+1+1+1+1+1+1,jq)::(L+1+1+1+1+1+1,yk)::(L+1+1+1+1+1,jm)::(L+1+1+1+1,jt)::(L+1+1+1,jp)::(L+1+1,jr)::(L+1,jl)::(37,tabObj ps37)::(30,tabObj ps30)::(134,tabObj ps)::[]) hq)))))
  refine t19_turn (k := 0) (zs := ((I,o)::((Lst,listOf ([.ref Ta,.ref Tb] : List Value).toArray kl)::(Tb,tupI 3 f3 a2 b2)::(Ta,tupI 0 f0 a1 b1)::zs))) B X T hd hu ch1 ch2 ch3 hl (hIZ o) hR (fun q hq => by
    rcases List.mem_cons.mp hq with rfl | hq
    · exact hIR
    · exact hzTR q hq) DM (up (.head _) n30) (up (.tail _ (.head _)) n37) _ htgt (by decide) F1 N1' mc mdn (.tail _ (.tail _ (.tail _ (.tail _ hDN)))) hx0 (.tail _ (.tail _ (.tail _ (.head _)))) hs hs2 hd0 hdb0 hf0 ?_
  intro h2 tk2 m2 c1 o1 c2 o2 F2 N2 DL2 k30 k37 keep2
  obtain ⟨k30',i30⟩ := down k30
  obtain ⟨k37',i37⟩ := down k37
  refine ⟨h2,tk2,m2,(c1,o1)::(c2,o2)::(R,listOf #[.ref T0,.ref T1,.ref T2,.ref T3,.ref T4,.ref T5] kR)::(L+1+1+1+1+1+1+1+1,jk)::(L+1+1+1+1+1+1+1,jq)::(L+1+1+1+1+1+1,yk)::(L+1+1+1+1+1,jm)::(L+1+1+1+1,jt)::(L+1+1+1,jp)::(L+1+1,jr)::(L+1,jl)::(37,tab37 c2)::(30,tab30 c1)::(134,tabObj ps)::((Lst,listOf ([.ref Ta,.ref Tb] : List Value).toArray kl)::(Tb,tupI 3 f3 a2 b2)::(Ta,tupI 0 f0 a1 b1)::zs),rfl,F2,cb_drop N2 (fun q hq => by
    rcases List.mem_cons.mp hq with rfl | hq
    · exact List.mem_append_right ((c1,o1)::(c2,o2)::(R,listOf #[.ref T0,.ref T1,.ref T2,.ref T3,.ref T4,.ref T5] kR)::(L+1+1+1+1+1+1+1+1,jk)::(L+1+1+1+1+1+1+1,jq)::(L+1+1+1+1+1+1,yk)::(L+1+1+1+1+1,jm)::(L+1+1+1+1,jt)::(L+1+1+1,jp)::(L+1+1,jr)::(L+1,jl)::(37,tab37 c2)::(30,tab30 c1)::(134,tabObj ps)::[]) (.head _)
    · rcases List.mem_append.mp (show q ∈ ((c1,o1)::(c2,o2)::(R,listOf #[.ref T0,.ref T1,.ref T2,.ref T3,.ref T4,.ref T5] kR)::(L+1+1+1+1+1+1+1+1,jk)::(L+1+1+1+1+1+1+1,jq)::(L+1+1+1+1+1+1,yk)::(L+1+1+1+1+1,jm)::(L+1+1+1+1,jt)::(L+1+1+1,jp)::(L+1+1,jr)::(L+1,jl)::(37,tab37 c2)::(30,tab30 c1)::(134,tabObj ps)::[] : List (Addr × Obj)) ++ ((Lst,listOf ([.ref Ta,.ref Tb] : List Value).toArray kl)::(Tb,tupI 3 f3 a2 b2)::(Ta,tupI 0 f0 a1 b1)::zs) from hq) with hq | hq
      · exact List.mem_append_left ((I,o)::((Lst,listOf ([.ref Ta,.ref Tb] : List Value).toArray kl)::(Tb,tupI 3 f3 a2 b2)::(Ta,tupI 0 f0 a1 b1)::zs)) hq
      · exact List.mem_append_right ((c1,o1)::(c2,o2)::(R,listOf #[.ref T0,.ref T1,.ref T2,.ref T3,.ref T4,.ref T5] kR)::(L+1+1+1+1+1+1+1+1,jk)::(L+1+1+1+1+1+1+1,jq)::(L+1+1+1+1+1+1,yk)::(L+1+1+1+1+1,jm)::(L+1+1+1+1,jt)::(L+1+1+1,jp)::(L+1+1,jr)::(L+1,jl)::(37,tab37 c2)::(30,tab30 c1)::(134,tabObj ps)::[]) (.tail _ hq)),?_,⟨⟨List.mem_append_right ((c1,o1)::(c2,o2)::(R,listOf #[.ref T0,.ref T1,.ref T2,.ref T3,.ref T4,.ref T5] kR)::(L+1+1+1+1+1+1+1+1,jk)::(L+1+1+1+1+1+1+1,jq)::(L+1+1+1+1+1+1,yk)::(L+1+1+1+1+1,jm)::(L+1+1+1+1,jt)::(L+1+1+1,jp)::(L+1+1,jr)::(L+1,jl)::(37,tab37 c2)::(30,tab30 c1)::(134,tabObj ps)::[]) (.head _),trivial⟩,?_⟩⟩
  · intro q hq r hr
    rw [List.mem_singleton.mp hr]
    rcases List.mem_cons.mp hq with rfl | hq
    · exact i30
    · rcases List.mem_cons.mp hq with rfl | hq
      · exact i37
      · rcases List.mem_append.mp (show q ∈ ((R,listOf #[.ref T0,.ref T1,.ref T2,.ref T3,.ref T4,.ref T5] kR)::(L+1+1+1+1+1+1+1+1,jk)::(L+1+1+1+1+1+1+1,jq)::(L+1+1+1+1+1+1,yk)::(L+1+1+1+1+1,jm)::(L+1+1+1+1,jt)::(L+1+1+1,jp)::(L+1+1,jr)::(L+1,jl)::(37,tab37 c2)::(30,tab30 c1)::(134,tabObj ps)::[] : List (Addr × Obj)) ++ ((Lst,listOf ([.ref Ta,.ref Tb] : List Value).toArray kl)::(Tb,tupI 3 f3 a2 b2)::(Ta,tupI 0 f0 a1 b1)::zs) from hq) with hq | hq
        · exact AllNe.mem (show AllNe I ((R,listOf #[.ref T0,.ref T1,.ref T2,.ref T3,.ref T4,.ref T5] kR)::(L+1+1+1+1+1+1+1+1,jk)::(L+1+1+1+1+1+1+1,jq)::(L+1+1+1+1+1+1,yk)::(L+1+1+1+1+1,jm)::(L+1+1+1+1,jt)::(L+1+1+1,jp)::(L+1+1,jr)::(L+1,jl)::(37,tab37 c2)::(30,tab30 c1)::(134,tabObj ps)::[]) from AllNe.sub (show AllNe I ((Lst,listOf ([.ref Ta,.ref Tb] : List Value).toArray kl)::(Tb,tupI 3 f3 a2 b2)::(Ta,tupI 0 f0 a1 b1)::(c30,o30)::(c37,o37)::(R,listOf #[.ref T0,.ref T1,.ref T2,.ref T3,.ref T4,.ref T5] kR)::(L+1+1+1+1+1+1+1+1,jk)::(L+1+1+1+1+1+1+1,jq)::(L+1+1+1+1+1+1,yk)::(L+1+1+1+1+1,jm)::(L+1+1+1+1,jt)::(L+1+1+1,jp)::(L+1+1,jr)::(L+1,jl)::(37,tab37 c2)::(30,tab30 c1)::(134,tabObj ps)::zs) from hI) (by walk_at "z_sub")) hq
        · exact hIT q hq
  refine ItemsRest.val ?_
  intro h3 tk3 F3 o' ho' N3
  refine t19_turn (k := 3) (zs := ((I,o')::((Lst,listOf ([.ref Ta,.ref Tb] : List Value).toArray kl)::(Tb,tupI 3 f3 a2 b2)::(Ta,tupI 0 f0 a1 b1)::zs))) B X T hd hu ch1 ch2 ch3 hl (hIZ o') (show AllNe R ((L+1+1+1+1+1+1+1+1,jk)::(L+1+1+1+1+1+1+1,jq)::(L+1+1+1+1+1+1,yk)::(L+1+1+1+1+1,jm)::(L+1+1+1+1,jt)::(L+1+1+1,jp)::(L+1+1,jr)::(L+1,jl)::(37,tab37 c2)::(30,tab30 c1)::(134,tabObj ps)::[]) from hR) (fun q hq => by
    rcases List.mem_cons.mp hq with rfl | hq
    · exact hIR
    · exact hzTR q hq) DL2 k30 k37 _ htgt (by decide) F3 (cb_drop N3 fun q hq => by
    rcases List.mem_append.mp (show q ∈ ((c1,o1)::(c2,o2)::(R,listOf #[.ref T0,.ref T1,.ref T2,.ref T3,.ref T4,.ref T5] kR)::(L+1+1+1+1+1+1+1+1,jk)::(L+1+1+1+1+1+1+1,jq)::(L+1+1+1+1+1+1,yk)::(L+1+1+1+1+1,jm)::(L+1+1+1+1,jt)::(L+1+1+1,jp)::(L+1+1,jr)::(L+1,jl)::(37,tab37 c2)::(30,tab30 c1)::(134,tabObj ps)::[] : List (Addr × Obj)) ++ ((I,o')::((Lst,listOf ([.ref Ta,.ref Tb] : List Value).toArray kl)::(Tb,tupI 3 f3 a2 b2)::(Ta,tupI 0 f0 a1 b1)::zs)) from hq) with hq | hq
    · exact .tail _ (List.mem_append_left ((Lst,listOf ([.ref Ta,.ref Tb] : List Value).toArray kl)::(Tb,tupI 3 f3 a2 b2)::(Ta,tupI 0 f0 a1 b1)::zs) hq)
    · rcases List.mem_cons.mp hq with rfl | hq
      · exact .head _
      · exact .tail _ (List.mem_append_right ((c1,o1)::(c2,o2)::(R,listOf #[.ref T0,.ref T1,.ref T2,.ref T3,.ref T4,.ref T5] kR)::(L+1+1+1+1+1+1+1+1,jk)::(L+1+1+1+1+1+1+1,jq)::(L+1+1+1+1+1+1,yk)::(L+1+1+1+1+1,jm)::(L+1+1+1+1,jt)::(L+1+1+1,jp)::(L+1+1,jr)::(L+1,jl)::(37,tab37 c2)::(30,tab30 c1)::(134,tabObj ps)::[]) hq)) ((keep2 _ (by decide) (by decide) (by decide)).trans mc) ((keep2 _ (by decide) (by decide) (by decide)).trans mdn) (.tail _ (.tail _ (.tail _ (.tail _ hDN)))) hx3 (.tail _ (.tail _ (.head _))) hs hs2 hd3 hdb3 hf3 ?_
  intro h4 tk4 m4 c3 o3 c4 o4 F4 N4 DL4 r30 r37 keep4
  obtain ⟨r30',j30⟩ := down r30
  obtain ⟨r37',j37⟩ := down r37
  refine ⟨h4,tk4,m4,(c3,o3)::(c4,o4)::(R,listOf #[.ref T0,.ref T1,.ref T2,.ref T3,.ref T4,.ref T5] kR)::(L+1+1+1+1+1+1+1+1,jk)::(L+1+1+1+1+1+1+1,jq)::(L+1+1+1+1+1+1,yk)::(L+1+1+1+1+1,jm)::(L+1+1+1+1,jt)::(L+1+1+1,jp)::(L+1+1,jr)::(L+1,jl)::(37,tab37 c4)::(30,tab30 c3)::(134,tabObj ps)::((Lst,listOf ([.ref Ta,.ref Tb] : List Value).toArray kl)::(Tb,tupI 3 f3 a2 b2)::(Ta,tupI 0 f0 a1 b1)::zs),rfl,F4,cb_drop N4 (fun q hq => by
    rcases List.mem_cons.mp hq with rfl | hq
    · exact List.mem_append_right ((c3,o3)::(c4,o4)::(R,listOf #[.ref T0,.ref T1,.ref T2,.ref T3,.ref T4,.ref T5] kR)::(L+1+1+1+1+1+1+1+1,jk)::(L+1+1+1+1+1+1+1,jq)::(L+1+1+1+1+1+1,yk)::(L+1+1+1+1+1,jm)::(L+1+1+1+1,jt)::(L+1+1+1,jp)::(L+1+1,jr)::(L+1,jl)::(37,tab37 c4)::(30,tab30 c3)::(134,tabObj ps)::[]) (.head _)
    · rcases List.mem_append.mp (show q ∈ ((c3,o3)::(c4,o4)::(R,listOf #[.ref T0,.ref T1,.ref T2,.ref T3,.ref T4,.ref T5] kR)::(L+1+1+1+1+1+1+1+1,jk)::(L+1+1+1+1+1+1+1,jq)::(L+1+1+1+1+1+1,yk)::(L+1+1+1+1+1,jm)::(L+1+1+1+1,jt)::(L+1+1+1,jp)::(L+1+1,jr)::(L+1,jl)::(37,tab37 c4)::(30,tab30 c3)::(134,tabObj ps)::[] : List (Addr × Obj)) ++ ((Lst,listOf ([.ref Ta,.ref Tb] : List Value).toArray kl)::(Tb,tupI 3 f3 a2 b2)::(Ta,tupI 0 f0 a1 b1)::zs) from hq) with hq | hq
      · exact List.mem_append_left ((I,o')::((Lst,listOf ([.ref Ta,.ref Tb] : List Value).toArray kl)::(Tb,tupI 3 f3 a2 b2)::(Ta,tupI 0 f0 a1 b1)::zs)) hq
      · exact List.mem_append_right ((c3,o3)::(c4,o4)::(R,listOf #[.ref T0,.ref T1,.ref T2,.ref T3,.ref T4,.ref T5] kR)::(L+1+1+1+1+1+1+1+1,jk)::(L+1+1+1+1+1+1+1,jq)::(L+1+1+1+1+1+1,yk)::(L+1+1+1+1+1,jm)::(L+1+1+1+1,jt)::(L+1+1+1,jp)::(L+1+1,jr)::(L+1,jl)::(37,tab37 c4)::(30,tab30 c3)::(134,tabObj ps)::[]) (.tail _ hq)),?_,⟨⟨List.mem_append_right ((c3,o3)::(c4,o4)::(R,listOf #[.ref T0,.ref T1,.ref T2,.ref T3,.ref T4,.ref T5] kR)::(L+1+1+1+1+1+1+1+1,jk)::(L+1+1+1+1+1+1+1,jq)::(L+1+1+1+1+1+1,yk)::(L+1+1+1+1+1,jm)::(L+1+1+1+1,jt)::(L+1+1+1,jp)::(L+1+1,jr)::(L+1,jl)::(37,tab37 c4)::(30,tab30 c3)::(134,tabObj ps)::[]) (.head _),trivial⟩,?_⟩⟩
  · intro q hq r hr
    rw [List.mem_singleton.mp hr]
    rcases List.mem_cons.mp hq with rfl | hq
    · exact j30
    · rcases List.mem_cons.mp hq with rfl | hq
      · exact j37
      · rcases List.mem_append.mp (show q ∈ ((R,listOf #[.ref T0,.ref T1,.ref T2,.ref T3,.ref T4,.ref T5] kR)::(L+1+1+1+1+1+1+1+1,jk)::(L+1+1+1+1+1+1+1,jq)::(L+1+1+1+1+1+1,yk)::(L+1+1+1+1+1,jm)::(L+1+1+1+1,jt)::(L+1+1+1,jp)::(L+1+1,jr)::(L+1,jl)::(37,tab37 c4)::(30,tab30 c3)::(134,tabObj ps)::[] : List (Addr × Obj)) ++ ((Lst,listOf ([.ref Ta,.ref Tb] : List Value).toArray kl)::(Tb,tupI 3 f3 a2 b2)::(Ta,tupI 0 f0 a1 b1)::zs) from hq) with hq | hq
        · exact AllNe.mem (show AllNe I ((R,listOf #[.ref T0,.ref T1,.ref T2,.ref T3,.ref T4,.ref T5] kR)::(L+1+1+1+1+1+1+1+1,jk)::(L+1+1+1+1+1+1+1,jq)::(L+1+1+1+1+1+1,yk)::(L+1+1+1+1+1,jm)::(L+1+1+1+1,jt)::(L+1+1+1,jp)::(L+1+1,jr)::(L+1,jl)::(37,tab37 c4)::(30,tab30 c3)::(134,tabObj ps)::[]) from AllNe.sub (show AllNe I ((Lst,listOf ([.ref Ta,.ref Tb] : List Value).toArray kl)::(Tb,tupI 3 f3 a2 b2)::(Ta,tupI 0 f0 a1 b1)::(c30,o30)::(c37,o37)::(R,listOf #[.ref T0,.ref T1,.ref T2,.ref T3,.ref T4,.ref T5] kR)::(L+1+1+1+1+1+1+1+1,jk)::(L+1+1+1+1+1+1+1,jq)::(L+1+1+1+1+1+1,yk)::(L+1+1+1+1+1,jm)::(L+1+1+1+1,jt)::(L+1+1+1,jp)::(L+1+1,jr)::(L+1,jl)::(37,tab37 c4)::(30,tab30 c3)::(134,tabObj ps)::zs) from hI) (by walk_at "z_sub")) hq
        · exact hIT q hq
  intro h5 tk5 F5 N5
  exact fin _ _ m4 c3 o3 c4 o4 F5 (cb_drop N5 fun q hq => by
    rcases List.mem_append.mp (show q ∈ ((c3,o3)::(c4,o4)::(R,listOf #[.ref T0,.ref T1,.ref T2,.ref T3,.ref T4,.ref T5] kR)::(L+1+1+1+1+1+1+1+1,jk)::(L+1+1+1+1+1+1+1,jq)::(L+1+1+1+1+1+1,yk)::(L+1+1+1+1+1,jm)::(L+1+1+1+1,jt)::(L+1+1+1,jp)::(L+1+1,jr)::(L+1,jl)::(37,tab37 c4)::(30,tab30 c3)::(134,tabObj ps)::[] : List (Addr × Obj)) ++ zs from hq) with hq | hq
    · exact List.mem_append_left ((Lst,listOf ([.ref Ta,.ref Tb] : List Value).toArray kl)::(Tb,tupI 3 f3 a2 b2)::(Ta,tupI 0 f0 a1 b1)::zs) hq
    · exact List.mem_append_right ((c3,o3)::(c4,o4)::(R,listOf #[.ref T0,.ref T1,.ref T2,.ref T3,.ref T4,.ref T5] kR)::(L+1+1+1+1+1+1+1+1,jk)::(L+1+1+1+1+1+1+1,jq)::(L+1+1+1+1+1+1,yk)::(L+1+1+1+1+1,jm)::(L+1+1+1+1,jt)::(L+1+1+1,jp)::(L+1+1,jr)::(L+1,jl)::(37,tab37 c4)::(30,tab30 c3)::(134,tabObj ps)::[]) (.tail _ (.tail _ (.tail _ hq)))) DL4 r30' r37' (fun y a b c => (keep4 y a b c).trans (keep2 y a b c))
theorem core_t18_turn : PP_t18_turn w p loose mean mg mb dp un gd L fa A₀ base h₀ s Q E m jk jq yk jm jt jp jr jl o30 o37 R c30 c37 T0 T1 T2 T3 T4 T5 kR ps ps30 ps37 zs rest TB UP DN NB upL dnL nbL kU kD kN us b P Q' sc tc u1 u2 k tk := by
  intro B X T hd hu ch1 ch2 ch3 hl hz hR hzR DM n30 n37 hk F N mk mc mp mq mdn mup hP1 hP4 hQ1 hQ4 cr ct cn hTB hDN hUP hNB hs hs2 HT fin
  obtain ⟨Tk,th,u,v,uv,dv,nv,tu,td,tn,x1,x2,x3,x4,x5,hst,huv,hd0,hdb,hnb⟩ := HT k hk
  obtain ⟨m1,m2,m3,m4,m5,q1,q2,q3,q4,q5,q6,q7,q8⟩ := t18_num hs hs2 hst huv hd0 hdb hnb
  have hg := hueG_all ⟨k,hk⟩
  unfold hueG at hg
  rw [Bool.and_eq_true] at hg
  rw [← Int.toNat_natCast k] at x1 x3 x4 x5
  refine t18_b0 B X T hd hu ch1 ch2 ch3 hl hz hR hzR DM n30 n37 hk F N cr mk x1 x2 hg.1 hg.2 ?_
  intro h1 tk1 F1 N1
  refine t18_b1 B X T hd hu ch1 ch2 ch3 hl hz hR hzR DM n30 n37 _ hk F1 N1 mk mc mdn hDN x4 ?_
  intro h2 tk2 mm2 tr F2 N2 keep mr
  refine t18_b2 B X T hd hu ch1 ch2 ch3 hl hz hR hzR DM n30 n37 hk F2 N2 ((keep _ (by decide)).trans mk) ((keep _ (by decide)).trans mc) ((keep _ (by decide)).trans mp) ((keep _ (by decide)).trans mq) mr ((keep _ (by decide)).trans mdn) ((keep _ (by decide)).trans mup) hP1 hP4 hQ1 hQ4 ct cn hTB hDN x4 hUP x3 hNB x5 rfl rfl m1 rfl m2 rfl m3 rfl m4 rfl m5 (M := 8544) q1 q2 q3 q4 q5 (.inr ⟨by decide,q6⟩) q7 q8 ?_
  intro h3 tk3 c1 o1 c2 o2 F3 N3 DL k30 k37
  exact fin _ _ mm2 c1 o1 c2 o2 F3 N3 DL k30 k37 keep
namespace X_law_n21
@[irreducible] noncomputable def u1 := pj24 cc 2
@[irreducible] noncomputable def u2 := pj24 cc 4
@[irreducible] noncomputable def u3 := pj24 cc 6
theorem core_law_n21 : PP_law_n21 w p loose mean mg mb dp un gd L fa A₀ base h₀ s Q E m jk jq yk jm jt jp jr jl o30 o37 t37 t30 t134 R c30 c37 T0 T1 T2 T3 T4 T5 kR ps zs rest ts q0 q1 q2 q3 q4 q5 u0 v0 u1 v1 u2 v2 u3 v3 u4 v4 u5 v5 := by
  intro B X T hd hu ch1 ch2 ch3 hl hR n30 n37 sd hsd Z0 F N cr cs a0 a1 a2 a3 a4 a5 fin
  w_top off
  have HZ : ∀ k,k < 6 → ∃ T t u v,([.ref T0,.ref T1,.ref T2,.ref T3,.ref T4,.ref T5] : List Value)[k]? = some (.ref T) ∧ (T,triO (([hueB 0,hueB 1,hueB 2,hueB 3,hueB 4,hueB 5] : List UInt64).getD k 0) t u v) ∈ zs := fun k hk => by
    match k,hk with
    | 0,_ => exact ⟨_,_,_,_,rfl,a0⟩
    | 1,_ => exact ⟨_,_,_,_,rfl,a1⟩
    | 2,_ => exact ⟨_,_,_,_,rfl,a2⟩
    | 3,_ => exact ⟨_,_,_,_,rfl,a3⟩
    | 4,_ => exact ⟨_,_,_,_,rfl,a4⟩
    | 5,_ => exact ⟨_,_,_,_,rfl,a5⟩
    | n+6,h => exact absurd h (by omega)
  refine wpAny_execs_cons ?_
  refine LCg.Assign_ListComp_U (cl := [(Str.ofString "side", L+1+1),(Str.ofString "row", L+1+1+1+1+1+1)]) (F₀ := F) (by rfl) (by with_unfolding_all rfl) (by rfl) (by decide) (by rfl) (by decide) (by rfl) (by rfl) (by rfl) ?_
  iterate 12 (first | (with_reducible show LCg.CompSrc _ _ _ _ _ _ _ _ _ _ _ _ _ _) | walk1 | (dsimp only; walk1))
  rename IsRange _ _ _ _ _ _ _ _ => hr
  rename Fr h₀ L _ _ => F9
  rename News h₀ L _ _ => N9
  show LCg.CompSrc _ _ _ _ _ _ _ _ _ _ _ _ _ _
  refine LCg.CompSrc.range (n := 3) (by rfl) F9 N9 hr (by decide) (by rfl) (by decide) ?_
  intro g
  clear F9 N9 hr
  rcases hsd with rfl | rfl
  · refine LCg.CompRest.succ ?_
    intro v0 I0 oI0 C0 oC0 D0 m0 h0 tk0 E0 hv0 hC0 hx0 F0 N0 off0 ne0
    obtain ⟨tv0,rfl⟩ := hv0
    refine ot_turn (Ta := T0) (lo := 2) B X T hd hu ch1 ch2 ch3 hl hR n30 n37 Z0 F0 N0 off0 hC0 hx0 cr cs (fun k hk => let ⟨T,t,u,v,a,b⟩ := HZ k hk; ⟨T,t,u,v,a,b⟩) (by decide) (by decide) (by decide) (by decide) (by decide) rfl (a0) ?_
    intro t0 nw1 ps1 Z1
    rw [bisR_0_0]
    refine LCg.CompRest.succ ?_
    intro v1 I1 oI1 C1 oC1 D1 m1 h1 tk1 E1 hv1 hC1 hx1 F1 N1 off1 ne1
    obtain ⟨tv1,rfl⟩ := hv1
    refine ot_turn (Ta := T2) (lo := 4) B X T hd hu ch1 ch2 ch3 hl hR n30 n37 Z1 F1 N1 off1 hC1 hx1 cr cs (fun k hk => let ⟨T,t,u,v,a,b⟩ := HZ k hk; ⟨T,t,u,v,a,List.mem_append_right _ b⟩) (by decide) (by decide) (by decide) (by decide) (by decide) rfl (List.mem_append_right _ a2) ?_
    intro t1 nw2 ps2 Z2
    rw [bisR_1_0]
    refine LCg.CompRest.succ ?_
    intro v2 I2 oI2 C2 oC2 D2 m2 h2 tk2 E2 hv2 hC2 hx2 F2 N2 off2 ne2
    obtain ⟨tv2,rfl⟩ := hv2
    refine ot_turn (Ta := T4) (lo := 6) B X T hd hu ch1 ch2 ch3 hl hR n30 n37 Z2 F2 N2 off2 hC2 hx2 cr cs (fun k hk => let ⟨T,t,u,v,a,b⟩ := HZ k hk; ⟨T,t,u,v,a,List.mem_append_right _ (List.mem_append_right _ b)⟩) (by decide) (by decide) (by decide) (by decide) (by decide) rfl (List.mem_append_right _ (List.mem_append_right _ a4)) ?_
    intro t2 nw3 ps3 Z3
    rw [bisR_2_0]
    refine LCg.CompRest.zero ?_
    unfold LCg.FinA
    intro D9 h9 tk9 F9 N9 o1
    have zz := Z3.cons (A := D9) (oA := listOf #[.int 1 t0,.int 3 t1,.int 5 t2] 3) (o30 := o30) (o37 := o37) (lo := listOf #[.ref T0,.ref T1,.ref T2,.ref T3,.ref T4,.ref T5] kR) (allNe_of fun q hq => off1_mem o1 (List.mem_append_left (nw3 ++ (nw2 ++ (nw1 ++ zs))) hq))
    exact fin h9 tk9 D9 ((D9,listOf #[.int 1 t0,.int 3 t1,.int 5 t2] 3)::(nw3 ++ (nw2 ++ (nw1 ++ zs)))) ps3 t0 t1 t2 (fun q hq => .tail _ (List.mem_append_right _ (List.mem_append_right _ (List.mem_append_right _ hq)))) (.head _) F9 (cb_drop N9 (mem_shuf2 (a := (c30,o30)::(c37,o37)::(R,listOf #[.ref T0,.ref T1,.ref T2,.ref T3,.ref T4,.ref T5] kR)::(L+1+1+1+1+1+1+1+1,jk)::(L+1+1+1+1+1+1+1,jq)::(L+1+1+1+1+1+1,yk)::(L+1+1+1+1+1,jm)::(L+1+1+1+1,jt)::(L+1+1+1,jp)::(L+1+1,jr)::(L+1,jl)::(37,t37)::(30,t30)::[]) (x := (134,tabObj ps3)) (z := (D9,_)))) zz
  · refine LCg.CompRest.succ ?_
    intro v0 I0 oI0 C0 oC0 D0 m0 h0 tk0 E0 hv0 hC0 hx0 F0 N0 off0 ne0
    obtain ⟨tv0,rfl⟩ := hv0
    refine ot_turn (Ta := T5) (lo := 2) B X T hd hu ch1 ch2 ch3 hl hR n30 n37 Z0 F0 N0 off0 hC0 hx0 cr cs (fun k hk => let ⟨T,t,u,v,a,b⟩ := HZ k hk; ⟨T,t,u,v,a,b⟩) (by decide) (by decide) (by decide) (by decide) (by decide) rfl (a5) ?_
    intro t0 nw1 ps1 Z1
    rw [bisR_0_1]
    refine LCg.CompRest.succ ?_
    intro v1 I1 oI1 C1 oC1 D1 m1 h1 tk1 E1 hv1 hC1 hx1 F1 N1 off1 ne1
    obtain ⟨tv1,rfl⟩ := hv1
    refine ot_turn (Ta := T5) (lo := 4) B X T hd hu ch1 ch2 ch3 hl hR n30 n37 Z1 F1 N1 off1 hC1 hx1 cr cs (fun k hk => let ⟨T,t,u,v,a,b⟩ := HZ k hk; ⟨T,t,u,v,a,List.mem_append_right _ b⟩) (by decide) (by decide) (by decide) (by decide) (by decide) rfl (List.mem_append_right _ a5) ?_
    intro t1 nw2 ps2 Z2
    rw [bisR_1_1]
    refine LCg.CompRest.succ ?_
    intro v2 I2 oI2 C2 oC2 D2 m2 h2 tk2 E2 hv2 hC2 hx2 F2 N2 off2 ne2
    obtain ⟨tv2,rfl⟩ := hv2
    refine ot_turn (Ta := T5) (lo := 6) B X T hd hu ch1 ch2 ch3 hl hR n30 n37 Z2 F2 N2 off2 hC2 hx2 cr cs (fun k hk => let ⟨T,t,u,v,a,b⟩ := HZ k hk; ⟨T,t,u,v,a,List.mem_append_right _ (List.mem_append_right _ b)⟩) (by decide) (by decide) (by decide) (by decide) (by decide) rfl (List.mem_append_right _ (List.mem_append_right _ a5)) ?_
    intro t2 nw3 ps3 Z3
    rw [bisR_2_1]
    refine LCg.CompRest.zero ?_
    unfold LCg.FinA
    intro D9 h9 tk9 F9 N9 o1
    have zz := Z3.cons (A := D9) (oA := listOf #[.int 2 t0,.int 4 t1,.int 6 t2] 3) (o30 := o30) (o37 := o37) (lo := listOf #[.ref T0,.ref T1,.ref T2,.ref T3,.ref T4,.ref T5] kR) (allNe_of fun q hq => off1_mem o1 (List.mem_append_left (nw3 ++ (nw2 ++ (nw1 ++ zs))) hq))
    exact fin h9 tk9 D9 ((D9,listOf #[.int 2 t0,.int 4 t1,.int 6 t2] 3)::(nw3 ++ (nw2 ++ (nw1 ++ zs)))) ps3 t0 t1 t2 (fun q hq => .tail _ (List.mem_append_right _ (List.mem_append_right _ (List.mem_append_right _ hq)))) (.head _) F9 (cb_drop N9 (mem_shuf2 (a := (c30,o30)::(c37,o37)::(R,listOf #[.ref T0,.ref T1,.ref T2,.ref T3,.ref T4,.ref T5] kR)::(L+1+1+1+1+1+1+1+1,jk)::(L+1+1+1+1+1+1+1,jq)::(L+1+1+1+1+1+1,yk)::(L+1+1+1+1+1,jm)::(L+1+1+1+1,jt)::(L+1+1+1,jp)::(L+1+1,jr)::(L+1,jl)::(37,t37)::(30,t30)::[]) (x := (134,tabObj ps3)) (z := (D9,_)))) zz
end X_law_n21
theorem words_a65 : True := by
  k_with "omega" => lia
  exact trivial
theorem core_it_for2 : PP_it_for2 w p loose mean mg mb dp un gd L fa A₀ base h₀ s Q E m jk jq yk jm jt jp jr jl t37 t30 R xs kR ps zs P Q' i WH UN u1 u2 u3 tb tw tu rows ov := by
  intro B X T hd hu ch1 ch2 ch3 hE hl hz hzR hR TZ RZ hrl F N mp mq mi mb' cw cu cr co hP1 hP4 hQ1 hQ4 hi1 hi2 hW0 hW1 hU0 hU1 fin
  w_top off
  refine For_invVF F (by rfl) (by rfl) ?_ (hE := hE)
  iterate 15 (first | walk1 | (dsimp only; walk1))
  rename IsRange _ _ _ _ _ _ _ _ => hr
  rename Fr h₀ L _ _ => F9
  rename News h₀ L _ _ => N9
  refine iter_rangeUnr (n := 3) rfl hr (small_one (a := Q' - 1) (b := Q'+2) (by omega) (by omega) (by omega) (by omega)) (by rw [rangeSize_nat]; omega) F9 N9 ?_
  intro I lI
  clear F9 N9 hr
  have hIc : AllNe I ((R,listOf (xs).toArray kR)::(L+1+1+1+1+1+1+1+1,jk)::(L+1+1+1+1+1+1+1,jq)::(L+1+1+1+1+1+1,yk)::(L+1+1+1+1+1,jm)::(L+1+1+1+1,jt)::(L+1+1+1,jp)::(L+1+1,jr)::(L+1,jl)::(37,t37)::(30,t30)::(134,tabObj ps)::[]) := allNe_of fun q hq => Nat.ne_of_lt (lI q (List.mem_append_left zs hq))
  have hIz : ∀ q ∈ zs,@Ne Nat q.1 I := fun q hq => Nat.ne_of_lt (lI q (List.mem_append_right ((R,listOf (xs).toArray kR)::(L+1+1+1+1+1+1+1+1,jk)::(L+1+1+1+1+1+1+1,jq)::(L+1+1+1+1+1+1,yk)::(L+1+1+1+1+1,jm)::(L+1+1+1+1,jt)::(L+1+1+1,jp)::(L+1+1,jr)::(L+1,jl)::(37,t37)::(30,t30)::(134,tabObj ps)::[]) hq))
  have hIR : @Ne Nat I R := Ne.symm (AllNe.mem hIc (.head _))
  have hoI : @Ne Nat I (L+1+1+1+1+1+1+1+1) ∧ @Ne Nat I (L+1+1+1+1+1+1+1) ∧ @Ne Nat I (L+1+1+1+1+1+1) ∧ @Ne Nat I (L+1+1+1+1+1) ∧ @Ne Nat I (L+1+1+1+1) ∧ @Ne Nat I (L+1+1+1) ∧ @Ne Nat I (L+1+1) ∧ @Ne Nat I (L+1) ∧ @Ne Nat I (37) ∧ @Ne Nat I (30) ∧ @Ne Nat I (134) := by
    obtain ⟨_,e0,e1,e2,e3,e4,e5,e6,e7,e8,e9,e10,_⟩ := hIc
    exact ⟨Ne.symm e0,Ne.symm e1,Ne.symm e2,Ne.symm e3,Ne.symm e4,Ne.symm e5,Ne.symm e6,Ne.symm e7,Ne.symm e8,Ne.symm e9,Ne.symm e10⟩
  have hz0 : OffZ L ([] ++ zs) := hz
  have hzR0 : ∀ q ∈ [] ++ zs,@Ne Nat q.1 R := hzR
  have TZ0 : TabZ ([] ++ zs) ps := TZ
  have RZ0 : RowZ ([] ++ zs) xs rows := RZ
  have hI0 : ∀ q ∈ ([] : List (Addr × Obj)),@Ne Nat q.1 I := fun _ h => nomatch h
  have hD0 : ∀ q ∈ ([] : List (Addr × Obj)),AllNe q.1 zs := fun _ h => nomatch h
  have hlen0 : rows.length ≤ rows.length+0 := Nat.le_refl _
  have co0 := co
  have kp0 : ∀ y,y ≠ Str.ofString "j" → y ≠ Str.ofString "hue" → y ≠ Str.ofString "light" → y ≠ Str.ofString "depth" → m y = m y := fun _ _ _ _ _ => rfl
  refine RangeRest.succ ?_
  intro tj0 h0 tk0 F0 N0
  have N0' : News h₀ L h0 ((R,listOf (xs).toArray kR)::(L+1+1+1+1+1+1+1+1,jk)::(L+1+1+1+1+1+1+1,jq)::(L+1+1+1+1+1+1,yk)::(L+1+1+1+1+1,jm)::(L+1+1+1+1,jt)::(L+1+1+1,jp)::(L+1+1,jr)::(L+1,jl)::(37,t37)::(30,t30)::(134,tabObj ps)::((I,itR (Q' - 1 + ((1 : Nat) : Int)) (((3 : Nat) : Int) - ((1 : Nat) : Int)))::([] ++ zs))) := cb_drop N0 (by
    intro q hq
    rcases List.mem_append.mp (show q ∈ ((R,listOf (xs).toArray kR)::(L+1+1+1+1+1+1+1+1,jk)::(L+1+1+1+1+1+1+1,jq)::(L+1+1+1+1+1+1,yk)::(L+1+1+1+1+1,jm)::(L+1+1+1+1,jt)::(L+1+1+1,jp)::(L+1+1,jr)::(L+1,jl)::(37,t37)::(30,t30)::(134,tabObj ps)::[] : List (Addr × Obj)) ++ ((I,itR (Q' - 1 + ((1 : Nat) : Int)) (((3 : Nat) : Int) - ((1 : Nat) : Int)))::([] ++ zs)) from hq) with hq | hq
    · exact .tail _ (List.mem_append_left ([] ++ zs) hq)
    · rcases List.mem_cons.mp hq with rfl | hq
      · exact .head _
      · exact .tail _ (List.mem_append_right ((R,listOf (xs).toArray kR)::(L+1+1+1+1+1+1+1+1,jk)::(L+1+1+1+1+1+1+1,jq)::(L+1+1+1+1+1+1,yk)::(L+1+1+1+1+1,jm)::(L+1+1+1+1,jt)::(L+1+1+1,jp)::(L+1+1,jr)::(L+1,jl)::(37,t37)::(30,t30)::(134,tabObj ps)::[]) hq))
  show wpAny _ _ (execs [.If itTest [itB0,itB1,itB2,itB3] [] _] _) _ _ _
  refine wpAny_execs_cons ?_
  refine it_one (j := Q' - 1) B X T hd hu ch1 ch2 ch3 hl (zs := ((I,itR (Q' - 1 + ((1 : Nat) : Int)) (((3 : Nat) : Int) - ((1 : Nat) : Int)))::([] ++ zs))) (offI (own := []) hz0 hoI) (off_put (P := fun r => @Ne Nat r.1 R) hIR hzR0) (show AllNe R ((L+1+1+1+1+1+1+1+1,jk)::(L+1+1+1+1+1+1+1,jq)::(L+1+1+1+1+1+1,yk)::(L+1+1+1+1+1,jm)::(L+1+1+1+1,jt)::(L+1+1+1,jp)::(L+1+1,jr)::(L+1,jl)::(37,t37)::(30,t30)::(134,tabObj ps)::[]) from hR) (TZ0.mono fun q hq => .tail _ hq) (RZ0.mono fun q hq => .tail _ hq) (by have h9 := hlen0; omega) F0 N0' ((if_neg (by decide)).trans ((kp0 _ (by decide) (by decide) (by decide) (by decide)).trans mp)) ((if_neg (by decide)).trans ((kp0 _ (by decide) (by decide) (by decide) (by decide)).trans mq)) ((if_neg (by decide)).trans ((kp0 _ (by decide) (by decide) (by decide) (by decide)).trans mi)) ((if_pos rfl).trans (congrArg (fun z => some (Value.int z _)) (by omega))) ((if_neg (by decide)).trans ((kp0 _ (by decide) (by decide) (by decide) (by decide)).trans mb')) cw cu cr co0 hP1 hP4 hQ1 hQ4 hi1 hi2 (by omega) (by omega) hW0 hW1 hU0 hU1 ?_
  intro g0 gk0 m1 xs1 kR1 ps1 ow1 oP1 ov1 G0 NG0 keep0 hzG0 hzRG0 TZG0 RZG0 co1 hdG0
  refine wpAny_execs_nil ?_
  have hz1 : OffZ L ((ow1 ++ []) ++ zs) := by rw [List.append_assoc]; exact off_strip hzG0
  have hzR1 : ∀ q ∈ (ow1 ++ []) ++ zs,@Ne Nat q.1 R := by rw [List.append_assoc]; exact off_strip hzRG0
  have TZ1 : TabZ ((ow1 ++ []) ++ zs) ps1 := by rw [List.append_assoc]; exact TabZ.strip rfl TZG0
  have RZ1 : RowZ ((ow1 ++ []) ++ zs) xs1 (stepRow rows P Q' i (Q' - 1)) := by rw [List.append_assoc]; exact RowZ.strip rfl RZG0
  have hI1 : ∀ q ∈ (ow1 ++ []),@Ne Nat q.1 I := fun q hq => by
    rcases List.mem_append.mp hq with hq | hq
    · exact Ne.symm (AllNe.mem (hdG0 q hq) (.head _))
    · exact hI0 q hq
  have hD1 : ∀ q ∈ (ow1 ++ []),AllNe q.1 zs := fun q hq => by
    rcases List.mem_append.mp hq with hq | hq
    · exact AllNe.sub (hdG0 q hq) fun r hr => .tail _ (List.mem_append_right _ hr)
    · exact hD0 q hq
  have hlen1 : (stepRow rows P Q' i (Q' - 1)).length ≤ rows.length+1 := Nat.le_trans (stepRow_len _ _ _ _ _) (by have h9 := hlen0; omega)
  have kp1 : ∀ y,y ≠ Str.ofString "j" → y ≠ Str.ofString "hue" → y ≠ Str.ofString "light" → y ≠ Str.ofString "depth" → m1 y = m y := fun y a b c d => (keep0 y b c d).trans ((if_neg a).trans (kp0 y a b c d))
  refine UnrEnd.intro (all := (R,listOf (xs1).toArray kR1)::(L+1+1+1+1+1+1+1+1,jk)::(L+1+1+1+1+1+1+1,oP1)::(L+1+1+1+1+1+1,yk)::(L+1+1+1+1+1,jm)::(L+1+1+1+1,jt)::(L+1+1+1,jp)::(L+1+1,jr)::(L+1,jl)::(37,t37)::(30,t30)::(134,tabObj ps1)::(ow1 ++ ((I,itR (Q' - 1 + ((1 : Nat) : Int)) (((3 : Nat) : Int) - ((1 : Nat) : Int)))::([] ++ zs)))) G0 NG0 ((R,listOf (xs1).toArray kR1)::(L+1+1+1+1+1+1+1+1,jk)::(L+1+1+1+1+1+1+1,oP1)::(L+1+1+1+1+1+1,yk)::(L+1+1+1+1+1,jm)::(L+1+1+1+1,jt)::(L+1+1+1,jp)::(L+1+1,jr)::(L+1,jl)::(37,t37)::(30,t30)::(134,tabObj ps1)::((ow1 ++ []) ++ zs)) ?_ ?_ ?_
  · intro q hq
    rcases List.mem_cons.mp hq with rfl | hq
    · exact List.mem_append_right ((R,listOf (xs1).toArray kR1)::(L+1+1+1+1+1+1+1+1,jk)::(L+1+1+1+1+1+1+1,oP1)::(L+1+1+1+1+1+1,yk)::(L+1+1+1+1+1,jm)::(L+1+1+1+1,jt)::(L+1+1+1,jp)::(L+1+1,jr)::(L+1,jl)::(37,t37)::(30,t30)::(134,tabObj ps1)::[]) (List.mem_append_right _ (.head _))
    · rcases List.mem_append.mp (show q ∈ ((R,listOf (xs1).toArray kR1)::(L+1+1+1+1+1+1+1+1,jk)::(L+1+1+1+1+1+1+1,oP1)::(L+1+1+1+1+1+1,yk)::(L+1+1+1+1+1,jm)::(L+1+1+1+1,jt)::(L+1+1+1,jp)::(L+1+1,jr)::(L+1,jl)::(37,t37)::(30,t30)::(134,tabObj ps1)::[] : List (Addr × Obj)) ++ ((ow1 ++ []) ++ zs) from hq) with hq | hq
      · exact List.mem_append_left (ow1 ++ ((I,itR (Q' - 1 + ((1 : Nat) : Int)) (((3 : Nat) : Int) - ((1 : Nat) : Int)))::([] ++ zs))) hq
      · refine List.mem_append_right ((R,listOf (xs1).toArray kR1)::(L+1+1+1+1+1+1+1+1,jk)::(L+1+1+1+1+1+1+1,oP1)::(L+1+1+1+1+1+1,yk)::(L+1+1+1+1+1,jm)::(L+1+1+1+1,jt)::(L+1+1+1,jp)::(L+1+1,jr)::(L+1,jl)::(37,t37)::(30,t30)::(134,tabObj ps1)::[]) ?_
        rw [List.append_assoc] at hq
        rcases List.mem_append.mp hq with hq | hq
        · exact List.mem_append_left _ hq
        · exact List.mem_append_right _ (.tail _ hq)
  · intro q hq
    rcases List.mem_append.mp (show q ∈ ((R,listOf (xs1).toArray kR1)::(L+1+1+1+1+1+1+1+1,jk)::(L+1+1+1+1+1+1+1,oP1)::(L+1+1+1+1+1+1,yk)::(L+1+1+1+1+1,jm)::(L+1+1+1+1,jt)::(L+1+1+1,jp)::(L+1+1,jr)::(L+1,jl)::(37,t37)::(30,t30)::(134,tabObj ps1)::[] : List (Addr × Obj)) ++ ((ow1 ++ []) ++ zs) from hq) with hq | hq
    · exact AllNe.mem (show AllNe I ((R,listOf (xs1).toArray kR1)::(L+1+1+1+1+1+1+1+1,jk)::(L+1+1+1+1+1+1+1,oP1)::(L+1+1+1+1+1+1,yk)::(L+1+1+1+1+1,jm)::(L+1+1+1+1,jt)::(L+1+1+1,jp)::(L+1+1,jr)::(L+1,jl)::(37,t37)::(30,t30)::(134,tabObj ps1)::[]) from hIc) hq
    · rcases List.mem_append.mp hq with hq | hq
      · exact hI1 q hq
      · exact hIz q hq
  refine RangeRest.succ ?_
  intro tj1 h1 tk1 F1 N1
  have N1' : News h₀ L h1 ((R,listOf (xs1).toArray kR1)::(L+1+1+1+1+1+1+1+1,jk)::(L+1+1+1+1+1+1+1,oP1)::(L+1+1+1+1+1+1,yk)::(L+1+1+1+1+1,jm)::(L+1+1+1+1,jt)::(L+1+1+1,jp)::(L+1+1,jr)::(L+1,jl)::(37,t37)::(30,t30)::(134,tabObj ps1)::((I,itR (Q' - 1 + ((2 : Nat) : Int)) (((3 : Nat) : Int) - ((2 : Nat) : Int)))::((ow1 ++ []) ++ zs))) := cb_drop N1 (by
    intro q hq
    rcases List.mem_append.mp (show q ∈ ((R,listOf (xs1).toArray kR1)::(L+1+1+1+1+1+1+1+1,jk)::(L+1+1+1+1+1+1+1,oP1)::(L+1+1+1+1+1+1,yk)::(L+1+1+1+1+1,jm)::(L+1+1+1+1,jt)::(L+1+1+1,jp)::(L+1+1,jr)::(L+1,jl)::(37,t37)::(30,t30)::(134,tabObj ps1)::[] : List (Addr × Obj)) ++ ((I,itR (Q' - 1 + ((2 : Nat) : Int)) (((3 : Nat) : Int) - ((2 : Nat) : Int)))::((ow1 ++ []) ++ zs)) from hq) with hq | hq
    · exact .tail _ (List.mem_append_left ((ow1 ++ []) ++ zs) hq)
    · rcases List.mem_cons.mp hq with rfl | hq
      · exact .head _
      · exact .tail _ (List.mem_append_right ((R,listOf (xs1).toArray kR1)::(L+1+1+1+1+1+1+1+1,jk)::(L+1+1+1+1+1+1+1,oP1)::(L+1+1+1+1+1+1,yk)::(L+1+1+1+1+1,jm)::(L+1+1+1+1,jt)::(L+1+1+1,jp)::(L+1+1,jr)::(L+1,jl)::(37,t37)::(30,t30)::(134,tabObj ps1)::[]) hq))
  show wpAny _ _ (execs [.If itTest [itB0,itB1,itB2,itB3] [] _] _) _ _ _
  refine wpAny_execs_cons ?_
  refine it_one (j := Q') B X T hd hu ch1 ch2 ch3 hl (zs := ((I,itR (Q' - 1 + ((2 : Nat) : Int)) (((3 : Nat) : Int) - ((2 : Nat) : Int)))::((ow1 ++ []) ++ zs))) (offI (own := (ow1 ++ [])) hz1 hoI) (off_put (P := fun r => @Ne Nat r.1 R) hIR hzR1) (show AllNe R ((L+1+1+1+1+1+1+1+1,jk)::(L+1+1+1+1+1+1+1,oP1)::(L+1+1+1+1+1+1,yk)::(L+1+1+1+1+1,jm)::(L+1+1+1+1,jt)::(L+1+1+1,jp)::(L+1+1,jr)::(L+1,jl)::(37,t37)::(30,t30)::(134,tabObj ps1)::[]) from hR) (TZ1.mono fun q hq => .tail _ hq) (RZ1.mono fun q hq => .tail _ hq) (by have h9 := hlen1; omega) F1 N1' ((if_neg (by decide)).trans ((kp1 _ (by decide) (by decide) (by decide) (by decide)).trans mp)) ((if_neg (by decide)).trans ((kp1 _ (by decide) (by decide) (by decide) (by decide)).trans mq)) ((if_neg (by decide)).trans ((kp1 _ (by decide) (by decide) (by decide) (by decide)).trans mi)) ((if_pos rfl).trans (congrArg (fun z => some (Value.int z _)) (by omega))) ((if_neg (by decide)).trans ((kp1 _ (by decide) (by decide) (by decide) (by decide)).trans mb')) cw cu cr co1 hP1 hP4 hQ1 hQ4 hi1 hi2 (by omega) (by omega) hW0 hW1 hU0 hU1 ?_
  intro g1 gk1 m2 xs2 kR2 ps2 ow2 oP2 ov2 G1 NG1 keep1 hzG1 hzRG1 TZG1 RZG1 co2 hdG1
  refine wpAny_execs_nil ?_
  have hz2 : OffZ L ((ow2 ++ (ow1 ++ [])) ++ zs) := by rw [List.append_assoc]; exact off_strip hzG1
  have hzR2 : ∀ q ∈ (ow2 ++ (ow1 ++ [])) ++ zs,@Ne Nat q.1 R := by rw [List.append_assoc]; exact off_strip hzRG1
  have TZ2 : TabZ ((ow2 ++ (ow1 ++ [])) ++ zs) ps2 := by rw [List.append_assoc]; exact TabZ.strip rfl TZG1
  have RZ2 : RowZ ((ow2 ++ (ow1 ++ [])) ++ zs) xs2 (stepRow (stepRow rows P Q' i (Q' - 1)) P Q' i Q') := by rw [List.append_assoc]; exact RowZ.strip rfl RZG1
  have hI2 : ∀ q ∈ (ow2 ++ (ow1 ++ [])),@Ne Nat q.1 I := fun q hq => by
    rcases List.mem_append.mp hq with hq | hq
    · exact Ne.symm (AllNe.mem (hdG1 q hq) (.head _))
    · exact hI1 q hq
  have hD2 : ∀ q ∈ (ow2 ++ (ow1 ++ [])),AllNe q.1 zs := fun q hq => by
    rcases List.mem_append.mp hq with hq | hq
    · exact AllNe.sub (hdG1 q hq) fun r hr => .tail _ (List.mem_append_right _ hr)
    · exact hD1 q hq
  have hlen2 : (stepRow (stepRow rows P Q' i (Q' - 1)) P Q' i Q').length ≤ rows.length+2 := Nat.le_trans (stepRow_len _ _ _ _ _) (by have h9 := hlen1; omega)
  have kp2 : ∀ y,y ≠ Str.ofString "j" → y ≠ Str.ofString "hue" → y ≠ Str.ofString "light" → y ≠ Str.ofString "depth" → m2 y = m y := fun y a b c d => (keep1 y b c d).trans ((if_neg a).trans (kp1 y a b c d))
  refine UnrEnd.intro (all := (R,listOf (xs2).toArray kR2)::(L+1+1+1+1+1+1+1+1,jk)::(L+1+1+1+1+1+1+1,oP2)::(L+1+1+1+1+1+1,yk)::(L+1+1+1+1+1,jm)::(L+1+1+1+1,jt)::(L+1+1+1,jp)::(L+1+1,jr)::(L+1,jl)::(37,t37)::(30,t30)::(134,tabObj ps2)::(ow2 ++ ((I,itR (Q' - 1 + ((2 : Nat) : Int)) (((3 : Nat) : Int) - ((2 : Nat) : Int)))::((ow1 ++ []) ++ zs)))) G1 NG1 ((R,listOf (xs2).toArray kR2)::(L+1+1+1+1+1+1+1+1,jk)::(L+1+1+1+1+1+1+1,oP2)::(L+1+1+1+1+1+1,yk)::(L+1+1+1+1+1,jm)::(L+1+1+1+1,jt)::(L+1+1+1,jp)::(L+1+1,jr)::(L+1,jl)::(37,t37)::(30,t30)::(134,tabObj ps2)::((ow2 ++ (ow1 ++ [])) ++ zs)) ?_ ?_ ?_
  · intro q hq
    rcases List.mem_cons.mp hq with rfl | hq
    · exact List.mem_append_right ((R,listOf (xs2).toArray kR2)::(L+1+1+1+1+1+1+1+1,jk)::(L+1+1+1+1+1+1+1,oP2)::(L+1+1+1+1+1+1,yk)::(L+1+1+1+1+1,jm)::(L+1+1+1+1,jt)::(L+1+1+1,jp)::(L+1+1,jr)::(L+1,jl)::(37,t37)::(30,t30)::(134,tabObj ps2)::[]) (List.mem_append_right _ (.head _))
    · rcases List.mem_append.mp (show q ∈ ((R,listOf (xs2).toArray kR2)::(L+1+1+1+1+1+1+1+1,jk)::(L+1+1+1+1+1+1+1,oP2)::(L+1+1+1+1+1+1,yk)::(L+1+1+1+1+1,jm)::(L+1+1+1+1,jt)::(L+1+1+1,jp)::(L+1+1,jr)::(L+1,jl)::(37,t37)::(30,t30)::(134,tabObj ps2)::[] : List (Addr × Obj)) ++ ((ow2 ++ (ow1 ++ [])) ++ zs) from hq) with hq | hq
      · exact List.mem_append_left (ow2 ++ ((I,itR (Q' - 1 + ((2 : Nat) : Int)) (((3 : Nat) : Int) - ((2 : Nat) : Int)))::((ow1 ++ []) ++ zs))) hq
      · refine List.mem_append_right ((R,listOf (xs2).toArray kR2)::(L+1+1+1+1+1+1+1+1,jk)::(L+1+1+1+1+1+1+1,oP2)::(L+1+1+1+1+1+1,yk)::(L+1+1+1+1+1,jm)::(L+1+1+1+1,jt)::(L+1+1+1,jp)::(L+1+1,jr)::(L+1,jl)::(37,t37)::(30,t30)::(134,tabObj ps2)::[]) ?_
        rw [List.append_assoc] at hq
        rcases List.mem_append.mp hq with hq | hq
        · exact List.mem_append_left _ hq
        · exact List.mem_append_right _ (.tail _ hq)
  · intro q hq
    rcases List.mem_append.mp (show q ∈ ((R,listOf (xs2).toArray kR2)::(L+1+1+1+1+1+1+1+1,jk)::(L+1+1+1+1+1+1+1,oP2)::(L+1+1+1+1+1+1,yk)::(L+1+1+1+1+1,jm)::(L+1+1+1+1,jt)::(L+1+1+1,jp)::(L+1+1,jr)::(L+1,jl)::(37,t37)::(30,t30)::(134,tabObj ps2)::[] : List (Addr × Obj)) ++ ((ow2 ++ (ow1 ++ [])) ++ zs) from hq) with hq | hq
    · exact AllNe.mem (show AllNe I ((R,listOf (xs2).toArray kR2)::(L+1+1+1+1+1+1+1+1,jk)::(L+1+1+1+1+1+1+1,oP2)::(L+1+1+1+1+1+1,yk)::(L+1+1+1+1+1,jm)::(L+1+1+1+1,jt)::(L+1+1+1,jp)::(L+1+1,jr)::(L+1,jl)::(37,t37)::(30,t30)::(134,tabObj ps2)::[]) from hIc) hq
    · rcases List.mem_append.mp hq with hq | hq
      · exact hI2 q hq
      · exact hIz q hq
  refine RangeRest.succ ?_
  intro tj2 h2 tk2 F2 N2
  have N2' : News h₀ L h2 ((R,listOf (xs2).toArray kR2)::(L+1+1+1+1+1+1+1+1,jk)::(L+1+1+1+1+1+1+1,oP2)::(L+1+1+1+1+1+1,yk)::(L+1+1+1+1+1,jm)::(L+1+1+1+1,jt)::(L+1+1+1,jp)::(L+1+1,jr)::(L+1,jl)::(37,t37)::(30,t30)::(134,tabObj ps2)::((I,itR (Q' - 1 + ((3 : Nat) : Int)) (((3 : Nat) : Int) - ((3 : Nat) : Int)))::((ow2 ++ (ow1 ++ [])) ++ zs))) := cb_drop N2 (by
    intro q hq
    rcases List.mem_append.mp (show q ∈ ((R,listOf (xs2).toArray kR2)::(L+1+1+1+1+1+1+1+1,jk)::(L+1+1+1+1+1+1+1,oP2)::(L+1+1+1+1+1+1,yk)::(L+1+1+1+1+1,jm)::(L+1+1+1+1,jt)::(L+1+1+1,jp)::(L+1+1,jr)::(L+1,jl)::(37,t37)::(30,t30)::(134,tabObj ps2)::[] : List (Addr × Obj)) ++ ((I,itR (Q' - 1 + ((3 : Nat) : Int)) (((3 : Nat) : Int) - ((3 : Nat) : Int)))::((ow2 ++ (ow1 ++ [])) ++ zs)) from hq) with hq | hq
    · exact .tail _ (List.mem_append_left ((ow2 ++ (ow1 ++ [])) ++ zs) hq)
    · rcases List.mem_cons.mp hq with rfl | hq
      · exact .head _
      · exact .tail _ (List.mem_append_right ((R,listOf (xs2).toArray kR2)::(L+1+1+1+1+1+1+1+1,jk)::(L+1+1+1+1+1+1+1,oP2)::(L+1+1+1+1+1+1,yk)::(L+1+1+1+1+1,jm)::(L+1+1+1+1,jt)::(L+1+1+1,jp)::(L+1+1,jr)::(L+1,jl)::(37,t37)::(30,t30)::(134,tabObj ps2)::[]) hq))
  show wpAny _ _ (execs [.If itTest [itB0,itB1,itB2,itB3] [] _] _) _ _ _
  refine wpAny_execs_cons ?_
  refine it_one (j := Q'+1) B X T hd hu ch1 ch2 ch3 hl (zs := ((I,itR (Q' - 1 + ((3 : Nat) : Int)) (((3 : Nat) : Int) - ((3 : Nat) : Int)))::((ow2 ++ (ow1 ++ [])) ++ zs))) (offI (own := (ow2 ++ (ow1 ++ []))) hz2 hoI) (off_put (P := fun r => @Ne Nat r.1 R) hIR hzR2) (show AllNe R ((L+1+1+1+1+1+1+1+1,jk)::(L+1+1+1+1+1+1+1,oP2)::(L+1+1+1+1+1+1,yk)::(L+1+1+1+1+1,jm)::(L+1+1+1+1,jt)::(L+1+1+1,jp)::(L+1+1,jr)::(L+1,jl)::(37,t37)::(30,t30)::(134,tabObj ps2)::[]) from hR) (TZ2.mono fun q hq => .tail _ hq) (RZ2.mono fun q hq => .tail _ hq) (by have h9 := hlen2; omega) F2 N2' ((if_neg (by decide)).trans ((kp2 _ (by decide) (by decide) (by decide) (by decide)).trans mp)) ((if_neg (by decide)).trans ((kp2 _ (by decide) (by decide) (by decide) (by decide)).trans mq)) ((if_neg (by decide)).trans ((kp2 _ (by decide) (by decide) (by decide) (by decide)).trans mi)) ((if_pos rfl).trans (congrArg (fun z => some (Value.int z _)) (by omega))) ((if_neg (by decide)).trans ((kp2 _ (by decide) (by decide) (by decide) (by decide)).trans mb')) cw cu cr co2 hP1 hP4 hQ1 hQ4 hi1 hi2 (by omega) (by omega) hW0 hW1 hU0 hU1 ?_
  intro g2 gk2 m3 xs3 kR3 ps3 ow3 oP3 ov3 G2 NG2 keep2 hzG2 hzRG2 TZG2 RZG2 co3 hdG2
  refine wpAny_execs_nil ?_
  have hz3 : OffZ L ((ow3 ++ (ow2 ++ (ow1 ++ []))) ++ zs) := by rw [List.append_assoc]; exact off_strip hzG2
  have hzR3 : ∀ q ∈ (ow3 ++ (ow2 ++ (ow1 ++ []))) ++ zs,@Ne Nat q.1 R := by rw [List.append_assoc]; exact off_strip hzRG2
  have TZ3 : TabZ ((ow3 ++ (ow2 ++ (ow1 ++ []))) ++ zs) ps3 := by rw [List.append_assoc]; exact TabZ.strip rfl TZG2
  have RZ3 : RowZ ((ow3 ++ (ow2 ++ (ow1 ++ []))) ++ zs) xs3 (rowJ rows P Q' i) := by rw [List.append_assoc]; exact RowZ.strip rfl RZG2
  have hI3 : ∀ q ∈ (ow3 ++ (ow2 ++ (ow1 ++ []))),@Ne Nat q.1 I := fun q hq => by
    rcases List.mem_append.mp hq with hq | hq
    · exact Ne.symm (AllNe.mem (hdG2 q hq) (.head _))
    · exact hI2 q hq
  have hD3 : ∀ q ∈ (ow3 ++ (ow2 ++ (ow1 ++ []))),AllNe q.1 zs := fun q hq => by
    rcases List.mem_append.mp hq with hq | hq
    · exact AllNe.sub (hdG2 q hq) fun r hr => .tail _ (List.mem_append_right _ hr)
    · exact hD2 q hq
  have hlen3 : (rowJ rows P Q' i).length ≤ rows.length+3 := Nat.le_trans (stepRow_len _ _ _ _ _) (by have h9 := hlen2; omega)
  have kp3 : ∀ y,y ≠ Str.ofString "j" → y ≠ Str.ofString "hue" → y ≠ Str.ofString "light" → y ≠ Str.ofString "depth" → m3 y = m y := fun y a b c d => (keep2 y b c d).trans ((if_neg a).trans (kp2 y a b c d))
  refine UnrEnd.intro (all := (R,listOf (xs3).toArray kR3)::(L+1+1+1+1+1+1+1+1,jk)::(L+1+1+1+1+1+1+1,oP3)::(L+1+1+1+1+1+1,yk)::(L+1+1+1+1+1,jm)::(L+1+1+1+1,jt)::(L+1+1+1,jp)::(L+1+1,jr)::(L+1,jl)::(37,t37)::(30,t30)::(134,tabObj ps3)::(ow3 ++ ((I,itR (Q' - 1 + ((3 : Nat) : Int)) (((3 : Nat) : Int) - ((3 : Nat) : Int)))::((ow2 ++ (ow1 ++ [])) ++ zs)))) G2 NG2 ((R,listOf (xs3).toArray kR3)::(L+1+1+1+1+1+1+1+1,jk)::(L+1+1+1+1+1+1+1,oP3)::(L+1+1+1+1+1+1,yk)::(L+1+1+1+1+1,jm)::(L+1+1+1+1,jt)::(L+1+1+1,jp)::(L+1+1,jr)::(L+1,jl)::(37,t37)::(30,t30)::(134,tabObj ps3)::((ow3 ++ (ow2 ++ (ow1 ++ []))) ++ zs)) ?_ ?_ ?_
  · intro q hq
    rcases List.mem_cons.mp hq with rfl | hq
    · exact List.mem_append_right ((R,listOf (xs3).toArray kR3)::(L+1+1+1+1+1+1+1+1,jk)::(L+1+1+1+1+1+1+1,oP3)::(L+1+1+1+1+1+1,yk)::(L+1+1+1+1+1,jm)::(L+1+1+1+1,jt)::(L+1+1+1,jp)::(L+1+1,jr)::(L+1,jl)::(37,t37)::(30,t30)::(134,tabObj ps3)::[]) (List.mem_append_right _ (.head _))
    · rcases List.mem_append.mp (show q ∈ ((R,listOf (xs3).toArray kR3)::(L+1+1+1+1+1+1+1+1,jk)::(L+1+1+1+1+1+1+1,oP3)::(L+1+1+1+1+1+1,yk)::(L+1+1+1+1+1,jm)::(L+1+1+1+1,jt)::(L+1+1+1,jp)::(L+1+1,jr)::(L+1,jl)::(37,t37)::(30,t30)::(134,tabObj ps3)::[] : List (Addr × Obj)) ++ ((ow3 ++ (ow2 ++ (ow1 ++ []))) ++ zs) from hq) with hq | hq
      · exact List.mem_append_left (ow3 ++ ((I,itR (Q' - 1 + ((3 : Nat) : Int)) (((3 : Nat) : Int) - ((3 : Nat) : Int)))::((ow2 ++ (ow1 ++ [])) ++ zs))) hq
      · refine List.mem_append_right ((R,listOf (xs3).toArray kR3)::(L+1+1+1+1+1+1+1+1,jk)::(L+1+1+1+1+1+1+1,oP3)::(L+1+1+1+1+1+1,yk)::(L+1+1+1+1+1,jm)::(L+1+1+1+1,jt)::(L+1+1+1,jp)::(L+1+1,jr)::(L+1,jl)::(37,t37)::(30,t30)::(134,tabObj ps3)::[]) ?_
        rw [List.append_assoc] at hq
        rcases List.mem_append.mp hq with hq | hq
        · exact List.mem_append_left _ hq
        · exact List.mem_append_right _ (.tail _ hq)
  · intro q hq
    rcases List.mem_append.mp (show q ∈ ((R,listOf (xs3).toArray kR3)::(L+1+1+1+1+1+1+1+1,jk)::(L+1+1+1+1+1+1+1,oP3)::(L+1+1+1+1+1+1,yk)::(L+1+1+1+1+1,jm)::(L+1+1+1+1,jt)::(L+1+1+1,jp)::(L+1+1,jr)::(L+1,jl)::(37,t37)::(30,t30)::(134,tabObj ps3)::[] : List (Addr × Obj)) ++ ((ow3 ++ (ow2 ++ (ow1 ++ []))) ++ zs) from hq) with hq | hq
    · exact AllNe.mem (show AllNe I ((R,listOf (xs3).toArray kR3)::(L+1+1+1+1+1+1+1+1,jk)::(L+1+1+1+1+1+1+1,oP3)::(L+1+1+1+1+1+1,yk)::(L+1+1+1+1+1,jm)::(L+1+1+1+1,jt)::(L+1+1+1,jp)::(L+1+1,jr)::(L+1,jl)::(37,t37)::(30,t30)::(134,tabObj ps3)::[]) from hIc) hq
    · rcases List.mem_append.mp hq with hq | hq
      · exact hI3 q hq
      · exact hIz q hq
  refine RangeRest.zero ?_
  intro h9 tk9 F9 N9
  exact fin _ _ m3 xs3 kR3 ps3 (ow3 ++ (ow2 ++ (ow1 ++ []))) oP3 ov3 F9 N9 kp3 hz3 hzR3 TZ3 RZ3 co3 hD3
theorem gg (v : VV) : GG v := pick_all (by with_unfolding_all exact ⟨core_law_n19b,core_it_for2,core_t18_turn,X_law_n21.core_law_n21⟩) v
theorem gg_law_n19b (v : VV) : PP_law_n19b (pj0 v 0) (pj1 v 0) (pj2 v 0) (pj3 v 0) (pj4 v 0) (pj4 v 1) (pj5 v 0) (pj5 v 1) (pj6 v 0) (pj7 v 0) (pj7 v 1) (pj8 v 0) (pj9 v 0) (pj9 v 1) (pj10 v 0) (pj11 v 0) (pj12 v 0) (pj4 v 2) (pj13 v 0) (pj13 v 1) (pj13 v 2) (pj13 v 3) (pj13 v 4) (pj13 v 5) (pj13 v 6) (pj13 v 7) (pj13 v 8) (pj13 v 9) (pj7 v 2) (pj7 v 3) (pj7 v 4) (pj7 v 5) (pj7 v 6) (pj7 v 7) (pj7 v 8) (pj7 v 9) (pj7 v 10) (pj5 v 2) (pj14 v 0) (pj14 v 1) (pj14 v 2) (pj15 v 0) (pj7 v 11) (pj7 v 12) (pj7 v 13) (pj7 v 14) (pj5 v 3) (pj16 v 0) (pj5 v 4) (pj17 v 0) (pj17 v 1) (pj17 v 2) (pj17 v 3) (pj17 v 4) (pj18 v 0) (pj18 v 1) (pj18 v 2) (pj18 v 3) (pj18 v 4) (pj18 v 5) (pj18 v 6) (pj19 v 0) := (gg v).1
theorem gg_it_for2 (v : VV) : PP_it_for2 (pj0 v 0) (pj1 v 0) (pj2 v 0) (pj3 v 0) (pj4 v 0) (pj4 v 1) (pj5 v 0) (pj5 v 1) (pj6 v 0) (pj7 v 0) (pj7 v 1) (pj8 v 0) (pj9 v 0) (pj9 v 1) (pj10 v 0) (pj11 v 0) (pj12 v 0) (pj4 v 2) (pj13 v 0) (pj13 v 1) (pj13 v 2) (pj13 v 3) (pj13 v 4) (pj13 v 5) (pj13 v 6) (pj13 v 7) (pj13 v 10) (pj13 v 11) (pj7 v 2) (pj16 v 1) (pj5 v 2) (pj14 v 0) (pj15 v 0) (pj17 v 5) (pj17 v 6) (pj17 v 7) (pj17 v 8) (pj17 v 9) (pj18 v 7) (pj18 v 8) (pj18 v 9) (pj18 v 10) (pj18 v 11) (pj18 v 12) (pj20 v 0) (pj21 v 0) := (gg v).2.1
theorem gg_t18_turn (v : VV) : PP_t18_turn (pj0 v 0) (pj1 v 0) (pj2 v 0) (pj3 v 0) (pj4 v 0) (pj4 v 1) (pj5 v 0) (pj5 v 1) (pj6 v 0) (pj7 v 0) (pj7 v 1) (pj8 v 0) (pj9 v 0) (pj9 v 1) (pj10 v 0) (pj11 v 0) (pj12 v 0) (pj4 v 2) (pj13 v 0) (pj13 v 1) (pj13 v 2) (pj13 v 3) (pj13 v 4) (pj13 v 5) (pj13 v 6) (pj13 v 7) (pj13 v 8) (pj13 v 9) (pj7 v 2) (pj7 v 3) (pj7 v 4) (pj7 v 5) (pj7 v 6) (pj7 v 7) (pj7 v 8) (pj7 v 9) (pj7 v 10) (pj5 v 2) (pj14 v 0) (pj14 v 1) (pj14 v 2) (pj15 v 0) (pj22 v 0) (pj7 v 15) (pj7 v 16) (pj7 v 11) (pj7 v 17) (pj16 v 2) (pj16 v 0) (pj16 v 3) (pj5 v 5) (pj5 v 4) (pj5 v 6) (pj23 v 0) (pj17 v 10) (pj17 v 5) (pj17 v 6) (pj17 v 0) (pj18 v 0) (pj18 v 7) (pj18 v 8) (pj5 v 7) (pj18 v 13) := (gg v).2.2.1
theorem gg_law_n21 (v : VV) : PP_law_n21 (pj0 v 0) (pj1 v 0) (pj2 v 0) (pj3 v 0) (pj4 v 0) (pj4 v 1) (pj5 v 0) (pj5 v 1) (pj6 v 0) (pj7 v 0) (pj7 v 1) (pj8 v 0) (pj9 v 0) (pj9 v 1) (pj10 v 0) (pj11 v 0) (pj12 v 0) (pj4 v 2) (pj13 v 0) (pj13 v 1) (pj13 v 2) (pj13 v 3) (pj13 v 4) (pj13 v 5) (pj13 v 6) (pj13 v 7) (pj13 v 8) (pj13 v 9) (pj13 v 10) (pj13 v 11) (pj13 v 12) (pj7 v 2) (pj7 v 3) (pj7 v 4) (pj7 v 5) (pj7 v 6) (pj7 v 7) (pj7 v 8) (pj7 v 9) (pj7 v 10) (pj5 v 2) (pj14 v 0) (pj15 v 0) (pj22 v 0) (pj18 v 14) (pj18 v 15) (pj18 v 16) (pj18 v 17) (pj18 v 18) (pj18 v 19) (pj18 v 20) (pj24 v 0) (pj24 v 1) (pj24 v 2) (pj24 v 3) (pj24 v 4) (pj24 v 5) (pj24 v 6) (pj24 v 7) (pj24 v 8) (pj24 v 9) (pj24 v 10) (pj24 v 11) := (gg v).2.2.2
end C3
theorem law_n19b {w p loose mean mg mb dp un gd L fa A₀ base h₀ s Q E m jk jq yk jm jt jp jr jl o30 o37 R c30 c37 T0 T1 T2 T3 T4 T5 kR ps ps30 ps37 zs DN Lst Ta Tb kl dnL kD sc d0 d3 f0 f3 tc td0 td3 a1 b1 a2 b2 tgt} : C3.PP_law_n19b w p loose mean mg mb dp un gd L fa A₀ base h₀ s Q E m jk jq yk jm jt jp jr jl o30 o37 R c30 c37 T0 T1 T2 T3 T4 T5 kR ps ps30 ps37 zs DN Lst Ta Tb kl dnL kD sc d0 d3 f0 f3 tc td0 td3 a1 b1 a2 b2 tgt :=
  C3.gg_law_n19b (fun n => [w].getD n w,fun n => [p].getD n p,fun n => [loose].getD n loose,fun n => [mean].getD n mean,fun n => [mg,mb,m].getD n mg,fun n => [dp,un,kR,kl,kD].getD n dp,fun n => [gd].getD n gd,fun n => [L,fa,R,c30,c37,T0,T1,T2,T3,T4,T5,DN,Lst,Ta,Tb].getD n L,fun n => [A₀].getD n A₀,fun n => [base,h₀].getD n base,fun n => [s].getD n s,fun n => [Q].getD n Q,fun n => [E].getD n E,fun n => [jk,jq,yk,jm,jt,jp,jr,jl,o30,o37].getD n jk,fun n => [ps,ps30,ps37].getD n ps,fun n => [zs].getD n zs,fun n => [dnL].getD n dnL,fun n => [sc,d0,d3,f0,f3].getD n sc,fun n => [tc,td0,td3,a1,b1,a2,b2].getD n tc,fun n => [tgt].getD n tgt,C3.pj20 C3.cc,C3.pj21 C3.cc,C3.pj22 C3.cc,C3.pj23 C3.cc,C3.pj24 C3.cc)
theorem it_for2 {w p loose mean mg mb dp un gd L fa A₀ base h₀ s Q E m jk jq yk jm jt jp jr jl t37 t30 R xs kR ps zs P Q' i WH UN u1 u2 u3 tb tw tu rows ov} : C3.PP_it_for2 w p loose mean mg mb dp un gd L fa A₀ base h₀ s Q E m jk jq yk jm jt jp jr jl t37 t30 R xs kR ps zs P Q' i WH UN u1 u2 u3 tb tw tu rows ov :=
  C3.gg_it_for2 (fun n => [w].getD n w,fun n => [p].getD n p,fun n => [loose].getD n loose,fun n => [mean].getD n mean,fun n => [mg,mb,m].getD n mg,fun n => [dp,un,kR].getD n dp,fun n => [gd].getD n gd,fun n => [L,fa,R].getD n L,fun n => [A₀].getD n A₀,fun n => [base,h₀].getD n base,fun n => [s].getD n s,fun n => [Q].getD n Q,fun n => [E].getD n E,fun n => [jk,jq,yk,jm,jt,jp,jr,jl,jk,jk,t37,t30].getD n jk,fun n => [ps].getD n ps,fun n => [zs].getD n zs,fun n => [xs,xs].getD n xs,fun n => [P,P,P,P,P,P,Q',i,WH,UN].getD n P,fun n => [u1,u1,u1,u1,u1,u1,u1,u1,u2,u3,tb,tw,tu].getD n u1,C3.pj19 C3.cc,fun n => [rows].getD n rows,fun n => [ov].getD n ov,C3.pj22 C3.cc,C3.pj23 C3.cc,C3.pj24 C3.cc)
theorem t18_turn {w p loose mean mg mb dp un gd L fa A₀ base h₀ s Q E m jk jq yk jm jt jp jr jl o30 o37 R c30 c37 T0 T1 T2 T3 T4 T5 kR ps ps30 ps37 zs rest TB UP DN NB upL dnL nbL kU kD kN us b P Q' sc tc u1 u2 k tk} : C3.PP_t18_turn w p loose mean mg mb dp un gd L fa A₀ base h₀ s Q E m jk jq yk jm jt jp jr jl o30 o37 R c30 c37 T0 T1 T2 T3 T4 T5 kR ps ps30 ps37 zs rest TB UP DN NB upL dnL nbL kU kD kN us b P Q' sc tc u1 u2 k tk :=
  C3.gg_t18_turn (fun n => [w].getD n w,fun n => [p].getD n p,fun n => [loose].getD n loose,fun n => [mean].getD n mean,fun n => [mg,mb,m].getD n mg,fun n => [dp,un,kR,dp,kD,kU,kN,k].getD n dp,fun n => [gd].getD n gd,fun n => [L,fa,R,c30,c37,T0,T1,T2,T3,T4,T5,DN,L,L,L,TB,UP,NB].getD n L,fun n => [A₀].getD n A₀,fun n => [base,h₀].getD n base,fun n => [s].getD n s,fun n => [Q].getD n Q,fun n => [E].getD n E,fun n => [jk,jq,yk,jm,jt,jp,jr,jl,o30,o37].getD n jk,fun n => [ps,ps30,ps37].getD n ps,fun n => [zs].getD n zs,fun n => [dnL,upL,upL,nbL].getD n upL,fun n => [sc,b,b,b,b,P,Q',b,b,b,b].getD n b,fun n => [tc,tc,tc,tc,tc,tc,tc,u1,u2,tc,tc,tc,tc,tk].getD n tc,C3.pj19 C3.cc,C3.pj20 C3.cc,C3.pj21 C3.cc,fun n => [rest].getD n rest,fun n => [us].getD n us,C3.pj24 C3.cc)
theorem law_n21 {w p loose mean mg mb dp un gd L fa A₀ base h₀ s Q E m jk jq yk jm jt jp jr jl o30 o37 t37 t30 t134 R c30 c37 T0 T1 T2 T3 T4 T5 kR ps zs rest ts q0 q1 q2 q3 q4 q5 u0 v0 u1 v1 u2 v2 u3 v3 u4 v4 u5 v5} : C3.PP_law_n21 w p loose mean mg mb dp un gd L fa A₀ base h₀ s Q E m jk jq yk jm jt jp jr jl o30 o37 t37 t30 t134 R c30 c37 T0 T1 T2 T3 T4 T5 kR ps zs rest ts q0 q1 q2 q3 q4 q5 u0 v0 u1 v1 u2 v2 u3 v3 u4 v4 u5 v5 :=
  C3.gg_law_n21 (fun n => [w].getD n w,fun n => [p].getD n p,fun n => [loose].getD n loose,fun n => [mean].getD n mean,fun n => [mg,mb,m].getD n mg,fun n => [dp,un,kR].getD n dp,fun n => [gd].getD n gd,fun n => [L,fa,R,c30,c37,T0,T1,T2,T3,T4,T5].getD n L,fun n => [A₀].getD n A₀,fun n => [base,h₀].getD n base,fun n => [s].getD n s,fun n => [Q].getD n Q,fun n => [E].getD n E,fun n => [jk,jq,yk,jm,jt,jp,jr,jl,o30,o37,t37,t30,t134].getD n jk,fun n => [ps].getD n ps,fun n => [zs].getD n zs,C3.pj16 C3.cc,C3.pj17 C3.cc,fun n => [ts,ts,ts,ts,ts,ts,ts,ts,ts,ts,ts,ts,ts,ts,ts,q0,q1,q2,q3,q4,q5].getD n ts,C3.pj19 C3.cc,C3.pj20 C3.cc,C3.pj21 C3.cc,fun n => [rest].getD n rest,C3.pj23 C3.cc,fun n => [u0,v0,u1,v1,u2,v2,u3,v3,u4,v4,u5,v5].getD n u0)
theorem law_z {w : World} {p : Program} {loose : List Str} {mean : ExcName → Option Value} {mg mb : Str → Option Value}
    {dp un : Nat} {gd : Option (List Code)} {L fa : Addr} {A₀ : Around} {base h₀ : Heap} {s : Shared} {Q : Flow → Shared → Prop} {E : Value → Shared → Prop}
    (B : Below A₀ base [] h₀) (X : (Mine.hd.heap_1 w.params).In h₀) (T : Top p loose mean mg mb h₀) (hd : dp+100 < recursionLimit) (hu : un+600 < cLine)
    (ch1 : CodeHd h₀ 41 37) (ch2 : CodeHd h₀ 34 30) (ch3 : CodeHd h₀ 136 134)
   {m : Str → Option Value} {jk jq yk jm jt jp jr jl o30 o37 t134 : Obj} {R c30 c37 T0 T1 T2 T3 T4 T5 : Addr} {kR : Nat} {ps : Array Value} {zs : List (Addr × Obj)}
   (hl : @LT.lt Nat _ 134 L) (hR : AllNe R ((L+1+1+1+1+1+1+1+1,jk)::(L+1+1+1+1+1+1+1,jq)::(L+1+1+1+1+1+1,yk)::(L+1+1+1+1+1,jm)::(L+1+1+1+1,jt)::(L+1+1+1,jp)::(L+1+1,jr)::(L+1,jl)::(37,tab37 c37)::(30,tab30 c30)::(134,t134)::[])) (n30 : AllNe c30 ((R,listOf #[.ref T0,.ref T1,.ref T2,.ref T3,.ref T4,.ref T5] kR)::(L+1+1+1+1+1+1+1+1,jk)::(L+1+1+1+1+1+1+1,jq)::(L+1+1+1+1+1+1,yk)::(L+1+1+1+1+1,jm)::(L+1+1+1+1,jt)::(L+1+1+1,jp)::(L+1+1,jr)::(L+1,jl)::(134,t134)::[])) (n37 : AllNe c37 ((R,listOf #[.ref T0,.ref T1,.ref T2,.ref T3,.ref T4,.ref T5] kR)::(L+1+1+1+1+1+1+1+1,jk)::(L+1+1+1+1+1+1+1,jq)::(L+1+1+1+1+1+1,yk)::(L+1+1+1+1+1,jm)::(L+1+1+1+1,jt)::(L+1+1+1,jp)::(L+1+1,jr)::(L+1,jl)::(134,t134)::[])) {sd : Int} {ts : Tok} {NB : Addr} {N0 N1 N2 N3 N4 N5 : Int} {n0 n1 n2 n3 n4 n5 q0 q1 q2 q3 q4 q5 : Tok} {u0 v0 u1 v1 u2 v2 u3 v3 u4 v4 u5 v5 : Value}
   (DL : DmL c30 c37 o30 o37) (hsd : sd = 0 ∨ sd = 1) (Z : ZB L R c30 c37 zs ps) (F : Fr h₀ L s.heap m) (N : News h₀ L s.heap ((c30,o30)::(c37,o37)::(R,listOf #[.ref T0,.ref T1,.ref T2,.ref T3,.ref T4,.ref T5] kR)::(L+1+1+1+1+1+1+1+1,jk)::(L+1+1+1+1+1+1+1,jq)::(L+1+1+1+1+1+1,yk)::(L+1+1+1+1+1,jm)::(L+1+1+1+1,jt)::(L+1+1+1,jp)::(L+1+1,jr)::(L+1,jl)::(37,tab37 c37)::(30,tab30 c30)::(134,tabObj ps)::zs))
   (cr : yk.data = .cell (some (.ref R))) (cs : jr.data = .cell (some (.int sd ts))) (cn : jk.data = .cell (some (.ref NB))) (hNB : (NB,listOf #[.int N0 n0,.int N1 n1,.int N2 n2,.int N3 n3,.int N4 n4,.int N5 n5] 6) ∈ zs)
   (a0 : (T0,triO (hueB 0) q0 u0 v0) ∈ zs) (a1 : (T1,triO (hueB 1) q1 u1 v1) ∈ zs) (a2 : (T2,triO (hueB 2) q2 u2 v2) ∈ zs) (a3 : (T3,triO (hueB 3) q3 u3 v3) ∈ zs) (a4 : (T4,triO (hueB 4) q4 u4 v4) ∈ zs) (a5 : (T5,triO (hueB 5) q5 u5 v5) ∈ zs)
   (hN : ∀ z ∈ [N0,N1,N2,N3,N4,N5],z.natAbs < 2 ^ 4000) (g1 : gcdL 0 [N0,N2,N4] = gcdL 0 [N1,N3,N5]) (g2 : gcdL 0 [N1,N3,N5] = gcdL 0 [N2,N4,N0])
   (fin : ∀ h tk' m' A1 A2 A3,Fr h₀ L h m' → News h₀ L h [(37,tabObj A1),(30,tabObj A2),(134,tabObj A3)] → Q (.ret (.bool true)) { s with heap := h,toks := tk' })
   : wpAny (model pw_ty0047_01 w) (lawA dp un gd L fa) (execs [lst20,lst21,lst22,lst23] (lawEnv L fa)) Q E s := by
  refine law_n20 B X T hd hu ch1 ch2 ch3 hl hR n30 n37 hsd Z F N cr cs a0 a1 a2 a3 a4 a5 ?_
  intro h1 tk1 D1 zs1 ps1 t0 t1 t2 sub1 hD1 F1 N1 Z1
  refine law_n21 B X T hd hu ch1 ch2 ch3 hl hR n30 n37 hsd Z1 F1 N1 cr cs (sub1 _ a0) (sub1 _ a1) (sub1 _ a2) (sub1 _ a3) (sub1 _ a4) (sub1 _ a5) ?_
  intro h2 tk2 D2 zs2 ps2 t3 t4 t5 sub2 hD2 F2 N2 Z2
  refine law_n22 B X T hd hu ch1 ch2 ch3 hl hR n30 n37 hsd Z2 F2 N2 cs ((if_neg (by decide)).trans (if_pos rfl)) (if_pos rfl) (sub2 _ hD1) hD2 ?_
  intro h3 tk3 F3 N3
  rcases hsd with rfl | rfl
  · refine law_n23 B X T hd hu ch1 ch2 ch3 hl hR n30 n37 (rest := []) DL Z2 F3 N3 cn (sub2 _ (sub1 _ hNB)) ((if_neg (by decide)).trans (if_pos rfl)) (if_pos rfl) (sub2 _ hD1) hD2 ⟨by decide,by decide⟩ ⟨by decide,by decide,rfl⟩ ⟨by decide,by decide⟩ ⟨by decide,by decide,rfl⟩ ⟨by decide,by decide⟩ ⟨by decide,by decide,rfl⟩ ⟨by decide,by decide⟩ ⟨by decide,by decide,rfl⟩ ⟨by decide,by decide⟩ ⟨by decide,by decide,rfl⟩ ⟨by decide,by decide⟩ ⟨by decide,by decide,rfl⟩ (fun z hz => hN z (by simp only [List.mem_cons,List.not_mem_nil,or_false] at hz ⊢; omega)) (fun z hz => hN z (by simp only [List.mem_cons,List.not_mem_nil,or_false] at hz ⊢; omega)) g1 ?_
    intro h4 tk4 F4 N4
    exact fin h4 tk4 _ _ _ _ F4 (cb_drop N4 (by lcg_sub))
  · refine law_n23 B X T hd hu ch1 ch2 ch3 hl hR n30 n37 (rest := []) DL Z2 F3 N3 cn (sub2 _ (sub1 _ hNB)) ((if_neg (by decide)).trans (if_pos rfl)) (if_pos rfl) (sub2 _ hD1) hD2 ⟨by decide,by decide⟩ ⟨by decide,by decide,rfl⟩ ⟨by decide,by decide⟩ ⟨by decide,by decide,rfl⟩ ⟨by decide,by decide⟩ ⟨by decide,by decide,rfl⟩ ⟨by decide,by decide⟩ ⟨by decide,by decide,rfl⟩ ⟨by decide,by decide⟩ ⟨by decide,by decide,rfl⟩ ⟨by decide,by decide⟩ ⟨by decide,by decide,rfl⟩ (fun z hz => hN z (by simp only [List.mem_cons,List.not_mem_nil,or_false] at hz ⊢; omega)) (fun z hz => hN z (by simp only [List.mem_cons,List.not_mem_nil,or_false] at hz ⊢; omega)) g2 ?_
    intro h4 tk4 F4 N4
    exact fin h4 tk4 _ _ _ _ F4 (cb_drop N4 (by lcg_sub))
theorem t18_loop {w : World} {p : Program} {loose : List Str} {mean : ExcName → Option Value} {mg mb : Str → Option Value}
    {dp un : Nat} {gd : Option (List Code)} {L fa : Addr} {A₀ : Around} {base h₀ : Heap} {s : Shared} {Q : Flow → Shared → Prop} {E : Value → Shared → Prop}
    (B : Below A₀ base [] h₀) (X : (Mine.hd.heap_1 w.params).In h₀) (T : Top p loose mean mg mb h₀) (hd : dp+100 < recursionLimit) (hu : un+600 < cLine)
    (ch1 : CodeHd h₀ 41 37) (ch2 : CodeHd h₀ 34 30) (ch3 : CodeHd h₀ 136 134)
   {jk jq yk jm jt jp jr jl : Obj} {R T0 T1 T2 T3 T4 T5 : Addr} {kR : Nat} {ps : Array Value} {zs : List (Addr × Obj)}
   (hl : @LT.lt Nat _ 134 L) (hz : OffZ L zs) (hR : AllNe R ((L+1+1+1+1+1+1+1+1,jk)::(L+1+1+1+1+1+1+1,jq)::(L+1+1+1+1+1+1,yk)::(L+1+1+1+1+1,jm)::(L+1+1+1+1,jt)::(L+1+1+1,jp)::(L+1+1,jr)::(L+1,jl)::(37,tabObj #[])::(30,tabObj #[])::(134,tabObj ps)::[])) (hzR : ∀ q ∈ zs,@Ne Nat q.1 R) {TB UP DN NB : Addr} {upL dnL nbL : List Value} {kU kD kN : Nat} {us : List Int} {b P Q' sc : Int} {tc u1 u2 : Tok} {m0 : Str → Option Value} (mc : m0 (Str.ofString "scale") = some (.int sc tc)) (mp : m0 (Str.ofString "p") = some (.int P u1)) (mq : m0 (Str.ofString "q") = some (.int Q' u2)) (mdn : m0 (Str.ofString "downs") = some (.ref DN)) (mup : m0 (Str.ofString "ups") = some (.ref UP)) (hP1 : 1 ≤ P) (hP4 : P ≤ 4) (hQ1 : 1 ≤ Q') (hQ4 : Q' ≤ 4)
   (cr : yk.data = .cell (some (.ref R))) (ct : jm.data = .cell (some (.ref TB))) (cn : jk.data = .cell (some (.ref NB))) (hTB : TabL zs TB us b)
   (hDN : (DN,listOf dnL.toArray kD) ∈ zs) (hUP : (UP,listOf upL.toArray kU) ∈ zs) (hNB : (NB,listOf nbL.toArray kN) ∈ zs) (hs : sc.natAbs < 2 ^ 4201) (hs2 : 2 ≤ sc)
   (HT : ∀ k,k < 6 → ∃ (Tk : Addr) (th : Tok) (u v : Value) (uv dv nv : Int) (tu td tn : Tok),([.ref T0,.ref T1,.ref T2,.ref T3,.ref T4,.ref T5] : List Value)[k]? = some (.ref Tk) ∧ (Tk,triO (hueB k) th u v) ∈ zs ∧ upL[k]? = some (.int uv tu) ∧ dnL[k]? = some (.int dv td) ∧ nbL[k]? = some (.int nv tn) ∧
     nbV us b P Q' * uv = nv * dv ∧ uv.natAbs < 2 ^ 60 ∧ dv ≠ 0 ∧ dv.natAbs < 2 ^ 50 ∧ nv.natAbs < 2 ^ 90) {I : Addr} (hI : AllNe I ((R,listOf #[.ref T0,.ref T1,.ref T2,.ref T3,.ref T4,.ref T5] kR)::(L+1+1+1+1+1+1+1+1,jk)::(L+1+1+1+1+1+1+1,jq)::(L+1+1+1+1+1+1,yk)::(L+1+1+1+1+1,jm)::(L+1+1+1+1,jt)::(L+1+1+1,jp)::(L+1+1,jr)::(L+1,jl)::(37,tabObj #[])::(30,tabObj #[])::(134,tabObj ps)::zs))
   (fin : ∀ h tk' m' c1 o1 c2 o2,Fr h₀ L h m' → News h₀ L h ((c1,o1)::(c2,o2)::(R,listOf #[.ref T0,.ref T1,.ref T2,.ref T3,.ref T4,.ref T5] kR)::(L+1+1+1+1+1+1+1+1,jk)::(L+1+1+1+1+1+1+1,jq)::(L+1+1+1+1+1+1,yk)::(L+1+1+1+1+1,jm)::(L+1+1+1+1,jt)::(L+1+1+1,jp)::(L+1+1,jr)::(L+1,jl)::(37,tab37 c2)::(30,tab30 c1)::(134,tabObj ps)::zs) → DmL c1 c2 o1 o2 → AllNe c1 ((R,listOf #[.ref T0,.ref T1,.ref T2,.ref T3,.ref T4,.ref T5] kR)::(L+1+1+1+1+1+1+1+1,jk)::(L+1+1+1+1+1+1+1,jq)::(L+1+1+1+1+1+1,yk)::(L+1+1+1+1+1,jm)::(L+1+1+1+1,jt)::(L+1+1+1,jp)::(L+1+1,jr)::(L+1,jl)::(134,tabObj ps)::zs) → AllNe c2 ((R,listOf #[.ref T0,.ref T1,.ref T2,.ref T3,.ref T4,.ref T5] kR)::(L+1+1+1+1+1+1+1+1,jk)::(L+1+1+1+1+1+1+1,jq)::(L+1+1+1+1+1+1,yk)::(L+1+1+1+1+1,jm)::(L+1+1+1+1,jt)::(L+1+1+1,jp)::(L+1+1,jr)::(L+1,jl)::(134,tabObj ps)::zs) → (∀ y,y ≠ Str.ofString "k" → y ≠ Str.ofString "rest" → m' y = m0 y) → Q .next { s with heap := h,toks := tk' })
   : ∀ (n i : Nat),i + n = 6 → ∀ (m : Str → Option Value) (c30 c37 : Addr) (o30 o37 : Obj) (ps30 ps37 : Array Value),(∀ y,y ≠ Str.ofString "k" → y ≠ Str.ofString "rest" → m y = m0 y) → DmT ps30 ps37 c30 c37 o30 o37 → AllNe c30 ((R,listOf #[.ref T0,.ref T1,.ref T2,.ref T3,.ref T4,.ref T5] kR)::(L+1+1+1+1+1+1+1+1,jk)::(L+1+1+1+1+1+1+1,jq)::(L+1+1+1+1+1+1,yk)::(L+1+1+1+1+1,jm)::(L+1+1+1+1,jt)::(L+1+1+1,jp)::(L+1+1,jr)::(L+1,jl)::(134,tabObj ps)::zs) → AllNe c37 ((R,listOf #[.ref T0,.ref T1,.ref T2,.ref T3,.ref T4,.ref T5] kR)::(L+1+1+1+1+1+1+1+1,jk)::(L+1+1+1+1+1+1+1,jq)::(L+1+1+1+1+1+1,yk)::(L+1+1+1+1+1,jm)::(L+1+1+1+1,jt)::(L+1+1+1,jp)::(L+1+1,jr)::(L+1,jl)::(134,tabObj ps)::zs) → @Ne Nat c30 I → @Ne Nat c37 I → (0 < i → tabObj ps30 = tab30 c30 ∧ tabObj ps37 = tab37 c37 ∧ DmL c30 c37 o30 o37) →
     RangeRest pw_ty0047_01 w (lawA dp un gd L fa) E h₀ (lawEnv L fa) (Str.ofString "k") [st18b0,st18b1,st18b2] Q s I 0 6 n i m ((c30,o30)::(c37,o37)::(R,listOf #[.ref T0,.ref T1,.ref T2,.ref T3,.ref T4,.ref T5] kR)::(L+1+1+1+1+1+1+1+1,jk)::(L+1+1+1+1+1+1+1,jq)::(L+1+1+1+1+1+1,yk)::(L+1+1+1+1+1,jm)::(L+1+1+1+1,jt)::(L+1+1+1,jp)::(L+1+1,jr)::(L+1,jl)::(37,tabObj ps37)::(30,tabObj ps30)::(134,tabObj ps)::zs) := by
  intro n
  induction n with
  | zero =>
    intro i hi m c30 c37 o30 o37 ps30 ps37 kp DM n30 n37 e30 e37 hlaid
    refine RangeRest.zero ?_
    intro h9 tk9 F9 N9
    obtain ⟨t1,t2,DL⟩ := hlaid (by omega)
    rw [t1,t2] at N9
    exact fin _ _ m c30 o30 c37 o37 F9 N9 DL n30 n37 kp
  | succ n ih =>
    intro i hi m c30 c37 o30 o37 ps30 ps37 kp DM n30 n37 e30 e37 hlaid
    refine RangeRest.succ ?_
    intro tj h1 tk1 F1 N1
    have hIz : ∀ q ∈ zs,@Ne Nat q.1 I := fun q hq => AllNe.mem hI (List.mem_append_right ((R,listOf #[.ref T0,.ref T1,.ref T2,.ref T3,.ref T4,.ref T5] kR)::(L+1+1+1+1+1+1+1+1,jk)::(L+1+1+1+1+1+1+1,jq)::(L+1+1+1+1+1+1,yk)::(L+1+1+1+1+1,jm)::(L+1+1+1+1,jt)::(L+1+1+1,jp)::(L+1+1,jr)::(L+1,jl)::(37,tabObj #[])::(30,tabObj #[])::(134,tabObj ps)::[]) hq)
    have hIR : @Ne Nat I R := Ne.symm (AllNe.mem hI (.head _))
    have hoI : @Ne Nat I (L+1+1+1+1+1+1+1+1) ∧ @Ne Nat I (L+1+1+1+1+1+1+1) ∧ @Ne Nat I (L+1+1+1+1+1+1) ∧ @Ne Nat I (L+1+1+1+1+1) ∧ @Ne Nat I (L+1+1+1+1) ∧ @Ne Nat I (L+1+1+1) ∧ @Ne Nat I (L+1+1) ∧ @Ne Nat I (L+1) ∧ @Ne Nat I (37) ∧ @Ne Nat I (30) ∧ @Ne Nat I (134) := by
      obtain ⟨_,e0,e1,e2,e3,e4,e5,e6,e7,e8,e9,e10,_⟩ := hI
      exact ⟨Ne.symm e0,Ne.symm e1,Ne.symm e2,Ne.symm e3,Ne.symm e4,Ne.symm e5,Ne.symm e6,Ne.symm e7,Ne.symm e8,Ne.symm e9,Ne.symm e10⟩
    have N1' : News h₀ L h1 ((c30,o30)::(c37,o37)::(R,listOf #[.ref T0,.ref T1,.ref T2,.ref T3,.ref T4,.ref T5] kR)::(L+1+1+1+1+1+1+1+1,jk)::(L+1+1+1+1+1+1+1,jq)::(L+1+1+1+1+1+1,yk)::(L+1+1+1+1+1,jm)::(L+1+1+1+1,jt)::(L+1+1+1,jp)::(L+1+1,jr)::(L+1,jl)::(37,tabObj ps37)::(30,tabObj ps30)::(134,tabObj ps)::((I,itR (0 + ((i+1 : Nat) : Int)) (((6 : Nat) : Int) - ((i+1 : Nat) : Int)))::zs)) := cb_drop N1 (by
      intro q hq
      rcases List.mem_append.mp (show q ∈ ((c30,o30)::(c37,o37)::(R,listOf #[.ref T0,.ref T1,.ref T2,.ref T3,.ref T4,.ref T5] kR)::(L+1+1+1+1+1+1+1+1,jk)::(L+1+1+1+1+1+1+1,jq)::(L+1+1+1+1+1+1,yk)::(L+1+1+1+1+1,jm)::(L+1+1+1+1,jt)::(L+1+1+1,jp)::(L+1+1,jr)::(L+1,jl)::(37,tabObj ps37)::(30,tabObj ps30)::(134,tabObj ps)::[] : List (Addr × Obj)) ++ ((I,itR (0 + ((i+1 : Nat) : Int)) (((6 : Nat) : Int) - ((i+1 : Nat) : Int)))::zs) from hq) with hq | hq
      · exact .tail _ (List.mem_append_left zs hq)
      · rcases List.mem_cons.mp hq with rfl | hq
        · exact .head _
        · exact .tail _ (List.mem_append_right ((c30,o30)::(c37,o37)::(R,listOf #[.ref T0,.ref T1,.ref T2,.ref T3,.ref T4,.ref T5] kR)::(L+1+1+1+1+1+1+1+1,jk)::(L+1+1+1+1+1+1+1,jq)::(L+1+1+1+1+1+1,yk)::(L+1+1+1+1+1,jm)::(L+1+1+1+1,jt)::(L+1+1+1,jp)::(L+1+1,jr)::(L+1,jl)::(37,tabObj ps37)::(30,tabObj ps30)::(134,tabObj ps)::[]) hq))
    have toZ : ∀ {d : Addr},AllNe d ((R,listOf #[.ref T0,.ref T1,.ref T2,.ref T3,.ref T4,.ref T5] kR)::(L+1+1+1+1+1+1+1+1,jk)::(L+1+1+1+1+1+1+1,jq)::(L+1+1+1+1+1+1,yk)::(L+1+1+1+1+1,jm)::(L+1+1+1+1,jt)::(L+1+1+1,jp)::(L+1+1,jr)::(L+1,jl)::(134,tabObj ps)::zs) → @Ne Nat d I → AllNe d ((R,listOf #[.ref T0,.ref T1,.ref T2,.ref T3,.ref T4,.ref T5] kR)::(L+1+1+1+1+1+1+1+1,jk)::(L+1+1+1+1+1+1+1,jq)::(L+1+1+1+1+1+1,yk)::(L+1+1+1+1+1,jm)::(L+1+1+1+1,jt)::(L+1+1+1,jp)::(L+1+1,jr)::(L+1,jl)::(134,tabObj ps)::((I,itR (0 + ((i+1 : Nat) : Int)) (((6 : Nat) : Int) - ((i+1 : Nat) : Int)))::zs)) := fun {d} h1 h2 => allNe_of fun q hq => by
      rcases List.mem_append.mp (show q ∈ ((R,listOf #[.ref T0,.ref T1,.ref T2,.ref T3,.ref T4,.ref T5] kR)::(L+1+1+1+1+1+1+1+1,jk)::(L+1+1+1+1+1+1+1,jq)::(L+1+1+1+1+1+1,yk)::(L+1+1+1+1+1,jm)::(L+1+1+1+1,jt)::(L+1+1+1,jp)::(L+1+1,jr)::(L+1,jl)::(134,tabObj ps)::[] : List (Addr × Obj)) ++ ((I,itR (0 + ((i+1 : Nat) : Int)) (((6 : Nat) : Int) - ((i+1 : Nat) : Int)))::zs) from hq) with hq | hq
      · exact AllNe.mem h1 (List.mem_append_left zs hq)
      · rcases List.mem_cons.mp hq with rfl | hq
        · exact Ne.symm h2
        · exact AllNe.mem h1 (List.mem_append_right ((R,listOf #[.ref T0,.ref T1,.ref T2,.ref T3,.ref T4,.ref T5] kR)::(L+1+1+1+1+1+1+1+1,jk)::(L+1+1+1+1+1+1+1,jq)::(L+1+1+1+1+1+1,yk)::(L+1+1+1+1+1,jm)::(L+1+1+1+1,jt)::(L+1+1+1,jp)::(L+1+1,jr)::(L+1,jl)::(134,tabObj ps)::[]) hq)
    have fromZ : ∀ {d : Addr},AllNe d ((R,listOf #[.ref T0,.ref T1,.ref T2,.ref T3,.ref T4,.ref T5] kR)::(L+1+1+1+1+1+1+1+1,jk)::(L+1+1+1+1+1+1+1,jq)::(L+1+1+1+1+1+1,yk)::(L+1+1+1+1+1,jm)::(L+1+1+1+1,jt)::(L+1+1+1,jp)::(L+1+1,jr)::(L+1,jl)::(134,tabObj ps)::((I,itR (0 + ((i+1 : Nat) : Int)) (((6 : Nat) : Int) - ((i+1 : Nat) : Int)))::zs)) → AllNe d ((R,listOf #[.ref T0,.ref T1,.ref T2,.ref T3,.ref T4,.ref T5] kR)::(L+1+1+1+1+1+1+1+1,jk)::(L+1+1+1+1+1+1+1,jq)::(L+1+1+1+1+1+1,yk)::(L+1+1+1+1+1,jm)::(L+1+1+1+1,jt)::(L+1+1+1,jp)::(L+1+1,jr)::(L+1,jl)::(134,tabObj ps)::zs) ∧ @Ne Nat d I := fun {d} h1 => ⟨allNe_of fun q hq => by
      rcases List.mem_append.mp (show q ∈ ((R,listOf #[.ref T0,.ref T1,.ref T2,.ref T3,.ref T4,.ref T5] kR)::(L+1+1+1+1+1+1+1+1,jk)::(L+1+1+1+1+1+1+1,jq)::(L+1+1+1+1+1+1,yk)::(L+1+1+1+1+1,jm)::(L+1+1+1+1,jt)::(L+1+1+1,jp)::(L+1+1,jr)::(L+1,jl)::(134,tabObj ps)::[] : List (Addr × Obj)) ++ zs from hq) with hq | hq
      · exact AllNe.mem h1 (List.mem_append_left ((I,itR (0 + ((i+1 : Nat) : Int)) (((6 : Nat) : Int) - ((i+1 : Nat) : Int)))::zs) hq)
      · exact AllNe.mem h1 (List.mem_append_right ((R,listOf #[.ref T0,.ref T1,.ref T2,.ref T3,.ref T4,.ref T5] kR)::(L+1+1+1+1+1+1+1+1,jk)::(L+1+1+1+1+1+1+1,jq)::(L+1+1+1+1+1+1,yk)::(L+1+1+1+1+1,jm)::(L+1+1+1+1,jt)::(L+1+1+1,jp)::(L+1+1,jr)::(L+1,jl)::(134,tabObj ps)::[]) (.tail _ hq)),Ne.symm (AllNe.mem h1 (List.mem_append_right ((R,listOf #[.ref T0,.ref T1,.ref T2,.ref T3,.ref T4,.ref T5] kR)::(L+1+1+1+1+1+1+1+1,jk)::(L+1+1+1+1+1+1+1,jq)::(L+1+1+1+1+1+1,yk)::(L+1+1+1+1+1,jm)::(L+1+1+1+1,jt)::(L+1+1+1,jp)::(L+1+1,jr)::(L+1,jl)::(134,tabObj ps)::[]) (.head zs)))⟩
    have fr : ∀ y,y ≠ Str.ofString "k" → y ≠ Str.ofString "rest" → (fun y => if y = Str.ofString "k" then some (Value.int (0 + (i : Int)) tj) else m y) y = m0 y := fun y a b => (if_neg a).trans (kp y a b)
    refine t18_turn (k := i) B X T hd hu ch1 ch2 ch3 hl (zs := ((I,itR (0 + ((i+1 : Nat) : Int)) (((6 : Nat) : Int) - ((i+1 : Nat) : Int)))::zs)) (offI (own := []) hz hoI) (show AllNe R ((L+1+1+1+1+1+1+1+1,jk)::(L+1+1+1+1+1+1+1,jq)::(L+1+1+1+1+1+1,yk)::(L+1+1+1+1+1,jm)::(L+1+1+1+1,jt)::(L+1+1+1,jp)::(L+1+1,jr)::(L+1,jl)::(37,tabObj ps37)::(30,tabObj ps30)::(134,tabObj ps)::[]) from hR) (off_put (own := []) (P := fun r => @Ne Nat r.1 R) hIR hzR) DM (toZ n30 e30) (toZ n37 e37) (by omega) F1 N1' ((if_pos rfl).trans (congrArg (fun z => some (Value.int z _)) (Int.zero_add _))) ((fr _ (by decide) (by decide)).trans mc) ((fr _ (by decide) (by decide)).trans mp) ((fr _ (by decide) (by decide)).trans mq) ((fr _ (by decide) (by decide)).trans mdn) ((fr _ (by decide) (by decide)).trans mup) hP1 hP4 hQ1 hQ4 cr ct cn (hTB.mono fun q hq => .tail _ hq) (.tail _ hDN) (.tail _ hUP) (.tail _ hNB) hs hs2 (fun k hk => let ⟨Tk,th,u,v,uv,dv,nv,tu,td,tn,x1,x2,x3⟩ := HT k hk; ⟨Tk,th,u,v,uv,dv,nv,tu,td,tn,x1,.tail _ x2,x3⟩) ?_
    intro h2 tk2 m2 c1 o1 c2 o2 F2 N2 DL2 k30 k37 keep2
    refine wpAny_execs_nil ?_
    obtain ⟨k30',i1⟩ := fromZ k30
    obtain ⟨k37',i2⟩ := fromZ k37
    refine UnrEnd.intro (all := (c1,o1)::(c2,o2)::(R,listOf #[.ref T0,.ref T1,.ref T2,.ref T3,.ref T4,.ref T5] kR)::(L+1+1+1+1+1+1+1+1,jk)::(L+1+1+1+1+1+1+1,jq)::(L+1+1+1+1+1+1,yk)::(L+1+1+1+1+1,jm)::(L+1+1+1+1,jt)::(L+1+1+1,jp)::(L+1+1,jr)::(L+1,jl)::(37,tab37 c2)::(30,tab30 c1)::(134,tabObj ps)::((I,itR (0 + ((i+1 : Nat) : Int)) (((6 : Nat) : Int) - ((i+1 : Nat) : Int)))::zs)) F2 N2 ((c1,o1)::(c2,o2)::(R,listOf #[.ref T0,.ref T1,.ref T2,.ref T3,.ref T4,.ref T5] kR)::(L+1+1+1+1+1+1+1+1,jk)::(L+1+1+1+1+1+1+1,jq)::(L+1+1+1+1+1+1,yk)::(L+1+1+1+1+1,jm)::(L+1+1+1+1,jt)::(L+1+1+1,jp)::(L+1+1,jr)::(L+1,jl)::(37,tab37 c2)::(30,tab30 c1)::(134,tabObj ps)::zs) ?_ ?_ (ih (i+1) (by omega) m2 c1 c2 o1 o2 _ _ (fun y a b => (keep2 y b).trans (fr y a b)) DL2 k30' k37' i1 i2 (fun _ => ⟨rfl,rfl,DL2⟩))
    · intro q hq
      rcases List.mem_cons.mp hq with rfl | hq
      · exact List.mem_append_right ((c1,o1)::(c2,o2)::(R,listOf #[.ref T0,.ref T1,.ref T2,.ref T3,.ref T4,.ref T5] kR)::(L+1+1+1+1+1+1+1+1,jk)::(L+1+1+1+1+1+1+1,jq)::(L+1+1+1+1+1+1,yk)::(L+1+1+1+1+1,jm)::(L+1+1+1+1,jt)::(L+1+1+1,jp)::(L+1+1,jr)::(L+1,jl)::(37,tab37 c2)::(30,tab30 c1)::(134,tabObj ps)::[]) (.head _)
      · rcases List.mem_append.mp (show q ∈ ((c1,o1)::(c2,o2)::(R,listOf #[.ref T0,.ref T1,.ref T2,.ref T3,.ref T4,.ref T5] kR)::(L+1+1+1+1+1+1+1+1,jk)::(L+1+1+1+1+1+1+1,jq)::(L+1+1+1+1+1+1,yk)::(L+1+1+1+1+1,jm)::(L+1+1+1+1,jt)::(L+1+1+1,jp)::(L+1+1,jr)::(L+1,jl)::(37,tab37 c2)::(30,tab30 c1)::(134,tabObj ps)::[] : List (Addr × Obj)) ++ zs from hq) with hq | hq
        · exact List.mem_append_left ((I,itR (0 + ((i+1 : Nat) : Int)) (((6 : Nat) : Int) - ((i+1 : Nat) : Int)))::zs) hq
        · exact List.mem_append_right ((c1,o1)::(c2,o2)::(R,listOf #[.ref T0,.ref T1,.ref T2,.ref T3,.ref T4,.ref T5] kR)::(L+1+1+1+1+1+1+1+1,jk)::(L+1+1+1+1+1+1+1,jq)::(L+1+1+1+1+1+1,yk)::(L+1+1+1+1+1,jm)::(L+1+1+1+1,jt)::(L+1+1+1,jp)::(L+1+1,jr)::(L+1,jl)::(37,tab37 c2)::(30,tab30 c1)::(134,tabObj ps)::[]) (.tail _ hq)
    · intro q hq
      rcases List.mem_cons.mp hq with rfl | hq
      · exact i1
      · rcases List.mem_cons.mp hq with rfl | hq
        · exact i2
        · exact AllNe.mem (show AllNe I ((R,listOf #[.ref T0,.ref T1,.ref T2,.ref T3,.ref T4,.ref T5] kR)::(L+1+1+1+1+1+1+1+1,jk)::(L+1+1+1+1+1+1+1,jq)::(L+1+1+1+1+1+1,yk)::(L+1+1+1+1+1,jm)::(L+1+1+1+1,jt)::(L+1+1+1,jp)::(L+1+1,jr)::(L+1,jl)::(37,tab37 c2)::(30,tab30 c1)::(134,tabObj ps)::zs) from hI) hq
theorem words_a66 : True := by
  k_with_none
  k_with "k_ne" => (refine neN ?_; (try dsimp only); first | (with_reducible assumption) | (refine Ne.symm ?_; with_reducible assumption))
  exact trivial
theorem law_n18 {w : World} {p : Program} {loose : List Str} {mean : ExcName → Option Value} {mg mb : Str → Option Value}
    {dp un : Nat} {gd : Option (List Code)} {L fa : Addr} {A₀ : Around} {base h₀ : Heap} {s : Shared} {Q : Flow → Shared → Prop} {E : Value → Shared → Prop}
    (B : Below A₀ base [] h₀) (X : (Mine.hd.heap_1 w.params).In h₀) (T : Top p loose mean mg mb h₀) (hd : dp+100 < recursionLimit) (hu : un+600 < cLine)
    (ch1 : CodeHd h₀ 41 37) (ch2 : CodeHd h₀ 34 30) (ch3 : CodeHd h₀ 136 134)
   {m : Str → Option Value} {jk jq yk jm jt jp jr jl o30 o37 : Obj} {R c30 c37 T0 T1 T2 T3 T4 T5 : Addr} {kR : Nat} {ps ps30 ps37 : Array Value} {zs : List (Addr × Obj)}
   (hl : @LT.lt Nat _ 134 L) (hz : OffZ L zs) (hR : AllNe R ((L+1+1+1+1+1+1+1+1,jk)::(L+1+1+1+1+1+1+1,jq)::(L+1+1+1+1+1+1,yk)::(L+1+1+1+1+1,jm)::(L+1+1+1+1,jt)::(L+1+1+1,jp)::(L+1+1,jr)::(L+1,jl)::(37,tabObj ps37)::(30,tabObj ps30)::(134,tabObj ps)::[])) (hzR : ∀ q ∈ zs,@Ne Nat q.1 R) (DM : DmT ps30 ps37 c30 c37 o30 o37) (n30 : AllNe c30 ((R,listOf #[.ref T0,.ref T1,.ref T2,.ref T3,.ref T4,.ref T5] kR)::(L+1+1+1+1+1+1+1+1,jk)::(L+1+1+1+1+1+1+1,jq)::(L+1+1+1+1+1+1,yk)::(L+1+1+1+1+1,jm)::(L+1+1+1+1,jt)::(L+1+1+1,jp)::(L+1+1,jr)::(L+1,jl)::(134,tabObj ps)::zs)) (n37 : AllNe c37 ((R,listOf #[.ref T0,.ref T1,.ref T2,.ref T3,.ref T4,.ref T5] kR)::(L+1+1+1+1+1+1+1+1,jk)::(L+1+1+1+1+1+1+1,jq)::(L+1+1+1+1+1+1,yk)::(L+1+1+1+1+1,jm)::(L+1+1+1+1,jt)::(L+1+1+1,jp)::(L+1+1,jr)::(L+1,jl)::(134,tabObj ps)::zs)) {TB UP DN NB : Addr} {upL dnL nbL : List Value} {kU kD kN : Nat} {us : List Int} {b P Q' sc : Int} {tc u1 u2 : Tok} (hE : PassesOwn (model pw_ty0047_01 w) (lawA dp un gd L fa) (lawEnv L fa) E) (F : Fr h₀ L s.heap m) (N : News h₀ L s.heap ((c30,o30)::(c37,o37)::(R,listOf #[.ref T0,.ref T1,.ref T2,.ref T3,.ref T4,.ref T5] kR)::(L+1+1+1+1+1+1+1+1,jk)::(L+1+1+1+1+1+1+1,jq)::(L+1+1+1+1+1+1,yk)::(L+1+1+1+1+1,jm)::(L+1+1+1+1,jt)::(L+1+1+1,jp)::(L+1+1,jr)::(L+1,jl)::(37,tabObj ps37)::(30,tabObj ps30)::(134,tabObj ps)::zs)) (mc : m (Str.ofString "scale") = some (.int sc tc)) (mp : m (Str.ofString "p") = some (.int P u1)) (mq : m (Str.ofString "q") = some (.int Q' u2)) (mdn : m (Str.ofString "downs") = some (.ref DN)) (mup : m (Str.ofString "ups") = some (.ref UP)) (hP1 : 1 ≤ P) (hP4 : P ≤ 4) (hQ1 : 1 ≤ Q') (hQ4 : Q' ≤ 4)
   (cr : yk.data = .cell (some (.ref R))) (ct : jm.data = .cell (some (.ref TB))) (cn : jk.data = .cell (some (.ref NB))) (hTB : TabL zs TB us b)
   (hDN : (DN,listOf dnL.toArray kD) ∈ zs) (hUP : (UP,listOf upL.toArray kU) ∈ zs) (hNB : (NB,listOf nbL.toArray kN) ∈ zs) (hs : sc.natAbs < 2 ^ 4201) (hs2 : 2 ≤ sc)
   (HT : ∀ k,k < 6 → ∃ (Tk : Addr) (th : Tok) (u v : Value) (uv dv nv : Int) (tu td tn : Tok),([.ref T0,.ref T1,.ref T2,.ref T3,.ref T4,.ref T5] : List Value)[k]? = some (.ref Tk) ∧ (Tk,triO (hueB k) th u v) ∈ zs ∧ upL[k]? = some (.int uv tu) ∧ dnL[k]? = some (.int dv td) ∧ nbL[k]? = some (.int nv tn) ∧
     nbV us b P Q' * uv = nv * dv ∧ uv.natAbs < 2 ^ 60 ∧ dv ≠ 0 ∧ dv.natAbs < 2 ^ 50 ∧ nv.natAbs < 2 ^ 90)
   (fin : ∀ h tk' m' c1 o1 c2 o2,Fr h₀ L h m' → News h₀ L h ((c1,o1)::(c2,o2)::(R,listOf #[.ref T0,.ref T1,.ref T2,.ref T3,.ref T4,.ref T5] kR)::(L+1+1+1+1+1+1+1+1,jk)::(L+1+1+1+1+1+1+1,jq)::(L+1+1+1+1+1+1,yk)::(L+1+1+1+1+1,jm)::(L+1+1+1+1,jt)::(L+1+1+1,jp)::(L+1+1,jr)::(L+1,jl)::(37,tab37 c2)::(30,tab30 c1)::(134,tabObj ps)::zs) → DmL c1 c2 o1 o2 → AllNe c1 ((R,listOf #[.ref T0,.ref T1,.ref T2,.ref T3,.ref T4,.ref T5] kR)::(L+1+1+1+1+1+1+1+1,jk)::(L+1+1+1+1+1+1+1,jq)::(L+1+1+1+1+1+1,yk)::(L+1+1+1+1+1,jm)::(L+1+1+1+1,jt)::(L+1+1+1,jp)::(L+1+1,jr)::(L+1,jl)::(134,tabObj ps)::zs) → AllNe c2 ((R,listOf #[.ref T0,.ref T1,.ref T2,.ref T3,.ref T4,.ref T5] kR)::(L+1+1+1+1+1+1+1+1,jk)::(L+1+1+1+1+1+1+1,jq)::(L+1+1+1+1+1+1,yk)::(L+1+1+1+1+1,jm)::(L+1+1+1+1,jt)::(L+1+1+1,jp)::(L+1+1,jr)::(L+1,jl)::(134,tabObj ps)::zs) → (∀ y,y ≠ Str.ofString "k" → y ≠ Str.ofString "rest" → m' y = m y) → Q .next { s with heap := h,toks := tk' })
   : wpAny (model pw_ty0047_01 w) (lawA dp un gd L fa) (exec stFor18 (lawEnv L fa)) Q E s := by
  w_top off
  refine For_invVF F (by rfl) (by rfl) ?_ (hE := hE)
  iterate 7 (first | walk1 | (dsimp only; walk1))
  rename IsRange _ _ _ _ _ _ _ _ => hr
  rename Fr h₀ L _ _ => F9
  rename News h₀ L _ _ => N9
  refine iter_rangeUnr (n := 6) rfl hr (by decide) (by decide) F9 N9 ?_
  intro I lI
  have hI : AllNe I ((c30,o30)::(c37,o37)::(R,listOf #[.ref T0,.ref T1,.ref T2,.ref T3,.ref T4,.ref T5] kR)::(L+1+1+1+1+1+1+1+1,jk)::(L+1+1+1+1+1+1+1,jq)::(L+1+1+1+1+1+1,yk)::(L+1+1+1+1+1,jm)::(L+1+1+1+1,jt)::(L+1+1+1,jp)::(L+1+1,jr)::(L+1,jl)::(37,tabObj ps37)::(30,tabObj ps30)::(134,tabObj ps)::zs) := allNe_of fun q hq => Nat.ne_of_lt (lI q hq)
  refine t18_loop B X T hd hu ch1 ch2 ch3 hl hz (show AllNe R ((L+1+1+1+1+1+1+1+1,jk)::(L+1+1+1+1+1+1+1,jq)::(L+1+1+1+1+1+1,yk)::(L+1+1+1+1+1,jm)::(L+1+1+1+1,jt)::(L+1+1+1,jp)::(L+1+1,jr)::(L+1,jl)::(37,tabObj #[])::(30,tabObj #[])::(134,tabObj ps)::[]) from hR) hzR mc mp mq mdn mup hP1 hP4 hQ1 hQ4 cr ct cn hTB hDN hUP hNB hs hs2 HT (show AllNe I ((R,listOf #[.ref T0,.ref T1,.ref T2,.ref T3,.ref T4,.ref T5] kR)::(L+1+1+1+1+1+1+1+1,jk)::(L+1+1+1+1+1+1+1,jq)::(L+1+1+1+1+1+1,yk)::(L+1+1+1+1+1,jm)::(L+1+1+1+1,jt)::(L+1+1+1,jp)::(L+1+1,jr)::(L+1,jl)::(37,tabObj #[])::(30,tabObj #[])::(134,tabObj ps)::zs) from hI.2.2) ?_ 6 0 rfl m c30 c37 o30 o37 ps30 ps37 (fun _ _ _ => rfl) DM n30 n37 hI.1 hI.2.1 (fun h => absurd h (by decide))
  intro h5 tk5 m5 c1 o1 c2 o2 F5 N5 DL5 k30 k37 kp
  exact fin _ _ m5 c1 o1 c2 o2 F5 N5 DL5 k30 k37 kp
theorem words_a67 : True := by
  k_with_none
  k_with "k_ne" => (refine neN ?_; (try dsimp only); first | (with_reducible assumption) | (refine Ne.symm ?_; with_reducible assumption))
  k_with "binaryOp Mult int int" => (with_reducible refine mul_to rfl (by exact (by assumption : ∀ c,IntMulOk c _) _) ?_)
  k_with "omega" => lia
  exact trivial
theorem law_n19 {w : World} {p : Program} {loose : List Str} {mean : ExcName → Option Value} {mg mb : Str → Option Value}
    {dp un : Nat} {gd : Option (List Code)} {L fa : Addr} {A₀ : Around} {base h₀ : Heap} {s : Shared} {Q : Flow → Shared → Prop} {E : Value → Shared → Prop}
    (B : Below A₀ base [] h₀) (X : (Mine.hd.heap_1 w.params).In h₀) (T : Top p loose mean mg mb h₀) (hd : dp+100 < recursionLimit) (hu : un+600 < cLine)
    (ch1 : CodeHd h₀ 41 37) (ch2 : CodeHd h₀ 34 30) (ch3 : CodeHd h₀ 136 134)
   {m : Str → Option Value} {jk jq yk jm jt jp jr jl o30 o37 : Obj} {R c30 c37 T0 T1 T2 T3 T4 T5 : Addr} {kR : Nat} {ps ps30 ps37 : Array Value} {zs : List (Addr × Obj)}
   (hl : @LT.lt Nat _ 134 L) (hz : OffZ L zs) (hR : AllNe R ((L+1+1+1+1+1+1+1+1,jk)::(L+1+1+1+1+1+1+1,jq)::(L+1+1+1+1+1+1,yk)::(L+1+1+1+1+1,jm)::(L+1+1+1+1,jt)::(L+1+1+1,jp)::(L+1+1,jr)::(L+1,jl)::(37,tabObj ps37)::(30,tabObj ps30)::(134,tabObj ps)::[])) (hzR : ∀ q ∈ zs,@Ne Nat q.1 R) (DM : DmT ps30 ps37 c30 c37 o30 o37) (n30 : AllNe c30 ((R,listOf #[.ref T0,.ref T1,.ref T2,.ref T3,.ref T4,.ref T5] kR)::(L+1+1+1+1+1+1+1+1,jk)::(L+1+1+1+1+1+1+1,jq)::(L+1+1+1+1+1+1,yk)::(L+1+1+1+1+1,jm)::(L+1+1+1+1,jt)::(L+1+1+1,jp)::(L+1+1,jr)::(L+1,jl)::(134,tabObj ps)::zs)) (n37 : AllNe c37 ((R,listOf #[.ref T0,.ref T1,.ref T2,.ref T3,.ref T4,.ref T5] kR)::(L+1+1+1+1+1+1+1+1,jk)::(L+1+1+1+1+1+1+1,jq)::(L+1+1+1+1+1+1,yk)::(L+1+1+1+1+1,jm)::(L+1+1+1+1,jt)::(L+1+1+1,jp)::(L+1+1,jr)::(L+1,jl)::(134,tabObj ps)::zs)) {DN : Addr} {dnL : List Value} {kD : Nat} {sc d0 d3 : Int} {tc td0 td3 : Tok} (hE : PassesOwn (model pw_ty0047_01 w) (lawA dp un gd L fa) (lawEnv L fa) E) (F : Fr h₀ L s.heap m) (N : News h₀ L s.heap ((c30,o30)::(c37,o37)::(R,listOf #[.ref T0,.ref T1,.ref T2,.ref T3,.ref T4,.ref T5] kR)::(L+1+1+1+1+1+1+1+1,jk)::(L+1+1+1+1+1+1+1,jq)::(L+1+1+1+1+1+1,yk)::(L+1+1+1+1+1,jm)::(L+1+1+1+1,jt)::(L+1+1+1,jp)::(L+1+1,jr)::(L+1,jl)::(37,tabObj ps37)::(30,tabObj ps30)::(134,tabObj ps)::zs))
   (mc : m (Str.ofString "scale") = some (.int sc tc)) (mdn : m (Str.ofString "downs") = some (.ref DN)) (hDN : (DN,listOf dnL.toArray kD) ∈ zs) (hx0 : dnL[0]? = some (.int d0 td0)) (hx3 : dnL[3]? = some (.int d3 td3))
   (hs : sc.natAbs < 2 ^ 4201) (hs2 : 2 ≤ sc) (hd0 : d0 ≠ 0) (hdb0 : d0.natAbs < 2 ^ 50) (hd3 : d3 ≠ 0) (hdb3 : d3.natAbs < 2 ^ 50)
   (fin : ∀ h tk' m' c1 o1 c2 o2,Fr h₀ L h m' → News h₀ L h ((c1,o1)::(c2,o2)::(R,listOf #[.ref T0,.ref T1,.ref T2,.ref T3,.ref T4,.ref T5] kR)::(L+1+1+1+1+1+1+1+1,jk)::(L+1+1+1+1+1+1+1,jq)::(L+1+1+1+1+1+1,yk)::(L+1+1+1+1+1,jm)::(L+1+1+1+1,jt)::(L+1+1+1,jp)::(L+1+1,jr)::(L+1,jl)::(37,tab37 c2)::(30,tab30 c1)::(134,tabObj ps)::zs) → DmL c1 c2 o1 o2 → AllNe c1 ((R,listOf #[.ref T0,.ref T1,.ref T2,.ref T3,.ref T4,.ref T5] kR)::(L+1+1+1+1+1+1+1+1,jk)::(L+1+1+1+1+1+1+1,jq)::(L+1+1+1+1+1+1,yk)::(L+1+1+1+1+1,jm)::(L+1+1+1+1,jt)::(L+1+1+1,jp)::(L+1+1,jr)::(L+1,jl)::(134,tabObj ps)::zs) → AllNe c2 ((R,listOf #[.ref T0,.ref T1,.ref T2,.ref T3,.ref T4,.ref T5] kR)::(L+1+1+1+1+1+1+1+1,jk)::(L+1+1+1+1+1+1+1,jq)::(L+1+1+1+1+1+1,yk)::(L+1+1+1+1+1,jm)::(L+1+1+1+1,jt)::(L+1+1+1,jp)::(L+1+1,jr)::(L+1,jl)::(134,tabObj ps)::zs) → (∀ y,y ≠ Str.ofString "k" → y ≠ Str.ofString "full" → y ≠ Str.ofString "rest" → m' y = m y) → Q .next { s with heap := h,toks := tk' })
   : wpAny (model pw_ty0047_01 w) (lawA dp un gd L fa) (exec stFor19 (lawEnv L fa)) Q E s := by
  w_top off
  have okm : ∀ c,c.natAbs < 2 ^ 20 → IntMulOk c sc := fun c hc => nok hc hs (by decide) (by decide)
  have ok1 : ∀ c,IntMulOk c sc → True := fun _ _ => trivial
  have m256 : IntMulOk 256 sc := okm 256 (by decide)
  have m2 : IntMulOk 2 sc := okm 2 (by decide)
  have hf0 : (256 * sc - 257).natAbs < 2 ^ 4210 := by
    have e1 : (2 : Nat) ^ 4210 = 512 * 2 ^ 4201 := by rw [show 4210 = 9+4201 from rfl,Nat.pow_add]
    rw [e1]
    generalize (2 : Nat) ^ 4201 = A at *
    omega
  have hf3 : (2 * sc - 3).natAbs < 2 ^ 4210 := by
    have e1 : (2 : Nat) ^ 4210 = 512 * 2 ^ 4201 := by rw [show 4210 = 9+4201 from rfl,Nat.pow_add]
    rw [e1]
    generalize (2 : Nat) ^ 4201 = A at *
    omega
  refine For_turns F ?_ (hE := hE)
  iterate 31 (first | walk1 | (dsimp only; walk1))
  rename Fr h₀ L _ _ => F9
  rename News h₀ L _ _ => N9
  rename_i Ta e1 la Tb e2 lb Lst e3 lL
  refine law_n19b (kl := 0) (f0 := 256 * sc - 257) (f3 := 2 * sc - 3) B X T hd hu ch1 ch2 ch3 hl hz hR hzR DM n30 n37 rfl rfl F9 N9 (allNe_lt lL) (allNe_lt lb) (allNe_lt la) mc mdn hDN hx0 hx3 hs hs2 hd0 hdb0 hd3 hdb3 hf0 hf3 fin
namespace C4
def PP_law_y (w : World) (p : Program) (loose : List Str) (mean : ExcName → Option Value) (mg : Str → Option Value) (mb : Str → Option Value) (dp : Nat) (un : Nat) (gd : Option (List Code)) (L : Addr) (fa : Addr) (A₀ : Around) (base : Heap) (h₀ : Heap) (s : Shared) (Q : Flow → Shared → Prop) (E : Value → Shared → Prop) (m : Str → Option Value) (jk : Obj) (jq : Obj) (yk : Obj) (jm : Obj) (jt : Obj) (jp : Obj) (jr : Obj) (jl : Obj) (oD : Obj) (R : Addr) (D1 : Addr) (Ld : Addr) (Ta : Addr) (U : Addr) (TB : Addr) (T0 : Addr) (T1 : Addr) (T2 : Addr) (T3 : Addr) (T4 : Addr) (T5 : Addr) (kR : Nat) (kL : Nat) (kU : Nat) (ps : Array Value) (zs : List (Addr × Obj)) (vsU : List Value) (P : Int) (Q' : Int) (fi : Int) (se : Int) (sc : Int) (sd : Int) (ts : Tok) (tc : Tok) (w1 : Tok) (w2 : Tok) (t0 : Tok) (u0 : Tok) (v0 : Tok) (t1 : Tok) (u1 : Tok) (v1 : Tok) (t2 : Tok) (u2 : Tok) (v2 : Tok) (t3 : Tok) (u3 : Tok) (v3 : Tok) (t4 : Tok) (u4 : Tok) (v4 : Tok) (t5 : Tok) (u5 : Tok) (v5 : Tok) (ov : Option Value) : Prop := ∀ (B : Below A₀ base [] h₀) (X : (Mine.hd.heap_1 w.params).In h₀) (T : Top p loose mean mg mb h₀) (hd : dp+100 < recursionLimit) (hu : un+600 < cLine) (ch1 : CodeHd h₀ 41 37) (ch2 : CodeHd h₀ 34 30) (ch3 : CodeHd h₀ 136 134) (hE : PassesOwn (model pw_ty0047_01 w) (lawA dp un gd L fa) (lawEnv L fa) E) (hl : @LT.lt Nat _ 134 L) (hz : OffZ L zs) (hzR : ∀ q ∈ zs,@Ne Nat q.1 R) (hR : AllNe R ((L+1+1+1+1+1+1+1+1,jk)::(L+1+1+1+1+1+1+1,jq)::(L+1+1+1+1+1+1,yk)::(L+1+1+1+1+1,jm)::(L+1+1+1+1,jt)::(L+1+1+1,jp)::(L+1+1,jr)::(L+1,jl)::(37,tabObj #[])::(30,tabObj #[])::(134,tabObj ps)::[])) (TZ : TabZ zs ps) (F : Fr h₀ L s.heap m) (N : News h₀ L s.heap ((D1,oD)::(Ld,listOf #[.ref T0,.ref Ta,.ref T1,.ref T2,.ref T3,.ref T4,.ref T5] kL)::(R,listOf #[.ref T0,.ref T1,.ref T2,.ref T3,.ref T4,.ref T5] kR)::(L+1+1+1+1+1+1+1+1,jk)::(L+1+1+1+1+1+1+1,jq)::(L+1+1+1+1+1+1,yk)::(L+1+1+1+1+1,jm)::(L+1+1+1+1,jt)::(L+1+1+1,jp)::(L+1+1,jr)::(L+1,jl)::(37,tabObj #[])::(30,tabObj #[])::(134,tabObj ps)::zs)) (hcD : oD.cls = .type "tuple") (hD1 : AllNe D1 ((Ld,listOf #[.ref T0,.ref Ta,.ref T1,.ref T2,.ref T3,.ref T4,.ref T5] kL)::(R,listOf #[.ref T0,.ref T1,.ref T2,.ref T3,.ref T4,.ref T5] kR)::(L+1+1+1+1+1+1+1+1,jk)::(L+1+1+1+1+1+1+1,jq)::(L+1+1+1+1+1+1,yk)::(L+1+1+1+1+1,jm)::(L+1+1+1+1,jt)::(L+1+1+1,jp)::(L+1+1,jr)::(L+1,jl)::(37,tabObj #[])::(30,tabObj #[])::(134,tabObj ps)::zs)) (hLd : AllNe Ld ((R,listOf #[.ref T0,.ref T1,.ref T2,.ref T3,.ref T4,.ref T5] kR)::(L+1+1+1+1+1+1+1+1,jk)::(L+1+1+1+1+1+1+1,jq)::(L+1+1+1+1+1+1,yk)::(L+1+1+1+1+1,jm)::(L+1+1+1+1,jt)::(L+1+1+1,jp)::(L+1+1,jr)::(L+1,jl)::(37,tabObj #[])::(30,tabObj #[])::(134,tabObj ps)::zs)) (cr : yk.data = .cell (some (.ref R))) (ct : jm.data = .cell (some (.ref TB))) (cs : jr.data = .cell (some (.int sd ts))) (cn : jk.data = .cell ov) (hsd : sd = 0 ∨ sd = 1) (hUm : (U,listOf vsU.toArray kU) ∈ zs) (hUi : IntsAre vsU (lucasL fi se)) (hTB : TabL zs TB (lucasL fi se) se) (hf : -20 ≤ fi ∧ fi ≤ 20 ∧ fi ≠ 0) (hse : se = 1 ∨ se = -1) (h1s : (fi = 1 ∨ fi = -1) → se = -1) (hP1 : 1 ≤ P) (hP4 : P ≤ 4) (hQ1 : 1 ≤ Q') (hQ4 : Q' ≤ 4) (hs : sc.natAbs < 2 ^ 4201) (hs2 : 2 ≤ sc) (mu : m (Str.ofString "units") = some (.ref U)) (mp : m (Str.ofString "p") = some (.int P w1)) (mq : m (Str.ofString "q") = some (.int Q' w2)) (mc : m (Str.ofString "scale") = some (.int sc tc)) (hT0 : (T0,triO (hueB 0) t0 (.int (P+1) u0) (.int Q' v0)) ∈ zs) (hT1 : (T1,triO (hueB 1) t1 (.int P u1) (.int (Q'+1) v1)) ∈ zs) (hT2 : (T2,triO (hueB 2) t2 (.int (P - 1) u2) (.int (Q'+1) v2)) ∈ zs) (hT3 : (T3,triO (hueB 3) t3 (.int (P - 1) u3) (.int Q' v3)) ∈ zs) (hT4 : (T4,triO (hueB 4) t4 (.int P u4) (.int (Q' - 1) v4)) ∈ zs) (hT5 : (T5,triO (hueB 5) t5 (.int (P+1) u5) (.int (Q' - 1) v5)) ∈ zs) (fin : ∀ h tk' m' A1 A2 A3,Fr h₀ L h m' → News h₀ L h [(37,tabObj A1),(30,tabObj A2),(134,tabObj A3)] → Q (.ret (.bool true)) { s with heap := h,toks := tk' }),
  wpAny (model pw_ty0047_01 w) (lawA dp un gd L fa) (execs [lst15,lst16,lst17,lst18,lst19,lst20,lst21,lst22,lst23] (lawEnv L fa)) Q E s
def PP_law_n10 (w : World) (p : Program) (loose : List Str) (mean : ExcName → Option Value) (mg : Str → Option Value) (mb : Str → Option Value) (dp : Nat) (un : Nat) (gd : Option (List Code)) (L : Addr) (fa : Addr) (A₀ : Around) (base : Heap) (h₀ : Heap) (s : Shared) (Q : Flow → Shared → Prop) (E : Value → Shared → Prop) (m : Str → Option Value) (jk : Obj) (jq : Obj) (yk : Obj) (jm : Obj) (jt : Obj) (jp : Obj) (jr : Obj) (jl : Obj) (t37 : Obj) (t30 : Obj) (R : Addr) (xs : List Value) (kR : Nat) (ps : Array Value) (zs : List (Addr × Obj)) (P : Int) (Q' : Int) (WH : Int) (UN : Int) (u1 : Tok) (u2 : Tok) (tb : Tok) (tw : Tok) (tu : Tok) (rows : List (UInt64 × Int × Int)) (ov : Option Value) : Prop := ∀ (B : Below A₀ base [] h₀) (X : (Mine.hd.heap_1 w.params).In h₀) (T : Top p loose mean mg mb h₀) (hd : dp+100 < recursionLimit) (hu : un+600 < cLine) (ch1 : CodeHd h₀ 41 37) (ch2 : CodeHd h₀ 34 30) (ch3 : CodeHd h₀ 136 134) (hE : PassesOwn (model pw_ty0047_01 w) (lawA dp un gd L fa) (lawEnv L fa) E) (hl : @LT.lt Nat _ 134 L) (hz : OffZ L zs) (hzR : ∀ q ∈ zs,@Ne Nat q.1 R) (hR : AllNe R ((L+1+1+1+1+1+1+1+1,jk)::(L+1+1+1+1+1+1+1,jq)::(L+1+1+1+1+1+1,yk)::(L+1+1+1+1+1,jm)::(L+1+1+1+1,jt)::(L+1+1+1,jp)::(L+1+1,jr)::(L+1,jl)::(37,t37)::(30,t30)::(134,tabObj ps)::[])) (TZ : TabZ zs ps) (RZ : RowZ zs xs rows) (hrl : rows.length = 0) (F : Fr h₀ L s.heap m) (N : News h₀ L s.heap ((R,listOf (xs).toArray kR)::(L+1+1+1+1+1+1+1+1,jk)::(L+1+1+1+1+1+1+1,jq)::(L+1+1+1+1+1+1,yk)::(L+1+1+1+1+1,jm)::(L+1+1+1+1,jt)::(L+1+1+1,jp)::(L+1+1,jr)::(L+1,jl)::(37,t37)::(30,t30)::(134,tabObj ps)::zs)) (mp : m (Str.ofString "p") = some (.int P u1)) (mq : m (Str.ofString "q") = some (.int Q' u2)) (mb' : m (Str.ofString "both") = some (.int (2 * WH + UN) tb)) (cw : jp.data = .cell (some (.int WH tw))) (cu : jt.data = .cell (some (.int UN tu))) (cr : yk.data = .cell (some (.ref R))) (co : jq.data = .cell ov) (hP1 : 1 ≤ P) (hP4 : P ≤ 4) (hQ1 : 1 ≤ Q') (hQ4 : Q' ≤ 4) (hW0 : 0 ≤ WH) (hW1 : WH ≤ 30) (hU0 : 1 ≤ UN) (hU1 : UN ≤ 33) (fin : ∀ h tk' m' xs' kR' ps' own oP' ov',Fr h₀ L h m' → News h₀ L h ((R,listOf (xs').toArray kR')::(L+1+1+1+1+1+1+1+1,jk)::(L+1+1+1+1+1+1+1,oP')::(L+1+1+1+1+1+1,yk)::(L+1+1+1+1+1,jm)::(L+1+1+1+1,jt)::(L+1+1+1,jp)::(L+1+1,jr)::(L+1,jl)::(37,t37)::(30,t30)::(134,tabObj ps')::(own ++ zs)) → (∀ y,y ≠ Str.ofString "i" → y ≠ Str.ofString "j" → y ≠ Str.ofString "hue" → y ≠ Str.ofString "light" → y ≠ Str.ofString "depth" → m' y = m y) → OffZ L (own ++ zs) → (∀ q ∈ own ++ zs,@Ne Nat q.1 R) → TabZ (own ++ zs) ps' → RowZ (own ++ zs) xs' (rowA rows P Q') → oP'.data = .cell ov' → (∀ q ∈ own,AllNe q.1 zs) → Q .next { s with heap := h,toks := tk' }),
  wpAny (model pw_ty0047_01 w) (lawA dp un gd L fa) (exec lst10 (lawEnv L fa)) Q E s
abbrev VV : Type := (Nat → World) × (Nat → Program) × (Nat → (List Str)) × (Nat → (ExcName → Option Value)) × (Nat → (Str → Option Value)) × (Nat → Nat) × (Nat → (Option (List Code))) × (Nat → Addr) × (Nat → Around) × (Nat → Heap) × (Nat → Shared) × (Nat → (Flow → Shared → Prop)) × (Nat → (Value → Shared → Prop)) × (Nat → Obj) × (Nat → (Array Value)) × (Nat → (List (Addr × Obj))) × (Nat → (List Value)) × (Nat → Int) × (Nat → Tok) × (Nat → (Option Value)) × (Nat → (List (UInt64 × Int × Int)))
noncomputable def pj0 (v : VV) : Nat → World := v.1
noncomputable def pj1 (v : VV) : Nat → Program := v.2.1
noncomputable def pj2 (v : VV) : Nat → (List Str) := v.2.2.1
noncomputable def pj3 (v : VV) : Nat → (ExcName → Option Value) := v.2.2.2.1
noncomputable def pj4 (v : VV) : Nat → (Str → Option Value) := v.2.2.2.2.1
noncomputable def pj5 (v : VV) : Nat → Nat := v.2.2.2.2.2.1
noncomputable def pj6 (v : VV) : Nat → (Option (List Code)) := v.2.2.2.2.2.2.1
noncomputable def pj7 (v : VV) : Nat → Addr := v.2.2.2.2.2.2.2.1
noncomputable def pj8 (v : VV) : Nat → Around := v.2.2.2.2.2.2.2.2.1
noncomputable def pj9 (v : VV) : Nat → Heap := v.2.2.2.2.2.2.2.2.2.1
noncomputable def pj10 (v : VV) : Nat → Shared := v.2.2.2.2.2.2.2.2.2.2.1
noncomputable def pj11 (v : VV) : Nat → (Flow → Shared → Prop) := v.2.2.2.2.2.2.2.2.2.2.2.1
noncomputable def pj12 (v : VV) : Nat → (Value → Shared → Prop) := v.2.2.2.2.2.2.2.2.2.2.2.2.1
noncomputable def pj13 (v : VV) : Nat → Obj := v.2.2.2.2.2.2.2.2.2.2.2.2.2.1
noncomputable def pj14 (v : VV) : Nat → (Array Value) := v.2.2.2.2.2.2.2.2.2.2.2.2.2.2.1
noncomputable def pj15 (v : VV) : Nat → (List (Addr × Obj)) := v.2.2.2.2.2.2.2.2.2.2.2.2.2.2.2.1
noncomputable def pj16 (v : VV) : Nat → (List Value) := v.2.2.2.2.2.2.2.2.2.2.2.2.2.2.2.2.1
noncomputable def pj17 (v : VV) : Nat → Int := v.2.2.2.2.2.2.2.2.2.2.2.2.2.2.2.2.2.1
noncomputable def pj18 (v : VV) : Nat → Tok := v.2.2.2.2.2.2.2.2.2.2.2.2.2.2.2.2.2.2.1
noncomputable def pj19 (v : VV) : Nat → (Option Value) := v.2.2.2.2.2.2.2.2.2.2.2.2.2.2.2.2.2.2.2.1
noncomputable def pj20 (v : VV) : Nat → (List (UInt64 × Int × Int)) := v.2.2.2.2.2.2.2.2.2.2.2.2.2.2.2.2.2.2.2.2
def GG (v : VV) : Prop := PP_law_y (pj0 v 0) (pj1 v 0) (pj2 v 0) (pj3 v 0) (pj4 v 0) (pj4 v 1) (pj5 v 0) (pj5 v 1) (pj6 v 0) (pj7 v 0) (pj7 v 1) (pj8 v 0) (pj9 v 0) (pj9 v 1) (pj10 v 0) (pj11 v 0) (pj12 v 0) (pj4 v 2) (pj13 v 0) (pj13 v 1) (pj13 v 2) (pj13 v 3) (pj13 v 4) (pj13 v 5) (pj13 v 6) (pj13 v 7) (pj13 v 8) (pj7 v 2) (pj7 v 3) (pj7 v 4) (pj7 v 5) (pj7 v 6) (pj7 v 7) (pj7 v 8) (pj7 v 9) (pj7 v 10) (pj7 v 11) (pj7 v 12) (pj7 v 13) (pj5 v 2) (pj5 v 3) (pj5 v 4) (pj14 v 0) (pj15 v 0) (pj16 v 0) (pj17 v 0) (pj17 v 1) (pj17 v 2) (pj17 v 3) (pj17 v 4) (pj17 v 5) (pj18 v 0) (pj18 v 1) (pj18 v 2) (pj18 v 3) (pj18 v 4) (pj18 v 5) (pj18 v 6) (pj18 v 7) (pj18 v 8) (pj18 v 9) (pj18 v 10) (pj18 v 11) (pj18 v 12) (pj18 v 13) (pj18 v 14) (pj18 v 15) (pj18 v 16) (pj18 v 17) (pj18 v 18) (pj18 v 19) (pj18 v 20) (pj18 v 21) (pj19 v 0) ∧
  PP_law_n10 (pj0 v 0) (pj1 v 0) (pj2 v 0) (pj3 v 0) (pj4 v 0) (pj4 v 1) (pj5 v 0) (pj5 v 1) (pj6 v 0) (pj7 v 0) (pj7 v 1) (pj8 v 0) (pj9 v 0) (pj9 v 1) (pj10 v 0) (pj11 v 0) (pj12 v 0) (pj4 v 2) (pj13 v 0) (pj13 v 1) (pj13 v 2) (pj13 v 3) (pj13 v 4) (pj13 v 5) (pj13 v 6) (pj13 v 7) (pj13 v 9) (pj13 v 10) (pj7 v 2) (pj16 v 1) (pj5 v 2) (pj14 v 0) (pj15 v 0) (pj17 v 0) (pj17 v 1) (pj17 v 6) (pj17 v 7) (pj18 v 8) (pj18 v 11) (pj18 v 22) (pj18 v 23) (pj18 v 24) (pj20 v 0) (pj19 v 0)
set_option synthInstance.maxSize 4000 in
set_option synthInstance.maxHeartbeats 400000 in
noncomputable def cc : VV := pick (by have h1 := ne_World; have h2 := ne_Around; have h3 := ne_Shared; infer_instance) GG
noncomputable section
@[irreducible] def w := pj0 cc 0
@[irreducible] def p := pj1 cc 0
@[irreducible] def loose := pj2 cc 0
@[irreducible] def mean := pj3 cc 0
@[irreducible] def mg := pj4 cc 0
@[irreducible] def mb := pj4 cc 1
@[irreducible] def dp := pj5 cc 0
@[irreducible] def un := pj5 cc 1
@[irreducible] def gd := pj6 cc 0
@[irreducible] def L := pj7 cc 0
@[irreducible] def fa := pj7 cc 1
@[irreducible] def A₀ := pj8 cc 0
@[irreducible] def base := pj9 cc 0
@[irreducible] def h₀ := pj9 cc 1
@[irreducible] def s := pj10 cc 0
@[irreducible] def Q := pj11 cc 0
@[irreducible] def E := pj12 cc 0
@[irreducible] def m := pj4 cc 2
@[irreducible] def jk := pj13 cc 0
@[irreducible] def jq := pj13 cc 1
@[irreducible] def yk := pj13 cc 2
@[irreducible] def jm := pj13 cc 3
@[irreducible] def jt := pj13 cc 4
@[irreducible] def jp := pj13 cc 5
@[irreducible] def jr := pj13 cc 6
@[irreducible] def jl := pj13 cc 7
@[irreducible] def oD := pj13 cc 8
@[irreducible] def R := pj7 cc 2
@[irreducible] def D1 := pj7 cc 3
@[irreducible] def Ld := pj7 cc 4
@[irreducible] def Ta := pj7 cc 5
@[irreducible] def U := pj7 cc 6
@[irreducible] def TB := pj7 cc 7
@[irreducible] def T0 := pj7 cc 8
@[irreducible] def T1 := pj7 cc 9
@[irreducible] def T2 := pj7 cc 10
@[irreducible] def T3 := pj7 cc 11
@[irreducible] def T4 := pj7 cc 12
@[irreducible] def T5 := pj7 cc 13
@[irreducible] def kR := pj5 cc 2
@[irreducible] def kL := pj5 cc 3
@[irreducible] def kU := pj5 cc 4
@[irreducible] def ps := pj14 cc 0
@[irreducible] def zs := pj15 cc 0
@[irreducible] def vsU := pj16 cc 0
@[irreducible] def P := pj17 cc 0
@[irreducible] def Q' := pj17 cc 1
@[irreducible] def fi := pj17 cc 2
@[irreducible] def se := pj17 cc 3
@[irreducible] def sc := pj17 cc 4
@[irreducible] def sd := pj17 cc 5
@[irreducible] def ts := pj18 cc 0
@[irreducible] def tc := pj18 cc 1
@[irreducible] def w1 := pj18 cc 2
@[irreducible] def w2 := pj18 cc 3
@[irreducible] def t0 := pj18 cc 4
@[irreducible] def u0 := pj18 cc 5
@[irreducible] def v0 := pj18 cc 6
@[irreducible] def t1 := pj18 cc 7
@[irreducible] def u1 := pj18 cc 8
@[irreducible] def v1 := pj18 cc 9
@[irreducible] def t2 := pj18 cc 10
@[irreducible] def u2 := pj18 cc 11
@[irreducible] def v2 := pj18 cc 12
@[irreducible] def t3 := pj18 cc 13
@[irreducible] def u3 := pj18 cc 14
@[irreducible] def v3 := pj18 cc 15
@[irreducible] def t4 := pj18 cc 16
@[irreducible] def u4 := pj18 cc 17
@[irreducible] def v4 := pj18 cc 18
@[irreducible] def t5 := pj18 cc 19
@[irreducible] def u5 := pj18 cc 20
@[irreducible] def v5 := pj18 cc 21
@[irreducible] def ov := pj19 cc 0
@[irreducible] def t37 := pj13 cc 9
@[irreducible] def t30 := pj13 cc 10
@[irreducible] def xs := pj16 cc 1
@[irreducible] def WH := pj17 cc 6
@[irreducible] def UN := pj17 cc 7
@[irreducible] def tb := pj18 cc 22
@[irreducible] def tw := pj18 cc 23
@[irreducible] def tu := pj18 cc 24
@[irreducible] def rows := pj20 cc 0
end
theorem core_law_y : PP_law_y w p loose mean mg mb dp un gd L fa A₀ base h₀ s Q E m jk jq yk jm jt jp jr jl oD R D1 Ld Ta U TB T0 T1 T2 T3 T4 T5 kR kL kU ps zs vsU P Q' fi se sc sd ts tc w1 w2 t0 u0 v0 t1 u1 v1 t2 u2 v2 t3 u3 v3 t4 u4 v4 t5 u5 v5 ov := by
  intro B X T hd hu ch1 ch2 ch3 hE hl hz hzR hR TZ F N hcD hD1 hLd cr ct cs cn hsd hUm hUi hTB hf hse h1s hP1 hP4 hQ1 hQ4 hs hs2 mu mp mq mc hT0 hT1 hT2 hT3 hT4 hT5 fin
  have hz1 : OffZ L ((D1,oD)::(Ld,listOf #[.ref T0,.ref Ta,.ref T1,.ref T2,.ref T3,.ref T4,.ref T5] kL)::zs) := OffZ.cons (ys := zs) hD1.2.2 (OffZ.cons (ys := zs) hLd.2 hz)
  have hzR1 : ∀ q ∈ (D1,oD)::(Ld,listOf #[.ref T0,.ref Ta,.ref T1,.ref T2,.ref T3,.ref T4,.ref T5] kL)::zs,@Ne Nat q.1 R := fun q hq => by
    rcases List.mem_cons.mp hq with rfl | hq
    · exact Ne.symm hD1.2.1
    · rcases List.mem_cons.mp hq with rfl | hq
      · exact Ne.symm hLd.1
      · exact hzR q hq
  have sub1 : ∀ q ∈ zs,q ∈ (D1,oD)::(Ld,listOf #[.ref T0,.ref Ta,.ref T1,.ref T2,.ref T3,.ref T4,.ref T5] kL)::zs := fun q hq => .tail _ (.tail _ hq)
  have N1 : News h₀ L s.heap ((R,listOf #[.ref T0,.ref T1,.ref T2,.ref T3,.ref T4,.ref T5] kR)::(L+1+1+1+1+1+1+1+1,jk)::(L+1+1+1+1+1+1+1,jq)::(L+1+1+1+1+1+1,yk)::(L+1+1+1+1+1,jm)::(L+1+1+1+1,jt)::(L+1+1+1,jp)::(L+1+1,jr)::(L+1,jl)::(37,tabObj #[])::(30,tabObj #[])::(134,tabObj ps)::((D1,oD)::(Ld,listOf #[.ref T0,.ref Ta,.ref T1,.ref T2,.ref T3,.ref T4,.ref T5] kL)::zs)) := cb_drop N (mv2 (a := (R,listOf #[.ref T0,.ref T1,.ref T2,.ref T3,.ref T4,.ref T5] kR)::(L+1+1+1+1+1+1+1+1,jk)::(L+1+1+1+1+1+1+1,jq)::(L+1+1+1+1+1+1,yk)::(L+1+1+1+1+1,jm)::(L+1+1+1+1,jt)::(L+1+1+1,jp)::(L+1+1,jr)::(L+1,jl)::(37,tabObj #[])::(30,tabObj #[])::(134,tabObj ps)::[]))
  refine law_n15 B X T hd hu ch1 ch2 ch3 hl hz1 hzR1 hR F N1 (sub1 _ hUm) hUi hP1 hP4 hQ1 hQ4 mu mp mq ?_
  intro h2 tk2 m2 UP DN p0 p1 p2 p3 p4 p5 d0 d1 d2 d3 d4 d5 F2 N2 hz2 hzR2 kp2 mup mdn
  have sub2 : ∀ q ∈ zs,q ∈ ((DN,listOf #[.int (lucU fi se (P+1)) d0,.int (lucU fi se (Q'+1)) d1,.int (lucU fi se (Q'+1)) d2,.int (lucU fi se (P + Q')) d3,.int (lucU fi se (P + Q')) d4,.int (lucU fi se (P+1)) d5] 0)::(UP,listOf #[.int (lucU fi se (P + Q'+1)) p0,.int (lucU fi se (P + Q'+1)) p1,.int (lucU fi se P) p2,.int (lucU fi se P) p3,.int (lucU fi se Q') p4,.int (lucU fi se Q') p5] 0)::(D1,oD)::(Ld,listOf #[.ref T0,.ref Ta,.ref T1,.ref T2,.ref T3,.ref T4,.ref T5] kL)::zs : List (Addr × Obj)) := fun q hq => .tail _ (.tail _ (sub1 q hq))
  refine law_n17 B X T hd hu ch1 ch2 ch3 hl hz2 hzR2 hR F2 N2 cr ct cn (hTB.mono sub2) (sub2 _ hT0) (by omega) (sub2 _ hT1) (by omega) (sub2 _ hT2) (by omega) (sub2 _ hT3) (by omega) (sub2 _ hT4) (by omega) (sub2 _ hT5) (by omega) ?_
  intro h3 tk3 NB n0 n1 n2 n3 n4 n5 oN coN F3 N3 hz3 hzR3
  have N4 : News h₀ L h3 ((D1,oD)::(Ld,listOf #[.ref T0,.ref Ta,.ref T1,.ref T2,.ref T3,.ref T4,.ref T5] kL)::(R,listOf #[.ref T0,.ref T1,.ref T2,.ref T3,.ref T4,.ref T5] kR)::(L+1+1+1+1+1+1+1+1,oN)::(L+1+1+1+1+1+1+1,jq)::(L+1+1+1+1+1+1,yk)::(L+1+1+1+1+1,jm)::(L+1+1+1+1,jt)::(L+1+1+1,jp)::(L+1+1,jr)::(L+1,jl)::(37,tabObj #[])::(30,tabObj #[])::(134,tabObj ps)::((NB,listOf #[.int (nbV (lucasL fi se) se (P+1) Q') n0,.int (nbV (lucasL fi se) se P (Q'+1)) n1,.int (nbV (lucasL fi se) se (P - 1) (Q'+1)) n2,.int (nbV (lucasL fi se) se (P - 1) Q') n3,.int (nbV (lucasL fi se) se P (Q' - 1)) n4,.int (nbV (lucasL fi se) se (P+1) (Q' - 1)) n5] 6)::(DN,listOf #[.int (lucU fi se (P+1)) d0,.int (lucU fi se (Q'+1)) d1,.int (lucU fi se (Q'+1)) d2,.int (lucU fi se (P + Q')) d3,.int (lucU fi se (P + Q')) d4,.int (lucU fi se (P+1)) d5] 0)::(UP,listOf #[.int (lucU fi se (P + Q'+1)) p0,.int (lucU fi se (P + Q'+1)) p1,.int (lucU fi se P) p2,.int (lucU fi se P) p3,.int (lucU fi se Q') p4,.int (lucU fi se Q') p5] 0)::zs)) := cb_drop N3 (mv5 (a := (R,listOf #[.ref T0,.ref T1,.ref T2,.ref T3,.ref T4,.ref T5] kR)::(L+1+1+1+1+1+1+1+1,oN)::(L+1+1+1+1+1+1+1,jq)::(L+1+1+1+1+1+1,yk)::(L+1+1+1+1+1,jm)::(L+1+1+1+1,jt)::(L+1+1+1,jp)::(L+1+1,jr)::(L+1,jl)::(37,tabObj #[])::(30,tabObj #[])::(134,tabObj ps)::[]))
  have mA : ∀ q ∈ (((NB,listOf #[.int (nbV (lucasL fi se) se (P+1) Q') n0,.int (nbV (lucasL fi se) se P (Q'+1)) n1,.int (nbV (lucasL fi se) se (P - 1) (Q'+1)) n2,.int (nbV (lucasL fi se) se (P - 1) Q') n3,.int (nbV (lucasL fi se) se P (Q' - 1)) n4,.int (nbV (lucasL fi se) se (P+1) (Q' - 1)) n5] 6)::(DN,listOf #[.int (lucU fi se (P+1)) d0,.int (lucU fi se (Q'+1)) d1,.int (lucU fi se (Q'+1)) d2,.int (lucU fi se (P + Q')) d3,.int (lucU fi se (P + Q')) d4,.int (lucU fi se (P+1)) d5] 0)::(UP,listOf #[.int (lucU fi se (P + Q'+1)) p0,.int (lucU fi se (P + Q'+1)) p1,.int (lucU fi se P) p2,.int (lucU fi se P) p3,.int (lucU fi se Q') p4,.int (lucU fi se Q') p5] 0)::zs) : List (Addr × Obj)),q ∈ ((D1,oD)::(Ld,listOf #[.ref T0,.ref Ta,.ref T1,.ref T2,.ref T3,.ref T4,.ref T5] kL)::(R,listOf #[.ref T0,.ref T1,.ref T2,.ref T3,.ref T4,.ref T5] kR)::(L+1+1+1+1+1+1+1+1,oN)::(L+1+1+1+1+1+1+1,jq)::(L+1+1+1+1+1+1,yk)::(L+1+1+1+1+1,jm)::(L+1+1+1+1,jt)::(L+1+1+1,jp)::(L+1+1,jr)::(L+1,jl)::(37,tabObj #[])::(30,tabObj #[])::(134,tabObj ps)::((NB,listOf #[.int (nbV (lucasL fi se) se (P+1) Q') n0,.int (nbV (lucasL fi se) se P (Q'+1)) n1,.int (nbV (lucasL fi se) se (P - 1) (Q'+1)) n2,.int (nbV (lucasL fi se) se (P - 1) Q') n3,.int (nbV (lucasL fi se) se P (Q' - 1)) n4,.int (nbV (lucasL fi se) se (P+1) (Q' - 1)) n5] 6)::(DN,listOf #[.int (lucU fi se (P+1)) d0,.int (lucU fi se (Q'+1)) d1,.int (lucU fi se (Q'+1)) d2,.int (lucU fi se (P + Q')) d3,.int (lucU fi se (P + Q')) d4,.int (lucU fi se (P+1)) d5] 0)::(UP,listOf #[.int (lucU fi se (P + Q'+1)) p0,.int (lucU fi se (P + Q'+1)) p1,.int (lucU fi se P) p2,.int (lucU fi se P) p3,.int (lucU fi se Q') p4,.int (lucU fi se Q') p5] 0)::zs) : List (Addr × Obj)) := fun q hq => .tail _ (.tail _ (List.mem_append_right ((R,listOf #[.ref T0,.ref T1,.ref T2,.ref T3,.ref T4,.ref T5] kR)::(L+1+1+1+1+1+1+1+1,oN)::(L+1+1+1+1+1+1+1,jq)::(L+1+1+1+1+1+1,yk)::(L+1+1+1+1+1,jm)::(L+1+1+1+1,jt)::(L+1+1+1,jp)::(L+1+1,jr)::(L+1,jl)::(37,tabObj #[])::(30,tabObj #[])::(134,tabObj ps)::[]) hq))
  have dNB := mA _ (.head _)
  have dDN := mA _ (.tail _ (.head _))
  have dUP := mA _ (.tail _ (.tail _ (.head _)))
  have hzA : OffZ L ((NB,listOf #[.int (nbV (lucasL fi se) se (P+1) Q') n0,.int (nbV (lucasL fi se) se P (Q'+1)) n1,.int (nbV (lucasL fi se) se (P - 1) (Q'+1)) n2,.int (nbV (lucasL fi se) se (P - 1) Q') n3,.int (nbV (lucasL fi se) se P (Q' - 1)) n4,.int (nbV (lucasL fi se) se (P+1) (Q' - 1)) n5] 6)::(DN,listOf #[.int (lucU fi se (P+1)) d0,.int (lucU fi se (Q'+1)) d1,.int (lucU fi se (Q'+1)) d2,.int (lucU fi se (P + Q')) d3,.int (lucU fi se (P + Q')) d4,.int (lucU fi se (P+1)) d5] 0)::(UP,listOf #[.int (lucU fi se (P + Q'+1)) p0,.int (lucU fi se (P + Q'+1)) p1,.int (lucU fi se P) p2,.int (lucU fi se P) p3,.int (lucU fi se Q') p4,.int (lucU fi se Q') p5] 0)::zs) := fun q hq => hz3 q (by
    rcases List.mem_cons.mp hq with rfl | hq
    · exact .head _
    · rcases List.mem_cons.mp hq with rfl | hq
      · exact .tail _ (.head _)
      · rcases List.mem_cons.mp hq with rfl | hq
        · exact .tail _ (.tail _ (.head _))
        · exact .tail _ (.tail _ (.tail _ (sub1 q hq))))
  have hzRA : ∀ q ∈ (((NB,listOf #[.int (nbV (lucasL fi se) se (P+1) Q') n0,.int (nbV (lucasL fi se) se P (Q'+1)) n1,.int (nbV (lucasL fi se) se (P - 1) (Q'+1)) n2,.int (nbV (lucasL fi se) se (P - 1) Q') n3,.int (nbV (lucasL fi se) se P (Q' - 1)) n4,.int (nbV (lucasL fi se) se (P+1) (Q' - 1)) n5] 6)::(DN,listOf #[.int (lucU fi se (P+1)) d0,.int (lucU fi se (Q'+1)) d1,.int (lucU fi se (Q'+1)) d2,.int (lucU fi se (P + Q')) d3,.int (lucU fi se (P + Q')) d4,.int (lucU fi se (P+1)) d5] 0)::(UP,listOf #[.int (lucU fi se (P + Q'+1)) p0,.int (lucU fi se (P + Q'+1)) p1,.int (lucU fi se P) p2,.int (lucU fi se P) p3,.int (lucU fi se Q') p4,.int (lucU fi se Q') p5] 0)::zs) : List (Addr × Obj)),@Ne Nat q.1 R := fun q hq => hzR3 q (by
    rcases List.mem_cons.mp hq with rfl | hq
    · exact .head _
    · rcases List.mem_cons.mp hq with rfl | hq
      · exact .tail _ (.head _)
      · rcases List.mem_cons.mp hq with rfl | hq
        · exact .tail _ (.tail _ (.head _))
        · exact .tail _ (.tail _ (.tail _ (sub1 q hq))))
  have k30z : ∀ q ∈ (((NB,listOf #[.int (nbV (lucasL fi se) se (P+1) Q') n0,.int (nbV (lucasL fi se) se P (Q'+1)) n1,.int (nbV (lucasL fi se) se (P - 1) (Q'+1)) n2,.int (nbV (lucasL fi se) se (P - 1) Q') n3,.int (nbV (lucasL fi se) se P (Q' - 1)) n4,.int (nbV (lucasL fi se) se (P+1) (Q' - 1)) n5] 6)::(DN,listOf #[.int (lucU fi se (P+1)) d0,.int (lucU fi se (Q'+1)) d1,.int (lucU fi se (Q'+1)) d2,.int (lucU fi se (P + Q')) d3,.int (lucU fi se (P + Q')) d4,.int (lucU fi se (P+1)) d5] 0)::(UP,listOf #[.int (lucU fi se (P + Q'+1)) p0,.int (lucU fi se (P + Q'+1)) p1,.int (lucU fi se P) p2,.int (lucU fi se P) p3,.int (lucU fi se Q') p4,.int (lucU fi se Q') p5] 0)::zs) : List (Addr × Obj)),@Ne Nat q.1 D1 := fun q hq => by
    have hc : ∀ {o : Obj},o.cls = .type "list" → o.cls ≠ oD.cls := fun h => by rw [h,hcD]; decide
    rcases List.mem_cons.mp hq with rfl | hq
    · exact news_cls N4 dNB (.head _) (hc rfl)
    · rcases List.mem_cons.mp hq with rfl | hq
      · exact news_cls N4 dDN (.head _) (hc rfl)
      · rcases List.mem_cons.mp hq with rfl | hq
        · exact news_cls N4 dUP (.head _) (hc rfl)
        · exact AllNe.mem hD1 (.tail _ (List.mem_append_right ((R,listOf #[.ref T0,.ref T1,.ref T2,.ref T3,.ref T4,.ref T5] kR)::(L+1+1+1+1+1+1+1+1,jk)::(L+1+1+1+1+1+1+1,jq)::(L+1+1+1+1+1+1,yk)::(L+1+1+1+1+1,jm)::(L+1+1+1+1,jt)::(L+1+1+1,jp)::(L+1+1,jr)::(L+1,jl)::(37,tabObj #[])::(30,tabObj #[])::(134,tabObj ps)::[]) hq))
  have k37z : ∀ q ∈ (((NB,listOf #[.int (nbV (lucasL fi se) se (P+1) Q') n0,.int (nbV (lucasL fi se) se P (Q'+1)) n1,.int (nbV (lucasL fi se) se (P - 1) (Q'+1)) n2,.int (nbV (lucasL fi se) se (P - 1) Q') n3,.int (nbV (lucasL fi se) se P (Q' - 1)) n4,.int (nbV (lucasL fi se) se (P+1) (Q' - 1)) n5] 6)::(DN,listOf #[.int (lucU fi se (P+1)) d0,.int (lucU fi se (Q'+1)) d1,.int (lucU fi se (Q'+1)) d2,.int (lucU fi se (P + Q')) d3,.int (lucU fi se (P + Q')) d4,.int (lucU fi se (P+1)) d5] 0)::(UP,listOf #[.int (lucU fi se (P + Q'+1)) p0,.int (lucU fi se (P + Q'+1)) p1,.int (lucU fi se P) p2,.int (lucU fi se P) p3,.int (lucU fi se Q') p4,.int (lucU fi se Q') p5] 0)::zs) : List (Addr × Obj)),@Ne Nat q.1 Ld := fun q hq => by
    rcases List.mem_cons.mp hq with rfl | hq
    · exact news_ne N4 dNB (.tail _ (.head _)) (fun e => by cases e)
    · rcases List.mem_cons.mp hq with rfl | hq
      · exact news_ne N4 dDN (.tail _ (.head _)) (fun e => by cases e)
      · rcases List.mem_cons.mp hq with rfl | hq
        · exact news_ne N4 dUP (.tail _ (.head _)) (fun e => by cases e)
        · exact AllNe.mem hLd (List.mem_append_right ((R,listOf #[.ref T0,.ref T1,.ref T2,.ref T3,.ref T4,.ref T5] kR)::(L+1+1+1+1+1+1+1+1,jk)::(L+1+1+1+1+1+1+1,jq)::(L+1+1+1+1+1+1,yk)::(L+1+1+1+1+1,jm)::(L+1+1+1+1,jt)::(L+1+1+1,jp)::(L+1+1,jr)::(L+1,jl)::(37,tabObj #[])::(30,tabObj #[])::(134,tabObj ps)::[]) hq)
  have ne_mk : ∀ {A : Addr},AllNe A ((R,listOf #[.ref T0,.ref T1,.ref T2,.ref T3,.ref T4,.ref T5] kR)::(L+1+1+1+1+1+1+1+1,oN)::(L+1+1+1+1+1+1+1,jq)::(L+1+1+1+1+1+1,yk)::(L+1+1+1+1+1,jm)::(L+1+1+1+1,jt)::(L+1+1+1,jp)::(L+1+1,jr)::(L+1,jl)::(134,tabObj ps)::[]) → (∀ q ∈ (((NB,listOf #[.int (nbV (lucasL fi se) se (P+1) Q') n0,.int (nbV (lucasL fi se) se P (Q'+1)) n1,.int (nbV (lucasL fi se) se (P - 1) (Q'+1)) n2,.int (nbV (lucasL fi se) se (P - 1) Q') n3,.int (nbV (lucasL fi se) se P (Q' - 1)) n4,.int (nbV (lucasL fi se) se (P+1) (Q' - 1)) n5] 6)::(DN,listOf #[.int (lucU fi se (P+1)) d0,.int (lucU fi se (Q'+1)) d1,.int (lucU fi se (Q'+1)) d2,.int (lucU fi se (P + Q')) d3,.int (lucU fi se (P + Q')) d4,.int (lucU fi se (P+1)) d5] 0)::(UP,listOf #[.int (lucU fi se (P + Q'+1)) p0,.int (lucU fi se (P + Q'+1)) p1,.int (lucU fi se P) p2,.int (lucU fi se P) p3,.int (lucU fi se Q') p4,.int (lucU fi se Q') p5] 0)::zs) : List (Addr × Obj)),@Ne Nat q.1 A) → AllNe A ((R,listOf #[.ref T0,.ref T1,.ref T2,.ref T3,.ref T4,.ref T5] kR)::(L+1+1+1+1+1+1+1+1,oN)::(L+1+1+1+1+1+1+1,jq)::(L+1+1+1+1+1+1,yk)::(L+1+1+1+1+1,jm)::(L+1+1+1+1,jt)::(L+1+1+1,jp)::(L+1+1,jr)::(L+1,jl)::(134,tabObj ps)::((NB,listOf #[.int (nbV (lucasL fi se) se (P+1) Q') n0,.int (nbV (lucasL fi se) se P (Q'+1)) n1,.int (nbV (lucasL fi se) se (P - 1) (Q'+1)) n2,.int (nbV (lucasL fi se) se (P - 1) Q') n3,.int (nbV (lucasL fi se) se P (Q' - 1)) n4,.int (nbV (lucasL fi se) se (P+1) (Q' - 1)) n5] 6)::(DN,listOf #[.int (lucU fi se (P+1)) d0,.int (lucU fi se (Q'+1)) d1,.int (lucU fi se (Q'+1)) d2,.int (lucU fi se (P + Q')) d3,.int (lucU fi se (P + Q')) d4,.int (lucU fi se (P+1)) d5] 0)::(UP,listOf #[.int (lucU fi se (P + Q'+1)) p0,.int (lucU fi se (P + Q'+1)) p1,.int (lucU fi se P) p2,.int (lucU fi se P) p3,.int (lucU fi se Q') p4,.int (lucU fi se Q') p5] 0)::zs)) := fun h1 h2 => allNe_of fun q hq => by
    rcases List.mem_append.mp (show q ∈ ((R,listOf #[.ref T0,.ref T1,.ref T2,.ref T3,.ref T4,.ref T5] kR)::(L+1+1+1+1+1+1+1+1,oN)::(L+1+1+1+1+1+1+1,jq)::(L+1+1+1+1+1+1,yk)::(L+1+1+1+1+1,jm)::(L+1+1+1+1,jt)::(L+1+1+1,jp)::(L+1+1,jr)::(L+1,jl)::(134,tabObj ps)::[] : List (Addr × Obj)) ++ ((NB,listOf #[.int (nbV (lucasL fi se) se (P+1) Q') n0,.int (nbV (lucasL fi se) se P (Q'+1)) n1,.int (nbV (lucasL fi se) se (P - 1) (Q'+1)) n2,.int (nbV (lucasL fi se) se (P - 1) Q') n3,.int (nbV (lucasL fi se) se P (Q' - 1)) n4,.int (nbV (lucasL fi se) se (P+1) (Q' - 1)) n5] 6)::(DN,listOf #[.int (lucU fi se (P+1)) d0,.int (lucU fi se (Q'+1)) d1,.int (lucU fi se (Q'+1)) d2,.int (lucU fi se (P + Q')) d3,.int (lucU fi se (P + Q')) d4,.int (lucU fi se (P+1)) d5] 0)::(UP,listOf #[.int (lucU fi se (P + Q'+1)) p0,.int (lucU fi se (P + Q'+1)) p1,.int (lucU fi se P) p2,.int (lucU fi se P) p3,.int (lucU fi se Q') p4,.int (lucU fi se Q') p5] 0)::zs) from hq) with hq | hq
    · exact AllNe.mem h1 hq
    · exact h2 q hq
  have hD1f := hD1
  have hLdf := hLd
  simp only [AllNe] at hD1f hLdf
  obtain ⟨x0,x1,x2,x3,x4,x5,x6,x7,x8,x9,x10,x11,x12,_⟩ := hD1f
  obtain ⟨y1,y2,y3,y4,y5,y6,y7,y8,y9,y10,y11,y12,_⟩ := hLdf
  have k30 : AllNe D1 ((R,listOf #[.ref T0,.ref T1,.ref T2,.ref T3,.ref T4,.ref T5] kR)::(L+1+1+1+1+1+1+1+1,oN)::(L+1+1+1+1+1+1+1,jq)::(L+1+1+1+1+1+1,yk)::(L+1+1+1+1+1,jm)::(L+1+1+1+1,jt)::(L+1+1+1,jp)::(L+1+1,jr)::(L+1,jl)::(134,tabObj ps)::((NB,listOf #[.int (nbV (lucasL fi se) se (P+1) Q') n0,.int (nbV (lucasL fi se) se P (Q'+1)) n1,.int (nbV (lucasL fi se) se (P - 1) (Q'+1)) n2,.int (nbV (lucasL fi se) se (P - 1) Q') n3,.int (nbV (lucasL fi se) se P (Q' - 1)) n4,.int (nbV (lucasL fi se) se (P+1) (Q' - 1)) n5] 6)::(DN,listOf #[.int (lucU fi se (P+1)) d0,.int (lucU fi se (Q'+1)) d1,.int (lucU fi se (Q'+1)) d2,.int (lucU fi se (P + Q')) d3,.int (lucU fi se (P + Q')) d4,.int (lucU fi se (P+1)) d5] 0)::(UP,listOf #[.int (lucU fi se (P + Q'+1)) p0,.int (lucU fi se (P + Q'+1)) p1,.int (lucU fi se P) p2,.int (lucU fi se P) p3,.int (lucU fi se Q') p4,.int (lucU fi se Q') p5] 0)::zs)) := ne_mk ⟨x1,x2,x3,x4,x5,x6,x7,x8,x9,x12,trivial⟩ k30z
  have k37 : AllNe Ld ((R,listOf #[.ref T0,.ref T1,.ref T2,.ref T3,.ref T4,.ref T5] kR)::(L+1+1+1+1+1+1+1+1,oN)::(L+1+1+1+1+1+1+1,jq)::(L+1+1+1+1+1+1,yk)::(L+1+1+1+1+1,jm)::(L+1+1+1+1,jt)::(L+1+1+1,jp)::(L+1+1,jr)::(L+1,jl)::(134,tabObj ps)::((NB,listOf #[.int (nbV (lucasL fi se) se (P+1) Q') n0,.int (nbV (lucasL fi se) se P (Q'+1)) n1,.int (nbV (lucasL fi se) se (P - 1) (Q'+1)) n2,.int (nbV (lucasL fi se) se (P - 1) Q') n3,.int (nbV (lucasL fi se) se P (Q' - 1)) n4,.int (nbV (lucasL fi se) se (P+1) (Q' - 1)) n5] 6)::(DN,listOf #[.int (lucU fi se (P+1)) d0,.int (lucU fi se (Q'+1)) d1,.int (lucU fi se (Q'+1)) d2,.int (lucU fi se (P + Q')) d3,.int (lucU fi se (P + Q')) d4,.int (lucU fi se (P+1)) d5] 0)::(UP,listOf #[.int (lucU fi se (P + Q'+1)) p0,.int (lucU fi se (P + Q'+1)) p1,.int (lucU fi se P) p2,.int (lucU fi se P) p3,.int (lucU fi se Q') p4,.int (lucU fi se Q') p5] 0)::zs)) := ne_mk ⟨y1,y2,y3,y4,y5,y6,y7,y8,y9,y12,trivial⟩ k37z
  have f1 : h₀.get? D1 = none := (N4 _ (.head _)).2.2
  have f2 : h₀.get? Ld = none := (N4 _ (.tail _ (.head _))).2.2
  have DM : DmT #[] #[] D1 Ld oD (listOf #[.ref T0,.ref Ta,.ref T1,.ref T2,.ref T3,.ref T4,.ref T5] kL) := ⟨.inl rfl,.inl rfl,Ne.symm x11,Ne.symm x10,Ne.symm y11,Ne.symm y10,codeHd_ne ch2 f1,codeHd_ne ch1 f1,codeHd_ne ch2 f2,codeHd_ne ch1 f2,Ne.symm x0⟩
  have hst := cases_fs smallU star_1 star_2 star_3 star_4 hf hse h1s ⟨hP1,hP4⟩ ⟨hQ1,hQ4⟩
  simp only [smallU,Bool.and_eq_true,decide_eq_true_eq] at hst
  obtain ⟨⟨⟨⟨⟨⟨⟨⟨⟨⟨⟨⟨⟨⟨⟨⟨⟨s0,s1⟩,s2⟩,s3⟩,s4⟩,s5⟩,s6⟩,s7⟩,s8⟩,s9⟩,s10⟩,s11⟩,s12⟩,s13⟩,s14⟩,s15⟩,s16⟩,s17⟩ := hst
  have hub := cases_fs ubOk ubs_1 ubs_2 ubs_3 ubs_4 hf hse h1s ⟨hP1,hP4⟩ ⟨hQ1,hQ4⟩
  simp only [ubOk,Bool.and_eq_true,decide_eq_true_eq] at hub
  obtain ⟨⟨e0,e1⟩,e2⟩ := hub
  have hgc := cases_fs gcdOk gst_1 gst_2 gst_3 gst_4 hf hse h1s ⟨hP1,hP4⟩ ⟨hQ1,hQ4⟩
  simp only [gcdOk,Bool.and_eq_true,decide_eq_true_eq] at hgc
  obtain ⟨g1,g2⟩ := hgc
  have subA : ∀ q ∈ zs,q ∈ (((NB,listOf #[.int (nbV (lucasL fi se) se (P+1) Q') n0,.int (nbV (lucasL fi se) se P (Q'+1)) n1,.int (nbV (lucasL fi se) se (P - 1) (Q'+1)) n2,.int (nbV (lucasL fi se) se (P - 1) Q') n3,.int (nbV (lucasL fi se) se P (Q' - 1)) n4,.int (nbV (lucasL fi se) se (P+1) (Q' - 1)) n5] 6)::(DN,listOf #[.int (lucU fi se (P+1)) d0,.int (lucU fi se (Q'+1)) d1,.int (lucU fi se (Q'+1)) d2,.int (lucU fi se (P + Q')) d3,.int (lucU fi se (P + Q')) d4,.int (lucU fi se (P+1)) d5] 0)::(UP,listOf #[.int (lucU fi se (P + Q'+1)) p0,.int (lucU fi se (P + Q'+1)) p1,.int (lucU fi se P) p2,.int (lucU fi se P) p3,.int (lucU fi se Q') p4,.int (lucU fi se Q') p5] 0)::zs) : List (Addr × Obj)) := fun q hq => .tail _ (.tail _ (.tail _ hq))
  have hR18 : AllNe R ((L+1+1+1+1+1+1+1+1,oN)::(L+1+1+1+1+1+1+1,jq)::(L+1+1+1+1+1+1,yk)::(L+1+1+1+1+1,jm)::(L+1+1+1+1,jt)::(L+1+1+1,jp)::(L+1+1,jr)::(L+1,jl)::(37,tabObj #[])::(30,tabObj #[])::(134,tabObj ps)::[]) := hR
  refine wpAny_execs_cons ?_
  show wpAny _ _ (exec stFor18 _) _ _ _
  refine law_n18 B X T hd hu ch1 ch2 ch3 hl hzA hR18 hzRA DM k30 k37 hE F3 N4 ((kp2 _ (by decide) (by decide)).trans mc) ((kp2 _ (by decide) (by decide)).trans mp) ((kp2 _ (by decide) (by decide)).trans mq) mdn mup hP1 hP4 hQ1 hQ4 cr ct coN (hTB.mono subA) (.tail _ (.head _)) (.tail _ (.tail _ (.head _))) (.head _) hs hs2 ?_ ?_
  · intro k hk
    match k,hk with
    | 0,_ => exact ⟨T0,t0,_,_,(lucU fi se (P + Q'+1)),(lucU fi se (P+1)),_,p0,d0,n0,rfl,subA _ hT0,rfl,rfl,rfl,s0,e0,s6,s9,s12⟩
    | 1,_ => exact ⟨T1,t1,_,_,(lucU fi se (P + Q'+1)),(lucU fi se (Q'+1)),_,p1,d1,n1,rfl,subA _ hT1,rfl,rfl,rfl,s1,e0,s7,s10,s13⟩
    | 2,_ => exact ⟨T2,t2,_,_,(lucU fi se P),(lucU fi se (Q'+1)),_,p2,d2,n2,rfl,subA _ hT2,rfl,rfl,rfl,s2,e1,s7,s10,s14⟩
    | 3,_ => exact ⟨T3,t3,_,_,(lucU fi se P),(lucU fi se (P + Q')),_,p3,d3,n3,rfl,subA _ hT3,rfl,rfl,rfl,s3,e1,s8,s11,s15⟩
    | 4,_ => exact ⟨T4,t4,_,_,(lucU fi se Q'),(lucU fi se (P + Q')),_,p4,d4,n4,rfl,subA _ hT4,rfl,rfl,rfl,s4,e2,s8,s11,s16⟩
    | 5,_ => exact ⟨T5,t5,_,_,(lucU fi se Q'),(lucU fi se (P+1)),_,p5,d5,n5,rfl,subA _ hT5,rfl,rfl,rfl,s5,e2,s6,s9,s17⟩
    | n+6,h => exact absurd h (by omega)
  intro h5 tk5 m5 c1 o1 c2 o2 F5 N5 DL5 j30 j37 kp5
  refine wpAny_execs_cons ?_
  show wpAny _ _ (exec stFor19 _) _ _ _
  have hR19 : AllNe R ((L+1+1+1+1+1+1+1+1,oN)::(L+1+1+1+1+1+1+1,jq)::(L+1+1+1+1+1+1,yk)::(L+1+1+1+1+1,jm)::(L+1+1+1+1,jt)::(L+1+1+1,jp)::(L+1+1,jr)::(L+1,jl)::(37,tab37 c2)::(30,tab30 c1)::(134,tabObj ps)::[]) := hR
  refine law_n19 B X T hd hu ch1 ch2 ch3 hl hzA hR19 hzRA DL5 j30 j37 hE F5 N5 ((kp5 _ (by decide) (by decide)).trans ((kp2 _ (by decide) (by decide)).trans mc)) ((kp5 _ (by decide) (by decide)).trans mdn) (dnL := [.int (lucU fi se (P+1)) d0,.int (lucU fi se (Q'+1)) d1,.int (lucU fi se (Q'+1)) d2,.int (lucU fi se (P + Q')) d3,.int (lucU fi se (P + Q')) d4,.int (lucU fi se (P+1)) d5]) (.tail _ (.head _)) rfl rfl hs hs2 s6 s9 s8 s11 ?_
  intro h6 tk6 m6 c3 o3 c4 o4 F6 N6 DL6 r30 r37 kp6
  have hR20 : AllNe R ((L+1+1+1+1+1+1+1+1,oN)::(L+1+1+1+1+1+1+1,jq)::(L+1+1+1+1+1+1,yk)::(L+1+1+1+1+1,jm)::(L+1+1+1+1,jt)::(L+1+1+1,jp)::(L+1+1,jr)::(L+1,jl)::(37,tab37 c4)::(30,tab30 c3)::(134,tabObj ps)::[]) := hR
  have off0 : ∀ {A : Addr},AllNe A ((R,listOf #[.ref T0,.ref T1,.ref T2,.ref T3,.ref T4,.ref T5] kR)::(L+1+1+1+1+1+1+1+1,oN)::(L+1+1+1+1+1+1+1,jq)::(L+1+1+1+1+1+1,yk)::(L+1+1+1+1+1,jm)::(L+1+1+1+1,jt)::(L+1+1+1,jp)::(L+1+1,jr)::(L+1,jl)::(134,tabObj ps)::((NB,listOf #[.int (nbV (lucasL fi se) se (P+1) Q') n0,.int (nbV (lucasL fi se) se P (Q'+1)) n1,.int (nbV (lucasL fi se) se (P - 1) (Q'+1)) n2,.int (nbV (lucasL fi se) se (P - 1) Q') n3,.int (nbV (lucasL fi se) se P (Q' - 1)) n4,.int (nbV (lucasL fi se) se (P+1) (Q' - 1)) n5] 6)::(DN,listOf #[.int (lucU fi se (P+1)) d0,.int (lucU fi se (Q'+1)) d1,.int (lucU fi se (Q'+1)) d2,.int (lucU fi se (P + Q')) d3,.int (lucU fi se (P + Q')) d4,.int (lucU fi se (P+1)) d5] 0)::(UP,listOf #[.int (lucU fi se (P + Q'+1)) p0,.int (lucU fi se (P + Q'+1)) p1,.int (lucU fi se P) p2,.int (lucU fi se P) p3,.int (lucU fi se Q') p4,.int (lucU fi se Q') p5] 0)::zs)) → AllNe A ((R,listOf #[.ref T0,.ref T1,.ref T2,.ref T3,.ref T4,.ref T5] kR)::(L+1+1+1+1+1+1+1+1,oN)::(L+1+1+1+1+1+1+1,jq)::(L+1+1+1+1+1+1,yk)::(L+1+1+1+1+1,jm)::(L+1+1+1+1,jt)::(L+1+1+1,jp)::(L+1+1,jr)::(L+1,jl)::(134,tabObj ps)::[]) ∧ (∀ q ∈ (((NB,listOf #[.int (nbV (lucasL fi se) se (P+1) Q') n0,.int (nbV (lucasL fi se) se P (Q'+1)) n1,.int (nbV (lucasL fi se) se (P - 1) (Q'+1)) n2,.int (nbV (lucasL fi se) se (P - 1) Q') n3,.int (nbV (lucasL fi se) se P (Q' - 1)) n4,.int (nbV (lucasL fi se) se (P+1) (Q' - 1)) n5] 6)::(DN,listOf #[.int (lucU fi se (P+1)) d0,.int (lucU fi se (Q'+1)) d1,.int (lucU fi se (Q'+1)) d2,.int (lucU fi se (P + Q')) d3,.int (lucU fi se (P + Q')) d4,.int (lucU fi se (P+1)) d5] 0)::(UP,listOf #[.int (lucU fi se (P + Q'+1)) p0,.int (lucU fi se (P + Q'+1)) p1,.int (lucU fi se P) p2,.int (lucU fi se P) p3,.int (lucU fi se Q') p4,.int (lucU fi se Q') p5] 0)::zs) : List (Addr × Obj)),@Ne Nat q.1 A) := fun h => ⟨AllNe.sub h fun q hq => List.mem_append_left ((NB,listOf #[.int (nbV (lucasL fi se) se (P+1) Q') n0,.int (nbV (lucasL fi se) se P (Q'+1)) n1,.int (nbV (lucasL fi se) se (P - 1) (Q'+1)) n2,.int (nbV (lucasL fi se) se (P - 1) Q') n3,.int (nbV (lucasL fi se) se P (Q' - 1)) n4,.int (nbV (lucasL fi se) se (P+1) (Q' - 1)) n5] 6)::(DN,listOf #[.int (lucU fi se (P+1)) d0,.int (lucU fi se (Q'+1)) d1,.int (lucU fi se (Q'+1)) d2,.int (lucU fi se (P + Q')) d3,.int (lucU fi se (P + Q')) d4,.int (lucU fi se (P+1)) d5] 0)::(UP,listOf #[.int (lucU fi se (P + Q'+1)) p0,.int (lucU fi se (P + Q'+1)) p1,.int (lucU fi se P) p2,.int (lucU fi se P) p3,.int (lucU fi se Q') p4,.int (lucU fi se Q') p5] 0)::zs) hq,fun q hq => AllNe.mem h (List.mem_append_right ((R,listOf #[.ref T0,.ref T1,.ref T2,.ref T3,.ref T4,.ref T5] kR)::(L+1+1+1+1+1+1+1+1,oN)::(L+1+1+1+1+1+1+1,jq)::(L+1+1+1+1+1+1,yk)::(L+1+1+1+1+1,jm)::(L+1+1+1+1,jt)::(L+1+1+1,jp)::(L+1+1,jr)::(L+1,jl)::(134,tabObj ps)::[]) hq)⟩
  have Z : ZB L R c3 c4 ((NB,listOf #[.int (nbV (lucasL fi se) se (P+1) Q') n0,.int (nbV (lucasL fi se) se P (Q'+1)) n1,.int (nbV (lucasL fi se) se (P - 1) (Q'+1)) n2,.int (nbV (lucasL fi se) se (P - 1) Q') n3,.int (nbV (lucasL fi se) se P (Q' - 1)) n4,.int (nbV (lucasL fi se) se (P+1) (Q' - 1)) n5] 6)::(DN,listOf #[.int (lucU fi se (P+1)) d0,.int (lucU fi se (Q'+1)) d1,.int (lucU fi se (Q'+1)) d2,.int (lucU fi se (P + Q')) d3,.int (lucU fi se (P + Q')) d4,.int (lucU fi se (P+1)) d5] 0)::(UP,listOf #[.int (lucU fi se (P + Q'+1)) p0,.int (lucU fi se (P + Q'+1)) p1,.int (lucU fi se P) p2,.int (lucU fi se P) p3,.int (lucU fi se Q') p4,.int (lucU fi se Q') p5] 0)::zs) ps := ⟨hzA,hzRA,(off0 r30).2,(off0 r37).2,TZ.mono subA⟩
  refine law_z B X T hd hu ch1 ch2 ch3 hl hR20 (off0 r30).1 (off0 r37).1 DL6 hsd Z F6 N6 cr cs coN (.head _) (subA _ hT0) (subA _ hT1) (subA _ hT2) (subA _ hT3) (subA _ hT4) (subA _ hT5) ?_ g1 g2 fin
  intro z hz
  simp only [List.mem_cons,List.not_mem_nil,or_false] at hz
  rcases hz with rfl | rfl | rfl | rfl | rfl | rfl
  · exact nmono s12 (by decide)
  · exact nmono s13 (by decide)
  · exact nmono s14 (by decide)
  · exact nmono s15 (by decide)
  · exact nmono s16 (by decide)
  · exact nmono s17 (by decide)
theorem words_a68 : True := by
  k_with_none
  k_with "k_ne" => (refine neN ?_; (try dsimp only); first | (with_reducible assumption) | (refine Ne.symm ?_; with_reducible assumption))
  k_with "omega" => lia
  exact trivial
theorem core_law_n10 : PP_law_n10 w p loose mean mg mb dp un gd L fa A₀ base h₀ s Q E m jk jq yk jm jt jp jr jl t37 t30 R xs kR ps zs P Q' WH UN u1 u2 tb tw tu rows ov := by
  intro B X T hd hu ch1 ch2 ch3 hE hl hz hzR hR TZ RZ hrl F N mp mq mb' cw cu cr co hP1 hP4 hQ1 hQ4 hW0 hW1 hU0 hU1 fin
  w_top off
  refine For_invVF F (by rfl) (by rfl) ?_ (hE := hE)
  iterate 19 (first | walk1 | (dsimp only; walk1))
  rename IsRange _ _ _ _ _ _ _ _ => hr
  rename Fr h₀ L _ _ => F9
  rename News h₀ L _ _ => N9
  refine krs_iter (n := 3) rfl hr (small_down (a := P+1) (b := P - 2) (by omega) (by omega) (by omega) (by omega)) (by rw [rangeSize_downNat]; omega) F9 N9 ?_
  intro I lI
  clear F9 N9 hr
  have hIc : AllNe I ((R,listOf (xs).toArray kR)::(L+1+1+1+1+1+1+1+1,jk)::(L+1+1+1+1+1+1+1,jq)::(L+1+1+1+1+1+1,yk)::(L+1+1+1+1+1,jm)::(L+1+1+1+1,jt)::(L+1+1+1,jp)::(L+1+1,jr)::(L+1,jl)::(37,t37)::(30,t30)::(134,tabObj ps)::[]) := allNe_of fun q hq => Nat.ne_of_lt (lI q (List.mem_append_left zs hq))
  have hIz : ∀ q ∈ zs,@Ne Nat q.1 I := fun q hq => Nat.ne_of_lt (lI q (List.mem_append_right ((R,listOf (xs).toArray kR)::(L+1+1+1+1+1+1+1+1,jk)::(L+1+1+1+1+1+1+1,jq)::(L+1+1+1+1+1+1,yk)::(L+1+1+1+1+1,jm)::(L+1+1+1+1,jt)::(L+1+1+1,jp)::(L+1+1,jr)::(L+1,jl)::(37,t37)::(30,t30)::(134,tabObj ps)::[]) hq))
  have hIR : @Ne Nat I R := Ne.symm (AllNe.mem hIc (.head _))
  have hoI : @Ne Nat I (L+1+1+1+1+1+1+1+1) ∧ @Ne Nat I (L+1+1+1+1+1+1+1) ∧ @Ne Nat I (L+1+1+1+1+1+1) ∧ @Ne Nat I (L+1+1+1+1+1) ∧ @Ne Nat I (L+1+1+1+1) ∧ @Ne Nat I (L+1+1+1) ∧ @Ne Nat I (L+1+1) ∧ @Ne Nat I (L+1) ∧ @Ne Nat I (37) ∧ @Ne Nat I (30) ∧ @Ne Nat I (134) := by
    obtain ⟨_,e0,e1,e2,e3,e4,e5,e6,e7,e8,e9,e10,_⟩ := hIc
    exact ⟨Ne.symm e0,Ne.symm e1,Ne.symm e2,Ne.symm e3,Ne.symm e4,Ne.symm e5,Ne.symm e6,Ne.symm e7,Ne.symm e8,Ne.symm e9,Ne.symm e10⟩
  have hz0 : OffZ L ([] ++ zs) := hz
  have hzR0 : ∀ q ∈ [] ++ zs,@Ne Nat q.1 R := hzR
  have TZ0 : TabZ ([] ++ zs) ps := TZ
  have RZ0 : RowZ ([] ++ zs) xs rows := RZ
  have hI0 : ∀ q ∈ ([] : List (Addr × Obj)),@Ne Nat q.1 I := fun _ h => nomatch h
  have hD0 : ∀ q ∈ ([] : List (Addr × Obj)),AllNe q.1 zs := fun _ h => nomatch h
  have hlen0 : rows.length ≤ rows.length+0 := Nat.le_refl _
  have co0 := co
  have kp0 : ∀ y,y ≠ Str.ofString "i" → y ≠ Str.ofString "j" → y ≠ Str.ofString "hue" → y ≠ Str.ofString "light" → y ≠ Str.ofString "depth" → m y = m y := fun _ _ _ _ _ _ => rfl
  refine KrsRest.succ (v := P+1) (by omega) ?_
  intro tj0 h0 tk0 F0 N0
  have N0' : News h₀ L h0 ((R,listOf (xs).toArray kR)::(L+1+1+1+1+1+1+1+1,jk)::(L+1+1+1+1+1+1+1,jq)::(L+1+1+1+1+1+1,yk)::(L+1+1+1+1+1,jm)::(L+1+1+1+1,jt)::(L+1+1+1,jp)::(L+1+1,jr)::(L+1,jl)::(37,t37)::(30,t30)::(134,tabObj ps)::((I,krsIt (P+1 + ((1 : Nat) : Int) * (-1)) (((3 : Nat) : Int) - ((1 : Nat) : Int)) (-1))::([] ++ zs))) := cb_drop N0 (by
    intro q hq
    rcases List.mem_append.mp (show q ∈ ((R,listOf (xs).toArray kR)::(L+1+1+1+1+1+1+1+1,jk)::(L+1+1+1+1+1+1+1,jq)::(L+1+1+1+1+1+1,yk)::(L+1+1+1+1+1,jm)::(L+1+1+1+1,jt)::(L+1+1+1,jp)::(L+1+1,jr)::(L+1,jl)::(37,t37)::(30,t30)::(134,tabObj ps)::[] : List (Addr × Obj)) ++ ((I,krsIt (P+1 + ((1 : Nat) : Int) * (-1)) (((3 : Nat) : Int) - ((1 : Nat) : Int)) (-1))::([] ++ zs)) from hq) with hq | hq
    · exact .tail _ (List.mem_append_left ([] ++ zs) hq)
    · rcases List.mem_cons.mp hq with rfl | hq
      · exact .head _
      · exact .tail _ (List.mem_append_right ((R,listOf (xs).toArray kR)::(L+1+1+1+1+1+1+1+1,jk)::(L+1+1+1+1+1+1+1,jq)::(L+1+1+1+1+1+1,yk)::(L+1+1+1+1+1,jm)::(L+1+1+1+1,jt)::(L+1+1+1,jp)::(L+1+1,jr)::(L+1,jl)::(37,t37)::(30,t30)::(134,tabObj ps)::[]) hq))
  show wpAny _ _ (execs [itForJ] _) _ _ _
  refine wpAny_execs_cons ?_
  refine it_for2 (i := P+1) B X T hd hu ch1 ch2 ch3 hE hl (zs := ((I,krsIt (P+1 + ((1 : Nat) : Int) * (-1)) (((3 : Nat) : Int) - ((1 : Nat) : Int)) (-1))::([] ++ zs))) (offI (own := []) hz0 hoI) (off_put (P := fun r => @Ne Nat r.1 R) hIR hzR0) (show AllNe R ((L+1+1+1+1+1+1+1+1,jk)::(L+1+1+1+1+1+1+1,jq)::(L+1+1+1+1+1+1,yk)::(L+1+1+1+1+1,jm)::(L+1+1+1+1,jt)::(L+1+1+1,jp)::(L+1+1,jr)::(L+1,jl)::(37,t37)::(30,t30)::(134,tabObj ps)::[]) from hR) (TZ0.mono fun q hq => .tail _ hq) (RZ0.mono fun q hq => .tail _ hq) (by have h9 := hlen0; omega) F0 N0' ((if_neg (by decide)).trans ((kp0 _ (by decide) (by decide) (by decide) (by decide) (by decide)).trans mp)) ((if_neg (by decide)).trans ((kp0 _ (by decide) (by decide) (by decide) (by decide) (by decide)).trans mq)) (if_pos rfl) ((if_neg (by decide)).trans ((kp0 _ (by decide) (by decide) (by decide) (by decide) (by decide)).trans mb')) cw cu cr co0 hP1 hP4 hQ1 hQ4 (by omega) (by omega) hW0 hW1 hU0 hU1 ?_
  intro g0 gk0 m1 xs1 kR1 ps1 ow1 oP1 ov1 G0 NG0 keep0 hzG0 hzRG0 TZG0 RZG0 co1 hdG0
  refine wpAny_execs_nil ?_
  have hz1 : OffZ L ((ow1 ++ []) ++ zs) := by rw [List.append_assoc]; exact off_strip hzG0
  have hzR1 : ∀ q ∈ (ow1 ++ []) ++ zs,@Ne Nat q.1 R := by rw [List.append_assoc]; exact off_strip hzRG0
  have TZ1 : TabZ ((ow1 ++ []) ++ zs) ps1 := by rw [List.append_assoc]; exact TabZ.strip rfl TZG0
  have RZ1 : RowZ ((ow1 ++ []) ++ zs) xs1 (rowJ rows P Q' (P+1)) := by rw [List.append_assoc]; exact RowZ.strip rfl RZG0
  have hI1 : ∀ q ∈ (ow1 ++ []),@Ne Nat q.1 I := fun q hq => by
    rcases List.mem_append.mp hq with hq | hq
    · exact Ne.symm (AllNe.mem (hdG0 q hq) (.head _))
    · exact hI0 q hq
  have hD1 : ∀ q ∈ (ow1 ++ []),AllNe q.1 zs := fun q hq => by
    rcases List.mem_append.mp hq with hq | hq
    · exact AllNe.sub (hdG0 q hq) fun r hr => .tail _ (List.mem_append_right _ hr)
    · exact hD0 q hq
  have hlen1 : (rowJ rows P Q' (P+1)).length ≤ rows.length+3 := Nat.le_trans (rowJ_len _ _ _ _) (by have h9 := hlen0; omega)
  have kp1 : ∀ y,y ≠ Str.ofString "i" → y ≠ Str.ofString "j" → y ≠ Str.ofString "hue" → y ≠ Str.ofString "light" → y ≠ Str.ofString "depth" → m1 y = m y := fun y e a b c d => (keep0 y a b c d).trans ((if_neg e).trans (kp0 y e a b c d))
  refine UnrEnd.intro (all := (R,listOf (xs1).toArray kR1)::(L+1+1+1+1+1+1+1+1,jk)::(L+1+1+1+1+1+1+1,oP1)::(L+1+1+1+1+1+1,yk)::(L+1+1+1+1+1,jm)::(L+1+1+1+1,jt)::(L+1+1+1,jp)::(L+1+1,jr)::(L+1,jl)::(37,t37)::(30,t30)::(134,tabObj ps1)::(ow1 ++ ((I,krsIt (P+1 + ((1 : Nat) : Int) * (-1)) (((3 : Nat) : Int) - ((1 : Nat) : Int)) (-1))::([] ++ zs)))) G0 NG0 ((R,listOf (xs1).toArray kR1)::(L+1+1+1+1+1+1+1+1,jk)::(L+1+1+1+1+1+1+1,oP1)::(L+1+1+1+1+1+1,yk)::(L+1+1+1+1+1,jm)::(L+1+1+1+1,jt)::(L+1+1+1,jp)::(L+1+1,jr)::(L+1,jl)::(37,t37)::(30,t30)::(134,tabObj ps1)::((ow1 ++ []) ++ zs)) ?_ ?_ ?_
  · intro q hq
    rcases List.mem_cons.mp hq with rfl | hq
    · exact List.mem_append_right ((R,listOf (xs1).toArray kR1)::(L+1+1+1+1+1+1+1+1,jk)::(L+1+1+1+1+1+1+1,oP1)::(L+1+1+1+1+1+1,yk)::(L+1+1+1+1+1,jm)::(L+1+1+1+1,jt)::(L+1+1+1,jp)::(L+1+1,jr)::(L+1,jl)::(37,t37)::(30,t30)::(134,tabObj ps1)::[]) (List.mem_append_right _ (.head _))
    · rcases List.mem_append.mp (show q ∈ ((R,listOf (xs1).toArray kR1)::(L+1+1+1+1+1+1+1+1,jk)::(L+1+1+1+1+1+1+1,oP1)::(L+1+1+1+1+1+1,yk)::(L+1+1+1+1+1,jm)::(L+1+1+1+1,jt)::(L+1+1+1,jp)::(L+1+1,jr)::(L+1,jl)::(37,t37)::(30,t30)::(134,tabObj ps1)::[] : List (Addr × Obj)) ++ ((ow1 ++ []) ++ zs) from hq) with hq | hq
      · exact List.mem_append_left (ow1 ++ ((I,krsIt (P+1 + ((1 : Nat) : Int) * (-1)) (((3 : Nat) : Int) - ((1 : Nat) : Int)) (-1))::([] ++ zs))) hq
      · refine List.mem_append_right ((R,listOf (xs1).toArray kR1)::(L+1+1+1+1+1+1+1+1,jk)::(L+1+1+1+1+1+1+1,oP1)::(L+1+1+1+1+1+1,yk)::(L+1+1+1+1+1,jm)::(L+1+1+1+1,jt)::(L+1+1+1,jp)::(L+1+1,jr)::(L+1,jl)::(37,t37)::(30,t30)::(134,tabObj ps1)::[]) ?_
        rw [List.append_assoc] at hq
        rcases List.mem_append.mp hq with hq | hq
        · exact List.mem_append_left _ hq
        · exact List.mem_append_right _ (.tail _ hq)
  · intro q hq
    rcases List.mem_append.mp (show q ∈ ((R,listOf (xs1).toArray kR1)::(L+1+1+1+1+1+1+1+1,jk)::(L+1+1+1+1+1+1+1,oP1)::(L+1+1+1+1+1+1,yk)::(L+1+1+1+1+1,jm)::(L+1+1+1+1,jt)::(L+1+1+1,jp)::(L+1+1,jr)::(L+1,jl)::(37,t37)::(30,t30)::(134,tabObj ps1)::[] : List (Addr × Obj)) ++ ((ow1 ++ []) ++ zs) from hq) with hq | hq
    · exact AllNe.mem (show AllNe I ((R,listOf (xs1).toArray kR1)::(L+1+1+1+1+1+1+1+1,jk)::(L+1+1+1+1+1+1+1,oP1)::(L+1+1+1+1+1+1,yk)::(L+1+1+1+1+1,jm)::(L+1+1+1+1,jt)::(L+1+1+1,jp)::(L+1+1,jr)::(L+1,jl)::(37,t37)::(30,t30)::(134,tabObj ps1)::[]) from hIc) hq
    · rcases List.mem_append.mp hq with hq | hq
      · exact hI1 q hq
      · exact hIz q hq
  refine KrsRest.succ (v := P) (by omega) ?_
  intro tj1 h1 tk1 F1 N1
  have N1' : News h₀ L h1 ((R,listOf (xs1).toArray kR1)::(L+1+1+1+1+1+1+1+1,jk)::(L+1+1+1+1+1+1+1,oP1)::(L+1+1+1+1+1+1,yk)::(L+1+1+1+1+1,jm)::(L+1+1+1+1,jt)::(L+1+1+1,jp)::(L+1+1,jr)::(L+1,jl)::(37,t37)::(30,t30)::(134,tabObj ps1)::((I,krsIt (P+1 + ((2 : Nat) : Int) * (-1)) (((3 : Nat) : Int) - ((2 : Nat) : Int)) (-1))::((ow1 ++ []) ++ zs))) := cb_drop N1 (by
    intro q hq
    rcases List.mem_append.mp (show q ∈ ((R,listOf (xs1).toArray kR1)::(L+1+1+1+1+1+1+1+1,jk)::(L+1+1+1+1+1+1+1,oP1)::(L+1+1+1+1+1+1,yk)::(L+1+1+1+1+1,jm)::(L+1+1+1+1,jt)::(L+1+1+1,jp)::(L+1+1,jr)::(L+1,jl)::(37,t37)::(30,t30)::(134,tabObj ps1)::[] : List (Addr × Obj)) ++ ((I,krsIt (P+1 + ((2 : Nat) : Int) * (-1)) (((3 : Nat) : Int) - ((2 : Nat) : Int)) (-1))::((ow1 ++ []) ++ zs)) from hq) with hq | hq
    · exact .tail _ (List.mem_append_left ((ow1 ++ []) ++ zs) hq)
    · rcases List.mem_cons.mp hq with rfl | hq
      · exact .head _
      · exact .tail _ (List.mem_append_right ((R,listOf (xs1).toArray kR1)::(L+1+1+1+1+1+1+1+1,jk)::(L+1+1+1+1+1+1+1,oP1)::(L+1+1+1+1+1+1,yk)::(L+1+1+1+1+1,jm)::(L+1+1+1+1,jt)::(L+1+1+1,jp)::(L+1+1,jr)::(L+1,jl)::(37,t37)::(30,t30)::(134,tabObj ps1)::[]) hq))
  show wpAny _ _ (execs [itForJ] _) _ _ _
  refine wpAny_execs_cons ?_
  refine it_for2 (i := P) B X T hd hu ch1 ch2 ch3 hE hl (zs := ((I,krsIt (P+1 + ((2 : Nat) : Int) * (-1)) (((3 : Nat) : Int) - ((2 : Nat) : Int)) (-1))::((ow1 ++ []) ++ zs))) (offI (own := (ow1 ++ [])) hz1 hoI) (off_put (P := fun r => @Ne Nat r.1 R) hIR hzR1) (show AllNe R ((L+1+1+1+1+1+1+1+1,jk)::(L+1+1+1+1+1+1+1,oP1)::(L+1+1+1+1+1+1,yk)::(L+1+1+1+1+1,jm)::(L+1+1+1+1,jt)::(L+1+1+1,jp)::(L+1+1,jr)::(L+1,jl)::(37,t37)::(30,t30)::(134,tabObj ps1)::[]) from hR) (TZ1.mono fun q hq => .tail _ hq) (RZ1.mono fun q hq => .tail _ hq) (by have h9 := hlen1; omega) F1 N1' ((if_neg (by decide)).trans ((kp1 _ (by decide) (by decide) (by decide) (by decide) (by decide)).trans mp)) ((if_neg (by decide)).trans ((kp1 _ (by decide) (by decide) (by decide) (by decide) (by decide)).trans mq)) (if_pos rfl) ((if_neg (by decide)).trans ((kp1 _ (by decide) (by decide) (by decide) (by decide) (by decide)).trans mb')) cw cu cr co1 hP1 hP4 hQ1 hQ4 (by omega) (by omega) hW0 hW1 hU0 hU1 ?_
  intro g1 gk1 m2 xs2 kR2 ps2 ow2 oP2 ov2 G1 NG1 keep1 hzG1 hzRG1 TZG1 RZG1 co2 hdG1
  refine wpAny_execs_nil ?_
  have hz2 : OffZ L ((ow2 ++ (ow1 ++ [])) ++ zs) := by rw [List.append_assoc]; exact off_strip hzG1
  have hzR2 : ∀ q ∈ (ow2 ++ (ow1 ++ [])) ++ zs,@Ne Nat q.1 R := by rw [List.append_assoc]; exact off_strip hzRG1
  have TZ2 : TabZ ((ow2 ++ (ow1 ++ [])) ++ zs) ps2 := by rw [List.append_assoc]; exact TabZ.strip rfl TZG1
  have RZ2 : RowZ ((ow2 ++ (ow1 ++ [])) ++ zs) xs2 (rowJ (rowJ rows P Q' (P+1)) P Q' P) := by rw [List.append_assoc]; exact RowZ.strip rfl RZG1
  have hI2 : ∀ q ∈ (ow2 ++ (ow1 ++ [])),@Ne Nat q.1 I := fun q hq => by
    rcases List.mem_append.mp hq with hq | hq
    · exact Ne.symm (AllNe.mem (hdG1 q hq) (.head _))
    · exact hI1 q hq
  have hD2 : ∀ q ∈ (ow2 ++ (ow1 ++ [])),AllNe q.1 zs := fun q hq => by
    rcases List.mem_append.mp hq with hq | hq
    · exact AllNe.sub (hdG1 q hq) fun r hr => .tail _ (List.mem_append_right _ hr)
    · exact hD1 q hq
  have hlen2 : (rowJ (rowJ rows P Q' (P+1)) P Q' P).length ≤ rows.length+6 := Nat.le_trans (rowJ_len _ _ _ _) (by have h9 := hlen1; omega)
  have kp2 : ∀ y,y ≠ Str.ofString "i" → y ≠ Str.ofString "j" → y ≠ Str.ofString "hue" → y ≠ Str.ofString "light" → y ≠ Str.ofString "depth" → m2 y = m y := fun y e a b c d => (keep1 y a b c d).trans ((if_neg e).trans (kp1 y e a b c d))
  refine UnrEnd.intro (all := (R,listOf (xs2).toArray kR2)::(L+1+1+1+1+1+1+1+1,jk)::(L+1+1+1+1+1+1+1,oP2)::(L+1+1+1+1+1+1,yk)::(L+1+1+1+1+1,jm)::(L+1+1+1+1,jt)::(L+1+1+1,jp)::(L+1+1,jr)::(L+1,jl)::(37,t37)::(30,t30)::(134,tabObj ps2)::(ow2 ++ ((I,krsIt (P+1 + ((2 : Nat) : Int) * (-1)) (((3 : Nat) : Int) - ((2 : Nat) : Int)) (-1))::((ow1 ++ []) ++ zs)))) G1 NG1 ((R,listOf (xs2).toArray kR2)::(L+1+1+1+1+1+1+1+1,jk)::(L+1+1+1+1+1+1+1,oP2)::(L+1+1+1+1+1+1,yk)::(L+1+1+1+1+1,jm)::(L+1+1+1+1,jt)::(L+1+1+1,jp)::(L+1+1,jr)::(L+1,jl)::(37,t37)::(30,t30)::(134,tabObj ps2)::((ow2 ++ (ow1 ++ [])) ++ zs)) ?_ ?_ ?_
  · intro q hq
    rcases List.mem_cons.mp hq with rfl | hq
    · exact List.mem_append_right ((R,listOf (xs2).toArray kR2)::(L+1+1+1+1+1+1+1+1,jk)::(L+1+1+1+1+1+1+1,oP2)::(L+1+1+1+1+1+1,yk)::(L+1+1+1+1+1,jm)::(L+1+1+1+1,jt)::(L+1+1+1,jp)::(L+1+1,jr)::(L+1,jl)::(37,t37)::(30,t30)::(134,tabObj ps2)::[]) (List.mem_append_right _ (.head _))
    · rcases List.mem_append.mp (show q ∈ ((R,listOf (xs2).toArray kR2)::(L+1+1+1+1+1+1+1+1,jk)::(L+1+1+1+1+1+1+1,oP2)::(L+1+1+1+1+1+1,yk)::(L+1+1+1+1+1,jm)::(L+1+1+1+1,jt)::(L+1+1+1,jp)::(L+1+1,jr)::(L+1,jl)::(37,t37)::(30,t30)::(134,tabObj ps2)::[] : List (Addr × Obj)) ++ ((ow2 ++ (ow1 ++ [])) ++ zs) from hq) with hq | hq
      · exact List.mem_append_left (ow2 ++ ((I,krsIt (P+1 + ((2 : Nat) : Int) * (-1)) (((3 : Nat) : Int) - ((2 : Nat) : Int)) (-1))::((ow1 ++ []) ++ zs))) hq
      · refine List.mem_append_right ((R,listOf (xs2).toArray kR2)::(L+1+1+1+1+1+1+1+1,jk)::(L+1+1+1+1+1+1+1,oP2)::(L+1+1+1+1+1+1,yk)::(L+1+1+1+1+1,jm)::(L+1+1+1+1,jt)::(L+1+1+1,jp)::(L+1+1,jr)::(L+1,jl)::(37,t37)::(30,t30)::(134,tabObj ps2)::[]) ?_
        rw [List.append_assoc] at hq
        rcases List.mem_append.mp hq with hq | hq
        · exact List.mem_append_left _ hq
        · exact List.mem_append_right _ (.tail _ hq)
  · intro q hq
    rcases List.mem_append.mp (show q ∈ ((R,listOf (xs2).toArray kR2)::(L+1+1+1+1+1+1+1+1,jk)::(L+1+1+1+1+1+1+1,oP2)::(L+1+1+1+1+1+1,yk)::(L+1+1+1+1+1,jm)::(L+1+1+1+1,jt)::(L+1+1+1,jp)::(L+1+1,jr)::(L+1,jl)::(37,t37)::(30,t30)::(134,tabObj ps2)::[] : List (Addr × Obj)) ++ ((ow2 ++ (ow1 ++ [])) ++ zs) from hq) with hq | hq
    · exact AllNe.mem (show AllNe I ((R,listOf (xs2).toArray kR2)::(L+1+1+1+1+1+1+1+1,jk)::(L+1+1+1+1+1+1+1,oP2)::(L+1+1+1+1+1+1,yk)::(L+1+1+1+1+1,jm)::(L+1+1+1+1,jt)::(L+1+1+1,jp)::(L+1+1,jr)::(L+1,jl)::(37,t37)::(30,t30)::(134,tabObj ps2)::[]) from hIc) hq
    · rcases List.mem_append.mp hq with hq | hq
      · exact hI2 q hq
      · exact hIz q hq
  refine KrsRest.succ (v := P - 1) (by omega) ?_
  intro tj2 h2 tk2 F2 N2
  have N2' : News h₀ L h2 ((R,listOf (xs2).toArray kR2)::(L+1+1+1+1+1+1+1+1,jk)::(L+1+1+1+1+1+1+1,oP2)::(L+1+1+1+1+1+1,yk)::(L+1+1+1+1+1,jm)::(L+1+1+1+1,jt)::(L+1+1+1,jp)::(L+1+1,jr)::(L+1,jl)::(37,t37)::(30,t30)::(134,tabObj ps2)::((I,krsIt (P+1 + ((3 : Nat) : Int) * (-1)) (((3 : Nat) : Int) - ((3 : Nat) : Int)) (-1))::((ow2 ++ (ow1 ++ [])) ++ zs))) := cb_drop N2 (by
    intro q hq
    rcases List.mem_append.mp (show q ∈ ((R,listOf (xs2).toArray kR2)::(L+1+1+1+1+1+1+1+1,jk)::(L+1+1+1+1+1+1+1,oP2)::(L+1+1+1+1+1+1,yk)::(L+1+1+1+1+1,jm)::(L+1+1+1+1,jt)::(L+1+1+1,jp)::(L+1+1,jr)::(L+1,jl)::(37,t37)::(30,t30)::(134,tabObj ps2)::[] : List (Addr × Obj)) ++ ((I,krsIt (P+1 + ((3 : Nat) : Int) * (-1)) (((3 : Nat) : Int) - ((3 : Nat) : Int)) (-1))::((ow2 ++ (ow1 ++ [])) ++ zs)) from hq) with hq | hq
    · exact .tail _ (List.mem_append_left ((ow2 ++ (ow1 ++ [])) ++ zs) hq)
    · rcases List.mem_cons.mp hq with rfl | hq
      · exact .head _
      · exact .tail _ (List.mem_append_right ((R,listOf (xs2).toArray kR2)::(L+1+1+1+1+1+1+1+1,jk)::(L+1+1+1+1+1+1+1,oP2)::(L+1+1+1+1+1+1,yk)::(L+1+1+1+1+1,jm)::(L+1+1+1+1,jt)::(L+1+1+1,jp)::(L+1+1,jr)::(L+1,jl)::(37,t37)::(30,t30)::(134,tabObj ps2)::[]) hq))
  show wpAny _ _ (execs [itForJ] _) _ _ _
  refine wpAny_execs_cons ?_
  refine it_for2 (i := P - 1) B X T hd hu ch1 ch2 ch3 hE hl (zs := ((I,krsIt (P+1 + ((3 : Nat) : Int) * (-1)) (((3 : Nat) : Int) - ((3 : Nat) : Int)) (-1))::((ow2 ++ (ow1 ++ [])) ++ zs))) (offI (own := (ow2 ++ (ow1 ++ []))) hz2 hoI) (off_put (P := fun r => @Ne Nat r.1 R) hIR hzR2) (show AllNe R ((L+1+1+1+1+1+1+1+1,jk)::(L+1+1+1+1+1+1+1,oP2)::(L+1+1+1+1+1+1,yk)::(L+1+1+1+1+1,jm)::(L+1+1+1+1,jt)::(L+1+1+1,jp)::(L+1+1,jr)::(L+1,jl)::(37,t37)::(30,t30)::(134,tabObj ps2)::[]) from hR) (TZ2.mono fun q hq => .tail _ hq) (RZ2.mono fun q hq => .tail _ hq) (by have h9 := hlen2; omega) F2 N2' ((if_neg (by decide)).trans ((kp2 _ (by decide) (by decide) (by decide) (by decide) (by decide)).trans mp)) ((if_neg (by decide)).trans ((kp2 _ (by decide) (by decide) (by decide) (by decide) (by decide)).trans mq)) (if_pos rfl) ((if_neg (by decide)).trans ((kp2 _ (by decide) (by decide) (by decide) (by decide) (by decide)).trans mb')) cw cu cr co2 hP1 hP4 hQ1 hQ4 (by omega) (by omega) hW0 hW1 hU0 hU1 ?_
  intro g2 gk2 m3 xs3 kR3 ps3 ow3 oP3 ov3 G2 NG2 keep2 hzG2 hzRG2 TZG2 RZG2 co3 hdG2
  refine wpAny_execs_nil ?_
  have hz3 : OffZ L ((ow3 ++ (ow2 ++ (ow1 ++ []))) ++ zs) := by rw [List.append_assoc]; exact off_strip hzG2
  have hzR3 : ∀ q ∈ (ow3 ++ (ow2 ++ (ow1 ++ []))) ++ zs,@Ne Nat q.1 R := by rw [List.append_assoc]; exact off_strip hzRG2
  have TZ3 : TabZ ((ow3 ++ (ow2 ++ (ow1 ++ []))) ++ zs) ps3 := by rw [List.append_assoc]; exact TabZ.strip rfl TZG2
  have RZ3 : RowZ ((ow3 ++ (ow2 ++ (ow1 ++ []))) ++ zs) xs3 (rowA rows P Q') := by rw [List.append_assoc]; exact RowZ.strip rfl RZG2
  have hI3 : ∀ q ∈ (ow3 ++ (ow2 ++ (ow1 ++ []))),@Ne Nat q.1 I := fun q hq => by
    rcases List.mem_append.mp hq with hq | hq
    · exact Ne.symm (AllNe.mem (hdG2 q hq) (.head _))
    · exact hI2 q hq
  have hD3 : ∀ q ∈ (ow3 ++ (ow2 ++ (ow1 ++ []))),AllNe q.1 zs := fun q hq => by
    rcases List.mem_append.mp hq with hq | hq
    · exact AllNe.sub (hdG2 q hq) fun r hr => .tail _ (List.mem_append_right _ hr)
    · exact hD2 q hq
  have hlen3 : (rowA rows P Q').length ≤ rows.length+9 := Nat.le_trans (rowJ_len _ _ _ _) (by have h9 := hlen2; omega)
  have kp3 : ∀ y,y ≠ Str.ofString "i" → y ≠ Str.ofString "j" → y ≠ Str.ofString "hue" → y ≠ Str.ofString "light" → y ≠ Str.ofString "depth" → m3 y = m y := fun y e a b c d => (keep2 y a b c d).trans ((if_neg e).trans (kp2 y e a b c d))
  refine UnrEnd.intro (all := (R,listOf (xs3).toArray kR3)::(L+1+1+1+1+1+1+1+1,jk)::(L+1+1+1+1+1+1+1,oP3)::(L+1+1+1+1+1+1,yk)::(L+1+1+1+1+1,jm)::(L+1+1+1+1,jt)::(L+1+1+1,jp)::(L+1+1,jr)::(L+1,jl)::(37,t37)::(30,t30)::(134,tabObj ps3)::(ow3 ++ ((I,krsIt (P+1 + ((3 : Nat) : Int) * (-1)) (((3 : Nat) : Int) - ((3 : Nat) : Int)) (-1))::((ow2 ++ (ow1 ++ [])) ++ zs)))) G2 NG2 ((R,listOf (xs3).toArray kR3)::(L+1+1+1+1+1+1+1+1,jk)::(L+1+1+1+1+1+1+1,oP3)::(L+1+1+1+1+1+1,yk)::(L+1+1+1+1+1,jm)::(L+1+1+1+1,jt)::(L+1+1+1,jp)::(L+1+1,jr)::(L+1,jl)::(37,t37)::(30,t30)::(134,tabObj ps3)::((ow3 ++ (ow2 ++ (ow1 ++ []))) ++ zs)) ?_ ?_ ?_
  · intro q hq
    rcases List.mem_cons.mp hq with rfl | hq
    · exact List.mem_append_right ((R,listOf (xs3).toArray kR3)::(L+1+1+1+1+1+1+1+1,jk)::(L+1+1+1+1+1+1+1,oP3)::(L+1+1+1+1+1+1,yk)::(L+1+1+1+1+1,jm)::(L+1+1+1+1,jt)::(L+1+1+1,jp)::(L+1+1,jr)::(L+1,jl)::(37,t37)::(30,t30)::(134,tabObj ps3)::[]) (List.mem_append_right _ (.head _))
    · rcases List.mem_append.mp (show q ∈ ((R,listOf (xs3).toArray kR3)::(L+1+1+1+1+1+1+1+1,jk)::(L+1+1+1+1+1+1+1,oP3)::(L+1+1+1+1+1+1,yk)::(L+1+1+1+1+1,jm)::(L+1+1+1+1,jt)::(L+1+1+1,jp)::(L+1+1,jr)::(L+1,jl)::(37,t37)::(30,t30)::(134,tabObj ps3)::[] : List (Addr × Obj)) ++ ((ow3 ++ (ow2 ++ (ow1 ++ []))) ++ zs) from hq) with hq | hq
      · exact List.mem_append_left (ow3 ++ ((I,krsIt (P+1 + ((3 : Nat) : Int) * (-1)) (((3 : Nat) : Int) - ((3 : Nat) : Int)) (-1))::((ow2 ++ (ow1 ++ [])) ++ zs))) hq
      · refine List.mem_append_right ((R,listOf (xs3).toArray kR3)::(L+1+1+1+1+1+1+1+1,jk)::(L+1+1+1+1+1+1+1,oP3)::(L+1+1+1+1+1+1,yk)::(L+1+1+1+1+1,jm)::(L+1+1+1+1,jt)::(L+1+1+1,jp)::(L+1+1,jr)::(L+1,jl)::(37,t37)::(30,t30)::(134,tabObj ps3)::[]) ?_
        rw [List.append_assoc] at hq
        rcases List.mem_append.mp hq with hq | hq
        · exact List.mem_append_left _ hq
        · exact List.mem_append_right _ (.tail _ hq)
  · intro q hq
    rcases List.mem_append.mp (show q ∈ ((R,listOf (xs3).toArray kR3)::(L+1+1+1+1+1+1+1+1,jk)::(L+1+1+1+1+1+1+1,oP3)::(L+1+1+1+1+1+1,yk)::(L+1+1+1+1+1,jm)::(L+1+1+1+1,jt)::(L+1+1+1,jp)::(L+1+1,jr)::(L+1,jl)::(37,t37)::(30,t30)::(134,tabObj ps3)::[] : List (Addr × Obj)) ++ ((ow3 ++ (ow2 ++ (ow1 ++ []))) ++ zs) from hq) with hq | hq
    · exact AllNe.mem (show AllNe I ((R,listOf (xs3).toArray kR3)::(L+1+1+1+1+1+1+1+1,jk)::(L+1+1+1+1+1+1+1,oP3)::(L+1+1+1+1+1+1,yk)::(L+1+1+1+1+1,jm)::(L+1+1+1+1,jt)::(L+1+1+1,jp)::(L+1+1,jr)::(L+1,jl)::(37,t37)::(30,t30)::(134,tabObj ps3)::[]) from hIc) hq
    · rcases List.mem_append.mp hq with hq | hq
      · exact hI3 q hq
      · exact hIz q hq
  refine KrsRest.zero ?_
  intro h9 tk9 F9 N9
  exact fin _ _ m3 xs3 kR3 ps3 (ow3 ++ (ow2 ++ (ow1 ++ []))) oP3 ov3 F9 N9 kp3 hz3 hzR3 TZ3 RZ3 co3 hD3
theorem gg (v : VV) : GG v := pick_all (by with_unfolding_all exact ⟨core_law_y,core_law_n10⟩) v
theorem gg_law_y (v : VV) : PP_law_y (pj0 v 0) (pj1 v 0) (pj2 v 0) (pj3 v 0) (pj4 v 0) (pj4 v 1) (pj5 v 0) (pj5 v 1) (pj6 v 0) (pj7 v 0) (pj7 v 1) (pj8 v 0) (pj9 v 0) (pj9 v 1) (pj10 v 0) (pj11 v 0) (pj12 v 0) (pj4 v 2) (pj13 v 0) (pj13 v 1) (pj13 v 2) (pj13 v 3) (pj13 v 4) (pj13 v 5) (pj13 v 6) (pj13 v 7) (pj13 v 8) (pj7 v 2) (pj7 v 3) (pj7 v 4) (pj7 v 5) (pj7 v 6) (pj7 v 7) (pj7 v 8) (pj7 v 9) (pj7 v 10) (pj7 v 11) (pj7 v 12) (pj7 v 13) (pj5 v 2) (pj5 v 3) (pj5 v 4) (pj14 v 0) (pj15 v 0) (pj16 v 0) (pj17 v 0) (pj17 v 1) (pj17 v 2) (pj17 v 3) (pj17 v 4) (pj17 v 5) (pj18 v 0) (pj18 v 1) (pj18 v 2) (pj18 v 3) (pj18 v 4) (pj18 v 5) (pj18 v 6) (pj18 v 7) (pj18 v 8) (pj18 v 9) (pj18 v 10) (pj18 v 11) (pj18 v 12) (pj18 v 13) (pj18 v 14) (pj18 v 15) (pj18 v 16) (pj18 v 17) (pj18 v 18) (pj18 v 19) (pj18 v 20) (pj18 v 21) (pj19 v 0) := (gg v).1
theorem gg_law_n10 (v : VV) : PP_law_n10 (pj0 v 0) (pj1 v 0) (pj2 v 0) (pj3 v 0) (pj4 v 0) (pj4 v 1) (pj5 v 0) (pj5 v 1) (pj6 v 0) (pj7 v 0) (pj7 v 1) (pj8 v 0) (pj9 v 0) (pj9 v 1) (pj10 v 0) (pj11 v 0) (pj12 v 0) (pj4 v 2) (pj13 v 0) (pj13 v 1) (pj13 v 2) (pj13 v 3) (pj13 v 4) (pj13 v 5) (pj13 v 6) (pj13 v 7) (pj13 v 9) (pj13 v 10) (pj7 v 2) (pj16 v 1) (pj5 v 2) (pj14 v 0) (pj15 v 0) (pj17 v 0) (pj17 v 1) (pj17 v 6) (pj17 v 7) (pj18 v 8) (pj18 v 11) (pj18 v 22) (pj18 v 23) (pj18 v 24) (pj20 v 0) (pj19 v 0) := (gg v).2
end C4
theorem law_y {w p loose mean mg mb dp un gd L fa A₀ base h₀ s Q E m jk jq yk jm jt jp jr jl oD R D1 Ld Ta U TB T0 T1 T2 T3 T4 T5 kR kL kU ps zs vsU P Q' fi se sc sd ts tc w1 w2 t0 u0 v0 t1 u1 v1 t2 u2 v2 t3 u3 v3 t4 u4 v4 t5 u5 v5 ov} : C4.PP_law_y w p loose mean mg mb dp un gd L fa A₀ base h₀ s Q E m jk jq yk jm jt jp jr jl oD R D1 Ld Ta U TB T0 T1 T2 T3 T4 T5 kR kL kU ps zs vsU P Q' fi se sc sd ts tc w1 w2 t0 u0 v0 t1 u1 v1 t2 u2 v2 t3 u3 v3 t4 u4 v4 t5 u5 v5 ov :=
  C4.gg_law_y (fun n => [w].getD n w,fun n => [p].getD n p,fun n => [loose].getD n loose,fun n => [mean].getD n mean,fun n => [mg,mb,m].getD n mg,fun n => [dp,un,kR,kL,kU].getD n dp,fun n => [gd].getD n gd,fun n => [L,fa,R,D1,Ld,Ta,U,TB,T0,T1,T2,T3,T4,T5].getD n L,fun n => [A₀].getD n A₀,fun n => [base,h₀].getD n base,fun n => [s].getD n s,fun n => [Q].getD n Q,fun n => [E].getD n E,fun n => [jk,jq,yk,jm,jt,jp,jr,jl,oD].getD n jk,fun n => [ps].getD n ps,fun n => [zs].getD n zs,fun n => [vsU].getD n vsU,fun n => [P,Q',fi,se,sc,sd].getD n P,fun n => [ts,tc,w1,w2,t0,u0,v0,t1,u1,v1,t2,u2,v2,t3,u3,v3,t4,u4,v4,t5,u5,v5].getD n ts,fun n => [ov].getD n ov,C4.pj20 C4.cc)
theorem law_n10 {w p loose mean mg mb dp un gd L fa A₀ base h₀ s Q E m jk jq yk jm jt jp jr jl t37 t30 R xs kR ps zs P Q' WH UN u1 u2 tb tw tu rows ov} : C4.PP_law_n10 w p loose mean mg mb dp un gd L fa A₀ base h₀ s Q E m jk jq yk jm jt jp jr jl t37 t30 R xs kR ps zs P Q' WH UN u1 u2 tb tw tu rows ov :=
  C4.gg_law_n10 (fun n => [w].getD n w,fun n => [p].getD n p,fun n => [loose].getD n loose,fun n => [mean].getD n mean,fun n => [mg,mb,m].getD n mg,fun n => [dp,un,kR].getD n dp,fun n => [gd].getD n gd,fun n => [L,fa,R].getD n L,fun n => [A₀].getD n A₀,fun n => [base,h₀].getD n base,fun n => [s].getD n s,fun n => [Q].getD n Q,fun n => [E].getD n E,fun n => [jk,jq,yk,jm,jt,jp,jr,jl,jk,t37,t30].getD n jk,fun n => [ps].getD n ps,fun n => [zs].getD n zs,fun n => [xs,xs].getD n xs,fun n => [P,Q',P,P,P,P,WH,UN].getD n P,fun n => [u1,u1,u1,u1,u1,u1,u1,u1,u1,u1,u1,u2,u1,u1,u1,u1,u1,u1,u1,u1,u1,u1,tb,tw,tu].getD n u1,fun n => [ov].getD n ov,fun n => [rows].getD n rows)
theorem words_a69 : True := by
  k_with_none
  k_with "k_ne" => (refine neN ?_; (try dsimp only); first | (with_reducible assumption) | (refine Ne.symm ?_; with_reducible assumption))
  exact trivial
theorem law_x {w : World} {p : Program} {loose : List Str} {mean : ExcName → Option Value} {mg mb : Str → Option Value}
    {dp un : Nat} {gd : Option (List Code)} {L fa : Addr} {A₀ : Around} {base h₀ : Heap} {s : Shared} {Q : Flow → Shared → Prop} {E : Value → Shared → Prop}
    (B : Below A₀ base [] h₀) (X : (Mine.hd.heap_1 w.params).In h₀) (T : Top p loose mean mg mb h₀) (hd : dp+100 < recursionLimit) (hu : un+600 < cLine)
    (ch1 : CodeHd h₀ 41 37) (ch2 : CodeHd h₀ 34 30) (ch3 : CodeHd h₀ 136 134)
   {m : Str → Option Value} {jk jq yk jm jt jp jr jl : Obj} {R U TB : Addr} {kR kU : Nat} {zs : List (Addr × Obj)} {vsU : List Value} {P Q' fi se sc sd WH UN : Int} {ts tc tb tw tu w1 w2 : Tok} {ov ov2 : Option Value}
   (hE : PassesOwn (model pw_ty0047_01 w) (lawA dp un gd L fa) (lawEnv L fa) E)
   (hl : @LT.lt Nat _ 134 L) (hz : OffZ L zs) (hzR : ∀ q ∈ zs,@Ne Nat q.1 R) (hR : AllNe R ((L+1+1+1+1+1+1+1+1,jk)::(L+1+1+1+1+1+1+1,jq)::(L+1+1+1+1+1+1,yk)::(L+1+1+1+1+1,jm)::(L+1+1+1+1,jt)::(L+1+1+1,jp)::(L+1+1,jr)::(L+1,jl)::(37,tabObj #[])::(30,tabObj #[])::(134,tabObj #[])::[])) (F : Fr h₀ L s.heap m) (N : News h₀ L s.heap ((R,listOf #[] kR)::(L+1+1+1+1+1+1+1+1,jk)::(L+1+1+1+1+1+1+1,jq)::(L+1+1+1+1+1+1,yk)::(L+1+1+1+1+1,jm)::(L+1+1+1+1,jt)::(L+1+1+1,jp)::(L+1+1,jr)::(L+1,jl)::(37,tabObj #[])::(30,tabObj #[])::(134,tabObj #[])::zs))
   (cr : yk.data = .cell (some (.ref R))) (ct : jm.data = .cell (some (.ref TB))) (cs : jr.data = .cell (some (.int sd ts))) (cn : jk.data = .cell ov) (co : jq.data = .cell ov2) (cw : jp.data = .cell (some (.int WH tw))) (cu : jt.data = .cell (some (.int UN tu))) (hsd : sd = 0 ∨ sd = 1)
   (hUm : (U,listOf vsU.toArray kU) ∈ zs) (hUi : IntsAre vsU (lucasL fi se)) (hTB : TabL zs TB (lucasL fi se) se) (hf : -20 ≤ fi ∧ fi ≤ 20 ∧ fi ≠ 0) (hse : se = 1 ∨ se = -1) (h1s : (fi = 1 ∨ fi = -1) → se = -1) (hP1 : 1 ≤ P) (hP4 : P ≤ 4) (hQ1 : 1 ≤ Q') (hQ4 : Q' ≤ 4) (hs : sc.natAbs < 2 ^ 4201) (hs2 : 2 ≤ sc) (hW0 : 0 ≤ WH) (hW1 : WH ≤ 30) (hU0 : 1 ≤ UN) (hU1 : UN ≤ 33)
   (mu : m (Str.ofString "units") = some (.ref U)) (mp : m (Str.ofString "p") = some (.int P w1)) (mq : m (Str.ofString "q") = some (.int Q' w2)) (mc : m (Str.ofString "scale") = some (.int sc tc)) (mb' : m (Str.ofString "both") = some (.int (2 * WH + UN) tb))
   (fin : ∀ h tk' m' A1 A2 A3,Fr h₀ L h m' → News h₀ L h [(37,tabObj A1),(30,tabObj A2),(134,tabObj A3)] → Q (.ret (.bool true)) { s with heap := h,toks := tk' })
   : wpAny (model pw_ty0047_01 w) (lawA dp un gd L fa) (execs [lst10,lst11,lst12,lst13,lst14,lst15,lst16,lst17,lst18,lst19,lst20,lst21,lst22,lst23] (lawEnv L fa)) Q E s := by
  refine wpAny_execs_cons ?_
  refine law_n10 (xs := []) (rows := []) B X T hd hu ch1 ch2 ch3 hE hl hz hzR hR TabZ.nil RowZ.nil rfl F N mp mq mb' cw cu cr co hP1 hP4 hQ1 hQ4 hW0 hW1 hU0 hU1 ?_
  intro h1 tk1 m1 xs1 kR1 ps1 own oP ov1 F1 N1 kp1 hz1 hzR1 TZ1 RZ1 coP hown
  rw [rowA_all hP1 hP4 hQ1 hQ4] at RZ1
  unfold starRows at RZ1
  obtain ⟨T0,t0,u0,v0,ys0,rfl,hT0,RZ1⟩ := RZ1.one
  obtain ⟨T1,t1,u1,v1,ys1,rfl,hT1,RZ1⟩ := RZ1.one
  obtain ⟨T2,t2,u2,v2,ys2,rfl,hT2,RZ1⟩ := RZ1.one
  obtain ⟨T3,t3,u3,v3,ys3,rfl,hT3,RZ1⟩ := RZ1.one
  obtain ⟨T4,t4,u4,v4,ys4,rfl,hT4,RZ1⟩ := RZ1.one
  obtain ⟨T5,t5,u5,v5,ys5,rfl,hT5,RZ1⟩ := RZ1.one
  obtain rfl := RZ1.end_
  have gok := grey_all hW0 hW1
  simp only [greyOk,Bool.and_eq_true,Bool.not_eq_true'] at gok
  obtain ⟨⟨hself,hfe⟩,hI⟩ := gok
  have hR1 : AllNe R ((L+1+1+1+1+1+1+1+1,jk)::(L+1+1+1+1+1+1+1,oP)::(L+1+1+1+1+1+1,yk)::(L+1+1+1+1+1,jm)::(L+1+1+1+1,jt)::(L+1+1+1,jp)::(L+1+1,jr)::(L+1,jl)::(37,tabObj #[])::(30,tabObj #[])::(134,tabObj ps1)::[]) := hR
  refine law_n12 B X T hd hu ch1 ch2 ch3 hl hz1 hzR1 hR1 F1 N1 cw cr hI hself ?_
  intro h2 tk2 m2 Ld kL G g1 g2 g3 xl hxl hg2 F2 N2 hz2 hzR2 hLd kp2 mgr mla
  have hz13 : OffZ L ((R,listOf #[.ref T0,.ref T1,.ref T2,.ref T3,.ref T4,.ref T5] kR1)::(G,({ cls := .type "tuple", data := .seq #[.float 0 g1,.float xl g2,.float 0 g3] } : Obj))::(own ++ zs)) := OffZ.cons (ys := []) hR1 hz2
  have inL : ∀ q ∈ ((L+1+1+1+1+1+1+1+1,jk)::(L+1+1+1+1+1+1+1,oP)::(L+1+1+1+1+1+1,yk)::(L+1+1+1+1+1,jm)::(L+1+1+1+1,jt)::(L+1+1+1,jp)::(L+1+1,jr)::(L+1,jl)::(37,tabObj #[])::(30,tabObj #[])::(134,tabObj ps1)::[] : List (Addr × Obj)),q ∈ ((R,listOf #[.ref T0,.ref T1,.ref T2,.ref T3,.ref T4,.ref T5] kR1)::(L+1+1+1+1+1+1+1+1,jk)::(L+1+1+1+1+1+1+1,oP)::(L+1+1+1+1+1+1,yk)::(L+1+1+1+1+1,jm)::(L+1+1+1+1,jt)::(L+1+1+1,jp)::(L+1+1,jr)::(L+1,jl)::(37,tabObj #[])::(30,tabObj #[])::(134,tabObj ps1)::((G,({ cls := .type "tuple", data := .seq #[.float 0 g1,.float xl g2,.float 0 g3] } : Obj))::(own ++ zs)) : List (Addr × Obj)) := fun q hq => .tail _ (List.mem_append_left ((G,({ cls := .type "tuple", data := .seq #[.float 0 g1,.float xl g2,.float 0 g3] } : Obj))::(own ++ zs)) hq)
  have hzR13 : ∀ q ∈ (((R,listOf #[.ref T0,.ref T1,.ref T2,.ref T3,.ref T4,.ref T5] kR1)::(G,({ cls := .type "tuple", data := .seq #[.float 0 g1,.float xl g2,.float 0 g3] } : Obj))::(own ++ zs)) : List (Addr × Obj)),@Ne Nat q.1 Ld := fun q hq => by
    rcases List.mem_cons.mp hq with rfl | hq
    · exact AllNe.mem (p := (R,listOf #[.ref T0,.ref T1,.ref T2,.ref T3,.ref T4,.ref T5] kR1)) hLd (.head _)
    · exact AllNe.mem hLd (.tail _ (List.mem_append_right ((L+1+1+1+1+1+1+1+1,jk)::(L+1+1+1+1+1+1+1,oP)::(L+1+1+1+1+1+1,yk)::(L+1+1+1+1+1,jm)::(L+1+1+1+1,jt)::(L+1+1+1,jp)::(L+1+1,jr)::(L+1,jl)::(37,tabObj #[])::(30,tabObj #[])::(134,tabObj ps1)::[]) hq))
  have hR13 : AllNe Ld ((L+1+1+1+1+1+1+1+1,jk)::(L+1+1+1+1+1+1+1,oP)::(L+1+1+1+1+1+1,yk)::(L+1+1+1+1+1,jm)::(L+1+1+1+1,jt)::(L+1+1+1,jp)::(L+1+1,jr)::(L+1,jl)::(37,tabObj #[])::(30,tabObj #[])::(134,tabObj ps1)::[]) := AllNe.sub hLd inL
  have N13 : News h₀ L h2 ((Ld,listOf #[.ref T0,.ref T1,.ref T2,.ref T3,.ref T4,.ref T5] kL)::(L+1+1+1+1+1+1+1+1,jk)::(L+1+1+1+1+1+1+1,oP)::(L+1+1+1+1+1+1,yk)::(L+1+1+1+1+1,jm)::(L+1+1+1+1,jt)::(L+1+1+1,jp)::(L+1+1,jr)::(L+1,jl)::(37,tabObj #[])::(30,tabObj #[])::(134,tabObj ps1)::((R,listOf #[.ref T0,.ref T1,.ref T2,.ref T3,.ref T4,.ref T5] kR1)::(G,({ cls := .type "tuple", data := .seq #[.float 0 g1,.float xl g2,.float 0 g3] } : Obj))::(own ++ zs))) := cb_drop N2 (mv1 (a := (L+1+1+1+1+1+1+1+1,jk)::(L+1+1+1+1+1+1+1,oP)::(L+1+1+1+1+1+1,yk)::(L+1+1+1+1+1,jm)::(L+1+1+1+1,jt)::(L+1+1+1,jp)::(L+1+1,jr)::(L+1,jl)::(37,tabObj #[])::(30,tabObj #[])::(134,tabObj ps1)::[]))
  have mp2 := (kp2 _ (by decide) (by decide)).trans ((kp1 _ (by decide) (by decide) (by decide) (by decide) (by decide)).trans mp)
  have mq2 := (kp2 _ (by decide) (by decide)).trans ((kp1 _ (by decide) (by decide) (by decide) (by decide) (by decide)).trans mq)
  have HZ : ∀ k,k < 6 → ∃ T t u v,([.ref T0,.ref T1,.ref T2,.ref T3,.ref T4,.ref T5] : List Value)[k]? = some (.ref T) ∧ (T,triO (([hueB 0,hueB 1,hueB 2,hueB 3,hueB 4,hueB 5] : List UInt64).getD k 0) t u v) ∈ (((R,listOf #[.ref T0,.ref T1,.ref T2,.ref T3,.ref T4,.ref T5] kR1)::(G,({ cls := .type "tuple", data := .seq #[.float 0 g1,.float xl g2,.float 0 g3] } : Obj))::(own ++ zs)) : List (Addr × Obj)) := fun k hk => by
    match k,hk with
    | 0,_ => exact ⟨_,_,_,_,rfl,.tail _ (.tail _ hT0)⟩
    | 1,_ => exact ⟨_,_,_,_,rfl,.tail _ (.tail _ hT1)⟩
    | 2,_ => exact ⟨_,_,_,_,rfl,.tail _ (.tail _ hT2)⟩
    | 3,_ => exact ⟨_,_,_,_,rfl,.tail _ (.tail _ hT3)⟩
    | 4,_ => exact ⟨_,_,_,_,rfl,.tail _ (.tail _ hT4)⟩
    | 5,_ => exact ⟨_,_,_,_,rfl,.tail _ (.tail _ hT5)⟩
    | n+6,h => exact absurd h (by omega)
  refine law_n13 (xs := [.ref T0,.ref T1,.ref T2,.ref T3,.ref T4,.ref T5]) (hs := [hueB 0,hueB 1,hueB 2,hueB 3,hueB 4,hueB 5]) B X T hd hu ch1 ch2 ch3 hl hz13 hzR13 hR13 F2 N13 mgr mp2 mq2 mla (.tail _ (.head _)) (TZ1.mono fun q hq => .tail _ (.tail _ hq)) rfl (by decide) HZ ?_
  intro h3 tk3 Ta kL3 ps3 new F3 N3 hz3 hzR3 TZ3 hd3
  have eb : bisR 0 [hueB 0,hueB 1,hueB 2,hueB 3,hueB 4,hueB 5] ([hueB 0,hueB 1,hueB 2,hueB 3,hueB 4,hueB 5] : List UInt64).length 0 ([hueB 0,hueB 1,hueB 2,hueB 3,hueB 4,hueB 5] : List UInt64).length = 1 := bis_grey
  rw [eb] at N3
  have ek : kl_ins [.ref T0,.ref T1,.ref T2,.ref T3,.ref T4,.ref T5] ((1 : Nat) : Int) (.ref Ta) = [.ref T0,.ref Ta,.ref T1,.ref T2,.ref T3,.ref T4,.ref T5] := by with_unfolding_all rfl
  rw [ek] at N3
  have s14 : ∀ q ∈ (((Ta,triO 0 g1 (.int P w1) (.int Q' w2))::(new ++ ((G,({ cls := .type "tuple", data := .seq #[.float 0 g1,.float xl g2,.float 0 g3] } : Obj))::(own ++ zs)))) : List (Addr × Obj)),q ∈ ((Ta,triO 0 g1 (.int P w1) (.int Q' w2))::(new ++ ((R,listOf #[.ref T0,.ref T1,.ref T2,.ref T3,.ref T4,.ref T5] kR1)::(G,({ cls := .type "tuple", data := .seq #[.float 0 g1,.float xl g2,.float 0 g3] } : Obj))::(own ++ zs))) : List (Addr × Obj)) := mvS
  have hz14 : OffZ L ((Ta,triO 0 g1 (.int P w1) (.int Q' w2))::(new ++ ((G,({ cls := .type "tuple", data := .seq #[.float 0 g1,.float xl g2,.float 0 g3] } : Obj))::(own ++ zs)))) := fun q hq => hz3 q (s14 q hq)
  have hzR14 : ∀ q ∈ (((Ta,triO 0 g1 (.int P w1) (.int Q' w2))::(new ++ ((G,({ cls := .type "tuple", data := .seq #[.float 0 g1,.float xl g2,.float 0 g3] } : Obj))::(own ++ zs)))) : List (Addr × Obj)),@Ne Nat q.1 R := fun q hq => by
    have hq2 : ∀ r ∈ (Ta,triO 0 g1 (.int P w1) (.int Q' w2))::new,@Ne Nat r.1 R := fun r hr => Ne.symm (AllNe.mem (p := (R,listOf #[.ref T0,.ref T1,.ref T2,.ref T3,.ref T4,.ref T5] kR1)) (hd3 r hr) (.head _))
    rcases List.mem_cons.mp hq with rfl | hq
    · exact hq2 _ (.head _)
    · rcases List.mem_append.mp hq with hq | hq
      · exact hq2 _ (.tail _ hq)
      · exact hzR2 q hq
  have hR14 : AllNe R ((L+1+1+1+1+1+1+1+1,jk)::(L+1+1+1+1+1+1+1,oP)::(L+1+1+1+1+1+1,yk)::(L+1+1+1+1+1,jm)::(L+1+1+1+1,jt)::(L+1+1+1,jp)::(L+1+1,jr)::(L+1,jl)::(37,tabObj #[])::(30,tabObj #[])::(134,tabObj ps3)::[]) := hR
  have hLd13 : AllNe Ld ((L+1+1+1+1+1+1+1+1,jk)::(L+1+1+1+1+1+1+1,oP)::(L+1+1+1+1+1+1,yk)::(L+1+1+1+1+1,jm)::(L+1+1+1+1,jt)::(L+1+1+1,jp)::(L+1+1,jr)::(L+1,jl)::(37,tabObj #[])::(30,tabObj #[])::(134,tabObj ps3)::[]) := hR13
  have hLd14 : AllNe Ld ((R,listOf #[.ref T0,.ref T1,.ref T2,.ref T3,.ref T4,.ref T5] kR1)::(L+1+1+1+1+1+1+1+1,jk)::(L+1+1+1+1+1+1+1,oP)::(L+1+1+1+1+1+1,yk)::(L+1+1+1+1+1,jm)::(L+1+1+1+1,jt)::(L+1+1+1,jp)::(L+1+1,jr)::(L+1,jl)::(37,tabObj #[])::(30,tabObj #[])::(134,tabObj ps3)::((Ta,triO 0 g1 (.int P w1) (.int Q' w2))::(new ++ ((G,({ cls := .type "tuple", data := .seq #[.float 0 g1,.float xl g2,.float 0 g3] } : Obj))::(own ++ zs))))) := allNe_of fun q hq => by
    rcases List.mem_cons.mp hq with rfl | hq
    · exact AllNe.mem (p := (R,listOf #[.ref T0,.ref T1,.ref T2,.ref T3,.ref T4,.ref T5] kR1)) hLd (.head _)
    · rcases List.mem_append.mp (show q ∈ ((L+1+1+1+1+1+1+1+1,jk)::(L+1+1+1+1+1+1+1,oP)::(L+1+1+1+1+1+1,yk)::(L+1+1+1+1+1,jm)::(L+1+1+1+1,jt)::(L+1+1+1,jp)::(L+1+1,jr)::(L+1,jl)::(37,tabObj #[])::(30,tabObj #[])::(134,tabObj ps3)::[] : List (Addr × Obj)) ++ ((Ta,triO 0 g1 (.int P w1) (.int Q' w2))::(new ++ ((G,({ cls := .type "tuple", data := .seq #[.float 0 g1,.float xl g2,.float 0 g3] } : Obj))::(own ++ zs)))) from hq) with hq | hq
      · exact AllNe.mem hLd13 hq
      · exact hzR3 q (s14 q hq)
  have TZ14 : TabZ ((Ta,triO 0 g1 (.int P w1) (.int Q' w2))::(new ++ ((G,({ cls := .type "tuple", data := .seq #[.float 0 g1,.float xl g2,.float 0 g3] } : Obj))::(own ++ zs)))) ps3 := TabZ.drop (fun cvs e => by cases e) TZ3
  have N14 : News h₀ L h3 ((Ld,listOf #[.ref T0,.ref Ta,.ref T1,.ref T2,.ref T3,.ref T4,.ref T5] kL3)::(R,listOf #[.ref T0,.ref T1,.ref T2,.ref T3,.ref T4,.ref T5] kR1)::(L+1+1+1+1+1+1+1+1,jk)::(L+1+1+1+1+1+1+1,oP)::(L+1+1+1+1+1+1,yk)::(L+1+1+1+1+1,jm)::(L+1+1+1+1,jt)::(L+1+1+1,jp)::(L+1+1,jr)::(L+1,jl)::(37,tabObj #[])::(30,tabObj #[])::(134,tabObj ps3)::((Ta,triO 0 g1 (.int P w1) (.int Q' w2))::(new ++ ((G,({ cls := .type "tuple", data := .seq #[.float 0 g1,.float xl g2,.float 0 g3] } : Obj))::(own ++ zs))))) := cb_drop N3 (mvR (a := (L+1+1+1+1+1+1+1+1,jk)::(L+1+1+1+1+1+1+1,oP)::(L+1+1+1+1+1+1,yk)::(L+1+1+1+1+1,jm)::(L+1+1+1+1,jt)::(L+1+1+1,jp)::(L+1+1,jr)::(L+1,jl)::(37,tabObj #[])::(30,tabObj #[])::(134,tabObj ps3)::[]))
  have sG : ∀ q ∈ (own ++ zs),q ∈ (((Ta,triO 0 g1 (.int P w1) (.int Q' w2))::(new ++ ((G,({ cls := .type "tuple", data := .seq #[.float 0 g1,.float xl g2,.float 0 g3] } : Obj))::(own ++ zs)))) : List (Addr × Obj)) := fun q hq => .tail _ (List.mem_append_right _ (.tail _ hq))
  have sz : ∀ q ∈ zs,q ∈ (((Ta,triO 0 g1 (.int P w1) (.int Q' w2))::(new ++ ((G,({ cls := .type "tuple", data := .seq #[.float 0 g1,.float xl g2,.float 0 g3] } : Obj))::(own ++ zs)))) : List (Addr × Obj)) := fun q hq => sG q (List.mem_append_right _ hq)
  refine law_n14 B X T hd hu ch1 ch2 ch3 hl hz14 hzR14 hR14 F3 N14 hLd14 cw cr hI (by rw [hxl]; exact hfe) hg2 (.tail _ (List.mem_append_right _ (.head _))) (.head _) mgr mp2 mq2 mla ?_
  intro h4 tk4 D1 oD hcD F4 N4 hD1
  exact law_y B X T hd hu ch1 ch2 ch3 hE hl hz14 hzR14 hR14 TZ14 F4 N4 hcD hD1 hLd14 cr ct cs cn hsd (sz _ hUm) hUi (hTB.mono sz) hf hse h1s hP1 hP4 hQ1 hQ4 hs hs2 ((kp2 _ (by decide) (by decide)).trans ((kp1 _ (by decide) (by decide) (by decide) (by decide) (by decide)).trans mu)) mp2 mq2 ((kp2 _ (by decide) (by decide)).trans ((kp1 _ (by decide) (by decide) (by decide) (by decide) (by decide)).trans mc)) (sG _ hT0) (sG _ hT1) (sG _ hT2) (sG _ hT3) (sG _ hT4) (sG _ hT5) fin
theorem words_a70 : True := by
  k_with "omega" => lia
  exact trivial
theorem law_w {w : World} {p : Program} {loose : List Str} {mean : ExcName → Option Value} {mg mb : Str → Option Value}
    {dp un : Nat} {gd : Option (List Code)} {L fa : Addr} {A₀ : Around} {base h₀ : Heap} {s : Shared} {Q : Flow → Shared → Prop} {E : Value → Shared → Prop}
    (B : Below A₀ base [] h₀) (X : (Mine.hd.heap_1 w.params).In h₀) (T : Top p loose mean mg mb h₀) (hd : dp+100 < recursionLimit) (hu : un+600 < cLine)
    (ch1 : CodeHd h₀ 41 37) (ch2 : CodeHd h₀ 34 30) (ch3 : CodeHd h₀ 136 134)
   {m : Str → Option Value} {jk jq yk jm jt jp jr jl : Obj} {S : Addr} {vs : List Value} {ns : List Int}
   (hE : PassesOwn (model pw_ty0047_01 w) (lawA dp un gd L fa) (lawEnv L fa) E)
   (hl : @LT.lt Nat _ 134 L) (F : Fr h₀ L s.heap m) (N : News h₀ L s.heap ((L+1+1+1+1+1+1+1+1,jk)::(L+1+1+1+1+1+1+1,jq)::(L+1+1+1+1+1+1,yk)::(L+1+1+1+1+1,jm)::(L+1+1+1+1,jt)::(L+1+1+1,jp)::(L+1+1,jr)::(L+1,jl)::(37,tabObj #[])::(30,tabObj #[])::(134,tabObj #[])::[])) (hS : h₀.IsList S vs.toArray) (hI : IntsAre vs ns) (hn : ns.length ≤ 63)
   (cS : jl.data = .cell (some (.ref S))) (cn : jk.data = .cell none) (cp : jq.data = .cell none) (cr : yk.data = .cell none) (ct : jm.data = .cell none) (cu : jt.data = .cell none) (cw : jp.data = .cell none) (cs : jr.data = .cell none)
   (fin : ∀ h tk' m' A1 A2 A3,Fr h₀ L h m' → News h₀ L h [(37,tabObj A1),(30,tabObj A2),(134,tabObj A3)] → Q (.ret (.bool true)) { s with heap := h,toks := tk' })
   : wpAny (model pw_ty0047_01 w) (lawA dp un gd L fa) (execs [lst0,lst1,lst2,lst3,lst4,lst5,lst6,lst7,lst8,lst9,lst10,lst11,lst12,lst13,lst14,lst15,lst16,lst17,lst18,lst19,lst20,lst21,lst22,lst23] (lawEnv L fa)) Q E s := by
  refine law_n0 B X T hd hu ch1 ch2 ch3 _ hl F N hS hI hn cS ?_
  intro h0 tk0 m0 H kH a0 a1 a2 a3 a4 a5 t0 t1 t2 t3 t4 t5 F0 N0 hH mh
  have N0' : News h₀ L h0 ((L+1+1+1+1+1+1+1+1,jk)::(L+1+1+1+1+1+1+1,jq)::(L+1+1+1+1+1+1,yk)::(L+1+1+1+1+1,jm)::(L+1+1+1+1,jt)::(L+1+1+1,jp)::(L+1+1,jr)::(L+1,jl)::(37,tabObj #[])::(30,tabObj #[])::(134,tabObj #[])::[(H,listOf #[.int a0 t0,.int a1 t1,.int a2 t2,.int a3 t3,.int a4 t4,.int a5 t5] kH)]) := cb_drop N0 (by lcg_sub)
  refine law_n1 B X T hd hu ch1 ch2 ch3 _ hH hl F0 N0' mh cs ?_
  intro h1 tk1 m1 oS x1 x2 x3 x4 x5 coS F1 N1 mh1 mp1 mq1 mf1 ms1
  have hH1 : AllNe H ((L+1+1+1+1+1+1+1+1,jk)::(L+1+1+1+1+1+1+1,jq)::(L+1+1+1+1+1+1,yk)::(L+1+1+1+1+1,jm)::(L+1+1+1+1,jt)::(L+1+1+1,jp)::(L+1+1,oS)::(L+1,jl)::(37,tabObj #[])::(30,tabObj #[])::(134,tabObj #[])::[]) := hH
  refine law_n3 B X T hd hu ch1 ch2 ch3 _ hH1 hl F1 N1 mh1 mp1 mq1 mf1 ms1 ?_
  intro h2 tk2 m2 x6 x7 F2 N2 mh2 mp2 mq2 mf2 ms2
  obtain ⟨hP,hQ,hW,hU,hsd,he⟩ := heads a0 a1 a2 a3 a4 a5
  obtain ⟨hf,hse,h1s⟩ := firsts a2 a3 _ _ rfl rfl
  refine law_n5 B X T hd hu ch1 ch2 ch3 _ hH1 hl F2 N2 mh2 mp2 mq2 mf2 ms2 cw cu he.1 (by omega) ?_
  intro h3 tk3 m3 oW oN x8 x9 x10 x11 coW coN F3 N3 mp3 mq3 mf3 ms3 msc3 mbo3
  have hsc := sc_abs (e := (a5.fmod 4200).toNat) (by omega)
  have hbn := cases_fs bndOk bnd_1 bnd_2 bnd_3 bnd_4 hf hse h1s hP hQ
  revert msc3 hsc
  generalize (2 : Int) ^ (a5.fmod 4200).toNat+1 = sc
  intro msc3 hsc
  revert mf3 ms3 hf hse h1s hbn
  generalize (1 + a2.fmod 20 - 2 * (1 + a2.fmod 20) * (a2.fdiv 20).fmod 2) = fi
  generalize (if 1 + a2.fmod 20 = 1 then -1 else 2 * a3.fmod 2 - 1) = se
  intro hf hse h1s mf3 ms3 hbn
  revert mp3 mq3 mbo3 hP hQ hW hU
  generalize 1 + a0.fmod 4 = P
  generalize 1 + a1.fmod 4 = Q'
  generalize 1 + (a4.fdiv 31).fmod 33 = UN at *
  generalize a4.fmod 31 = WH at *
  intro hP hQ hW hU mp3 mq3 mbo3
  clear F N F0 N0 N0' F1 N1 F2 N2
  have ha : fi.natAbs ≤ 20 := by omega
  have hb : se.natAbs ≤ 1 := by omega
  refine law_n7 B X T hd hu ch1 ch2 ch3 hl F3 N3 mp3 mq3 mf3 ms3 msc3 mbo3 ha hb ?_
  intro h4 tk4 m4 U kU w0 w1 w2 w3 w4 w5 w6 w7 w8 w9 F4 N4 hU4 mu4 mp4 mq4 mf4 ms4 msc4 mbo4
  simp only [bndOk,Bool.and_eq_true,decide_eq_true_eq] at hbn
  obtain ⟨⟨⟨⟨⟨⟨⟨⟨⟨⟨⟨⟨s0,s1⟩,s2⟩,s3⟩,s4⟩,s5⟩,s6⟩,s7⟩,s8⟩,s9⟩,s10⟩,s11⟩,s12⟩ := hbn
  have l0 : lucasU 0 fi se = 0 := rfl
  have l1 : lucasU 1 fi se = 1 := rfl
  have b2 : bnd60 (lucasU 2 fi se) := ⟨s0,s1⟩
  have b3 : bnd60 (lucasU 3 fi se) := ⟨s2,s3⟩
  have b4 : bnd60 (lucasU 4 fi se) := ⟨s4,s5⟩
  have b5 : bnd60 (lucasU 5 fi se) := ⟨s6,s7⟩
  have b6 : bnd60 (lucasU 6 fi se) := ⟨s8,s9⟩
  have bm : ∀ x,bnd60 x → bnd60 (se * x) := fun x hx => by
    unfold bnd60 at *
    rcases hse with rfl | rfl
    · rw [Int.one_mul]; exact hx
    · rw [Int.neg_mul,Int.one_mul]; omega
  have bs : bnd60 se := by unfold bnd60; omega
  refine law_n8 (tf := x6) B X T hd hu ch1 ch2 ch3 hl F4 N4 hU4 mu4 mp4 mq4 ms4 msc4 mbo4 bs b2 b3 b4 b5 b6 (bm _ (by rw [l0]; exact ⟨by decide,by decide⟩)) (bm _ (by rw [l1]; exact ⟨by decide,by decide⟩)) (bm _ b2) (bm _ b3) (bm _ b4) ct cr ?_
  intro h5 tk5 m5 TT R kR zs oT oR coT coR F5 N5 hz5 hzR5 hR5 hUm hTB mu5 mp5 mq5 msc5 mbo5
  have el : [lucasU 0 fi se,lucasU 1 fi se,lucasU 2 fi se,lucasU 3 fi se,lucasU 4 fi se,lucasU 5 fi se,lucasU 6 fi se,lucasU 7 fi se,lucasU 8 fi se,lucasU 9 fi se] = lucasL fi se := rfl
  have hUi : IntsAre [.int (lucasU 0 fi se) w0,.int (lucasU 1 fi se) w1,.int (lucasU 2 fi se) w2,.int (lucasU 3 fi se) w3,.int (lucasU 4 fi se) w4,.int (lucasU 5 fi se) w5,.int (lucasU 6 fi se) w6,.int (lucasU 7 fi se) w7,.int (lucasU 8 fi se) w8,.int (lucasU 9 fi se) w9] (lucasL fi se) := by
    rw [← el]
    repeat constructor
  rw [el] at hTB
  have hR6 : AllNe R ((L+1+1+1+1+1+1+1+1,jk)::(L+1+1+1+1+1+1+1,jq)::(L+1+1+1+1+1+1,oR)::(L+1+1+1+1+1,oT)::(L+1+1+1+1,oN)::(L+1+1+1,oW)::(L+1+1,oS)::(L+1,jl)::(37,tabObj #[])::(30,tabObj #[])::(134,tabObj #[])::[]) := hR5
  exact law_x B X T hd hu ch1 ch2 ch3 hE hl hz5 hzR5 hR6 F5 N5 coR coT coS cn cp coW coN hsd hUm hUi hTB hf hse h1s hP.1 hP.2 hQ.1 hQ.2 hsc.1 hsc.2 hW.1 hW.2 hU.1 hU.2 mu5 mp5 mq5 msc5 mbo5 fin
theorem words_a71 : True := by
  k_with_none
  k_with "k_ne" => (refine neN ?_; (try dsimp only); first | (with_reducible assumption) | (refine Ne.symm ?_; with_reducible assumption))
  exact trivial
theorem goX : PySem.Challenge.rw_ty0047_01.Holds := Mine.hd (by
  k_go0
  rename Below _ _ _ _ => K1
  rename Frag.In _ _ => X1
  rename Top _ _ _ _ _ _ => T1
  rename Fr _ _ _ _ => F1
  rename News _ _ _ _ => N1
  rename Heap.IsList _ _ _ => hS1
  rename IntsAre _ _ => hI1
  rename _ ∧ _ ∧ _ => l0
  rename ¬ _ < _ => hc
  refine law_w K1 X1 T1 ?hd ?hu (by assumption) (by assumption) (by assumption) ?hE l0.2.2 F1 N1 hS1 hI1 ?hn ?g1 ?g2 ?g3 ?g4 ?g5 ?g6 ?g7 ?g8 ?fin
  case hd => ktr_room
  case hu => ktr_units
  case hE => passes_own
  case hn => omega
  all_goals try assumption
  case fin =>
    intro h tk m A1 A2 A3 F9 N9
    clear F1 N1
    k_steps)
end
end Mine
theorem PySem.Challenge.cw_ty0047_01_holds : PySem.Challenge.rw_ty0047_01.Holds :=
  Mine.goX
