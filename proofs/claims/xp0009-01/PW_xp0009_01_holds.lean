import PyProof.Rows.All
import Wide.All
import OpenK.AllK
import Wide.FinOn
import PySem.Challenge.RW_xp0009_01
set_option Elab.async false
set_option compiler.extract_closed false
section
open PySem PySem.W PyProof.Rows
set_option maxRecDepth 100000
set_option maxHeartbeats 8000000
namespace Mine
open_top hd for PySem.Challenge.rw_xp0009_01
theorem top_off : True := by
  w_top off
  trivial
end Mine
end
-- part B1
section
open PySem PySem.W PySem.Spec PySem.Calls PyProof.Rows
set_option maxRecDepth 100000
namespace Mine

noncomputable abbrev PG : Program := PySem.Challenge.rw_xp0009_01.row.prog
noncomputable abbrev LS : List Str := looseW hd.view_39 [Str.ofString "HEADER_ESCAPE_RE"]

def Grows (h h' : Heap) : Prop := ∀ b o, h.get? b = some o → h'.get? b = some o
theorem Grows.refl (h : Heap) : Grows h h := fun _ _ e => e
theorem Grows.trans {a b c : Heap} (x : Grows a b) (y : Grows b c) : Grows a c := fun _ _ e => y _ _ (x _ _ e)

theorem Fr.grows {h₀ h h' : Heap} {L : Addr} {m : Str → Option Value} (F : Fr h₀ L h m) (g : Grows h h') : Fr h₀ L h' m :=
  ⟨F.ns.keeps g, fun b o e => g b o (F.keep b o e), F.above⟩
theorem News.grows {h₀ h h' : Heap} {L : Addr} {news : List (Addr × Obj)} (N : News h₀ L h news) (g : Grows h h') : News h₀ L h' news :=
  fun p hp => ⟨g _ _ (N p hp).1, (N p hp).2⟩

theorem enterX {prog : Program} {w : World} {A : Around} {s : Shared} {K : Frag} {p : Program} {loose : List Str} {mean : ExcName → Option Value} {mg mb : Str → Option Value}
    {Q : Value → Shared → Prop} {name qual : Str} {params : Arguments} {body : List Stmt} {scope : Scope} {dV kV doc pm cdv ct oc : Value} {an od : Option Addr} {osl : Array (Option Value)} {f : Addr} {vs : List Value} {binds : List (Str × Value)}
    (X : K.In s.heap) (T : Top p loose mean mg mb s.heap)
    (ho : K.lookup f = some ⟨oc, od, .func (fnX name qual params body scope [] dV kV doc pm an cdv ct), osl⟩) (hcd : codeIn K cdv qual = true) (hroom : A.depth < recursionLimit)
    (hbind : bindArgs (fnX name qual params body scope [] dV kV doc pm an cdv ct) ⟨vs, []⟩ = pure binds) (hloc : ∀ y ∈ binds, scope.names.lookup y.1 = some .local)
    (hcell : ∀ x ∈ scope.names, x.2 ≠ .cell)
    (hco : scope.isCoroutine = false) (hgen : scope.isGenerator = false) (hk : scope.kind = .function)
    (h : ∀ L h₁, Fr s.heap L h₁ (fun y => binds.reverse.lookup y) → News s.heap L h₁ [] →
      wpAny (model prog w) (A.deeper (envX qual scope L f cdv [])) (execs body (envX qual scope L f cdv []))
        (fun fl s' => Q (match fl with | .ret v => v | _ => .none) s') (fun _ _ => False)
        { s with heap := h₁, toks := s.toks + binds.length }) :
    wpAny (model prog w) A (call (.ref f) vs) Q (fun _ _ => False) s := by
  refine wpAny_call (codeAny_call_def hroom (X _ _ ho) rfl T.nolimit (codeRec_of X hcd) rfl (.of_eq hbind) hcell hloc (fun h₁ hns hk₁ => ?_) hco hgen hk)
  refine wpAny_mono (h s.heap.objs.size h₁ ⟨hns, hk₁, Nat.le_refl _⟩ News.nil) (fun fl s' hq => ?_) (fun _ _ hq => hq.elim)
  cases fl <;> exact hq

theorem enterC {prog : Program} {w : World} {A : Around} {s : Shared} {K : Frag} {p : Program} {loose : List Str} {mean : ExcName → Option Value} {mg mb : Str → Option Value}
    {Q : Value → Shared → Prop} {name qual : Str} {params : Arguments} {body : List Stmt} {scope : Scope} {dV kV doc pm cdv ct oc : Value} {an od : Option Addr} {osl : Array (Option Value)} {f : Addr} {vs : List Value} {binds : List (Str × Value)}
    (X : K.In s.heap) (T : Top p loose mean mg mb s.heap)
    (ho : K.lookup f = some ⟨oc, od, .func (fnX name qual params body scope [] dV kV doc pm an cdv ct), osl⟩) (hcd : codeIn K cdv qual = true) (hroom : A.depth < recursionLimit)
    (hbind : bindArgs (fnX name qual params body scope [] dV kV doc pm an cdv ct) ⟨vs, []⟩ = pure binds)
    (hkind : ∀ n, ∀ x ∈ binds, scope.names.lookup x.1 = some .local ∨ (scope.names.lookup x.1 = some .cell ∧ ((cellsFrom n scope.names []).lookup x.1).isSome = true))
    (hnd : ((cellsFrom 0 scope.names []).map (·.1)).Nodup)
    (hco : scope.isCoroutine = false) (hgen : scope.isGenerator = false) (hk : scope.kind = .function)
    (h : ∀ L h₁ tk cells, Fr s.heap L h₁ (bindL (envOfC qual scope L f cdv).kindOf binds fun _ => none) → News s.heap L h₁ cells →
      CellsAre (bindC (envOfC qual scope L f cdv).kindOf binds fun _ => none) (cellsFrom (L + 1) scope.names []) cells →
      wpAny (model prog w) (A.deeper (envX qual scope L f cdv (cellsFrom (L + 1) scope.names []))) (execs body (envX qual scope L f cdv (cellsFrom (L + 1) scope.names [])))
        (fun fl s' => Q (match fl with | .ret v => v | _ => .none) s') (fun _ _ => False)
        { s with heap := h₁, toks := tk }) :
    wpAny (model prog w) A (call (.ref f) vs) Q (fun _ _ => False) s := by
  refine wpAny_call (codeAny_call_function hroom (X _ _ ho) rfl hco hgen rfl (codeRec_of X hcd) (BindsTo.of_eq hbind _ _ _ _ ?_))
  refine wpAny_newFunctionEnv_cells hk (hkind _) fun env' he s' x => ?_
  subst he
  refine ⟨T.nolimit.keeps x.toInCall.keep, codeAny_func ?_⟩
  obtain ⟨h₁, tk, rfl, _⟩ := x.done
  obtain ⟨cells, NC, Y⟩ := Cl.news (h₀ := s.heap) (Nat.le_refl _) fun n c hm => ⟨x.cell n c (lookup_of_mem_nodup (cellsFrom_names scope.names 0 (s.heap.objs.size + 1) [] [] rfl ▸ hnd) hm), x.above n c hm⟩
  refine wpAny_mono (h s.heap.objs.size h₁ tk cells ⟨x.toInCall.ns, x.toInCall.keep, Nat.le_refl _⟩ NC Y) (fun fl s' hq => ?_) (fun _ _ hq => hq.elim)
  cases fl <;> exact hq
end Mine
end
-- part L1
section
open PySem PySem.W PySem.Spec PySem.Calls PyProof.Rows
set_option maxRecDepth 100000
namespace Mine
/-- a text by the list of its signs' numbers -/
def S (l : List Nat) : Str := ⟨l.toArray⟩
theorem S_cps (l : List Nat) : (S l).cps = l.toArray := rfl
theorem S_list (l : List Nat) : (S l).cps.toList = l := by simp [S]
theorem S_len (l : List Nat) : (S l).length = l.length := by simp [S, Str.length]
theorem S_inj {a b : List Nat} : S a = S b ↔ a = b := by
  constructor
  · intro h
    have := congrArg (fun x : Str => x.cps.toList) h
    simpa [S] using this
  · rintro rfl; rfl
theorem S_of (x : Str) : x = S x.cps.toList := by cases x; simp [S]
theorem S_app (a b : List Nat) : S a ++ S b = S (a ++ b) := by
  show Str.append _ _ = _
  simp [Str.append, S]
theorem S_beq (a b : List Nat) : (S a == S b) = decide (a = b) := by
  by_cases h : a = b
  · subst h; simp
  · rw [decide_eq_false h]
    exact beq_eq_false_iff_ne.mpr fun e => h (S_inj.mp e)
theorem slice_eq_sliceText (x : Str) (l u : Option Int) : Txt.slice x l u = StrLaws.sliceText x l u := rfl
theorem sl_to (l : List Nat) {j : Int} (h : 0 ≤ j) : Txt.slice (S l) none (some j) = S (l.take j.toNat) := by
  by_cases hj : j ≤ (S l).cps.toList.length
  · rw [slice_eq_sliceText, StrLaws.sliceText_to ⟨h, hj⟩]
    simp [S]
  · rw [S_list] at hj
    have e : Txt.slice (S l) none (some j) = Txt.slice (S l) none (some (l.length : Int)) := by
      unfold Txt.slice
      rw [sliceIdx_hi_beyond (S l).length (by rw [S_len]; omega), S_len]
    rw [e, slice_eq_sliceText, StrLaws.sliceText_to ⟨by omega, by rw [S_list]; omega⟩, S_list]
    rw [List.take_of_length_le (by simp), List.take_of_length_le (by omega)]
    simp [S]
theorem sl_from (l : List Nat) {i : Int} (h : 0 ≤ i) : Txt.slice (S l) (some i) none = S (l.drop i.toNat) := by
  by_cases hj : i ≤ (S l).cps.toList.length
  · rw [slice_eq_sliceText, StrLaws.sliceText_from ⟨h, hj⟩]
    rw [S_list] at hj ⊢
    rw [List.take_of_length_le (by rw [List.length_drop]; omega)]
    rfl
  · rw [S_list] at hj
    have e : Txt.slice (S l) (some i) none = Txt.slice (S l) (some (l.length : Int)) none := by
      unfold Txt.slice
      rw [sliceIdx_lo_beyond (S l).length (by rw [S_len]; omega), S_len]
    rw [e, slice_eq_sliceText, StrLaws.sliceText_from ⟨by omega, by rw [S_list]; omega⟩]
    rw [S_list, List.drop_of_length_le (by omega), List.drop_of_length_le (by omega)]
    simp [S]
theorem sl_to_neg (l : List Nat) {j : Int} (h : j < 0) : Txt.slice (S l) none (some j) = S (l.take (l.length - j.natAbs)) := by
  have e : Txt.slice (S l) none (some j) = Txt.slice (S l) none (some (max 0 ((l.length : Int) + j))) := by
    unfold Txt.slice
    rw [sliceIdx_hi_neg (S l).length h, S_len]
  rw [e, sl_to l (by omega)]
  congr 2
  omega
theorem sl_all (l : List Nat) : Txt.slice (S l) none none = S l := by
  have e : Txt.slice (S l) none none = Txt.slice (S l) none (some (l.length : Int)) := by
    unfold Txt.slice
    rw [StrLaws.sliceIdx_none_hi, S_len]
  rw [e, sl_to l (by omega)]
  simp
end Mine
end
-- part B2
section
open PySem PySem.W PySem.Spec PySem.Calls PyProof.Rows
set_option maxRecDepth 100000
namespace Mine
structure Stop (P : Prop) : Prop where out : P
theorem stop_in {P : Prop} (h : Stop P) : P := h.out
theorem after {α : Type} {M : Model} {A : Around} {t : Sem α} (Q : α → Shared → Prop) {Q' : α → Shared → Prop} {E : Value → Shared → Prop} {s : Shared}
    (h : wpAny M A t Q (fun _ _ => False) s) (hQ : ∀ a s', Q a s' → Q' a s') : wpAny M A t Q' E s := wpAny_mono h hQ (fun _ _ h => h.elim)
abbrev Ar (dp : Nat) (fr : Option (List Env)) (gd : Option (List Code)) (un : Nat) : Around := { handled := none, depth := dp, frames := fr, guards := gd, units := un }
theorem seqS {M : Model} {A : Around} {st : Stmt} {rest : List Stmt} {env : Env} {Q : Flow → Shared → Prop} {E : Value → Shared → Prop} {s : Shared} (P : Shared → Prop)
    (h1 : wpAny M A (exec st env) (fun f s' => Stop (f = Flow.next ∧ P s')) (fun _ _ => False) s) (h2 : ∀ s', P s' → wpAny M A (execs rest env) Q E s') : wpAny M A (execs (st :: rest) env) Q E s := by
  refine wpAny_execs_cons (after _ h1 ?_)
  rintro f s' ⟨rfl, hp⟩
  exact h2 s' hp
theorem seqR {M : Model} {A : Around} {st : Stmt} {rest : List Stmt} {env : Env} {Q : Flow → Shared → Prop} {E : Value → Shared → Prop} {s : Shared} (P : Shared → Prop)
    (h1 : wpAny M A (exec st env) (fun f s' => Stop ((f = Flow.next ∧ P s') ∨ ∃ v, f = Flow.ret v ∧ Q (.ret v) s')) (fun _ _ => False) s) (h2 : ∀ s', P s' → wpAny M A (execs rest env) Q E s') : wpAny M A (execs (st :: rest) env) Q E s := by
  refine wpAny_execs_cons (after _ h1 ?_)
  rintro f s' ⟨⟨rfl, hp⟩ | ⟨v, rfl, hq⟩⟩
  · exact h2 s' hp
  · exact hq
theorem ite_hit {x : Str} {v : Value} {o : Option Value} : (if x = x then some v else o) = some v := if_pos rfl
theorem ite_ne {x z : Str} {v : Value} {o r : Option Value} (h : z ≠ x) (ho : o = r) : (if z = x then some v else o) = r := by rw [if_neg h]; exact ho
theorem upd_hit {m : Str → Option Value} {x : Str} {v : Value} : (fun y => if y = x then some v else m y) x = some v := by simp
theorem upd_ne {m : Str → Option Value} {x z : Str} {v v' : Value} (h : z ≠ x) (hm : m z = some v') : (fun y => if y = x then some v else m y) z = some v' := by simp [h, hm]
def lcp : List Nat → List Nat → Nat
  | x :: a, y :: b => if x = y then lcp a b + 1 else 0
  | _, _ => 0
theorem lcp_le_left : ∀ a b : List Nat, lcp a b ≤ a.length
  | [], _ => by simp [lcp]
  | _ :: _, [] => by simp [lcp]
  | x :: a, y :: b => by
    unfold lcp; split
    · have := lcp_le_left a b; simp; omega
    · simp
theorem lcp_le_right : ∀ a b : List Nat, lcp a b ≤ b.length
  | [], _ => by simp [lcp]
  | _ :: _, [] => by simp [lcp]
  | x :: a, y :: b => by
    unfold lcp; split
    · have := lcp_le_right a b; simp; omega
    · simp
theorem lcp_lt : ∀ {a b : List Nat} {k : Nat}, k ≤ lcp a b → k < a.length → k < b.length → a[k]? = b[k]? → k < lcp a b
  | x :: a, y :: b, 0, _, _, _, h => by
    simp at h; subst h; unfold lcp; simp
  | x :: a, y :: b, k + 1, h, ha, hb, he => by
    unfold lcp at h ⊢
    split at h
    · rename_i e
      simp only [e, if_true]
      have := @lcp_lt a b k (by omega) (by simpa using ha) (by simpa using hb) (by simpa using he)
      omega
    · omega
  | [], _, _, _, ha, _, _ => by simp at ha
  | _ :: _, [], _, _, _, hb, _ => by simp at hb
theorem lcp_at : ∀ {a b : List Nat} {k : Nat}, k < lcp a b → a[k]? = b[k]?
  | x :: a, y :: b, 0, h => by
    unfold lcp at h; split at h
    · rename_i e; simp [e]
    · omega
  | x :: a, y :: b, k + 1, h => by
    unfold lcp at h; split at h
    · have := @lcp_at a b k (by omega); simpa using this
    · omega
  | [], _, _, h => by simp [lcp] at h
  | _ :: _, [], _, h => by simp [lcp] at h
end Mine
end
-- part B3
section
open PySem PySem.W PySem.Spec PySem.Calls PyProof.Rows
set_option maxRecDepth 100000
namespace Mine

/-- how a turn of a loop may end -/
structure TurnEnd (h₀ : Heap) (L I : Addr) (J : (Str → Option Value) → List (Addr × Obj) → Prop) (own : List (Addr × Obj)) (s₁ : Shared) (Q : Flow → Shared → Prop) (f : Flow) (s₂ : Shared) : Prop where
  out : match f with
    | .ret v => Q (.ret v) s₂
    | .brk => Q .next s₂
    | _ => ∃ h' tk m' nx, s₂ = { s₁ with heap := h', toks := tk } ∧ Fr h₀ L h' m' ∧ News h₀ L h' (nx ++ own) ∧ (∀ p ∈ nx, p.1 ≠ I) ∧ J m' nx

section
variable {h₀ : Heap} {L I : Addr} {J : (Str → Option Value) → List (Addr × Obj) → Prop} {own : List (Addr × Obj)} {s₁ : Shared} {Q : Flow → Shared → Prop}
theorem TurnEnd.next {h' : Heap} {tk : Nat} {m' : Str → Option Value} {nx : List (Addr × Obj)} (F : Fr h₀ L h' m') (N : News h₀ L h' (nx ++ own)) (hn : ∀ p ∈ nx, p.1 ≠ I) (hj : J m' nx) :
    TurnEnd h₀ L I J own s₁ Q .next { s₁ with heap := h', toks := tk } := ⟨⟨h', tk, m', nx, rfl, F, N, hn, hj⟩⟩
theorem TurnEnd.cont {h' : Heap} {tk : Nat} {m' : Str → Option Value} {nx : List (Addr × Obj)} (F : Fr h₀ L h' m') (N : News h₀ L h' (nx ++ own)) (hn : ∀ p ∈ nx, p.1 ≠ I) (hj : J m' nx) :
    TurnEnd h₀ L I J own s₁ Q .cont { s₁ with heap := h', toks := tk } := ⟨⟨h', tk, m', nx, rfl, F, N, hn, hj⟩⟩
theorem TurnEnd.ret {v : Value} {s₂ : Shared} (h : Q (.ret v) s₂) : TurnEnd h₀ L I J own s₁ Q (.ret v) s₂ := ⟨h⟩
end

section
variable {prog : Program} {w : World} {A : Around} {E : Value → Shared → Prop} {s : Shared} {env : Env} {h₀ : Heap} {x : Str} {body : List Stmt} {Q : Flow → Shared → Prop}

theorem loop_gen {I : Addr} {fp : List Addr} {n : Nat} {P : Nat → Value → Prop} {St : Nat → Heap → Prop} {m₀ : Str → Option Value} {news : List (Addr × Obj)} (J : Nat → (Str → Option Value) → List (Addr × Obj) → Prop)
    (W : Walks prog w A I fp [I] n P St) (hLf : env.locals ∉ fp) (hfp : ∀ b ∈ fp, b ≠ I → h₀.get? b ≠ none) (hI : h₀.get? I = none) (hnw : ∀ p ∈ news, p.1 ≠ I) (hst : St 0 s.heap)
    (hlive : ∃ o, s.heap.get? I = some o)
    (F : Fr h₀ env.locals s.heap m₀) (N : News h₀ env.locals s.heap news) (hj : J 0 m₀ news) (hIp : I ∈ fp) (hStI : ∀ i h, St i h → ∃ o, h.get? I = some o)
    (turn : ∀ i v m₁ nx h tk own, i < n → P i v → J i m₁ nx → (∀ p ∈ nx, p.1 ≠ I) → (∃ o, (I, o) ∈ own) → OwnOff own (nx.map (·.1)) → Fr h₀ env.locals h (fun y => if y = x then some v else m₁ y) → News h₀ env.locals h (nx ++ own) →
      wpAny (model prog w) A (execs body env) (TurnEnd h₀ env.locals I (J (i + 1)) own { s with heap := h, toks := tk } Q) E { s with heap := h, toks := tk })
    (done : ∀ m₁ nx h tk, J n m₁ nx → Fr h₀ env.locals h m₁ → News h₀ env.locals h nx → Q .next { s with heap := h, toks := tk }) :
    LoopAtV prog w A h₀ env x body Q E (.ref I) s := by
  refine ⟨I, fp, [I], n, P, St, m₀, news, J, rfl, W, hLf, ?_, ?_, hst, F, N, hj, ?_, ?_⟩
  · intro b hb; rw [List.mem_singleton.mp hb]; exact hI
  · intro p hp hq; exact hnw p hp (List.mem_singleton.mp hq)
  · rintro i v m₁ news₁ s₁ own ⟨hh', tk', rfl⟩ hin hP hJ hoff hsub hat hall hst' F₁ N₁
    have hoff' : ∀ p ∈ news₁, p.1 ≠ I := fun p hp e => hoff p hp (List.mem_singleton.mpr e)
    obtain ⟨oI, hoI⟩ := hStI _ _ hst'
    have hmem : (I, oI) ∈ own := hall I hIp hI oI hoI
    have hown : ∀ p ∈ own, p.1 = I := fun p hp => by
      by_cases e : p.1 = I
      · exact e
      · exact absurd (N₁ p (List.mem_append_left _ hp)).2.2 (hfp _ (hsub p hp) e)
    have hsep : OwnOff own (news₁.map (·.1)) := by
      intro p hp b hb e
      obtain ⟨q, hq, rfl⟩ := List.mem_map.mp hb
      exact hoff' q hq (e ▸ hown p hp)
    have N₂ : News h₀ env.locals hh' (news₁ ++ own) := fun p hp => N₁ p ((List.mem_append.mp hp).elim (fun h => List.mem_append.mpr (.inr h)) fun h => List.mem_append.mpr (.inl h))
    refine wpAny_mono (turn i v m₁ news₁ hh' tk' own hin hP hJ hoff' ⟨oI, hmem⟩ hsep F₁ N₂) (fun f s₂ p => ?_) fun _ _ e => e
    have fin : (∃ h' tk m' nx, s₂ = { ({ s with heap := hh', toks := tk' } : Shared) with heap := h', toks := tk } ∧ Fr h₀ env.locals h' m' ∧ News h₀ env.locals h' (nx ++ own) ∧ (∀ p ∈ nx, p.1 ≠ I) ∧ J (i + 1) m' nx) →
        LoopStepU h₀ env.locals [I] own (J (i + 1)) { s with heap := hh', toks := tk' } .next s₂ := by
      rintro ⟨h', tk, m', nx, e, F', N', hn, hm⟩
      refine ⟨rfl, h', tk, m', nx, e, F', fun p hp => N' p ((List.mem_append.mp hp).elim (fun h => List.mem_append.mpr (.inr h)) fun h => List.mem_append.mpr (.inl h)), fun p hp hq => hn p hp (List.mem_singleton.mp hq), hm⟩
    have q := p.out
    cases f with
    | ret v => exact .ret q
    | brk => exact .brk q
    | next => exact .next (fin q)
    | cont => exact .cont (fin q)
  · rintro h' tk m' news' F' N' _ hJ
    exact done m' news' h' tk hJ F' N'

theorem off_two {own own2 : List (Addr × Obj)} {R : Addr} {l l2 : List Addr} (h1 : OwnOff own l) (h2 : OwnOff own2 l2) (m1 : R ∈ l) (m2 : R ∈ l2) : OwnOff (own ++ own2) [R] := fun p hp b hb => by
  rw [List.mem_singleton.mp hb]
  exact (List.mem_append.mp hp).elim (fun q => h1 p q R m1) (fun q => h2 p q R m2)
theorem new_ne {m : Str → Option Value} {news : List (Addr × Obj)} {h : Heap} (F : Fr h₀ env.locals h m) (N : News h₀ env.locals h news) : ∀ p ∈ news, p.1 ≠ h.objs.size :=
  fun p hp e => absurd (Heap.lt_size (N p hp).1) (e ▸ Nat.lt_irrefl _)

theorem iter_range {r : Addr} {a b c : Int} {t u v : Tok} {n : Nat} {m₀ : Str → Option Value} {news : List (Addr × Obj)} (J : Nat → (Str → Option Value) → List (Addr × Obj) → Prop)
    (hh : A.handled = none) (hr : IsRange s.heap r a b c t u v) (hsmall : Builtin.Range.small a b c = true) (hn : Builtin.Range.rangeSize a b c = (n : Int)) (F : Fr h₀ env.locals s.heap m₀) (N : News h₀ env.locals s.heap news) (hj : J 0 m₀ news)
    (turn : ∀ I i t m₁ nx h tk own, i < n → J i m₁ nx → (∀ p ∈ nx, p.1 ≠ I) → (∃ o, (I, o) ∈ own) → OwnOff own (nx.map (·.1)) → Fr h₀ env.locals h (fun y => if y = x then some (.int (a + (i : Int) * c) t) else m₁ y) → News h₀ env.locals h (nx ++ own) →
      wpAny (model prog w) A (execs body env) (TurnEnd h₀ env.locals I (J (i + 1)) own { s with heap := h, toks := tk } Q) E { s with heap := h, toks := tk })
    (done : ∀ m₁ nx h tk, J n m₁ nx → Fr h₀ env.locals h m₁ → News h₀ env.locals h nx → Q .next { s with heap := h, toks := tk }) :
    wpAny (model prog w) A (pyIter (.ref r)) (fun it s₂ => LoopAtV prog w A h₀ env x body Q E it s₂) E s := by
  refine wpAny_pyIter_range hr hsmall ?_
  refine loop_gen (I := s.heap.objs.size) J (Walks.range hh _ a c n) ?_ ?_ (next_is_new F) (new_ne F N) ?_ ⟨_, Heap.get?_push_size _ rfl⟩ (F.push _) (fun p hp => ⟨Heap.get?_push_of_some _ (N p hp).1, (N p hp).2⟩) hj (List.mem_singleton.mpr rfl) (fun i h e => ⟨_, e⟩) ?_ ?_
  · intro hm
    exact absurd F.ns.lt ((List.mem_singleton.mp hm) ▸ Nat.lt_irrefl _)
  · intro b hb hne
    exact absurd (List.mem_singleton.mp hb) hne
  · show IsRangeIter _ _ _ _ _
    rw [hn]
    simpa using Heap.get?_push_size _ rfl
  · rintro i v m₁ nx h tk own hi ⟨t, rfl⟩ hJ h1 h2 h3 F' N'
    exact turn _ i t m₁ nx h tk own hi hJ h1 h2 h3 F' N'
  · exact done

theorem iter_list {l : Addr} {items : Array Value} {m₀ : Str → Option Value} {news : List (Addr × Obj)} (J : Nat → (Str → Option Value) → List (Addr × Obj) → Prop)
    (hh : A.handled = none) (hl : h₀.IsList l items) (F : Fr h₀ env.locals s.heap m₀) (N : News h₀ env.locals s.heap news) (hj : J 0 m₀ news)
    (turn : ∀ I i v m₁ nx h tk own, items[i]? = some v → J i m₁ nx → (∀ p ∈ nx, p.1 ≠ I) → (∃ o, (I, o) ∈ own) → OwnOff own (nx.map (·.1)) → Fr h₀ env.locals h (fun y => if y = x then some v else m₁ y) → News h₀ env.locals h (nx ++ own) →
      wpAny (model prog w) A (execs body env) (TurnEnd h₀ env.locals I (J (i + 1)) own { s with heap := h, toks := tk } Q) E { s with heap := h, toks := tk })
    (done : ∀ m₁ nx h tk, J items.size m₁ nx → Fr h₀ env.locals h m₁ → News h₀ env.locals h nx → Q .next { s with heap := h, toks := tk }) :
    wpAny (model prog w) A (pyIter (.ref l)) (fun it s₂ => LoopAtV prog w A h₀ env x body Q E it s₂) E s := by
  have hls : s.heap.IsList l items := hl.at fun o e => F.keep l o e
  obtain ⟨ol, hol, _⟩ := id hl
  have hlt : l < h₀.objs.size := Heap.lt_size hol
  have hne : l ≠ s.heap.objs.size := Nat.ne_of_lt (Nat.lt_trans (Nat.lt_of_lt_of_le hlt F.above) F.ns.lt)
  refine wpAny_pyIter_list hls ?_
  refine loop_gen (I := s.heap.objs.size) J (Walks.list hh s.heap.objs.size l hne items) ?_ ?_ (next_is_new F) (new_ne F N)
    ⟨⟨_, Heap.get?_push_size _ rfl, rfl, rfl⟩, hls.at fun o e => Heap.get?_push_of_some _ e⟩ ⟨_, Heap.get?_push_size _ rfl⟩ (F.push _) (fun p hp => ⟨Heap.get?_push_of_some _ (N p hp).1, (N p hp).2⟩) hj (List.mem_cons_self ..) (fun i h e => ⟨_, e.1.choose_spec.1⟩) ?_ done
  · intro hm
    rcases List.mem_cons.mp hm with e | hm
    · exact absurd F.ns.lt (e ▸ Nat.lt_irrefl _)
    · exact absurd (Nat.lt_of_lt_of_le hlt F.above) ((List.mem_singleton.mp hm) ▸ Nat.lt_irrefl _)
  · intro b hb hne' hq
    rcases List.mem_cons.mp hb with e | hb
    · exact hne' e
    · rw [List.mem_singleton.mp hb, hol] at hq; cases hq
  · intro i v m₁ nx h tk own hi hP hJ h1 h2 h3 F' N'
    exact turn _ i v m₁ nx h tk own hP hJ h1 h2 h3 F' N'

theorem iter_str {z : Str} {t : Tok} {m₀ : Str → Option Value} {news : List (Addr × Obj)} (J : Nat → (Str → Option Value) → List (Addr × Obj) → Prop)
    (hh : A.handled = none) (F : Fr h₀ env.locals s.heap m₀) (N : News h₀ env.locals s.heap news) (hj : J 0 m₀ news)
    (hza : z.cps.all (· < 128) = true)
    (turn : ∀ I i c t m₁ nx h tk own, z.cps[i]? = some c → J i m₁ nx → (∀ p ∈ nx, p.1 ≠ I) → (∃ o, (I, o) ∈ own) → OwnOff own (nx.map (·.1)) → Fr h₀ env.locals h (fun y => if y = x then some (.str ⟨#[c]⟩ t) else m₁ y) → News h₀ env.locals h (nx ++ own) →
      wpAny (model prog w) A (execs body env) (TurnEnd h₀ env.locals I (J (i + 1)) own { s with heap := h, toks := tk } Q) E { s with heap := h, toks := tk })
    (done : ∀ m₁ nx h tk, J z.cps.size m₁ nx → Fr h₀ env.locals h m₁ → News h₀ env.locals h nx → Q .next { s with heap := h, toks := tk }) :
    wpAny (model prog w) A (pyIter (.str z t)) (fun it s₂ => LoopAtV prog w A h₀ env x body Q E it s₂) E s := by
  refine wpAny_pyIter_ascii hza ?_
  refine loop_gen (I := s.heap.objs.size) J (Walks.strAscii hh _ z t) ?_ ?_ (next_is_new F) (new_ne F N) ⟨_, Heap.get?_push_size _ rfl, rfl, rfl⟩ ⟨_, Heap.get?_push_size _ rfl⟩ (F.push _) (fun p hp => ⟨Heap.get?_push_of_some _ (N p hp).1, (N p hp).2⟩) hj (List.mem_singleton.mpr rfl) (fun i h e => ⟨_, e.choose_spec.1⟩) ?_ done
  · intro hm
    exact absurd F.ns.lt ((List.mem_singleton.mp hm) ▸ Nat.lt_irrefl _)
  · intro b hb hne
    exact absurd (List.mem_singleton.mp hb) hne
  · rintro i v m₁ nx h tk own hi ⟨c, t, hc, rfl⟩ hJ h1 h2 h3 F' N'
    exact turn _ i c t m₁ nx h tk own hc hJ h1 h2 h3 F' N'

variable {K : Type} [DecidableEq K] {knd : KeyKind prog w K}
theorem iter_keys {d : Addr} {kvs : List (K × Value)} {ep : Nat} {m₀ : Str → Option Value} {news : List (Addr × Obj)} (J : Nat → (Str → Option Value) → List (Addr × Obj) → Prop)
    (hh : A.handled = none) (hd : (d == sysModules) = false) (hm : h₀.DictAt knd d kvs ep) (F : Fr h₀ env.locals s.heap m₀) (N : News h₀ env.locals s.heap news) (hj : J 0 m₀ news)
    (turn : ∀ I i k x' v m₁ nx h tk own, kvs[i]? = some (k, x') → knd.is k v = true → J i m₁ nx → (∀ p ∈ nx, p.1 ≠ I) → (∃ o, (I, o) ∈ own) → OwnOff own (nx.map (·.1)) → Fr h₀ env.locals h (fun y => if y = x then some v else m₁ y) → News h₀ env.locals h (nx ++ own) →
      wpAny (model prog w) A (execs body env) (TurnEnd h₀ env.locals I (J (i + 1)) own { s with heap := h, toks := tk } Q) E { s with heap := h, toks := tk })
    (done : ∀ m₁ nx h tk, J kvs.length m₁ nx → Fr h₀ env.locals h m₁ → News h₀ env.locals h nx → Q .next { s with heap := h, toks := tk }) :
    wpAny (model prog w) A (pyIter (.ref d)) (fun it s₂ => LoopAtV prog w A h₀ env x body Q E it s₂) E s := by
  have hms : s.heap.DictAt knd d kvs ep := hm.keep F.keep
  have hlt : d < h₀.objs.size := hm.lt_size
  have hne : d ≠ s.heap.objs.size := Nat.ne_of_lt (Nat.lt_trans (Nat.lt_of_lt_of_le hlt F.above) F.ns.lt)
  obtain ⟨od, _, hod, _⟩ := id hm
  refine wpAny_pyIter_dict hd hms ?_
  refine loop_gen (I := s.heap.objs.size) J (Walks.dictKeys hh s.heap.objs.size d hne kvs ep) ?_ ?_ (next_is_new F) (new_ne F N)
    ⟨⟨_, Heap.get?_push_size _ rfl, rfl, rfl⟩, hms.push _⟩ ⟨_, Heap.get?_push_size _ rfl⟩ (F.push _) (fun p hp => ⟨Heap.get?_push_of_some _ (N p hp).1, (N p hp).2⟩) hj (List.mem_cons_self ..) (fun i h e => ⟨_, e.1.choose_spec.1⟩) ?_ done
  · intro hm
    rcases List.mem_cons.mp hm with e | hm
    · exact absurd F.ns.lt (e ▸ Nat.lt_irrefl _)
    · exact absurd (Nat.lt_of_lt_of_le hlt F.above) ((List.mem_singleton.mp hm) ▸ Nat.lt_irrefl _)
  · intro b hb hne' hq
    rcases List.mem_cons.mp hb with e | hb
    · exact hne' e
    · rw [List.mem_singleton.mp hb, hod] at hq; cases hq
  · rintro i v m₁ nx h tk own hi ⟨k, x', hk, hv⟩ hJ h1 h2 h3 F' N'
    exact turn _ i k x' v m₁ nx h tk own hk hv hJ h1 h2 h3 F' N'

theorem iter_values {vw d : Addr} {kvs : List (K × Value)} {ep : Nat} {m₀ : Str → Option Value} {news : List (Addr × Obj)} (J : Nat → (Str → Option Value) → List (Addr × Obj) → Prop)
    (hh : A.handled = none) (hv : s.heap.IsValuesView vw d) (hm : h₀.DictAt knd d kvs ep) (F : Fr h₀ env.locals s.heap m₀) (N : News h₀ env.locals s.heap news) (hj : J 0 m₀ news)
    (turn : ∀ I i k v m₁ nx h tk own, kvs[i]? = some (k, v) → J i m₁ nx → (∀ p ∈ nx, p.1 ≠ I) → (∃ o, (I, o) ∈ own) → OwnOff own (nx.map (·.1)) → Fr h₀ env.locals h (fun y => if y = x then some v else m₁ y) → News h₀ env.locals h (nx ++ own) →
      wpAny (model prog w) A (execs body env) (TurnEnd h₀ env.locals I (J (i + 1)) own { s with heap := h, toks := tk } Q) E { s with heap := h, toks := tk })
    (done : ∀ m₁ nx h tk, J kvs.length m₁ nx → Fr h₀ env.locals h m₁ → News h₀ env.locals h nx → Q .next { s with heap := h, toks := tk }) :
    wpAny (model prog w) A (pyIter (.ref vw)) (fun it s₂ => LoopAtV prog w A h₀ env x body Q E it s₂) E s := by
  have hms : s.heap.DictAt knd d kvs ep := hm.keep F.keep
  have hlt : d < h₀.objs.size := hm.lt_size
  have hne : d ≠ s.heap.objs.size := Nat.ne_of_lt (Nat.lt_trans (Nat.lt_of_lt_of_le hlt F.above) F.ns.lt)
  obtain ⟨od, _, hod, _⟩ := id hm
  refine wpAny_pyIter_values hv hms ?_
  refine loop_gen (I := s.heap.objs.size) J (Walks.dictValues hh s.heap.objs.size d hne kvs ep) ?_ ?_ (next_is_new F) (new_ne F N)
    ⟨⟨_, Heap.get?_push_size _ rfl, rfl, rfl⟩, hms.push _⟩ ⟨_, Heap.get?_push_size _ rfl⟩ (F.push _) (fun p hp => ⟨Heap.get?_push_of_some _ (N p hp).1, (N p hp).2⟩) hj (List.mem_cons_self ..) (fun i h e => ⟨_, e.1.choose_spec.1⟩) ?_ done
  · intro hm
    rcases List.mem_cons.mp hm with e | hm
    · exact absurd F.ns.lt (e ▸ Nat.lt_irrefl _)
    · exact absurd (Nat.lt_of_lt_of_le hlt F.above) ((List.mem_singleton.mp hm) ▸ Nat.lt_irrefl _)
  · intro b hb hne' hq
    rcases List.mem_cons.mp hb with e | hb
    · exact hne' e
    · rw [List.mem_singleton.mp hb, hod] at hq; cases hq
  · rintro i v m₁ nx h tk own hi ⟨k, hk⟩ hJ h1 h2 h3 F' N'
    exact turn _ i k v m₁ nx h tk own hk hJ h1 h2 h3 F' N'
end
end Mine
end
-- part B4
section
open PySem PySem.W PySem.Spec PySem.Calls PyProof.Rows
set_option maxRecDepth 100000
namespace Mine
section
variable {prog : Program} {w : World} {A : Around} {E : Value → Shared → Prop} {s : Shared} {value slice : Expr} {l : List Nat} {t : Tok} {h₀ : Heap} {L : Addr} {m : Str → Option Value} {news : List (Addr × Obj)} {Q : Value → Shared → Prop}
theorem size_S (h : l.length ≤ 100000) : (S l).length ≤ sizeLine := by
  rw [S_len, sizeLine_eq]; omega
theorem slS_nn (hF : Fr h₀ L s.heap m) (hN : News h₀ L s.heap news) (hz : l.length ≤ 100000) (h : ∀ h' t' k, Fr h₀ L h' m → News h₀ L h' news → Q (.str (S l) t') { s with heap := h', toks := k })
    (hs : subscripted slice false (.str (S l) t) (.ref s.heap.objs.size) = operate [.ref s.heap.objs.size, .str (S l) t] (getItem (.str (S l) t) (.ref s.heap.objs.size)))
    (ht : ∀ r, letTemporaryGo value (.str (S l) t) r = pure ()) :
    wpAny (model prog w) A (subscriptTail value slice (.str (S l) t) (.ref s.heap.objs.size)) Q E { s with heap := s.heap.push { cls := .type "slice", data := .fields #[.none, .none, .none] } } :=
  slice_strN_nn hF hN (fun h' t' k F N => by rw [sl_all]; exact h h' t' k F N) hs ht (size_S hz)
theorem slS_ns {j : Int} {uj : Tok} (hF : Fr h₀ L s.heap m) (hN : News h₀ L s.heap news) (hz : l.length ≤ 100000) (hj : 0 ≤ j) (h : ∀ h' t' k, Fr h₀ L h' m → News h₀ L h' news → Q (.str (S (l.take j.toNat)) t') { s with heap := h', toks := k })
    (hs : subscripted slice false (.str (S l) t) (.ref s.heap.objs.size) = operate [.ref s.heap.objs.size, .str (S l) t] (getItem (.str (S l) t) (.ref s.heap.objs.size)))
    (ht : ∀ r, letTemporaryGo value (.str (S l) t) r = pure ()) :
    wpAny (model prog w) A (subscriptTail value slice (.str (S l) t) (.ref s.heap.objs.size)) Q E { s with heap := s.heap.push { cls := .type "slice", data := .fields #[.none, .int j uj, .none] } } :=
  slice_strN_ns hF hN (fun h' t' k F N => by rw [sl_to l hj]; exact h h' t' k F N) hs ht (size_S hz)
theorem slS_ns_neg {j : Int} {uj : Tok} (hF : Fr h₀ L s.heap m) (hN : News h₀ L s.heap news) (hz : l.length ≤ 100000) (hj : j < 0) (h : ∀ h' t' k, Fr h₀ L h' m → News h₀ L h' news → Q (.str (S (l.take (l.length - j.natAbs))) t') { s with heap := h', toks := k })
    (hs : subscripted slice false (.str (S l) t) (.ref s.heap.objs.size) = operate [.ref s.heap.objs.size, .str (S l) t] (getItem (.str (S l) t) (.ref s.heap.objs.size)))
    (ht : ∀ r, letTemporaryGo value (.str (S l) t) r = pure ()) :
    wpAny (model prog w) A (subscriptTail value slice (.str (S l) t) (.ref s.heap.objs.size)) Q E { s with heap := s.heap.push { cls := .type "slice", data := .fields #[.none, .int j uj, .none] } } :=
  slice_strN_ns hF hN (fun h' t' k F N => by rw [sl_to_neg l hj]; exact h h' t' k F N) hs ht (size_S hz)
theorem slS_sn {i : Int} {ui : Tok} (hF : Fr h₀ L s.heap m) (hN : News h₀ L s.heap news) (hz : l.length ≤ 100000) (hi : 0 ≤ i) (h : ∀ h' t' k, Fr h₀ L h' m → News h₀ L h' news → Q (.str (S (l.drop i.toNat)) t') { s with heap := h', toks := k })
    (hs : subscripted slice false (.str (S l) t) (.ref s.heap.objs.size) = operate [.ref s.heap.objs.size, .str (S l) t] (getItem (.str (S l) t) (.ref s.heap.objs.size)))
    (ht : ∀ r, letTemporaryGo value (.str (S l) t) r = pure ()) :
    wpAny (model prog w) A (subscriptTail value slice (.str (S l) t) (.ref s.heap.objs.size)) Q E { s with heap := s.heap.push { cls := .type "slice", data := .fields #[.int i ui, .none, .none] } } :=
  slice_strN_sn hF hN (fun h' t' k F N => by rw [sl_from l hi]; exact h h' t' k F N) hs ht (size_S hz)
theorem sl_mid (l : List Nat) {i j : Int} (hi : 0 ≤ i) (hij : i ≤ j) : Txt.slice (S l) (some i) (some j) = S ((l.take j.toNat).drop i.toNat) := by
  have e1 : Txt.slice (S l) (some i) (some j) = Txt.slice (S l) (some (min i l.length)) (some (min j l.length)) := by
    unfold Txt.slice
    have : Builtin.Str.strSliceIndices (some i) (some j) 1 (S l).length = Builtin.Str.strSliceIndices (some (min i l.length)) (some (min j l.length)) 1 (S l).length := by
      rw [S_len]
      unfold Builtin.Str.strSliceIndices
      simp only [show (1 : Int) > 0 by decide, if_true]
      rw [if_neg (by omega), if_neg (by omega), if_neg (by omega), if_neg (by omega)]
      congr 1 <;> omega
    rw [this]
  rw [e1, slice_eq_sliceText, StrLaws.sliceText_plain ⟨by omega, by omega, by rw [S_list]; omega⟩, S_list]
  show S _ = S _
  congr 1
  apply List.ext_getElem?
  intro k
  simp only [List.getElem?_take, List.getElem?_drop]
  by_cases h1 : (min i (l.length : Int)).toNat = i.toNat
  · rw [h1]
    by_cases h2 : k < (min j (l.length : Int) - min i (l.length : Int)).toNat
    · rw [if_pos h2, if_pos (by omega)]
    · rw [if_neg h2]
      split
      · rw [List.getElem?_eq_none]; omega
      · rfl
  · rw [List.getElem?_eq_none (by omega), List.getElem?_eq_none (l := l) (i := i.toNat + k) (by omega)]
    simp
theorem slS_ss {i j : Int} {ui uj : Tok} (hF : Fr h₀ L s.heap m) (hN : News h₀ L s.heap news) (hz : l.length ≤ 100000) (hi : 0 ≤ i) (hij : i ≤ j) (h : ∀ h' t' k, Fr h₀ L h' m → News h₀ L h' news → Q (.str (S ((l.take j.toNat).drop i.toNat)) t') { s with heap := h', toks := k })
    (hs : subscripted slice false (.str (S l) t) (.ref s.heap.objs.size) = operate [.ref s.heap.objs.size, .str (S l) t] (getItem (.str (S l) t) (.ref s.heap.objs.size)))
    (ht : ∀ r, letTemporaryGo value (.str (S l) t) r = pure ()) :
    wpAny (model prog w) A (subscriptTail value slice (.str (S l) t) (.ref s.heap.objs.size)) Q E { s with heap := s.heap.push { cls := .type "slice", data := .fields #[.int i ui, .int j uj, .none] } } :=
  slice_strN_ss hF hN (fun h' t' k F N => by rw [sl_mid l hi hij]; exact h h' t' k F N) hs ht (size_S hz)

theorem fits_small {k : Int} (h0 : -1000000 ≤ k) (h1 : k ≤ 1000000) : fitsSsize k = true := fitsSsize_of (N := 9223372036854775808) (by omega) (by omega) (Int.le_refl _)
theorem itS {k : Int} {u : Tok} (h0 : 0 ≤ k) (h1 : k < l.length) (hz : l.length ≤ 100000) (h : Q (.str (S [l.getD k.toNat 0]) s.toks) { s with toks := s.toks + 1 })
    (hs : subscripted slice false (.str (S l) t) (.int k u) = operate [.str (S l) t, .int k u] (getItem (.str (S l) t) (.int k u)))
    (ht : ∀ r, letTemporaryGo value (.str (S l) t) r = pure ()) :
    wpAny (model prog w) A (subscriptTail value slice (.str (S l) t) (.int k u)) Q E s :=
  item_str (fits_small (by omega) (by omega)) (by rw [S_len]; omega) (by rw [S_len]; exact h1) (fun _ => by
    have e : Txt.item (S l) k = S [l.getD k.toNat 0] := by
      unfold Txt.item Txt.charAt
      rw [StrLaws.seqIndex_nonneg h0 (by rw [S_len]; exact h1)]
      simp [S]
    rw [e]; exact h) hs ht
theorem itS_neg {k : Int} {u : Tok} (h0 : k < 0) (h1 : -(l.length : Int) ≤ k) (hz : l.length ≤ 100000) (h : Q (.str (S [l.getD (l.length - k.natAbs) 0]) s.toks) { s with toks := s.toks + 1 })
    (hs : subscripted slice false (.str (S l) t) (.int k u) = operate [.str (S l) t, .int k u] (getItem (.str (S l) t) (.int k u)))
    (ht : ∀ r, letTemporaryGo value (.str (S l) t) r = pure ()) :
    wpAny (model prog w) A (subscriptTail value slice (.str (S l) t) (.int k u)) Q E s :=
  item_str (fits_small (by omega) (by omega)) (by rw [S_len]; omega) (by rw [S_len]; omega) (fun _ => by
    have e : Txt.item (S l) k = S [l.getD (l.length - k.natAbs) 0] := by
      unfold Txt.item Txt.charAt
      rw [StrLaws.seqIndex_neg h0 (by rw [S_len]; exact h1), S_len]
      have e2 : (k + (l.length : Int)).toNat = l.length - k.natAbs := by omega
      simp [S, e2]
    rw [e]; exact h) hs ht
theorem lenS {t : Tok} {n : Nat} (hn : l.length = n) (hz : n ≤ 100000) (h : Q (.int n (s.toks + 1)) { s with toks := s.toks + 1 + 1 }) : wpAny (model prog w) A (call (.builtin "len") [.str (S l) t]) Q E s :=
    SBL.len (by rw [S_len]; omega) (by rw [S_len, hn]; exact h)
theorem truS {t : Tok} {n : Nat} {Q : Bool → Shared → Prop} (hn : l.length = n) (hz : n ≤ 100000) (h : ∀ k, Q (decide (n ≠ 0)) { s with toks := k }) : wpAny (model prog w) A (truthy (.str (S l) t)) Q E s :=
  SBL.truthy (by rw [S_len]; omega) (by
    subst hn
    have e : (((S l).length : Int) != 0) = decide (l.length ≠ 0) := by
      rw [S_len]
      cases l with
      | nil => rfl
      | cons a r =>
        simp
        omega
    rw [e]; exact h _)
theorem addS {a b : List Nat} {t u : Tok} (ha : a.length ≤ 100000) (hb : b.length ≤ 100000) (h : ∀ t' k, Q (.str (S (a ++ b)) t') { s with toks := k }) : wpAny (model prog w) A (binaryOp .Add (.str (S a) t) (.str (S b) u)) Q E s :=
  SBL.add (fun t' k _ => by rw [S_app]; exact h t' k) (by rw [S_len, S_len, sizeLine_eq]; omega)
theorem eqS {a b : List Nat} {t u : Tok} (h : Q (.bool (decide (a = b))) s) : wpAny (model prog w) A (compareOp .Eq (.str (S a) t) (.str (S b) u)) Q E s :=
  eq_str (by rw [S_beq]; exact h)
theorem neS {a b : List Nat} {t u : Tok} (h : Q (.bool (decide (a ≠ b))) s) : wpAny (model prog w) A (compareOp .NotEq (.str (S a) t) (.str (S b) u)) Q E s :=
  ne_str (by
    have e : (S a != S b) = decide (a ≠ b) := by rw [bne, S_beq]; simp
    rw [e]; exact h)
theorem intsAre_of_get : ∀ (vs : List Value) (ns : List Int), vs.length = ns.length → (∀ (j : Nat) (v : Value), vs[j]? = some v → ∃ t, v = Value.int (ns.getD j 0) t) → IntsAre vs ns
  | [], [], _, _ => .nil
  | v :: vs, n :: ns, hl, h => by
    obtain ⟨t, rfl⟩ := h 0 v rfl
    exact .cons n t (intsAre_of_get vs ns (by simpa using hl) fun j v hv => by simpa using h (j + 1) v (by simpa using hv))
  | [], _ :: _, hl, _ => by simp at hl
  | _ :: _, [], hl, _ => by simp at hl
def rangeL (a c : Int) (n : Nat) : List Int := (List.range n).map fun (i : Nat) => a + (i : Int) * c
theorem list_rangeS {r : Addr} {a b c : Int} {t u v : Tok} {n : Nat} (hh : A.handled = none) (F : Fr h₀ L s.heap m) (N : News h₀ L s.heap news)
    (hr : IsRange s.heap r a b c t u v) (hsmall : Builtin.Range.small a b c = true) (hn : Builtin.Range.rangeSize a b c = (n : Int)) (hlen : n ≤ 2 ^ 24)
    (hQ : ∀ R h' tk (vs : List Value) c', Fr h₀ L h' m → News h₀ L h' ((R, listOf vs.toArray c') :: news) → (∀ p ∈ news, p.1 ≠ R) → IntsAre vs (rangeL a c n) → Q (.ref R) { s with heap := h', toks := tk }) :
    wpAny (model prog w) A (call (.type "list") [.ref r]) Q E s := by
  refine call_list_range hh hr hsmall hn hlen fun h' tk acc' c' hk hS' hacc => ?_
  refine hQ _ h' tk acc'.toList c' (Fr.grows F hk) (fun p hp => ?_) (fun p hp e => absurd (Heap.lt_size (N p hp).1) (by rw [e]; exact Nat.lt_irrefl _)) (intsAre_of_get _ _ (by simp [hacc.1, rangeL]) fun j v hv => ?_)
  · rcases List.mem_cons.mp hp with rfl | hp
    · refine ⟨hS', Nat.ne_of_gt F.ns.lt, ?_⟩
      cases e : h₀.get? s.heap.objs.size with
      | none => rfl
      | some o => exact absurd (Heap.lt_size (F.keep _ _ e)) (Nat.lt_irrefl _)
    · exact ⟨hk _ _ (N p hp).1, (N p hp).2⟩
  · have hv' : acc'[j]? = some v := by simpa using hv
    obtain ⟨tk, rfl⟩ := hacc.2 j v hv'
    have hj : j < n := by
      have := (Array.getElem?_eq_some_iff.mp hv').1
      rw [hacc.1] at this; exact this
    refine ⟨tk, ?_⟩
    simp [rangeL, hj]
end
theorem small_of {a b c : Int} (ha : -1000000 ≤ a) (ha' : a ≤ 1000000) (hb : -1000000 ≤ b) (hb' : b ≤ 1000000) (hc : c = 1 ∨ c = 2 ∨ c = -1) : Builtin.Range.small a b c = true := by
  unfold Builtin.Range.small Builtin.Range.rangeSize
  rcases hc with rfl | rfl | rfl <;>
  simp only [Builtin.Range.rangeFitsLong, Bool.and_eq_true, Bool.or_eq_true, decide_eq_true_eq, beq_iff_eq, show (1 : Int) > 0 by decide, show (2 : Int) > 0 by decide, show ¬ (-1 : Int) > 0 by decide, if_true, if_false, show -(-1 : Int) = 1 by decide, Int.ediv_one] <;>
  (split <;> omega)
theorem rsize_one {n : Nat} : Builtin.Range.rangeSize 0 (n : Int) 1 = (n : Int) := by
  unfold Builtin.Range.rangeSize
  rw [if_pos (by decide)]
  split <;> omega
theorem rsize_two {n : Nat} : Builtin.Range.rangeSize 2 (2 * ((n : Int) + 1)) 2 = (n : Int) := by
  unfold Builtin.Range.rangeSize
  rw [if_pos (by decide)]
  split <;> omega
end Mine
end
-- part D1
section
open PySem PySem.W PySem.Spec PySem.Calls PyProof.Rows
set_option maxRecDepth 100000
namespace Mine
/-- the four signs -/
def Sg (c : Nat) : Prop := c = 97 ∨ c = 65 ∨ c = 98 ∨ c = 66
def cost (c d : Nat) : Int := if [c] = [d] then 0 else if (Txt.lower (S [c]) == Txt.lower (S [d])) = true then 1 else 2
/-- Python's min of two ints -/
def pmin (a b : Int) : Int := if b < a then b else a
def inner (bc : Nat) : List Nat → List Int → Int → Int → Int → List Int × Int × Int
  | c :: a, r :: row, dist, res, mn =>
    let x := pmin (pmin res r + 2) (dist + cost bc c)
    let q := inner bc a row r x (if x < mn then x else mn)
    (x :: q.1, q.2)
  | _, _, _, res, mn => ([], res, mn)
def MAXI : Int := 9223372036854775807
def outer (a : List Nat) (m : Int) : List Nat → Int → List Int → Int → Int
  | [], _, _, res => res
  | c :: b, i, row, _ =>
    let q := inner c a row (i * 2) (i * 2) MAXI
    if q.2.2 > m then m + 1 else outer a m b (i + 1) q.1 q.2.1
def initRow (n : Nat) : List Int := rangeL 2 2 n
def levDP (a b : List Nat) (m : Int) : Int :=
  if ((b.length : Int) - a.length) * 2 > m then m + 1 else outer a m b 0 (initRow a.length) 0
def levF (a b : List Nat) (m : Int) : Int :=
  if a = b then 0 else
  let p := lcp a b
  let a1 := a.drop p
  let b1 := b.drop p
  let q := lcp a1.reverse b1.reverse
  let a2 := a1.take (a1.length - q)
  let b2 := b1.take (b1.length - q)
  if a2 = [] ∨ b2 = [] then 2 * ((a2.length : Int) + b2.length) else
  if b2.length < a2.length then levDP b2 a2 m else levDP a2 b2 m

theorem drop_getD {α : Type} {l : List α} {j : Nat} (d : α) (h : j < l.length) : l.drop j = l.getD j d :: l.drop (j + 1) := by
  rw [List.drop_eq_getElem_cons h, List.getD_eq_getElem?_getD, List.getElem?_eq_getElem h]; rfl
theorem set_turn {pre row : List Int} {j : Nat} {X : Int} (hp : pre.length = j) (hj : j < row.length) : (pre ++ row.drop j).set j X = (pre ++ [X]) ++ row.drop (j + 1) := by
  subst hp
  rw [drop_getD 0 hj]
  simp
theorem get_turn {pre row : List Int} {j : Nat} (hp : pre.length = j) (hj : j < row.length) : (pre ++ row.drop j).getD j 0 = row.getD j 0 := by
  subst hp
  rw [drop_getD 0 hj]
  simp [List.getD_eq_getElem?_getD]
theorem inner_step {bc : Nat} {x : List Nat} {row : List Int} {j : Nat} {dist res mn : Int} (hx : j < x.length) (hr : j < row.length) :
    inner bc (x.drop j) (row.drop j) dist res mn =
      (pmin (pmin res (row.getD j 0) + 2) (dist + cost bc (x.getD j 0)) :: (inner bc (x.drop (j + 1)) (row.drop (j + 1)) (row.getD j 0) (pmin (pmin res (row.getD j 0) + 2) (dist + cost bc (x.getD j 0)))
          (if pmin (pmin res (row.getD j 0) + 2) (dist + cost bc (x.getD j 0)) < mn then pmin (pmin res (row.getD j 0) + 2) (dist + cost bc (x.getD j 0)) else mn)).1,
        (inner bc (x.drop (j + 1)) (row.drop (j + 1)) (row.getD j 0) (pmin (pmin res (row.getD j 0) + 2) (dist + cost bc (x.getD j 0)))
          (if pmin (pmin res (row.getD j 0) + 2) (dist + cost bc (x.getD j 0)) < mn then pmin (pmin res (row.getD j 0) + 2) (dist + cost bc (x.getD j 0)) else mn)).2) := by
  rw [drop_getD 0 hx, drop_getD 0 hr]
  rfl
theorem inner_len {bc : Nat} : ∀ {x : List Nat} {row : List Int} {dist res mn : Int}, row.length = x.length → (inner bc x row dist res mn).1.length = x.length
  | [], [], _, _, _, _ => rfl
  | c :: x, r :: row, _, _, _, h => by
    unfold inner
    simp only [List.length_cons]
    rw [inner_len (by simpa using h)]
  | [], _ :: _, _, _, _, h => by simp at h
  | _ :: _, [], _, _, _, h => by simp at h
theorem item_S {a : List Nat} {k : Int} (h0 : 0 ≤ k) (h : k < a.length) : Txt.item (S a) k = S [a[k.toNat]'(by omega)] := by
  unfold Txt.item Txt.charAt
  rw [StrLaws.seqIndex_nonneg h0 (by rw [S_len]; exact h)]
  simp [S, List.getElem?_eq_getElem (show k.toNat < a.length by omega)]
theorem item_neg {a : List Nat} {k : Int} (h0 : k < 0) (h : -(a.length : Int) ≤ k) : Txt.item (S a) k = S [a[(k + a.length).toNat]'(by omega)] := by
  unfold Txt.item Txt.charAt
  rw [StrLaws.seqIndex_neg h0 (by rw [S_len]; exact h), S_len]
  simp [S, List.getElem?_eq_getElem (show (k + a.length).toNat < a.length by omega)]
theorem getD_some {a : List Nat} {k : Nat} (h : k < a.length) : a[k]? = some (a.getD k 0) := by
  rw [List.getD_eq_getElem?_getD, List.getElem?_eq_getElem h]; rfl
theorem lev1_go {a b : List Nat} {p : Int} (h0 : 0 ≤ p) (ha : p < a.length) (hb : p < b.length) (hp : p ≤ (lcp a b : Nat)) (h : [a.getD p.toNat 0] = [b.getD p.toNat 0]) : p + 1 ≤ (lcp a b : Nat) := by
  have := lcp_lt (k := p.toNat) (a := a) (b := b) (by omega) (by omega) (by omega) (by rw [getD_some (by omega), getD_some (by omega), List.singleton_inj.mp h])
  omega
theorem lev1_end {a b : List Nat} {p : Int} (h0 : 0 ≤ p) (hp : p ≤ (lcp a b : Nat)) (h : (a.length : Int) ≤ p ∨ (b.length : Int) ≤ p ∨ (p < a.length ∧ p < b.length ∧ ¬ [a.getD p.toNat 0] = [b.getD p.toNat 0])) : p = (lcp a b : Nat) := by
  have h1 := lcp_le_left a b
  have h2 := lcp_le_right a b
  rcases h with h | h | ⟨h3, h4, h5⟩
  · omega
  · omega
  · by_cases e : p = (lcp a b : Nat)
    · exact e
    · have := lcp_at (k := p.toNat) (a := a) (b := b) (by omega)
      rw [getD_some (by omega), getD_some (by omega)] at this
      exact absurd (List.singleton_inj.mpr (Option.some.inj this)) h5
theorem getD_rev {a : List Nat} {k : Nat} (h : k < a.length) : a.reverse.getD k 0 = a.getD (a.length - (k + 1)) 0 := by
  rw [List.getD_eq_getElem?_getD, List.getD_eq_getElem?_getD, List.getElem?_reverse h]
  congr 2
  omega
theorem lev2_go {a b : List Nat} {k : Nat} {p : Int} (pk : p = -(k : Int)) (ha : k < a.length) (hb : k < b.length) (hk : k ≤ lcp a.reverse b.reverse)
    (h : [a.getD (a.length - (p - 1).natAbs) 0] = [b.getD (b.length - (p - 1).natAbs) 0]) : k + 1 ≤ lcp a.reverse b.reverse := by
  have e : (p - 1).natAbs = k + 1 := by omega
  rw [e, ← getD_rev ha, ← getD_rev hb] at h
  exact lcp_lt hk (by rw [List.length_reverse]; exact ha) (by rw [List.length_reverse]; exact hb) (by
    rw [getD_some (by rw [List.length_reverse]; exact ha), getD_some (by rw [List.length_reverse]; exact hb), List.singleton_inj.mp h])
theorem lev2_end {a b : List Nat} {k : Nat} {p : Int} (pk : p = -(k : Int)) (hk : k ≤ lcp a.reverse b.reverse)
    (h : a.length ≤ k ∨ b.length ≤ k ∨ (k < a.length ∧ k < b.length ∧ ¬ [a.getD (a.length - (p - 1).natAbs) 0] = [b.getD (b.length - (p - 1).natAbs) 0])) : p = -((lcp a.reverse b.reverse : Nat) : Int) := by
  have h1 := lcp_le_left a.reverse b.reverse
  have h2 := lcp_le_right a.reverse b.reverse
  rw [List.length_reverse] at h1 h2
  rcases h with h | h | ⟨h3, h4, h5⟩
  · omega
  · omega
  · by_cases q : k = lcp a.reverse b.reverse
    · omega
    · have := lcp_at (k := k) (a := a.reverse) (b := b.reverse) (by omega)
      rw [getD_some (by rw [List.length_reverse]; exact h3), getD_some (by rw [List.length_reverse]; exact h4), getD_rev h3, getD_rev h4] at this
      have e : (p - 1).natAbs = k + 1 := by omega
      rw [e] at h5
      exact absurd (List.singleton_inj.mpr (Option.some.inj this)) h5
end Mine
end
-- part R1
section
open PySem PySem.W PySem.Spec PySem.Calls PyProof.Rows
set_option maxRecDepth 100000
namespace Mine.RF
theorem pa_pattern : PlainAttrs "re.Pattern" :=
  ⟨⟨"object.__getattribute__", by rw [typeLookup_type, builtinLookup_eq_fast]; kernel_rfl, by decide +kernel⟩, by rw [typeLookup_type, builtinLookup_eq_fast]; kernel_rfl⟩
theorem pa_match : PlainAttrs "re.Match" :=
  ⟨⟨"object.__getattribute__", by rw [typeLookup_type, builtinLookup_eq_fast]; kernel_rfl, by decide +kernel⟩, by rw [typeLookup_type, builtinLookup_eq_fast]; kernel_rfl⟩
theorem slot_search : Slot "re.Pattern" "search" "re.Pattern.search" :=
  .of (owner := "re.Pattern") (n := "search") (by rw [typeLookup_type, builtinLookup_eq_fast]; kernel_rfl) (by decide +kernel) (by decide +kernel) (by decide +kernel)
    (by first | exact .inl (by decide +kernel) | exact .inr (by decide +kernel)) (by rw [isSubtype_type]; kernel_rfl)
theorem type_search : typeOf (.builtin "re.Pattern.search") = pure (.type "method_descriptor") := by show builtinType _ = _; rw [builtinType_eq_fast]; kernel_rfl
theorem entry_search : entryFor table "re.Pattern.search" = some Builtin.«re.Pattern.search» := entryFor_of_tree (by kernel_rfl)
theorem args_search (a b : Value) : argsOk "re.Pattern.search" ⟨[a, b], []⟩ := by unfold argsOk; kernel_rfl
theorem slot_span : Slot "re.Match" "span" "re.Match.span" :=
  .of (owner := "re.Match") (n := "span") (by rw [typeLookup_type, builtinLookup_eq_fast]; kernel_rfl) (by decide +kernel) (by decide +kernel) (by decide +kernel)
    (by first | exact .inl (by decide +kernel) | exact .inr (by decide +kernel)) (by rw [isSubtype_type]; kernel_rfl)
theorem type_span : typeOf (.builtin "re.Match.span") = pure (.type "method_descriptor") := by show builtinType _ = _; rw [builtinType_eq_fast]; kernel_rfl
theorem entry_span : entryFor table "re.Match.span" = some Builtin.«re.Match.span» := entryFor_of_tree (by kernel_rfl)
theorem args_span (a b : Value) : argsOk "re.Match.span" ⟨[a, b], []⟩ := by unfold argsOk; kernel_rfl
theorem slot_match_ga : Slot "re.Match" "__getattribute__" "object.__getattribute__" :=
  .of (owner := "object") (n := "__getattribute__") (by rw [typeLookup_type, builtinLookup_eq_fast]; kernel_rfl) (by decide +kernel) (by decide +kernel) (by decide +kernel)
    (by first | exact .inl (by decide +kernel) | exact .inr (by decide +kernel)) (by rw [isSubtype_type]; kernel_rfl)
theorem lk_string : typeLookup (.type "re.Match") "string" = pure (some (.builtin "re.Match.string")) := by rw [typeLookup_type, builtinLookup_eq_fast]; kernel_rfl
theorem type_string : typeOf (.builtin "re.Match.string") = pure (.type "member_descriptor") := by show builtinType _ = _; rw [builtinType_eq_fast]; kernel_rfl
theorem entry_string : entryFor table "re.Match.string" = some Builtin.«re.Match.string» := entryFor_of_tree (by kernel_rfl)
theorem owner_string : (".".intercalate ("re.Match.string".cutAt '.').dropLast) = "re.Match" := by
  have e0 : "re.Match.string".cutAt '.' = ["re", "Match", "string"] := by first | rfl | decide +kernel
  rw [e0]; decide +kernel
theorem sub_match : isSubtype (.type "re.Match") (.type "re.Match") = pure true := by rw [isSubtype_type]; kernel_rfl
theorem slot_md_get : Slot "member_descriptor" "__get__" "member_descriptor.__get__" :=
  .of (owner := "member_descriptor") (n := "__get__") (by rw [typeLookup_type, builtinLookup_eq_fast]; kernel_rfl) (by decide +kernel) (by decide +kernel) (by decide +kernel)
    (by first | exact .inl (by decide +kernel) | exact .inr (by decide +kernel)) (by rw [isSubtype_type]; kernel_rfl)
theorem slot_md_set : Slot "member_descriptor" "__set__" "member_descriptor.__set__" :=
  .of (owner := "member_descriptor") (n := "__set__") (by rw [typeLookup_type, builtinLookup_eq_fast]; kernel_rfl) (by decide +kernel) (by decide +kernel) (by decide +kernel)
    (by first | exact .inl (by decide +kernel) | exact .inr (by decide +kernel)) (by rw [isSubtype_type]; kernel_rfl)
theorem entry_md_get : entryFor table "member_descriptor.__get__" = some Builtin.«member_descriptor.__get__» := entryFor_of_tree (by kernel_rfl)
theorem args_md_get (a b c : Value) : argsOk "member_descriptor.__get__" ⟨[a, b, c], []⟩ := by unfold argsOk; kernel_rfl

section
variable {prog : Program} {w : World} {A : Around} {E : Value → Shared → Prop} {h : Heap} {g : Array GenState} {d : Drawn} {t : Nat} {os : OsState} {a : Addr} {o : Obj} {vs : Array Value} {a0 : Value}

theorem string_get {R : Result → Shared → Prop} (hx : h.get? a = some o) (hc : o.cls = .type "re.Match") (hd : o.data = .fields vs) (h0 : vs[0]? = some a0) (hnd : (a0 == doubtfulMember) = false) (hq : R (.ok (.ret a0)) ⟨h, g, d, t, os⟩) :
    codeAny (model prog w) A (.call (.builtin "member_descriptor.__get__") ⟨[.builtin "re.Match.string", .ref a, .type "re.Match"], []⟩) R ⟨h, g, d, t, os⟩ := by
  have hT : (⟨h, g, d, t, os⟩ : Shared).TypeIs (.ref a) "re.Match" := ⟨_, hx, hc⟩
  have hT5 : (⟨h, g, d, t, os⟩ : Shared).TypeIs (.builtin "re.Match.string") "member_descriptor" := type_string
  have f8 : isSubtype (.type "re.Match") (.type (".".intercalate ("re.Match.string".cutAt '.').dropLast)) = pure true := by rw [owner_string]; exact sub_match
  refine codeAny_call_builtin slot_md_get.plain entry_md_get (slot_md_get.check _ _ _ _ _ _ _ _ hT5 (args_md_get _ _ _) ?_)
  unfold Builtin.«member_descriptor.__get__»
  repeat (any_goals (first | assumption | wp_step))
  refine ⟨Code.quiet_builtin _ (by decide +kernel), codeAny_builtin entry_string ?_⟩
  unfold Builtin.«re.Match.string»
  show wpAny _ _ (field (.ref a) 0 >>= _) _ _ _
  refine wpAny_bind (wpAny_field hx hd h0 ?_)
  repeat (any_goals (first | assumption | wp_step))

theorem string_entry {tk : Tok} {Q : Fin → Shared → Prop} (hx : h.get? a = some o) (hc : o.cls = .type "re.Match") (hd : o.data = .fields vs) (h0 : vs[0]? = some a0) (hnd : (a0 == doubtfulMember) = false) (hq : Q (.done (.ret a0)) ⟨h, g, d, t, os⟩) :
    wpAny (model prog w) A (Builtin.«object.__getattribute__» ⟨[.ref a, .str "string" tk], []⟩) Q E ⟨h, g, d, t, os⟩ := by
  have hT : (⟨h, g, d, t, os⟩ : Shared).TypeIs (.ref a) "re.Match" := ⟨_, hx, hc⟩
  have hT5 : (⟨h, g, d, t, os⟩ : Shared).TypeIs (.builtin "re.Match.string") "member_descriptor" := type_string
  have f4 := lk_string
  have f5 := type_string
  have f6 := slot_md_get.lookup
  have f7 := slot_md_set.lookup
  repeat (any_goals (first | assumption | wp_step))
  refine string_get hx hc hd h0 hnd ?_
  repeat (any_goals (first | assumption | wp_step))

theorem string_call {tk : Tok} {R : Result → Shared → Prop} (hx : h.get? a = some o) (hc : o.cls = .type "re.Match") (hd : o.data = .fields vs) (h0 : vs[0]? = some a0) (hnd : (a0 == doubtfulMember) = false) (hq : R (.ok (.ret a0)) ⟨h, g, d, t, os⟩) :
    codeAny (model prog w) A (.call (.builtin "object.__getattribute__") ⟨[.ref a, .str "string" tk], []⟩) R ⟨h, g, d, t, os⟩ :=
  codeAny_call_builtin slot_match_ga.plain F.entry_object_getattribute (slot_match_ga.check _ _ _ _ _ _ _ _ (show (⟨h, g, d, t, os⟩ : Shared).TypeIs (.ref a) "re.Match" from ⟨_, hx, hc⟩) (F.args_object_getattribute_2 _ _) (string_entry hx hc hd h0 hnd hq))

theorem string_by {tk : Tok} {fill expr : Bool} {x : Str} {u : Tok} {Q : Value → Shared → Prop} (hx : h.get? a = some o) (hc : o.cls = .type "re.Match") (hd : o.data = .fields vs) (h0 : vs[0]? = some (.str x u))
    (hq : Q (.str x u) ⟨h, g, d, t, os⟩) : wpAny (model prog w) A (getAttrBy (.ref a) (.str "string" tk) fill expr) Q E ⟨h, g, d, t, os⟩ := by
  have hT : (⟨h, g, d, t, os⟩ : Shared).TypeIs (.ref a) "re.Match" := ⟨_, hx, hc⟩
  have f2 := slot_match_ga.lookup
  have f3 := slot_match_ga.bind (.ref a)
  have hx0 : (expr && onTheHeap (Value.builtin "object.__getattribute__")) = false := by cases expr <;> rfl
  repeat (any_goals (first | assumption | wp_step))
  refine string_call hx hc hd h0 (by first | rfl | decide | simp [doubtfulMember, rawInt]) ?_
  repeat (any_goals (first | assumption | wp_step))

theorem string_attr {expr : Bool} {x : Str} {u : Tok} {Q : Value → Shared → Prop} (hx : h.get? a = some o) (hc : o.cls = .type "re.Match") (hd : o.data = .fields vs) (h0 : vs[0]? = some (.str x u))
    (hq : Q (.str x u) ⟨h, g, d, t + 1, os⟩) : wpAny (model prog w) A (getAttr (.ref a) "string" expr) Q E ⟨h, g, d, t, os⟩ := by
  unfold getAttr
  repeat (any_goals (first | assumption | with_reducible apply string_by hx hc hd h0 | wp_step))
end
end Mine.RF
end
-- part R3
section
open PySem PySem.Sre
set_option maxRecDepth 100000
namespace Mine.RE
def C : Array Nat := #[14, 8, 1, 2, 2, 1, 1, 92, 0, 16, 92, 17, 0, 2, 17, 1, 1]
def S0 : Seen := ({} : Seen).add 14
def S1 : Seen := S0.add 16
def ms (T : Array Nat) (n s : Nat) : M :=
  { code := C, text := T, lim := n, start := s, lastStart := n, pc := 9, pos := s, handed := s, outermost := (s == 0), marks := #[none, none],
    frames := [{ wait := .nextStart, pc := 9, pos := s, outermost := (s == 0) }], weight := 1, seen := if s = 0 then S0 else S1 }
theorem start_is {T : Array Nat} {n : Nat} (h : 2 ≤ n) : forSearch C T 1 0 n false = ms T n 0 := by
  unfold forSearch
  have e : (decide (0 > n) || decide (n - 0 < (header C).1)) = false := by
    have : (header C).1 = 2 := by rfl
    rw [this]
    simp; omega
  dsimp only
  rw [e]
  rfl
theorem seen_is {s : Nat} : (if s = 0 then S0 else S1).add 16 = S1 := by
  split
  · rfl
  · rfl
theorem step_lit {T : Array Nat} {n s : Nat} (h : s < n) : (ms T n s).step =
    (match (T.getD s 0 == 92) with
      | false => { ms T n s with seen := S1, answer := some false }
      | true => { ms T n s with seen := S1, pc := 11, pos := s + 1 }) := by
  have e1 : (ms T n s).step = (ms T n s).exec := rfl
  rw [e1]
  have e2 : (ms T n s).exec = (if s ≥ n then { ms T n s with seen := (if s = 0 then S0 else S1).add 16, answer := some false } else
    match (Except.ok ((T.getD s 0 == 92), (if s = 0 then S0 else S1).add 16) : Except String (Bool × Seen)) with
    | .error why => ({ ms T n s with seen := (if s = 0 then S0 else S1).add 16 } : M).stick why
    | .ok (false, seen) => { ms T n s with seen, answer := some false }
    | .ok (true, seen) => { ms T n s with seen, pc := 11, pos := s + 1 }) := rfl
  rw [e2, if_neg (by omega), seen_is]
  cases h92 : (T.getD s 0 == 92) <;> rfl
theorem turn {T : Array Nat} {n s : Nat} (h : s < n) (hne : (T.getD s 0 == 92) = false) : (ms T n s).runFor 2 = ms T n (s + 1) := by
  show (if (ms T n s).outcome.isSome = true then ms T n s else M.runFor 1 (ms T n s).step) = _
  rw [if_neg (by exact Bool.false_ne_true), step_lit h, hne]
  show (if (none : Option Sre.Outcome).isSome = true then _ else M.step { ms T n s with seen := S1, answer := some false }) = _
  rw [if_neg (by exact Bool.false_ne_true)]
  show (if s < n then _ else _) = _
  rw [if_pos h]
  rfl
theorem runFor_succ {n : Nat} {m : M} (h : m.outcome.isSome = false) : m.runFor (n + 1) = m.step.runFor n := by
  show (if m.outcome.isSome = true then m else M.runFor n m.step) = _
  rw [if_neg (by rw [h]; exact Bool.false_ne_true)]
theorem runFor_halted : ∀ (n : Nat) (m : M), m.outcome.isSome = true → m.runFor n = m
  | 0, _, _ => rfl
  | n + 1, m, h => by
    show (if m.outcome.isSome = true then m else M.runFor n m.step) = _
    rw [if_pos h]
theorem runFor_add : ∀ (a b : Nat) (m : M), m.runFor (a + b) = (m.runFor a).runFor b
  | 0, b, m => by rw [Nat.zero_add]; rfl
  | a + 1, b, m => by
    rw [show a + 1 + b = (a + b) + 1 by omega]
    by_cases h : m.outcome.isSome = true
    · rw [runFor_halted _ _ h, runFor_halted _ _ h, runFor_halted _ _ h]
    · have h' : m.outcome.isSome = false := by simpa using h
      rw [runFor_succ h', runFor_succ h']
      exact runFor_add a b _
theorem turns {T : Array Nat} {n : Nat} : ∀ (k s : Nat), s + k ≤ n → (∀ i, i < k → (T.getD (s + i) 0 == 92) = false) → (ms T n s).runFor (2 * k) = ms T n (s + k)
  | 0, s, _, _ => rfl
  | k + 1, s, h, hne => by
    rw [show 2 * (k + 1) = 2 + 2 * k by omega, runFor_add, turn (by omega) (by simpa using hne 0 (by omega)), turns k (s + 1) (by omega) (fun i hi => by
      have := hne (i + 1) (by omega)
      rwa [show s + (i + 1) = s + 1 + i by omega] at this)]
    congr 1
    omega
def S2 : Seen := (S1.add 17).add 2
def S3 : Seen := ((S2.add 17).add 1)
def m1 (T : Array Nat) (n s : Nat) : M := { ms T n s with seen := S1, pc := 11, pos := s + 1 }
def m2 (T : Array Nat) (n s : Nat) : M := { ms T n s with seen := S1.add 17, pc := 13, pos := s + 1, marks := #[some (s + 1), none], lastmark := 0 }
def m3 (T : Array Nat) (n s : Nat) : M := { ms T n s with seen := S2, pc := 14, pos := s + 2, marks := #[some (s + 1), none], lastmark := 0 }
def m4 (T : Array Nat) (n s : Nat) : M := { ms T n s with seen := S2.add 17, pc := 16, pos := s + 2, marks := #[some (s + 1), some (s + 2)], lastmark := 1, lastindex := 1 }
def m5 (T : Array Nat) (n s : Nat) : M := { m4 T n s with seen := S3, handed := s + 2, answer := some true }
theorem s1 {T : Array Nat} {n s : Nat} (h : s < n) (he : (T.getD s 0 == 92) = true) : (ms T n s).step = m1 T n s := by rw [step_lit h, he]; rfl
theorem s2 {T : Array Nat} {n s : Nat} : (m1 T n s).step = m2 T n s := rfl
theorem s3 {T : Array Nat} {n s : Nat} (h : s + 1 < n) (he : (T.getD (s + 1) 0 != 10) = true) : (m2 T n s).step = m3 T n s := by
  have e2 : (m2 T n s).step = (if s + 1 ≥ n then { m2 T n s with seen := (S1.add 17).add 2, answer := some false } else
    match (Except.ok ((T.getD (s + 1) 0 != 10), (S1.add 17).add 2) : Except String (Bool × Seen)) with
    | .error why => ({ m2 T n s with seen := (S1.add 17).add 2 } : M).stick why
    | .ok (false, seen) => { m2 T n s with seen, answer := some false }
    | .ok (true, seen) => { m2 T n s with seen, pc := 14, pos := s + 2 }) := rfl
  rw [e2, if_neg (by omega), he]
  rfl
theorem s4 {T : Array Nat} {n s : Nat} : (m3 T n s).step = m4 T n s := by
  have e : (m3 T n s).step = ({ m3 T n s with seen := S2.add 17 } : M).mark 1 := rfl
  rw [e]
  unfold M.mark
  have e1 : (((1 : Nat) : Int) ≤ (m3 T n s).lastmark + 1) := by show ((1 : Nat) : Int) ≤ 0 + 1; decide
  have e2 : (max (0 : Int) ((1 : Nat) : Int)) = 1 := by decide
  dsimp only
  rw [if_pos e1]
  show ({ m3 T n s with seen := S2.add 17, marks := _, lastmark := max (0 : Int) ((1 : Nat) : Int), lastindex := _, pc := _ } : M) = _
  rw [e2]
  rfl
theorem s5 {T : Array Nat} {n s : Nat} : (m4 T n s).step = m5 T n s := by
  have e : (m4 T n s).step = (if ((s == 0) && ((false && s + 2 != n) || (false && s + 2 == s))) = true then { m4 T n s with seen := S3, answer := some false } else m5 T n s) := rfl
  rw [e, if_neg (by simp)]
theorem fin_is {T : Array Nat} {n s : Nat} (h : s + 1 < n) (he : (T.getD s 0 == 92) = true) (hx : (T.getD (s + 1) 0 != 10) = true) :
    ∃ F : M, (ms T n s).runFor 7 = F ∧ F.outcome = some .matched ∧ F.marks = #[some (s + 1), some (s + 2)] ∧ F.lastmark = 1 ∧ F.start = s ∧ F.handed = s + 2 ∧ F.lastindex = 1 := by
  refine ⟨_, rfl, ?_⟩
  rw [runFor_succ rfl, s1 (by omega) he, runFor_succ rfl, s2, runFor_succ rfl, s3 h hx, runFor_succ rfl, s4, runFor_succ rfl, s5]
  exact ⟨rfl, rfl, rfl, rfl, rfl, rfl⟩
theorem search_is {T : Array Nat} {n s : Nat} (hn : s + 1 < n) (hne : ∀ i, i < s → (T.getD i 0 == 92) = false) (he : (T.getD s 0 == 92) = true) (hx : (T.getD (s + 1) 0 != 10) = true) :
    ∃ F : M, (forSearch C T 1 0 n false).runFor (2 * s + 7) = F ∧ F.outcome = some .matched ∧ F.marks = #[some (s + 1), some (s + 2)] ∧ F.lastmark = 1 ∧ F.start = s ∧ F.handed = s + 2 ∧ F.lastindex = 1 := by
  rw [start_is (by omega), runFor_add, turns s 0 (by omega) (fun i hi => by simpa using hne i hi), Nat.zero_add]
  exact fin_is hn he hx
end Mine.RE
end
-- part R2
section
open PySem PySem.W PySem.Spec PySem.Calls PyProof.Rows
open PySem.Sre PySem.Builtin.Re
set_option maxRecDepth 100000
namespace Mine.RE
theorem drive {M₀ : Model} {A : Around} {E : Value → Shared → Prop} {s : Shared} {Q : M → Shared → Prop} : ∀ (turns N : Nat) (m : M), N ≤ 4 * turns → 0 < turns → (m.runFor N).outcome.isSome = true → Q (m.runFor N) s → wpAny M₀ A (reDrive turns m) Q E s
  | 0, _, _, _, h, _, _ => absurd h (Nat.lt_irrefl _)
  | turns + 1, N, m, hN, _, ho, hQ => by
    unfold reDrive
    show wpAny M₀ A (if (m.runFor reTurnSteps).outcome.isSome = true then pure (m.runFor reTurnSteps) else (do rule "sre.turn"; reDrive turns (m.runFor reTurnSteps))) Q E s
    by_cases h4 : N ≤ 4
    · have e : m.runFor reTurnSteps = m.runFor N := by
        show m.runFor 4 = _
        rw [show (4 : Nat) = N + (4 - N) by omega, runFor_add, runFor_halted _ _ ho]
      rw [e, if_pos ho]
      exact wpAny_pure hQ
    · have e : m.runFor N = (m.runFor 4).runFor (N - 4) := by rw [← runFor_add]; congr 1; omega
      by_cases hd : (m.runFor reTurnSteps).outcome.isSome = true
      · rw [if_pos hd]
        have e2 : m.runFor N = m.runFor reTurnSteps := by rw [e]; exact runFor_halted _ _ hd
        rw [e2] at hQ
        exact wpAny_pure hQ
      · rw [if_neg hd]
        refine wpAny_bind (wpAny_rule ?_)
        rw [e] at ho hQ
        exact drive turns (N - 4) _ (by omega) (by omega) ho hQ

theorem rules {M₀ : Model} {A : Around} {E : Value → Shared → Prop} {s : Shared} {Q : PUnit → Shared → Prop} {p : Nat → Bool} {g : Nat → String} : ∀ (l : List Nat), Q ⟨⟩ s →
    wpAny M₀ A (forIn l PUnit.unit fun i (_ : PUnit) => (if p i = true then (rule (g i) >>= fun _ => pure (ForInStep.yield PUnit.unit)) else pure (ForInStep.yield PUnit.unit) : Sem (ForInStep PUnit))) Q E s
  | [], h => wpAny_pure h
  | i :: l, h => by
    rw [List.forIn_cons]
    refine wpAny_bind ?_
    by_cases hp : p i = true
    · rw [if_pos hp]; exact wpAny_bind (wpAny_rule (wpAny_pure (rules l h)))
    · rw [if_neg hp]; exact wpAny_pure (rules l h)

theorem search_wp {prog : Program} {w : World} {A : Around} {E : Value → Shared → Prop} {s : Shared} {Q : Value → Shared → Prop} {x : Str} {t : Tok} {u1 u2 : Tok}
    (hp : s.heap.get? 43 = some { cls := .type "re.Pattern", data := .fields #[.str (Str.ofString "\\\\(.)") u1, .int 32 u2, .int 1 0, .none, .none, .ref 42, .int 0 0] })
    (hc : s.heap.get? 42 = some { cls := .type "tuple", data := .seq #[.int 14 0, .int 8 0, .int 1 0, .int 2 0, .int 2 0, .int 1 0, .int 1 0, .int 92 0, .int 0 0, .int 16 0, .int 92 0, .int 17 0, .int 0 0, .int 2 0, .int 17 0, .int 1 0, .int 1 0] })
    {n : Nat} (hn : n + 1 < x.cps.size) (hz : x.cps.size < 1000000) (hne : ∀ i, i < n → (x.cps.getD i 0 == 92) = false) (he : (x.cps.getD n 0 == 92) = true) (hx : (x.cps.getD (n + 1) 0 != 10) = true)
    (hQ : Q (.ref (s.heap.objs.size + 1)) { s with heap := (s.heap.push { cls := .type "tuple", data := .seq #[rawInt n, rawInt (n + 2 : Nat), rawInt (n + 1 : Nat), rawInt (n + 2 : Nat)] }).push { cls := .type "re.Match", data := .fields #[.str x t, .ref 43, rawInt 0, rawInt x.cps.size, rawInt 1, .ref s.heap.objs.size] } }) :
    wpAny (model prog w) A (call (.builtin "re.Pattern.search") [.ref 43, .str x t]) Q E s := by
  have hT : s.TypeIs (.ref 43) "re.Pattern" := ⟨_, hp, rfl⟩
  refine wpAny_call_entry RF.slot_search hT RF.entry_search ?_ (RF.args_search _ _)
  unfold Builtin.«re.Pattern.search» reTarget
  refine wpAny_bind ?_
  refine wpAny_bind ?_
  have e1 : reNamed "re.Pattern.search" "search" ["string", "pos", "endpos"] 1 [.str x t] [] = pure [some (.str x t), none, none] := by with_unfolding_all rfl
  rw [e1]
  refine wpAny_pure ?_
  dsimp only
  refine wpAny_bind (wpAny_pure ?_)
  refine wpAny_bind (wpAny_pure ?_)
  unfold fieldsOf
  refine wpAny_bind (wpAny_bind (wpAny_load hp (wpAny_pure ?_)))
  have e2 : reTextOf (.str x t) = pure (x.cps, 0) := by with_unfolding_all rfl
  rw [e2]
  refine wpAny_bind (wpAny_pure ?_)
  dsimp only
  have e3 : reNoCollectionInside (.str x t) 0 = pure () := by with_unfolding_all rfl
  show wpAny _ _ (reNoCollectionInside (.str x t) 0 >>= _) _ _ _
  rw [e3]
  refine wpAny_bind (wpAny_pure ?_)
  show wpAny _ _ (reRawItems (.ref 42) >>= _) _ _ _
  unfold reRawItems
  refine wpAny_bind (wpAny_bind (wpAny_seqItems hc rfl (wpAny_pure (wpAny_pure ?_))))
  dsimp only
  have hl : min (2 ^ 63 - 1 : Int).toNat x.cps.size = x.cps.size := by omega
  have hl0 : min (Int.toNat 0) x.cps.size = 0 := by simp
  rw [hl, hl0]
  have ec : Array.map (fun x => x.toNat) (Array.map reRawOf ((some (#[.int 14 0, .int 8 0, .int 1 0, .int 2 0, .int 2 0, .int 1 0, .int 1 0, .int 92 0, .int 0 0, .int 16 0, .int 92 0, .int 17 0, .int 0 0, .int 2 0, .int 17 0, .int 1 0, .int 1 0] : Array Value)).getD #[])) = C := by decide +kernel
  rw [ec]
  show wpAny _ _ (reAnswer { pattern := .ref 43, string := .str x t, code := C, text := x.cps, kind := 0, groups := 1, pos := 0, lim := x.cps.size } (forSearch C x.cps 1 0 x.cps.size false)) _ _ _
  obtain ⟨F, hF, f1, f2, f3, f4, f5, f6⟩ := search_is hn hne he hx
  unfold reAnswer reRunToEnd
  refine wpAny_bind (wpAny_bind (drive _ (2 * n + 7) _ (by omega) (by omega) (by rw [hF, f1]; rfl) ?_))
  rw [hF]
  refine wpAny_bind (rules _ ?_)
  rw [f1]
  refine wpAny_pure ?_
  dsimp only
  unfold reNewMatch
  have e0 : F.marks.getD (2 * 0) none = some (n + 1) := by rw [f2]; rfl
  have e1' : F.marks.getD (2 * 0 + 1) none = some (n + 2) := by rw [f2]; rfl
  refine wpAny_bind ?_
  simp only [List.range_succ, List.range_zero, List.nil_append, List.any_cons, List.any_nil, List.flatMap_cons, List.flatMap_nil, e0, e1', f3]
  rw [if_neg (by simp)]
  rw [f4, f5, f6]
  refine wpAny_bind (PySem.wpAny_newTuple ?_ (by show (4 : Nat) ≤ sizeLine; decide))
  refine PySem.wpAny_newObj_type ?_ (by size_fits)
  refine wpAny_pure ⟨_, rfl, ?_⟩
  have e9 : (s.heap.push { cls := .type "tuple", data := .seq #[rawInt n, rawInt (n + 2 : Nat), rawInt (n + 1 : Nat), rawInt (n + 2 : Nat)] }).objs.size = s.heap.objs.size + 1 := by simp [Heap.push]
  rw [← e9] at hQ
  exact hQ
end Mine.RE
end
-- part R4
section
open PySem PySem.W PySem.Spec PySem.Calls PyProof.Rows
open PySem.Sre PySem.Builtin.Re
set_option maxRecDepth 100000
namespace Mine.RE
theorem span_wp {prog : Program} {w : World} {A : Around} {E : Value → Shared → Prop} {s : Shared} {Q : Value → Shared → Prop} {a : Addr} {f0 f1 f2 f3 f4 : Value} {ta : Addr} {n e : Int} {w1 w2 : Value} {d1 : Option Addr} {d2 : Option Addr} {l1 l2 : Array (Option Value)} {t0 : Tok}
    (hp : s.heap.get? a = some ⟨.type "re.Match", d1, .fields #[f0, f1, f2, f3, f4, .ref ta], l1⟩)
    (hc : s.heap.get? ta = some ⟨.type "tuple", d2, .seq #[rawInt n, rawInt e, w1, w2], l2⟩)
    (hQ : ∀ i j : Tok, Q (.ref s.heap.objs.size) { s with heap := s.heap.push { cls := .type "tuple", data := .seq #[.int n i, .int e j] }, toks := s.toks + 2 }) :
    wpAny (model prog w) A (call (.builtin "re.Match.span") [.ref a, .int 0 t0]) Q E s := by
  have hT : s.TypeIs (.ref a) "re.Match" := ⟨_, hp, rfl⟩
  refine wpAny_call_entry RF.slot_span hT RF.entry_span ?_ (RF.args_span _ _)
  unfold Builtin.«re.Match.span» reOneGroup
  refine wpAny_bind ?_
  refine wpAny_bind ?_
  have e1 : selfAndSome "Match.span" "span" 0 1 ⟨[.ref a, .int 0 t0], []⟩ = pure (.ref a, [.int 0 t0]) := by with_unfolding_all rfl
  rw [e1]
  refine wpAny_pure ?_
  dsimp only
  unfold reFound fieldsOf
  refine wpAny_bind (wpAny_bind (wpAny_bind (wpAny_load hp (wpAny_pure ?_))))
  show wpAny _ _ (reRawItems (.ref ta) >>= _) _ _ _
  unfold reRawItems
  refine wpAny_bind (wpAny_bind (wpAny_seqItems hc rfl (wpAny_pure (wpAny_pure ?_))))
  refine wpAny_bind ?_
  have ea : asIndex (.int 0 t0) = pure 0 := by with_unfolding_all rfl
  unfold reGroupNumber
  have esp : Array.map reRawOf ((some #[rawInt n, rawInt e, w1, w2]).getD #[]) = #[n, e, reRawOf w1, reRawOf w2] := by simp [reRawOf, rawInt]
  rw [esp]
  refine wpAny_bind (wpAny_bind (wpAny_pure ?_))
  refine wpAny_pure ?_
  show wpAny _ _ (asIndex (.int 0 t0) >>= _) _ _ _
  rw [ea]
  refine wpAny_bind (wpAny_pure ?_)
  dsimp only
  rw [if_neg (by simp)]
  refine wpAny_pure (wpAny_pure ?_)
  refine wpAny_bind (wpAny_mkInt ?_)
  refine wpAny_bind (wpAny_mkInt ?_)
  refine wpAny_bind (PySem.wpAny_newTuple ?_ (by show (2 : Nat) ≤ sizeLine; decide))
  refine wpAny_pure ⟨_, rfl, ?_⟩
  exact hQ _ _
end Mine.RE
end
-- part CB
section
open PySem PySem.W PySem.Spec PySem.Calls PyProof.Rows
set_option maxRecDepth 100000
namespace Mine
section
variable {prog : Program} {w : World} {A : Around} {s : Shared} {h₀ : Heap} {L : Addr} {m : Str → Option Value} {env : Env}
theorem compT_ind {ct elt : Expr} {x : Str} {scope : Scope} {cl : List (Str × Addr)} {S : List (Addr × Obj) → Prop} {P : Nat → Value → Prop} {Fin : List Value → List (Addr × Obj) → Prop} {n : Nat} {news : List (Addr × Obj)} (J : Nat → List Value → Prop)
    (j0 : J 0 [])
    (turn : ∀ i ys v I oI C oC D m₂ h tk (E' : Value → Shared → Prop), i < n → J i ys → P i v → LCg.NsObj oC m₂ → m₂ x = some v → Fr h₀ L h m → News h₀ L h ((I, oI) :: (C, oC) :: (D, LCg.lst ys) :: news) → LCg.Off3 I C D news → ((@Ne Nat I C) ∧ (@Ne Nat I D) ∧ (@Ne Nat C D)) →
      wpAny (model prog w) A (isTrue ct (compEnvC scope cl C env) (eval ct (compEnvC scope cl C env))) (fun ok s' => if ok = true then
        wpAny (model prog w) A (eval elt (compEnvC scope cl C env)) (LCg.CompEnd h₀ L m { s with heap := h, toks := tk } I oI C oC D (LCg.lst ys) S (fun y news' => news' = news ∧ J (i + 1) (ys ++ [y]))) E' s'
        else LCg.CompEnd h₀ L m { s with heap := h, toks := tk } I oI C oC D (LCg.lst ys) S (fun _ news' => news' = news ∧ J (i + 1) ys) Value.none s') E' { s with heap := h, toks := tk })
    (fin : ∀ ys, J n ys → Fin ys news) : LCt.CompRestT prog w A h₀ L m env ct elt x scope cl s S P Fin n 0 [] news := by
  have go : ∀ k i ys, i + k = n → J i ys → LCt.CompRestT prog w A h₀ L m env ct elt x scope cl s S P Fin k i ys news := by
    intro k
    induction k with
    | zero => rintro i ys rfl hj; exact fin ys hj
    | succ k ih =>
      intro i ys hk hj
      refine LCt.CompRestT.succ ?_
      intro v I oI C oC D m₂ h tk E' hv hC hx F N off ne
      refine wpAny_mono (turn i ys v I oI C oC D m₂ h tk E' (by omega) hj hv hC hx F N off ne) (fun ok s' q => ?_) fun _ _ e => e
      cases ok with
      | true =>
        simp only [if_true] at q ⊢
        refine wpAny_mono q (fun y s'' q' => ?_) fun _ _ e => e
        obtain ⟨h', tk', news', e, F', N', off', hS, rfl, hj'⟩ := q'
        exact ⟨h', tk', _, e, F', N', off', hS, ih (i + 1) _ (by omega) hj'⟩
      | false =>
        simp only [Bool.false_eq_true, if_false] at q ⊢
        obtain ⟨h', tk', news', e, F', N', off', hS, rfl, hj'⟩ := q
        exact ⟨h', tk', _, e, F', N', off', hS, ih (i + 1) _ (by omega) hj'⟩
  exact go n 0 [] (by omega) j0
theorem compU_ind {elt : Expr} {x : Str} {scope : Scope} {cl : List (Str × Addr)} {S : List (Addr × Obj) → Prop} {P : Nat → Value → Prop} {Fin : List Value → List (Addr × Obj) → Prop} {n : Nat} {news : List (Addr × Obj)} (J : Nat → List Value → Prop)
    (j0 : J 0 [])
    (turn : ∀ i ys v I oI C oC D m₂ h tk (E' : Value → Shared → Prop), i < n → J i ys → P i v → LCg.NsObj oC m₂ → m₂ x = some v → Fr h₀ L h m → News h₀ L h ((I, oI) :: (C, oC) :: (D, LCg.lst ys) :: news) → LCg.Off3 I C D news → ((@Ne Nat I C) ∧ (@Ne Nat I D) ∧ (@Ne Nat C D)) →
      wpAny (model prog w) A (eval elt (compEnvC scope cl C env)) (LCg.CompEnd h₀ L m { s with heap := h, toks := tk } I oI C oC D (LCg.lst ys) S (fun y news' => news' = news ∧ J (i + 1) (ys ++ [y]))) E' { s with heap := h, toks := tk })
    (fin : ∀ ys, J n ys → Fin ys news) : LCg.CompRest prog w A h₀ L m env elt x scope cl s S P Fin n 0 [] news := by
  have go : ∀ k i ys, i + k = n → J i ys → LCg.CompRest prog w A h₀ L m env elt x scope cl s S P Fin k i ys news := by
    intro k
    induction k with
    | zero => rintro i ys rfl hj; exact fin ys hj
    | succ k ih =>
      intro i ys hk hj
      refine LCg.CompRest.succ ?_
      intro v I oI C oC D m₂ h tk E' hv hC hx F N off ne
      refine wpAny_mono (turn i ys v I oI C oC D m₂ h tk E' (by omega) hj hv hC hx F N off ne) (fun y s' q => ?_) fun _ _ e => e
      obtain ⟨h', tk', news', e, F', N', off', hS, rfl, hj'⟩ := q
      exact ⟨h', tk', _, e, F', N', off', hS, ih (i + 1) _ (by omega) hj'⟩
  exact go n 0 [] (by omega) j0
end
end Mine
end
-- part DB
section
open PySem PySem.W PySem.Spec PySem.Calls PyProof.Rows
set_option maxRecDepth 100000
namespace Mine
structure TurnNext (h₀ : Heap) (L I : Addr) (J : (Str → Option Value) → List (Addr × Obj) → Prop) (own : List (Addr × Obj)) (s₁ : Shared) (f : Flow) (s₂ : Shared) : Prop where
  out : f = .next ∧ ∃ h' tk m' nx, s₂ = { s₁ with heap := h', toks := tk } ∧ Fr h₀ L h' m' ∧ News h₀ L h' (nx ++ own) ∧ (∀ p ∈ nx, p.1 ≠ I) ∧ J m' nx
theorem TurnNext.next {h₀ : Heap} {L I : Addr} {J : (Str → Option Value) → List (Addr × Obj) → Prop} {own : List (Addr × Obj)} {s₁ : Shared} {h' : Heap} {tk : Nat} {m' : Str → Option Value} {nx : List (Addr × Obj)} (F : Fr h₀ L h' m') (N : News h₀ L h' (nx ++ own)) (hn : ∀ p ∈ nx, p.1 ≠ I) (hj : J m' nx) :
    TurnNext h₀ L I J own s₁ .next { s₁ with heap := h', toks := tk } := ⟨rfl, h', tk, m', nx, rfl, F, N, hn, hj⟩
section
variable {prog : Program} {w : World} {A : Around} {s : Shared} {env : Env} {h₀ : Heap} {xk xv : Str} {body : List Stmt} {Q : Flow → Shared → Prop} {K : Type} [DecidableEq K] {knd : KeyKind prog w K}
theorem iter_items {vw d : Addr} {kvs : List (K × Value)} {ep : Nat} {m₀ : Str → Option Value} {news : List (Addr × Obj)} (J : Nat → (Str → Option Value) → List (Addr × Obj) → Prop)
    (hh : A.handled = none) (hxk : env.kindOf xk = some .local) (hxv : env.kindOf xv = some .local)
    (hp : (env.scope.kind == .class || (env.scope.kind == .module && env.locals != env.globals)) = false)
    (hv : s.heap.IsItemsView vw d) (hm : h₀.DictAt knd d kvs ep) (F : Fr h₀ env.locals s.heap m₀) (N : News h₀ env.locals s.heap news) (hj : J 0 m₀ news)
    (turn : ∀ I i k key v m₁ nx (s₁ : Shared) own, kvs[i]? = some (k, v) → knd.is k key = true → J i m₁ nx → (∀ p ∈ nx, p.1 ≠ I) → OwnOff own (nx.map (·.1)) →
      Fr h₀ env.locals s₁.heap (fun y => if y = xv then some v else if y = xk then some key else m₁ y) → News h₀ env.locals s₁.heap (nx ++ own) →
      wpAny (model prog w) A (execs body env) (TurnNext h₀ env.locals I (J (i + 1)) own s₁) (fun _ _ => False) s₁)
    (done : ∀ m₁ nx h tk, J kvs.length m₁ nx → Fr h₀ env.locals h m₁ → News h₀ env.locals h nx → Q .next { s with heap := h, toks := tk }) :
    wpAny (model prog w) A (pyIter (.ref vw)) (fun it s₂ => PairLoopAt prog w A h₀ env xk xv body Q (fun _ _ => False) it s₂) (fun _ _ => False) s := by
  have hms : s.heap.DictAt knd d kvs ep := hm.keep F.keep
  have hlt : d < h₀.objs.size := hm.lt_size
  have hne : d ≠ s.heap.objs.size := Nat.ne_of_lt hms.lt_size
  have hdL : d ≠ env.locals := fun e => by
    have h1 : env.locals < h₀.objs.size := e ▸ hlt
    have h2 := F.above
    exact absurd (Nat.lt_of_lt_of_le h1 h2) (Nat.lt_irrefl _)
  obtain ⟨od, _, hod, _⟩ := id hm
  refine wpAny_pyIter_items (knd := knd) (d := d) (kvs := kvs) (ep := ep) hv hms ?_
  intro pk pv pt x1
  have hin : h₀.get? s.heap.objs.size = none := next_is_new F
  refine codeAny_forLoop_items_frU (knd := knd) (h₀ := h₀) (news := news) hh hxk hxv hp (Nat.ne_of_gt F.ns.lt) hdL hne hin
    (fun p hp hI => absurd (Heap.lt_size (N p hp).1) ((List.mem_singleton.mp hI) ▸ Nat.lt_irrefl _)) (Heap.get?_push_size _ rfl) (hms.push _) (F.push _)
    (fun p hp => ⟨Heap.get?_push_of_some _ (N p hp).1, (N p hp).2⟩) J hj ?_ ?_
  · intro i k v key m₁ nx s₁ own hx hkey hJ hoff hown hat₁ F₁ N₁
    have hI : ∀ p ∈ nx, p.1 ≠ s.heap.objs.size := fun p hp e => hoff p hp (List.mem_singleton.mpr e)
    have hd0 : ∀ p ∈ own, p.1 = s.heap.objs.size := fun p hp => by
      rcases List.mem_cons.mp (hown p hp) with e | e
      · exact e
      · have h1 := (N₁ p (List.mem_append_left _ hp)).2.2
        obtain ⟨o, es, ho, _⟩ := id hm
        rw [List.mem_singleton.mp e, ho] at h1
        cases h1
    have hsep : OwnOff own (nx.map (·.1)) := by
      intro p hp b hb e
      obtain ⟨q, hq, rfl⟩ := List.mem_map.mp hb
      exact hI q hq (e ▸ hd0 p hp)
    have N₂ : News h₀ env.locals s₁.heap (nx ++ own) := fun p hp => N₁ p ((List.mem_append.mp hp).elim (fun h => List.mem_append.mpr (.inr h)) fun h => List.mem_append.mpr (.inl h))
    refine wpAny_mono (turn _ i k key v m₁ nx s₁ own hx hkey hJ hI hsep F₁ N₂) (fun f s₂ p => ?_) fun _ _ e => e.elim
    have q := p.out
    obtain ⟨rfl, h', tk, m', nx, e, F', N', hn, hj⟩ := q
    exact ⟨rfl, h', tk, m', nx, e, F', fun p hp => N' p ((List.mem_append.mp hp).elim (fun h => List.mem_append.mpr (.inr h)) fun h => List.mem_append.mpr (.inl h)), fun p hp hq => hn p hp (List.mem_singleton.mp hq), hj⟩
  · intro h' tk m' nx F' N' _ hJ
    exact done m' nx h' tk hJ F' N'
end
def putP (ps : List (List Nat × Int)) (k : List Nat) (v : Int) : List (List Nat × Int) :=
  if ps.any (fun p => p.1 = k) then ps.map (fun p => if p.1 = k then (p.1, v) else p) else ps ++ [(k, v)]
def getP (ps : List (List Nat × Int)) (k : List Nat) : Option Int := (ps.find? fun p => p.1 = k).map (·.2)
def bumpP (ps : List (List Nat × Int)) (p : List Nat × Int) : List (List Nat × Int) := match getP ps p.1 with
  | some x => putP ps p.1 (x + p.2)
  | none => putP ps p.1 p.2
def addP (t s : List (List Nat × Int)) : List (List Nat × Int) := s.foldl bumpP (t.foldl (fun acc p => putP acc p.1 p.2) [])
inductive PairsAre : List (Str × Value) → List (List Nat × Int) → Prop
  | nil : PairsAre [] []
  | cons {v : List (Str × Value)} {n : List (List Nat × Int)} (k : List Nat) (c : Int) (t : Tok) : PairsAre v n → PairsAre ((S k, .int c t) :: v) ((k, c) :: n)
theorem PairsAre.length : ∀ {v : List (Str × Value)} {n : List (List Nat × Int)}, PairsAre v n → v.length = n.length
  | _, _, .nil => rfl
  | _, _, .cons _ _ _ h => by simp [h.length]
theorem PairsAre.snoc : ∀ {v : List (Str × Value)} {n : List (List Nat × Int)} {k : List Nat} {c : Int} {t : Tok}, PairsAre v n → PairsAre (v ++ [(S k, .int c t)]) (n ++ [(k, c)])
  | _, _, _, _, _, .nil => .cons _ _ _ .nil
  | _, _, _, _, _, .cons _ _ _ h => .cons _ _ _ h.snoc
theorem PairsAre.any : ∀ {v : List (Str × Value)} {n : List (List Nat × Int)} {k : List Nat}, PairsAre v n → v.any (fun p => p.1 = S k) = n.any (fun p => p.1 = k)
  | _, _, _, .nil => rfl
  | _, _, k, .cons a _ _ h => by simp [h.any, S_inj]
theorem PairsAre.set : ∀ {v : List (Str × Value)} {n : List (List Nat × Int)} {k : List Nat} {c : Int} {t : Tok}, PairsAre v n →
    PairsAre (v.map (fun kv => if kv.1 = S k then (kv.1, .int c t) else kv)) (n.map (fun p => if p.1 = k then (p.1, c) else p))
  | _, _, _, _, _, .nil => .nil
  | _, _, k, c, t, .cons a b u h => by
    simp only [List.map_cons, S_inj]
    by_cases e : a = k
    · simp only [e, if_true]; exact .cons _ _ _ h.set
    · simp only [e, if_false]; exact .cons _ _ _ h.set
theorem PairsAre.put {v : List (Str × Value)} {n : List (List Nat × Int)} {k : List Nat} {c : Int} {t : Tok} (h : PairsAre v n) : PairsAre (stored v (S k) (.int c t)) (putP n k c) := by
  unfold stored putP
  rw [h.any]
  split
  · exact h.set
  · exact h.snoc
theorem PairsAre.get : ∀ {v : List (Str × Value)} {n : List (List Nat × Int)} {k : List Nat}, PairsAre v n →
    (match getP n k with | some x => ∃ t, valueAt v (S k) = some (.int x t) | none => valueAt v (S k) = none)
  | _, _, _, .nil => rfl
  | _, _, k, .cons (v := v) (n := n) a b u h => by
    by_cases e : a = k
    · simp [getP, valueAt, e]
    · have e1 : getP ((a, b) :: n) k = getP n k := by simp [getP, e]
      have e2 : valueAt ((S a, .int b u) :: v) (S k) = valueAt v (S k) := by simp [valueAt, S_inj, e]
      rw [e1, e2]
      exact h.get
theorem PairsAre.at : ∀ {v : List (Str × Value)} {n : List (List Nat × Int)} {i : Nat} {k : Str} {x : Value}, PairsAre v n → v[i]? = some (k, x) → ∃ a b t, k = S a ∧ x = .int b t ∧ n[i]? = some (a, b)
  | _, _, i, _, _, .nil, h => by simp at h
  | _, _, 0, k, x, .cons a b u h, e => by
    simp at e
    exact ⟨a, b, u, e.1.symm, e.2.symm, rfl⟩
  | _, _, i + 1, k, x, .cons a b u h, e => by simpa using h.at (by simpa using e)
theorem PairsAre.values : ∀ {v : List (Str × Value)} {n : List (List Nat × Int)}, PairsAre v n → IntsAre (v.map (·.2)) (n.map (·.2))
  | _, _, .nil => .nil
  | _, _, .cons _ _ _ h => .cons _ _ h.values
structure IsBook (w : World) (h : Heap) (d : Addr) (ps : List (List Nat × Int)) : Prop where
  low : (d == sysModules) = false
  ex : ∃ ep kvs, h.DictAt (strKind PG w) d kvs ep ∧ PairsAre kvs ps
theorem IsBook.grow {w : World} {h h' : Heap} {d : Addr} {ps : List (List Nat × Int)} (b : IsBook w h d ps) (g : Grows h h') : IsBook w h' d ps :=
  let ⟨ep, kvs, h1, h2⟩ := b.ex
  ⟨b.low, ep, kvs, h1.keep g, h2⟩
theorem IsBook.ofNews {w : World} {h₀ h : Heap} {L d : Addr} {news : List (Addr × Obj)} {o : Obj} {kvs : List (Str × Value)} {ps : List (List Nat × Int)} (N : News h₀ L h news) (hm : (d, o) ∈ news) (hd : o.IsDictOf (strKind PG w) kvs) (low : (d == sysModules) = false) (hp : PairsAre kvs ps) : IsBook w h d ps :=
  let ⟨ep, x⟩ := (Heap.dictOf_iff.mpr ⟨o, (N _ hm).1, hd⟩ : h.DictOf (strKind PG w) d kvs).dictAt
  ⟨low, ep, kvs, x, hp⟩
theorem putP_len (ps : List (List Nat × Int)) (k : List Nat) (v : Int) : (putP ps k v).length ≤ ps.length + 1 := by
  unfold putP; split <;> simp
theorem bumpP_len (ps : List (List Nat × Int)) (p : List Nat × Int) : (bumpP ps p).length ≤ ps.length + 1 := by
  unfold bumpP; split <;> exact putP_len _ _ _
theorem foldl_len {f : List (List Nat × Int) → List Nat × Int → List (List Nat × Int)} (hf : ∀ a p, (f a p).length ≤ a.length + 1) : ∀ (l : List (List Nat × Int)) (a), (l.foldl f a).length ≤ a.length + l.length
  | [], a => Nat.le_refl _
  | p :: l, a => by
    have h1 := foldl_len hf l (f a p)
    have h2 := hf a p
    simp only [List.foldl_cons, List.length_cons]
    omega
section
variable {prog : Program} {w : World} {A : Around} {E : Value → Shared → Prop} {s : Shared} {h₀ : Heap} {L d : Addr} {m : Str → Option Value} {news : List (Addr × Obj)} {ps : List (List Nat × Int)}
theorem bk_method {name : Str} {id : String} {pl : Sem Bool} {Q : Value × List Value → Shared → Prop} (F : Fr h₀ L s.heap m) (b : IsBook w h₀ d ps) (slot : Slot "dict" name id) (hty : typeOf (.builtin id) = pure (.type "method_descriptor"))
    (h : Q (.builtin id, [.ref d]) s) : wpAny (model PG w) A (getMethod (.ref d) name pl) Q E s := by
  obtain ⟨ep, kvs, h1, _⟩ := (b.grow F.keep).ex
  exact getMethod_builtin h1.dictOf.typeIs PySem.F.plainAttrs_dict slot hty h1.dictOf.mapOf.noDict h
theorem bk_items {Q : Value → Shared → Prop} (F : Fr h₀ L s.heap m) (N : News h₀ L s.heap news) (b : IsBook w h₀ d ps)
    (h : ∀ (V : Addr) h', h'.IsItemsView V d → Fr h₀ L h' m → News h₀ L h' news → Q (.ref V) { s with heap := h' }) :
    wpAny (model PG w) A (call (.builtin "dict.items") [.ref d]) Q E s := by
  obtain ⟨ep, kvs, h1, _⟩ := (b.grow F.keep).ex
  exact call_meetsIn PySem.F.slot_dict_items h1.dictOf.typeIs PySem.F.entry_dict_items (PySem.F.args_dict_items_1 _) (meets_dict_items (strKind PG w) d b.low) ⟨⟨kvs, h1.dictOf⟩, h _ _ ⟨_, Heap.get?_push_size _ rfl, rfl, rfl⟩ (F.push _) (N.pushKeep _)⟩
theorem bk_values {Q : Value → Shared → Prop} (F : Fr h₀ L s.heap m) (N : News h₀ L s.heap news) (b : IsBook w h₀ d ps)
    (h : ∀ (V : Addr) h', h'.IsValuesView V d → Fr h₀ L h' m → News h₀ L h' news → Q (.ref V) { s with heap := h' }) :
    wpAny (model PG w) A (call (.builtin "dict.values") [.ref d]) Q E s := by
  obtain ⟨ep, kvs, h1, _⟩ := (b.grow F.keep).ex
  exact call_meetsIn PySem.F.slot_dict_values h1.dictOf.typeIs PySem.F.entry_dict_values (PySem.F.args_dict_values_1 _) (meets_dict_values (strKind PG w) d b.low) ⟨⟨kvs, h1.dictOf⟩, h _ _ ⟨_, Heap.get?_push_size _ rfl, rfl, rfl⟩ (F.push _) (N.pushKeep _)⟩
theorem bk_item {value slice : PySem.Expr} {k : List Nat} {c : Int} {t : Tok} {Q : Value → Shared → Prop} (F : Fr h₀ L s.heap m) (b : IsBook w h₀ d ps) (hg : getP ps k = some c)
    (h : ∀ t', Q (.int c t') { s with toks := s.toks + 1 })
    (hs : subscripted slice false (.ref d) (.str (S k) t) = operate [.ref d, .str (S k) t] (getItem (.ref d) (.str (S k) t))) (hg' : ∀ r, letTemporaryGo value (.ref d) r = pure ()) :
    wpAny (model PG w) A (subscriptTail value slice (.ref d) (.str (S k) t)) Q E s := by
  obtain ⟨ep, kvs, h1, h2⟩ := (b.grow F.keep).ex
  have h3 := h2.get (k := k)
  rw [hg] at h3
  obtain ⟨t', h3⟩ := h3
  exact subscriptTail_builtin h1.dictOf.typeIs slot_dict_getitem.lookup (wpAny_getItem_of (strKind_is _ _ _ _) h1.dictOf.mapOf h3 (h t')) hs hg'
end
end Mine
end
-- part RB
section
open PySem PySem.W PySem.Spec PySem.Calls PyProof.Rows
set_option maxRecDepth 100000
namespace Mine
section
variable {prog : Program} {w : World} {A : Around} {E : Value → Shared → Prop} {s : Shared} {env : Env} {h₀ : Heap} {L : Addr} {m : Str → Option Value} {body : List Stmt} {Q : Flow → Shared → Prop} {K : Type} [DecidableEq K] {knd : KeyKind prog w K}
theorem forT_range {tx : Str} {tp : Pos} {r : Addr} {a b c : Int} {t u v : Tok} {n : Nat} {m₀ : Str → Option Value} {news : List (Addr × Obj)} (J : Nat → (Str → Option Value) → List (Addr × Obj) → Prop)
    (hh : A.handled = none) (hr : IsRange s.heap r a b c t u v) (hsmall : Builtin.Range.small a b c = true) (hn : Builtin.Range.rangeSize a b c = (n : Int)) (F : Fr h₀ env.locals s.heap m₀) (N : News h₀ env.locals s.heap news) (hj : J 0 m₀ news)
    (turn : ∀ I i t m₁ nx (s₁ : Shared) own, i < n → J i m₁ nx → (∀ p ∈ nx, p.1 ≠ I) → (∀ p ∈ own, p.1 = I) → (∃ o, (I, o) ∈ own) → OwnOff own (nx.map (·.1)) → Fr h₀ env.locals s₁.heap m₁ → News h₀ env.locals s₁.heap (nx ++ own) →
      wpAny (model prog w) A (storeName env tx (.int (a + (i : Int) * c) t)) (fun _ s₂ => wpAny (model prog w) A (execs body env) (TurnNext h₀ env.locals I (J (i + 1)) own s₁) (fun _ _ => False) s₂) (fun _ _ => False) s₁)
    (done : ∀ m₁ nx h tk, J n m₁ nx → Fr h₀ env.locals h m₁ → News h₀ env.locals h nx → Q .next { s with heap := h, toks := tk }) :
    wpAny (model prog w) A (pyIter (.ref r)) (fun it s₂ => codeAny (model prog w) A (.forLoop (.Name tx tp) it body [] env) (fun r s' => match r with | .ok f => Q f s' | .error e => cameBackBy (model prog w) A env E e s') s₂) E s := by
  refine wpAny_pyIter_range hr hsmall ?_
  have hin : h₀.get? s.heap.objs.size = none := next_is_new F
  refine codeAny_forLoop_anyU (h₀ := h₀) (news := news) (Walks.range hh s.heap.objs.size a c n) ?_ (fun b hb => by rw [List.mem_singleton.mp hb]; exact hin)
    (fun p hp hI => absurd (Heap.lt_size (N p hp).1) ((List.mem_singleton.mp hI) ▸ Nat.lt_irrefl _)) ?_ (F.push _) (fun p hp => ⟨Heap.get?_push_of_some _ (N p hp).1, (N p hp).2⟩) (fun i s' v Q' _ hq => wpAny_pure hq) J hj ?_ ?_
  · intro hm
    exact absurd F.ns.lt ((List.mem_singleton.mp hm) ▸ Nat.lt_irrefl _)
  · show IsRangeIter _ _ _ _ _
    rw [hn]
    simpa using Heap.get?_push_size _ rfl
  · rintro i _ m₁ nx s₁ own hi ⟨t, rfl⟩ hJ hoff hown _ hall hst F₁ N₁
    have hI : ∀ p ∈ nx, p.1 ≠ s.heap.objs.size := fun p hp e => hoff p hp (List.mem_singleton.mpr e)
    have hd0 : ∀ p ∈ own, p.1 = s.heap.objs.size := fun p hp => List.mem_singleton.mp (hown p hp)
    have hsep : OwnOff own (nx.map (·.1)) := by
      intro p hp b hb e
      obtain ⟨q, hq, rfl⟩ := List.mem_map.mp hb
      exact hI q hq (e ▸ hd0 p hp)
    have N₂ : News h₀ env.locals s₁.heap (nx ++ own) := fun p hp => N₁ p ((List.mem_append.mp hp).elim (fun h => List.mem_append.mpr (.inr h)) fun h => List.mem_append.mpr (.inl h))
    refine wpAny_assign_Name (wpAny_mono (turn _ i t m₁ nx s₁ own hi hJ hI hd0 ⟨_, hall _ (List.mem_singleton.mpr rfl) hin _ hst⟩ hsep F₁ N₂) (fun _ s₂ q => wpAny_mono q (fun f s₃ p => ?_) fun _ _ e => e.elim) fun _ _ e => e.elim)
    obtain ⟨rfl, h', tk, m', nx, e, F', N', hn, hj⟩ := p.out
    exact ⟨rfl, h', tk, m', nx, e, F', fun p hp => N' p ((List.mem_append.mp hp).elim (fun h => List.mem_append.mpr (.inr h)) fun h => List.mem_append.mpr (.inl h)), fun p hp hq => hn p hp (List.mem_singleton.mp hq), hj⟩
  · intro h' tk m' nx F' N' _ hJ
    exact done m' nx h' tk hJ F' N'

theorem listComp_K {ct elt iter : Expr} {x : Str} {px : Pos} {scope : Scope} {cl : List (Str × Addr)} {pos : Pos} {Q : Value → Shared → Prop} (F₀ : Fr h₀ L s.heap m)
    (hclos : closureFor scope env = pure cl) (hcell : ∀ y ∈ scope.names, y.2 ≠ .cell) (hkind : scope.kind = .function)
    (hnames : ∀ y ∈ scope.names, y.2 = .local → scope.names.lookup y.1 = some .local) (hx : scope.names.lookup x = some .local)
    (h : wpAny (model prog w) A (eval iter env) (fun xv s₁ => Stop (∃ d o kvs news, xv = .ref d ∧ A.handled = none ∧ (d == sysModules) = false ∧ Fr h₀ L s₁.heap m ∧ News h₀ L s₁.heap news ∧ (d, o) ∈ news ∧ o.IsDictOf knd kvs ∧ kvs.length ≤ sizeLine ∧
      ∀ s₂ : Shared, (∃ h, s₂ = { s₁ with heap := h }) → LCt.CompRestT prog w A h₀ L m env ct elt x scope cl s₂ (fun nw => (d, o) ∈ nw) (fun i v => ∃ k x, kvs[i]? = some (k, x) ∧ knd.is k v = true) (LCg.FinE h₀ L m s₂ Q) kvs.length 0 [] news)) E s)
    (hs : ∀ x, foldedSetIterable iter env x = pure x := by intro _; rfl) :
    wpAny (model prog w) A (eval (.ListComp elt [⟨.Name x px, iter, [ct], 0⟩] scope pos) env) Q E s := by
  rw [eval_ListComp]
  refine wpAny_comprehension_free (use := none) rfl hs hclos hkind hnames (wpAny_mono h (fun xv s₁ h₁ => ?_) fun _ _ e => e)
  obtain ⟨d, o, kvs, news, rfl, hh, low, F, N, hm, hod, hsz, R⟩ := h₁.out
  obtain ⟨es, ep, hod'⟩ := id hod
  have hat : ∀ h : Heap, h.get? d = some o → h.DictAt knd d kvs ep := fun h e => ⟨o, es, e, hod'⟩
  have hms := hat _ (N _ hm).1
  have hlt : d < s₁.heap.objs.size := hms.lt_size
  refine wpAny_pyIter_dict low hms ?_
  refine LCt.block_T (Walks.dictKeys hh s₁.heap.objs.size d (Nat.ne_of_lt hlt) kvs ep) hsz (fun i h st => by obtain ⟨o, e, _⟩ := st.1; exact ⟨o, e⟩) (S := fun nw => (d, o) ∈ nw) ?_ hcell hkind hx ⟨⟨_, Heap.get?_push_size _ rfl, rfl, rfl⟩, hms.push _⟩ (fun b hb => ?_)
    (F.keeps fun _ _ e => Heap.get?_push_of_some _ e) (N.grown fun _ _ e => Heap.get?_push_of_some _ e) (Nat.ne_of_lt F.ns.lt) (next_is_new F) (fun p hp => Nat.ne_of_lt (Heap.lt_size (N p hp).1)) hm (R _ ⟨_, rfl⟩) ?_
  · intro i h h' o' nw st e e' k N' S'
    exact ⟨by obtain ⟨o', q, r⟩ := st.1; rw [e] at q; cases q; exact ⟨_, e', r⟩, hat _ (N' _ S').1⟩
  · show b < (s₁.heap.push _).objs.size
    rw [Heap.size_push]
    rcases List.mem_cons.mp hb with rfl | hb
    · exact Nat.lt_succ_self _
    · rw [List.mem_singleton.mp hb]; exact Nat.lt_succ_of_lt hlt
  · intro D C h tk m' ys news' F' N' o1 hn hC₀ hD₀ hCL hDL hCD offC fin
    refine ⟨m', hn, fun h'' hs'' => fin D h'' tk (F'.change hs'' hCL hC₀) (fun p hp => ?_) o1⟩
    refine ⟨hs''.extBut _ _ ?_ (N' p hp).1, (N' p hp).2⟩
    rcases List.mem_cons.mp hp with rfl | hp
    · exact Ne.symm hCD
    · exact offC p hp
end
end Mine
end
-- part LB
section
open PySem PySem.W PySem.Spec PySem.Calls PyProof.Rows
set_option maxRecDepth 100000
namespace Mine
section
variable {prog : Program} {w : World} {A : Around} {E : Value → Shared → Prop} {s : Shared} {env : Env} {h₀ : Heap} {x : Str} {body : List Stmt} {Q : Flow → Shared → Prop}
theorem iter_listN {l : Addr} {items : Array Value} {c : Nat} {m₀ : Str → Option Value} {news : List (Addr × Obj)} (J : Nat → (Str → Option Value) → List (Addr × Obj) → Prop)
    (hh : A.handled = none) (F : Fr h₀ env.locals s.heap m₀) (N : News h₀ env.locals s.heap ((l, listOf items c) :: news)) (hj : J 0 m₀ news) (hJl : ∀ i m nx, J i m nx → ∀ p ∈ nx, p.1 ≠ l)
    (turn : ∀ I i v m₁ nx h tk own, items[i]? = some v → J i m₁ nx → (∀ p ∈ nx, p.1 ≠ I) → OwnOff own (nx.map (·.1)) → Fr h₀ env.locals h (fun y => if y = x then some v else m₁ y) → News h₀ env.locals h (nx ++ own) →
      wpAny (model prog w) A (execs body env) (TurnEnd h₀ env.locals I (J (i + 1)) own { s with heap := h, toks := tk } Q) E { s with heap := h, toks := tk })
    (done : ∀ m₁ nx h tk, J items.size m₁ nx → Fr h₀ env.locals h m₁ → News h₀ env.locals h nx → Q .next { s with heap := h, toks := tk }) :
    wpAny (model prog w) A (pyIter (.ref l)) (fun it s₂ => LoopAtV prog w A h₀ env x body Q E it s₂) E s := by
  have hl := (N _ (.head _))
  have hls : s.heap.IsList l items := ⟨_, hl.1, rfl, _, rfl⟩
  have hne : l ≠ s.heap.objs.size := Nat.ne_of_lt (Heap.lt_size hl.1)
  have hI : h₀.get? s.heap.objs.size = none := next_is_new F
  have N' : News h₀ env.locals s.heap news := fun p hp => N p (.tail _ hp)
  have hnw := new_ne F N'
  refine wpAny_pyIter_list hls ?_
  refine ⟨s.heap.objs.size, [s.heap.objs.size, l], [s.heap.objs.size], items.size, fun i v => items[i]? = some v, _, m₀, news, J, rfl, Walks.list hh s.heap.objs.size l hne items, ?_, ?_, ?_,
    ⟨⟨_, Heap.get?_push_size _ rfl, rfl, rfl⟩, hls.at fun o e => Heap.get?_push_of_some _ e⟩, F.push _, (fun p hp => ⟨Heap.get?_push_of_some _ (N' p hp).1, (N' p hp).2⟩), hj, ?_, ?_⟩
  · intro hm
    rcases List.mem_cons.mp hm with e | hm
    · exact absurd F.ns.lt (e ▸ Nat.lt_irrefl _)
    · exact hl.2.1 (List.mem_singleton.mp hm).symm
  · intro b hb; rw [List.mem_singleton.mp hb]; exact hI
  · intro p hp hq; exact hnw p hp (List.mem_singleton.mp hq)
  · rintro i v m₁ news₁ s₁ own ⟨hh', tk', rfl⟩ hin hP hJ hoff hsub hat hall hst' F₁ N₁
    have hoff' : ∀ p ∈ news₁, p.1 ≠ s.heap.objs.size := fun p hp e => hoff p hp (List.mem_singleton.mpr e)
    have hsep : OwnOff own (news₁.map (·.1)) := by
      intro p hp b hb e
      obtain ⟨q, hq, rfl⟩ := List.mem_map.mp hb
      rcases List.mem_cons.mp (hsub p hp) with e2 | e2
      · exact hoff' q hq (e ▸ e2)
      · exact hJl _ _ _ hJ q hq (e ▸ List.mem_singleton.mp e2)
    have N₂ : News h₀ env.locals hh' (news₁ ++ own) := fun p hp => N₁ p ((List.mem_append.mp hp).elim (fun h => List.mem_append.mpr (.inr h)) fun h => List.mem_append.mpr (.inl h))
    refine wpAny_mono (turn _ i v m₁ news₁ hh' tk' own hP hJ hoff' hsep F₁ N₂) (fun f s₂ p => ?_) fun _ _ e => e
    have fin : (∃ h' tk m' nx, s₂ = { ({ s with heap := hh', toks := tk' } : Shared) with heap := h', toks := tk } ∧ Fr h₀ env.locals h' m' ∧ News h₀ env.locals h' (nx ++ own) ∧ (∀ p ∈ nx, p.1 ≠ s.heap.objs.size) ∧ J (i + 1) m' nx) →
        LoopStepU h₀ env.locals [s.heap.objs.size] own (J (i + 1)) { s with heap := hh', toks := tk' } .next s₂ := by
      rintro ⟨h', tk, m', nx, e, F', N', hn, hm⟩
      refine ⟨rfl, h', tk, m', nx, e, F', fun p hp => N' p ((List.mem_append.mp hp).elim (fun h => List.mem_append.mpr (.inr h)) fun h => List.mem_append.mpr (.inl h)), fun p hp hq => hn p hp (List.mem_singleton.mp hq), hm⟩
    have q := p.out
    cases f with
    | ret v => exact .ret q
    | brk => exact .brk q
    | next => exact .next (fin q)
    | cont => exact .cont (fin q)
  · rintro h' tk m' news' F' N' _ hJ
    exact done m' news' h' tk hJ F' N'
end
end Mine
end
-- part EB
section
open PySem PySem.W PySem.Spec PySem.Calls PyProof.Rows
set_option maxRecDepth 100000
namespace Mine
theorem enterCode {prog : Program} {w : World} {A : Around} {s : Shared} {K : Frag} {p : Program} {loose : List Str} {mean : ExcName → Option Value} {mg mb : Str → Option Value}
    {R : Result → Shared → Prop} {name qual : Str} {params : Arguments} {body : List Stmt} {scope : Scope} {dV kV doc pm cdv ct oc : Value} {an od : Option Addr} {osl : Array (Option Value)} {f : Addr} {vs : List Value} {binds : List (Str × Value)}
    (X : K.In s.heap) (T : Top p loose mean mg mb s.heap)
    (ho : K.lookup f = some ⟨oc, od, .func (fnX name qual params body scope [] dV kV doc pm an cdv ct), osl⟩) (hcd : codeIn K cdv qual = true) (hroom : A.depth < recursionLimit)
    (hbind : bindArgs (fnX name qual params body scope [] dV kV doc pm an cdv ct) ⟨vs, []⟩ = pure binds)
    (hkind : ∀ n, ∀ x ∈ binds, scope.names.lookup x.1 = some .local ∨ (scope.names.lookup x.1 = some .cell ∧ ((cellsFrom n scope.names []).lookup x.1).isSome = true))
    (hnd : ((cellsFrom 0 scope.names []).map (·.1)).Nodup)
    (hco : scope.isCoroutine = false) (hgen : scope.isGenerator = false) (hk : scope.kind = .function)
    (h : ∀ L h₁ tk cells, Fr s.heap L h₁ (bindL (envOfC qual scope L f cdv).kindOf binds fun _ => none) → News s.heap L h₁ cells →
      CellsAre (bindC (envOfC qual scope L f cdv).kindOf binds fun _ => none) (cellsFrom (L + 1) scope.names []) cells →
      wpAny (model prog w) (A.deeper (envX qual scope L f cdv (cellsFrom (L + 1) scope.names []))) (execs body (envX qual scope L f cdv (cellsFrom (L + 1) scope.names [])))
        (fun fl s' => R (.ok (.ret (match fl with | .ret v => v | _ => .none))) s') (fun _ _ => False)
        { s with heap := h₁, toks := tk }) :
    codeAny (model prog w) A (.call (.ref f) ⟨vs, []⟩) R s := by
  refine codeAny_call_function hroom (X _ _ ho) rfl hco hgen rfl (codeRec_of X hcd) (BindsTo.of_eq hbind _ _ _ _ ?_)
  refine wpAny_newFunctionEnv_cells hk (hkind _) fun env' he s' x => ?_
  subst he
  refine ⟨T.nolimit.keeps x.toInCall.keep, codeAny_func ?_⟩
  obtain ⟨h₁, tk, rfl, _⟩ := x.done
  obtain ⟨cells, NC, Y⟩ := Cl.news (h₀ := s.heap) (Nat.le_refl _) fun n c hm => ⟨x.cell n c (lookup_of_mem_nodup (cellsFrom_names scope.names 0 (s.heap.objs.size + 1) [] [] rfl ▸ hnd) hm), x.above n c hm⟩
  refine wpAny_mono (h s.heap.objs.size h₁ tk cells ⟨x.toInCall.ns, x.toInCall.keep, Nat.le_refl _⟩ NC Y) (fun fl s' hq => ?_) (fun _ _ hq => hq.elim)
  cases fl <;> exact hq
end Mine
end
-- part WH
section
open PySem PySem.W PySem.Spec PySem.Calls PyProof.Rows
set_option maxRecDepth 100000
namespace Mine
theorem fill_all : PySem.Challenge.rw_xp0009_01.row.prog = PySem.Challenge.rw_xp0009_01.row.prog ∧ hd.heap_39 = hd.heap_39 := by
  k_fill
  exact ⟨rfl, rfl⟩
local macro_rules | `(tactic| walk_at "exec For") => `(tactic| refine Mine.stop_in ?_)
local macro_rules | `(tactic| walk_at "exec For Name Call cons nil") => `(tactic| refine Mine.stop_in ?_)
local macro_rules | `(tactic| walk_at "exec For Name Name cons nil") => `(tactic| refine Mine.stop_in ?_)
local macro_rules | `(tactic| walk_at "exec For Name Subscript cons nil") => `(tactic| refine Mine.stop_in ?_)
local macro_rules | `(tactic| walk_at "exec For Tuple Call cons nil") => `(tactic| refine Mine.stop_in ?_)
local macro_rules | `(tactic| walk_at "exec While BoolOp") => `(tactic| refine Mine.stop_in ?_)
local macro_rules | `(tactic| walk_at "pyIter str") => `(tactic| refine Mine.stop_in ?_)
local macro_rules | `(tactic| walk_at "pyIter ref") => `(tactic| refine Mine.stop_in ?_)
local macro_rules | `(tactic| walk_at "call ref") => `(tactic| refine Mine.stop_in ?_)
local macro_rules | `(tactic| walk_at "eval ListComp") => `(tactic| refine Mine.stop_in ?_)
local macro_rules | `(tactic| walk_at "eval Name") => `(tactic| (k_here; k_dflt (refine' nameX_L ?F ?v ?_ ?a ?b; (case F => k_asm); (case a => rfl); (case b => rfl); (case v => ((repeat' (first | with_reducible exact ite_hit | ((with_reducible refine ite_ne ?h1 ?_); (case h1 => decide)))); all_goals (with_reducible assumption))); k_whole)))
local macro_rules | `(tactic| walk_at "loadName") => `(tactic| (k_here; k_dflt (refine' wpAny_loadName_local ?a ?b (Fr.ns ?F) ?v ?_; (case F => k_asm); (case a => rfl); (case b => rfl); (case v => ((repeat' (first | with_reducible exact ite_hit | ((with_reducible refine ite_ne ?h1 ?_); (case h1 => decide)))); all_goals (with_reducible assumption))); k_whole)))
-- S lines
local macro_rules | `(tactic| walk_at "subscriptTail Name Slice str ref") => `(tactic| (k_here; (with_reducible show wpAny _ _ (subscriptTail _ _ (Value.str (Mine.S _) _) (Value.ref _)) _ _ _); k_dflt (first | (refine' slS_nn ?F ?N ?z  ?_ ?s ?t; (case F => k_asm); (case N => k_asm); (case z => (first | omega | ((try simp only [List.length_take, List.length_drop, List.length_append, List.length_cons, List.length_nil]); omega) | (simp only [List.length_take, List.length_drop, List.length_append, List.length_cons, List.length_nil] at *; omega))); (case s => with_unfolding_all rfl); (case t => (intro _; with_unfolding_all rfl)); k_whole; intro h' t' k' F' N'; (try k_sweep)) | (refine' slS_ns ?F ?N ?z ?j ?_ ?s ?t; (case F => k_asm); (case N => k_asm); (case z => (first | omega | ((try simp only [List.length_take, List.length_drop, List.length_append, List.length_cons, List.length_nil]); omega) | (simp only [List.length_take, List.length_drop, List.length_append, List.length_cons, List.length_nil] at *; omega))); (case j => (first | omega | ((try simp only [List.length_take, List.length_drop, List.length_append, List.length_cons, List.length_nil]); omega) | (simp only [List.length_take, List.length_drop, List.length_append, List.length_cons, List.length_nil] at *; omega))); (case s => with_unfolding_all rfl); (case t => (intro _; with_unfolding_all rfl)); k_whole; intro h' t' k' F' N'; (try k_sweep)) | (refine' slS_ns_neg ?F ?N ?z ?j ?_ ?s ?t; (case F => k_asm); (case N => k_asm); (case z => (first | omega | ((try simp only [List.length_take, List.length_drop, List.length_append, List.length_cons, List.length_nil]); omega) | (simp only [List.length_take, List.length_drop, List.length_append, List.length_cons, List.length_nil] at *; omega))); (case j => (first | omega | ((try simp only [List.length_take, List.length_drop, List.length_append, List.length_cons, List.length_nil]); omega) | (simp only [List.length_take, List.length_drop, List.length_append, List.length_cons, List.length_nil] at *; omega))); (case s => with_unfolding_all rfl); (case t => (intro _; with_unfolding_all rfl)); k_whole; intro h' t' k' F' N'; (try k_sweep)) | (refine' slS_sn ?F ?N ?z ?j ?_ ?s ?t; (case F => k_asm); (case N => k_asm); (case z => (first | omega | ((try simp only [List.length_take, List.length_drop, List.length_append, List.length_cons, List.length_nil]); omega) | (simp only [List.length_take, List.length_drop, List.length_append, List.length_cons, List.length_nil] at *; omega))); (case j => (first | omega | ((try simp only [List.length_take, List.length_drop, List.length_append, List.length_cons, List.length_nil]); omega) | (simp only [List.length_take, List.length_drop, List.length_append, List.length_cons, List.length_nil] at *; omega))); (case s => with_unfolding_all rfl); (case t => (intro _; with_unfolding_all rfl)); k_whole; intro h' t' k' F' N'; (try k_sweep)) | (refine' slS_ss ?F ?N ?z ?j ?q ?_ ?s ?t; (case F => k_asm); (case N => k_asm); (case z => (first | omega | ((try simp only [List.length_take, List.length_drop, List.length_append, List.length_cons, List.length_nil]); omega) | (simp only [List.length_take, List.length_drop, List.length_append, List.length_cons, List.length_nil] at *; omega))); (case j => (first | omega | ((try simp only [List.length_take, List.length_drop, List.length_append, List.length_cons, List.length_nil]); omega) | (simp only [List.length_take, List.length_drop, List.length_append, List.length_cons, List.length_nil] at *; omega))); (case q => (first | omega | ((try simp only [List.length_take, List.length_drop, List.length_append, List.length_cons, List.length_nil]); omega) | (simp only [List.length_take, List.length_drop, List.length_append, List.length_cons, List.length_nil] at *; omega))); (case s => with_unfolding_all rfl); (case t => (intro _; with_unfolding_all rfl)); k_whole; intro h' t' k' F' N'; (try k_sweep)))))
local macro_rules | `(tactic| walk_at "subscriptTail Name Name str int") => `(tactic| (k_here; (with_reducible show wpAny _ _ (subscriptTail _ _ (Value.str (Mine.S _) _) (Value.int _ _)) _ _ _); k_dflt (first | (refine' itS ?a ?b ?z ?_ ?s ?t; (case a => (first | omega | ((try simp only [List.length_take, List.length_drop, List.length_append, List.length_cons, List.length_nil]); omega) | (simp only [List.length_take, List.length_drop, List.length_append, List.length_cons, List.length_nil] at *; omega))); (case b => (first | omega | ((try simp only [List.length_take, List.length_drop, List.length_append, List.length_cons, List.length_nil]); omega) | (simp only [List.length_take, List.length_drop, List.length_append, List.length_cons, List.length_nil] at *; omega))); (case z => (first | omega | ((try simp only [List.length_take, List.length_drop, List.length_append, List.length_cons, List.length_nil]); omega) | (simp only [List.length_take, List.length_drop, List.length_append, List.length_cons, List.length_nil] at *; omega))); (case s => with_unfolding_all rfl); (case t => (intro _; with_unfolding_all rfl)); k_whole) | (refine' itS_neg ?a ?b ?z ?_ ?s ?t; (case a => (first | omega | ((try simp only [List.length_take, List.length_drop, List.length_append, List.length_cons, List.length_nil]); omega) | (simp only [List.length_take, List.length_drop, List.length_append, List.length_cons, List.length_nil] at *; omega))); (case b => (first | omega | ((try simp only [List.length_take, List.length_drop, List.length_append, List.length_cons, List.length_nil]); omega) | (simp only [List.length_take, List.length_drop, List.length_append, List.length_cons, List.length_nil] at *; omega))); (case z => (first | omega | ((try simp only [List.length_take, List.length_drop, List.length_append, List.length_cons, List.length_nil]); omega) | (simp only [List.length_take, List.length_drop, List.length_append, List.length_cons, List.length_nil] at *; omega))); (case s => with_unfolding_all rfl); (case t => (intro _; with_unfolding_all rfl)); k_whole))))
local macro_rules | `(tactic| walk_at "subscriptTail Name Subscript str int") => `(tactic| (k_here; (with_reducible show wpAny _ _ (subscriptTail _ _ (Value.str (Mine.S _) _) (Value.int _ _)) _ _ _); k_dflt (first | (refine' itS ?a ?b ?z ?_ ?s ?t; (case a => (first | omega | ((try simp only [List.length_take, List.length_drop, List.length_append, List.length_cons, List.length_nil]); omega) | (simp only [List.length_take, List.length_drop, List.length_append, List.length_cons, List.length_nil] at *; omega))); (case b => (first | omega | ((try simp only [List.length_take, List.length_drop, List.length_append, List.length_cons, List.length_nil]); omega) | (simp only [List.length_take, List.length_drop, List.length_append, List.length_cons, List.length_nil] at *; omega))); (case z => (first | omega | ((try simp only [List.length_take, List.length_drop, List.length_append, List.length_cons, List.length_nil]); omega) | (simp only [List.length_take, List.length_drop, List.length_append, List.length_cons, List.length_nil] at *; omega))); (case s => with_unfolding_all rfl); (case t => (intro _; with_unfolding_all rfl)); k_whole) | (refine' itS_neg ?a ?b ?z ?_ ?s ?t; (case a => (first | omega | ((try simp only [List.length_take, List.length_drop, List.length_append, List.length_cons, List.length_nil]); omega) | (simp only [List.length_take, List.length_drop, List.length_append, List.length_cons, List.length_nil] at *; omega))); (case b => (first | omega | ((try simp only [List.length_take, List.length_drop, List.length_append, List.length_cons, List.length_nil]); omega) | (simp only [List.length_take, List.length_drop, List.length_append, List.length_cons, List.length_nil] at *; omega))); (case z => (first | omega | ((try simp only [List.length_take, List.length_drop, List.length_append, List.length_cons, List.length_nil]); omega) | (simp only [List.length_take, List.length_drop, List.length_append, List.length_cons, List.length_nil] at *; omega))); (case s => with_unfolding_all rfl); (case t => (intro _; with_unfolding_all rfl)); k_whole))))
local macro_rules | `(tactic| walk_at "subscriptTail Name BinOp str int") => `(tactic| (k_here; (with_reducible show wpAny _ _ (subscriptTail _ _ (Value.str (Mine.S _) _) (Value.int _ _)) _ _ _); k_dflt (first | (refine' itS ?a ?b ?z ?_ ?s ?t; (case a => (first | omega | ((try simp only [List.length_take, List.length_drop, List.length_append, List.length_cons, List.length_nil]); omega) | (simp only [List.length_take, List.length_drop, List.length_append, List.length_cons, List.length_nil] at *; omega))); (case b => (first | omega | ((try simp only [List.length_take, List.length_drop, List.length_append, List.length_cons, List.length_nil]); omega) | (simp only [List.length_take, List.length_drop, List.length_append, List.length_cons, List.length_nil] at *; omega))); (case z => (first | omega | ((try simp only [List.length_take, List.length_drop, List.length_append, List.length_cons, List.length_nil]); omega) | (simp only [List.length_take, List.length_drop, List.length_append, List.length_cons, List.length_nil] at *; omega))); (case s => with_unfolding_all rfl); (case t => (intro _; with_unfolding_all rfl)); k_whole) | (refine' itS_neg ?a ?b ?z ?_ ?s ?t; (case a => (first | omega | ((try simp only [List.length_take, List.length_drop, List.length_append, List.length_cons, List.length_nil]); omega) | (simp only [List.length_take, List.length_drop, List.length_append, List.length_cons, List.length_nil] at *; omega))); (case b => (first | omega | ((try simp only [List.length_take, List.length_drop, List.length_append, List.length_cons, List.length_nil]); omega) | (simp only [List.length_take, List.length_drop, List.length_append, List.length_cons, List.length_nil] at *; omega))); (case z => (first | omega | ((try simp only [List.length_take, List.length_drop, List.length_append, List.length_cons, List.length_nil]); omega) | (simp only [List.length_take, List.length_drop, List.length_append, List.length_cons, List.length_nil] at *; omega))); (case s => with_unfolding_all rfl); (case t => (intro _; with_unfolding_all rfl)); k_whole))))
local macro_rules | `(tactic| walk_at "call builtin:len") => `(tactic| (k_here; (with_reducible show wpAny _ _ (call (Value.builtin "len") [Value.str (Mine.S _) _]) _ _ _); k_dflt (first | (refine' lenS ?n ?z ?_; (case n => first | exact List.length_drop | exact List.length_take | rfl); (case z => (first | omega | ((try simp only [List.length_take, List.length_drop, List.length_append, List.length_cons, List.length_nil]); omega) | (simp only [List.length_take, List.length_drop, List.length_append, List.length_cons, List.length_nil] at *; omega))); k_whole))))
local macro_rules | `(tactic| walk_at "truthy str") => `(tactic| (k_here; (with_reducible show wpAny _ _ (truthy (Value.str (Mine.S _) _)) _ _ _); k_dflt (first | (refine' truS ?n ?z ?_; (case n => first | exact List.length_drop | exact List.length_take | rfl); (case z => (first | omega | ((try simp only [List.length_take, List.length_drop, List.length_append, List.length_cons, List.length_nil]); omega) | (simp only [List.length_take, List.length_drop, List.length_append, List.length_cons, List.length_nil] at *; omega))); k_whole; intro k'))))
local macro_rules | `(tactic| walk_at "binaryOp Add str str") => `(tactic| (k_here; (with_reducible show wpAny _ _ (binaryOp Operator.Add (Value.str (Mine.S _) _) (Value.str (Mine.S _) _)) _ _ _); k_dflt (first | (refine' addS ?y ?z ?_; (case y => (first | omega | ((try simp only [List.length_take, List.length_drop, List.length_append, List.length_cons, List.length_nil]); omega) | (simp only [List.length_take, List.length_drop, List.length_append, List.length_cons, List.length_nil] at *; omega))); (case z => (first | omega | ((try simp only [List.length_take, List.length_drop, List.length_append, List.length_cons, List.length_nil]); omega) | (simp only [List.length_take, List.length_drop, List.length_append, List.length_cons, List.length_nil] at *; omega))); k_whole; intro t' k'))))
local macro_rules | `(tactic| walk_at "compareOp Eq str str") => `(tactic| (k_here; (with_reducible show wpAny _ _ (compareOp CmpOp.Eq (Value.str (Mine.S _) _) (Value.str (Mine.S _) _)) _ _ _); k_dflt (first | (refine' eqS ?_; k_whole))))
local macro_rules | `(tactic| walk_at "compareOp NotEq str str") => `(tactic| (k_here; (with_reducible show wpAny _ _ (compareOp CmpOp.NotEq (Value.str (Mine.S _) _) (Value.str (Mine.S _) _)) _ _ _); k_dflt (first | (refine' neS ?_; k_whole))))
-- part Wsub
section
local macro_rules | `(tactic| walk_at "call builtin:str.lower") => `(tactic| (k_here; k_dflt (refine SCL.lower (by rw [S_len]; simp) ?_); intro t'))
section
variable {w : World} {dp un : Nat} {fr : Option (List Env)} {gd : Option (List Code)} {s : Shared} {mean : ExcName → Option Value} {mg mb : Str → Option Value} {Q : Value → Shared → Prop}
set_option maxHeartbeats 40000000 in
theorem subcost_spec  {c d : Nat} {t1 t2 : Tok} 
    (X : (hd.heap_39 w.params).In s.heap) (T : Top hd.view_39 LS mean mg mb s.heap) (hr : dp + 1 < recursionLimit) (hu : un + 20 < cLine)
    (hQ : ∀ t h' tk', Grows s.heap h' → Q (.int (cost c d) t) { s with heap := h', toks := tk' }) :
    wpAny (model PG w) (Ar dp fr gd un) (call (.ref 78) [.str (S [c]) t1, .str (S [d]) t2]) Q (fun _ _ => False) s := by
  refine enterX (binds := [(Str.ofString "ch_a", .str (S [c]) t1), (Str.ofString "ch_b", .str (S [d]) t2)]) X T (by rfl) (by k_is) (by show dp < _; omega) (by rfl) (locs rfl) (by decide) (by rfl) (by rfl) (by rfl) ?_
  intro L h₁ F N
  k_fold
  k_steps
  · rename_i h0
    show Q _ _
    have e : cost c d = 0 := if_pos h0
    exact e ▸ hQ _ _ _ (Fr.keep ‹Fr _ _ _ _›)
  · rename_i h0 _ _ h1
    show Q _ _
    have e : cost c d = 1 := by unfold cost; rw [if_neg h0, if_pos h1]
    exact e ▸ hQ _ _ _ (Fr.keep ‹Fr _ _ _ _›)
  · rename_i h0 _ _ h1
    show Q _ _
    have e : cost c d = 2 := by unfold cost; rw [if_neg h0, h1]; rfl
    exact e ▸ hQ _ _ _ (Fr.keep ‹Fr _ _ _ _›)
set_option maxHeartbeats 40000000 in
theorem strcoll_spec  {a b : Str} {t1 t2 : Tok}
    (X : (hd.heap_39 w.params).In s.heap) (T : Top hd.view_39 LS mean mg mb s.heap) (hr : dp + 1 < recursionLimit) (hu : un + 20 < cLine)
    (hQ : ∀ t h' tk', Grows s.heap h' → Q (.int (b2i (decide (b.cps.toList < a.cps.toList)) - b2i (decide (a.cps.toList < b.cps.toList))) t) { s with heap := h', toks := tk' }) :
    wpAny (model PG w) (Ar dp fr gd un) (call (.ref 50) [.str a t1, .str b t2]) Q (fun _ _ => False) s := by
  refine enterX (binds := [(Str.ofString "a", .str a t1), (Str.ofString "b", .str b t2)]) X T (by rfl) (by k_is) (by show dp < _; omega) (by rfl) (locs rfl) (by decide) (by rfl) (by rfl) (by rfl) ?_
  intro L h₁ F N
  k_fold
  k_steps
  show Q _ _
  exact hQ _ _ _ (Fr.keep ‹Fr _ _ _ _›)
set_option maxHeartbeats 40000000 in
theorem strxfrm_spec  {a : Str} {t1  : Tok}
    (X : (hd.heap_39 w.params).In s.heap) (T : Top hd.view_39 LS mean mg mb s.heap) (hr : dp + 1 < recursionLimit) (hu : un + 20 < cLine)
    (hQ : ∀ h' tk', Grows s.heap h' → Q (.str a t1) { s with heap := h', toks := tk' }) :
    wpAny (model PG w) (Ar dp fr gd un) (call (.ref 57) [.str a t1]) Q (fun _ _ => False) s := by
  refine enterX (binds := [(Str.ofString "s", .str a t1)]) X T (by rfl) (by k_is) (by show dp < _; omega) (by rfl) (locs rfl) (by decide) (by rfl) (by rfl) (by rfl) ?_
  intro L h₁ F N
  k_fold
  k_steps
  show Q _ _
  exact hQ _ _ (Fr.keep ‹Fr _ _ _ _›)
def stepF (c d : Nat) : Int := if [c] = [d] then 0 else if ([Str.ofString "aA", Str.ofString "Aa", Str.ofString "bB", Str.ofString "Bb"].any fun x => x == S [c, d]) = true then 1 else 2
set_option maxHeartbeats 40000000 in
theorem law_step_spec {c d : Nat} {t1 t2 : Tok}
    (X : (hd.heap_39 w.params).In s.heap) (T : Top hd.view_39 LS mean mg mb s.heap) (hr : dp + 1 < recursionLimit) (hu : un + 20 < cLine)
    (hQ : ∀ t h' tk', Grows s.heap h' → Q (.int (stepF c d) t) { s with heap := h', toks := tk' }) :
    wpAny (model PG w) (Ar dp fr gd un) (call (.ref 135) [.str (S [c]) t1, .str (S [d]) t2]) Q (fun _ _ => False) s := by
  refine enterX (binds := [(Str.ofString "sign", .str (S [c]) t1), (Str.ofString "other", .str (S [d]) t2)]) X T (by rfl) (by k_is) (by show dp < _; omega) (by rfl) (locs rfl) (by decide) (by rfl) (by rfl) (by rfl) ?_
  intro L h₁ F N
  k_fold
  k_steps
  · rename_i h0
    show Q _ _
    have e : stepF c d = 0 := if_pos h0
    exact e ▸ hQ _ _ _ (Fr.keep ‹Fr _ _ _ _›)
  · rename_i h0 _ _ _ _ _ _ _ h1
    show Q _ _
    have e : stepF c d = 1 := (if_neg h0).trans (if_pos h1)
    exact e ▸ hQ _ _ _ (Fr.keep ‹Fr _ _ _ _›)
  · rename_i h0 _ _ _ _ _ _ _ h1
    show Q _ _
    have e : stepF c d = 2 := (if_neg h0).trans (if_neg (fun q => Bool.false_ne_true (h1.symm.trans q)))
    exact e ▸ hQ _ _ _ (Fr.keep ‹Fr _ _ _ _›)
end
end
-- part Wlev
section
local macro_rules | `(tactic| walk_at "call ref") => `(tactic| (k_here; (with_reducible show wpAny _ _ (call (Value.ref 78) _) _ _ _); k_dflt (refine' wpAny_noRaise (subcost_spec ?X ?T ?r ?u ?_); (case X => k_in); (case T => exact Top.keeps (by assumption) (Fr.keep (by k_asm))); (case r => ((try dsimp only [Around.deeper, Ar]); omega)); (case u => ((try dsimp only [Around.deeper, Ar]); omega))); intro t' h' tk' g'; (rename Fr _ _ _ _ => oF'); (rename News _ _ _ _ => oN'); (have F' := Mine.Fr.grows oF' g'); (have N' := Mine.News.grows oN' g'); clear oF' oN' g'; (try k_sweep)))
section
variable {w : World} {dp un : Nat} {fr : Option (List Env)} {gd : Option (List Code)} {s : Shared} {mean : ExcName → Option Value} {mg mb : Str → Option Value} {Q : Value → Shared → Prop}
theorem postV {α : Type} {M : Model} {A : Around} {t : Sem α} {Q : α → Shared → Prop} {E : Value → Shared → Prop} {s : Shared} (h : ∀ Q' : α → Shared → Prop, (∀ a s', Q a s' → Q' a s') → wpAny M A t Q' E s) : wpAny M A t Q E s :=
  h Q fun _ _ h => h
set_option maxHeartbeats 40000000 in
theorem lev_spec  {a b : List Nat} {t1 t2 t3 : Tok} {m : Int} (hm : 0 ≤ m ∧ m ≤ 3) (ha : a.length ≤ 7) (hb : b.length ≤ 7)
    (X : (hd.heap_39 w.params).In s.heap) (T : Top hd.view_39 LS mean mg mb s.heap) (hr : dp + 2 < recursionLimit) (hu : un + 40 < cLine)
    (hQ : ∀ t h' tk', Grows s.heap h' → Q (.int (levF a b m) t) { s with heap := h', toks := tk' }) :
    wpAny (model PG w) (Ar dp fr gd un) (call (.ref 85) [.str (S a) t1, .str (S b) t2, .int m t3]) Q (fun _ _ => False) s := by
  refine enterX (binds := [(Str.ofString "a", .str (S a) t1), (Str.ofString "b", .str (S b) t2), (Str.ofString "max_cost", .int m t3)]) X T (by rfl) (by k_is) (by show dp < _; omega) (by rfl) (locs rfl) (by decide) (by rfl) (by rfl) (by rfl) ?_
  intro L h₁ F N
  k_fold
  k_steps
  · rename_i he
    show Q _ _
    have e : levF a b m = 0 := by unfold levF; rw [if_pos he]
    have := hQ tk h₁ (tk + 1) F.keep
    rw [e] at this
    exact this
  · rename_i he h' F' N'
    have e : levF a b m = levF a b m := rfl
    conv at e => rhs; unfold levF
    rw [if_neg he] at e
    dsimp only at e
    refine ⟨after (fun f s' => Stop (f = Flow.next ∧ ∃ h' tk' m₁ t, s' = { s with heap := h', toks := tk' } ∧ Fr s.heap L h' m₁ ∧ News s.heap L h' [] ∧
      m₁ (Str.ofString "pre") = some (.int (lcp a b : Nat) t) ∧ m₁ (Str.ofString "a") = some (.str (S a) t1) ∧ m₁ (Str.ofString "b") = some (.str (S b) t2) ∧ m₁ (Str.ofString "max_cost") = some (.int m t3))) ?_ ?_⟩
    ·
      refine While_inv (fun n m₁ nw => ∃ (p : Int) (t : Tok), n = (a.length - p).toNat ∧ 0 ≤ p ∧ p ≤ (lcp a b : Nat) ∧ nw = [] ∧ m₁ (Str.ofString "pre") = some (.int p t) ∧ m₁ (Str.ofString "a") = some (.str (S a) t1) ∧ m₁ (Str.ofString "b") = some (.str (S b) t2) ∧ m₁ (Str.ofString "max_cost") = some (.int m t3)) F' N' ⟨0, _, by rfl, by omega, by omega, rfl, by rfl, by rfl, by rfl, by rfl⟩ ?_
      clear F' N'
      rintro n m₁ nw h₂ tk₂ F N ⟨p, t, rfl, p0, hk, rfl, p1, p2, p3, p4⟩
      k_fold
      have q1 := lcp_le_left a b
      have q2 := lcp_le_right a b
      k_steps
      · refine ⟨rfl, _, _, _, _, (a.length - (p + 1)).toNat, rfl, ‹Fr _ _ _ _›, ‹News _ _ _ _›, by omega, p + 1, _, rfl, by omega, lev1_go p0 (by omega) (by omega) hk (by assumption), rfl, by rfl, (by exact p2), (by exact p3), (by exact p4)⟩
      · have e1 := lev1_end p0 hk (.inr (.inr ⟨by omega, by omega, by assumption⟩))
        exact ⟨rfl, _, _, _, _, rfl, ‹Fr _ _ _ _›, ‹News _ _ _ _›, e1 ▸ p1, p2, p3, p4⟩
      · have e1 := lev1_end p0 hk (.inr (.inl (by omega)))
        exact ⟨rfl, _, _, _, _, rfl, ‹Fr _ _ _ _›, ‹News _ _ _ _›, e1 ▸ p1, p2, p3, p4⟩
      · have e1 := lev1_end p0 hk (.inl (by omega))
        exact ⟨rfl, _, _, _, _, rfl, ‹Fr _ _ _ _›, ‹News _ _ _ _›, e1 ▸ p1, p2, p3, p4⟩
    · clear F' N'
      rintro f s' ⟨rfl, h', tk', m₁, t, rfl, F, N, p1, p2, p3, p4⟩
      have q1 := lcp_le_left a b
      have q2 := lcp_le_right a b
      have i1 : ((lcp a b : Nat) : Int).toNat = lcp a b := by omega
      k_steps
      rename_i F' N'
      rw [i1] at F'
      have l1 : (a.drop (lcp a b)).length ≤ 7 := by rw [List.length_drop]; omega
      have l2 : (b.drop (lcp a b)).length ≤ 7 := by rw [List.length_drop]; omega
      generalize a.drop (lcp a b) = a1 at e F' l1
      generalize b.drop (lcp a b) = b1 at e F' l2
      refine ⟨after (fun f s' => Stop (f = Flow.next ∧ ∃ h' tk' m₁ t ta tb, s' = { s with heap := h', toks := tk' } ∧ Fr s.heap L h' m₁ ∧ News s.heap L h' [] ∧
        m₁ (Str.ofString "post") = some (.int (-((lcp a1.reverse b1.reverse : Nat) : Int)) t) ∧ m₁ (Str.ofString "a") = some (.str (S a1) ta) ∧ m₁ (Str.ofString "b") = some (.str (S b1) tb) ∧ m₁ (Str.ofString "max_cost") = some (.int m t3))) ?_ ?_⟩
      ·
        refine While_inv (fun n m₁ nw => ∃ (k : Nat) (p : Int) (t ta tb : Tok), n = a1.length - k ∧ p = -(k : Int) ∧ k ≤ lcp a1.reverse b1.reverse ∧ nw = [] ∧ m₁ (Str.ofString "post") = some (.int p t) ∧ m₁ (Str.ofString "a") = some (.str (S a1) ta) ∧ m₁ (Str.ofString "b") = some (.str (S b1) tb) ∧ m₁ (Str.ofString "max_cost") = some (.int m t3)) F' N' ⟨0, 0, _, _, _, by rfl, by rfl, by omega, rfl, by rfl, by rfl, by rfl, (by exact p4)⟩ ?_
        clear F' N' p1 p2 p3 p4
        rintro n m₁ nw h₂ tk₂ F N ⟨k, p, t, ta, tb, rfl, pk, hk, rfl, p1, p2, p3, p4⟩
        k_fold
        have q3 := lcp_le_left a1.reverse b1.reverse
        have q4 := lcp_le_right a1.reverse b1.reverse
        rw [List.length_reverse] at q3 q4
        k_steps
        all_goals first
          | (exfalso; omega)
          | (refine ⟨rfl, _, _, _, _, a1.length - (k + 1), rfl, ‹Fr _ _ _ _›, ‹News _ _ _ _›, by omega, k + 1, p - 1, _, _, _, rfl, by omega, lev2_go pk (by omega) (by omega) hk (by assumption), rfl, by rfl, (by exact p2), (by exact p3), (by exact p4)⟩)
          | (have e1 := lev2_end pk hk (.inr (.inr ⟨by omega, by omega, by assumption⟩)); exact ⟨rfl, _, _, _, _, _, _, rfl, ‹Fr _ _ _ _›, ‹News _ _ _ _›, e1 ▸ p1, p2, p3, p4⟩)
          | (have e1 := lev2_end pk hk (.inr (.inl (by omega))); exact ⟨rfl, _, _, _, _, _, _, rfl, ‹Fr _ _ _ _›, ‹News _ _ _ _›, e1 ▸ p1, p2, p3, p4⟩)
          | (have e1 := lev2_end pk hk (.inl (by omega)); exact ⟨rfl, _, _, _, _, _, _, rfl, ‹Fr _ _ _ _›, ‹News _ _ _ _›, e1 ▸ p1, p2, p3, p4⟩)
      · clear F' N' p1 p2 p3 p4
        rintro f s' ⟨rfl, h', tk', m₁, t, ta, tb, rfl, F, N, p1, p2, p3, p4⟩
        have q3 := lcp_le_left a1.reverse b1.reverse
        have q4 := lcp_le_right a1.reverse b1.reverse
        rw [List.length_reverse] at q3 q4
        try k_unfold
        try dsimp only
        have n1 : (-((lcp a1.reverse b1.reverse : Nat) : Int)).natAbs = lcp a1.reverse b1.reverse := by omega
        refine seqS (fun s' => ∃ h' tk' m₁ t ta tb, s' = { s with heap := h', toks := tk' } ∧ Fr s.heap L h' m₁ ∧ News s.heap L h' [] ∧
          m₁ (Str.ofString "post") = some (.int (-((lcp a1.reverse b1.reverse : Nat) : Int)) t) ∧ m₁ (Str.ofString "a") = some (.str (S (a1.take (a1.length - lcp a1.reverse b1.reverse))) ta) ∧ m₁ (Str.ofString "b") = some (.str (S b1) tb) ∧ m₁ (Str.ofString "max_cost") = some (.int m t3)) ?_ ?_
        · refine postV fun Qs hqs => ?_
          k_steps
          · rename_i F' N'
            rw [n1] at F'
            exact hqs _ _ ⟨rfl, _, _, _, _, _, _, rfl, F', N', (by exact p1), (by rfl), (by exact p3), (by exact p4)⟩
          · rename_i h0 _ _ _ _ F' N'
            have z0 : lcp a1.reverse b1.reverse = 0 := by omega
            refine hqs _ _ ?_
            rw [z0, Nat.sub_zero, List.take_length]
            rw [z0] at p1
            exact ⟨rfl, _, _, _, _, _, _, rfl, F', N', (by exact p1), (by rfl), (by exact p3), (by exact p4)⟩
        clear F N p1 p2 p3 p4
        rintro _ ⟨h', tk', m₁, t, ta, tb, rfl, F, N, p1, p2, p3, p4⟩
        refine seqS (fun s' => ∃ h' tk' m₁ ta tb, s' = { s with heap := h', toks := tk' } ∧ Fr s.heap L h' m₁ ∧ News s.heap L h' [] ∧
          m₁ (Str.ofString "a") = some (.str (S (a1.take (a1.length - lcp a1.reverse b1.reverse))) ta) ∧ m₁ (Str.ofString "b") = some (.str (S (b1.take (b1.length - lcp a1.reverse b1.reverse))) tb) ∧ m₁ (Str.ofString "max_cost") = some (.int m t3)) ?_ ?_
        · refine postV fun Qs hqs => ?_
          k_steps
          · rename_i F' N'
            rw [n1] at F'
            exact hqs _ _ ⟨rfl, _, _, _, _, _, rfl, F', N', (by exact p2), (by rfl), (by exact p4)⟩
          · rename_i h0 _ _ _ _ F' N'
            have z0 : lcp a1.reverse b1.reverse = 0 := by omega
            have z1 : b1.take (b1.length - lcp a1.reverse b1.reverse) = b1 := by rw [z0, Nat.sub_zero, List.take_length]
            refine hqs _ _ ?_
            rw [z1]
            exact ⟨rfl, _, _, _, _, _, rfl, F', N', (by exact p2), (by rfl), (by exact p4)⟩
        clear F N p1 p2 p3 p4
        rintro _ ⟨h', tk', m₁, ta, tb, rfl, F, N, p2, p3, p4⟩
        have l3 : (a1.take (a1.length - lcp a1.reverse b1.reverse)).length ≤ 7 := by rw [List.length_take]; omega
        have l4 : (b1.take (b1.length - lcp a1.reverse b1.reverse)).length ≤ 7 := by rw [List.length_take]; omega
        clear n1 q3 q4 l1 l2
        generalize a1.take (a1.length - lcp a1.reverse b1.reverse) = a2 at *
        generalize b1.take (b1.length - lcp a1.reverse b1.reverse) = b2 at *
        refine seqR (fun s' => (a2.length ≠ 0 ∧ b2.length ≠ 0) ∧ ∃ h' tk' m₁ ta tb, s' = { s with heap := h', toks := tk' } ∧ Fr s.heap L h' m₁ ∧ News s.heap L h' [] ∧
          m₁ (Str.ofString "a") = some (.str (S a2) ta) ∧ m₁ (Str.ofString "b") = some (.str (S b2) tb) ∧ m₁ (Str.ofString "max_cost") = some (.int m t3)) ?_ ?_
        · refine postV fun Qs hqs => ?_
          k_steps
          · exact hqs _ _ ⟨.inl ⟨rfl, ⟨by assumption, by assumption⟩, _, _, _, _, _, rfl, F, N, p2, p3, p4⟩⟩
          · rw [if_pos (.inr (List.eq_nil_of_length_eq_zero (by omega)))] at e
            exact hqs _ _ ⟨.inr ⟨_, rfl, e ▸ hQ _ _ _ F.keep⟩⟩
          · rw [if_pos (.inl (List.eq_nil_of_length_eq_zero (by omega)))] at e
            exact hqs _ _ ⟨.inr ⟨_, rfl, e ▸ hQ _ _ _ F.keep⟩⟩
        clear F N p2 p3 p4
        rintro _ ⟨⟨g1, g2⟩, h', tk', m₁, ta, tb, rfl, F, N, p2, p3, p4⟩
        rw [if_neg (by rintro (rfl | rfl) <;> simp at g1 g2)] at e
        refine seqS (fun s' => ∃ h' tk' m₁ ta tb, s' = { s with heap := h', toks := tk' } ∧ Fr s.heap L h' m₁ ∧ News s.heap L h' [] ∧
          m₁ (Str.ofString "a") = some (.str (S a2) ta) ∧ m₁ (Str.ofString "b") = some (.str (S b2) tb) ∧ m₁ (Str.ofString "max_cost") = some (.int m t3)) ?_ ?_
        · refine postV fun Qs hqs => ?_
          k_steps
          all_goals first | (exfalso; omega) | exact hqs _ _ ⟨rfl, _, _, _, _, _, rfl, ‹Fr _ _ _ _›, ‹News _ _ _ _›, p2, p3, p4⟩
        clear F N p2 p3 p4
        rintro _ ⟨h', tk', m₁, ta, tb, rfl, F, N, p2, p3, p4⟩
        refine seqS (fun s' => ∃ (x y : List Nat), levF a b m = levDP x y m ∧ x.length ≤ 7 ∧ y.length ≤ 7 ∧ x.length ≤ y.length ∧ x.length ≠ 0 ∧ ∃ h' tk' m₁ ta tb, s' = { s with heap := h', toks := tk' } ∧ Fr s.heap L h' m₁ ∧ News s.heap L h' [] ∧
          m₁ (Str.ofString "a") = some (.str (S x) ta) ∧ m₁ (Str.ofString "b") = some (.str (S y) tb) ∧ m₁ (Str.ofString "max_cost") = some (.int m t3)) ?_ ?_
        · refine postV fun Qs hqs => ?_
          k_steps
          · rw [if_pos (by omega)] at e
            exact hqs _ _ ⟨rfl, b2, a2, e, l4, l3, by omega, g2, _, _, _, _, _, rfl, ‹Fr _ _ _ _›, News.nil, (by rfl), (by rfl), (by exact p4)⟩
          · rw [if_neg (by omega)] at e
            exact hqs _ _ ⟨rfl, a2, b2, e, l3, l4, by omega, g1, _, _, _, _, _, rfl, ‹Fr _ _ _ _›, ‹News _ _ _ _›, p2, p3, p4⟩
        clear F N p2 p3 p4 e g1 g2 l3 l4
        rintro _ ⟨x, y, e, l3, l4, hxy, g1, h', tk', m₁, ta, tb, rfl, F, N, p2, p3, p4⟩
        unfold levDP at e
        refine seqR (fun s' => ¬ ((y.length : Int) - x.length) * 2 > m ∧ ∃ h' tk' m₁ ta tb, s' = { s with heap := h', toks := tk' } ∧ Fr s.heap L h' m₁ ∧ News s.heap L h' [] ∧
          m₁ (Str.ofString "a") = some (.str (S x) ta) ∧ m₁ (Str.ofString "b") = some (.str (S y) tb) ∧ m₁ (Str.ofString "max_cost") = some (.int m t3)) ?_ ?_
        · refine postV fun Qs hqs => ?_
          k_steps
          · rw [if_pos (by omega)] at e
            exact hqs _ _ ⟨.inr ⟨_, rfl, e ▸ hQ _ _ _ (Fr.keep ‹Fr _ _ _ _›)⟩⟩
          · exact hqs _ _ ⟨.inl ⟨rfl, by omega, _, _, _, _, _, rfl, ‹Fr _ _ _ _›, ‹News _ _ _ _›, p2, p3, p4⟩⟩
        clear F N p2 p3 p4
        rintro _ ⟨g3, h', tk', m₁, ta, tb, rfl, F, N, p2, p3, p4⟩
        rw [if_neg g3] at e
        refine seqS (fun s' => ∃ h' tk' m₁ ta tb R vs c, s' = { s with heap := h', toks := tk' } ∧ Fr s.heap L h' m₁ ∧ News s.heap L h' [(R, listOf (List.toArray vs) c)] ∧ IntsAre vs (initRow x.length) ∧
          m₁ (Str.ofString "a") = some (.str (S x) ta) ∧ m₁ (Str.ofString "b") = some (.str (S y) tb) ∧ m₁ (Str.ofString "max_cost") = some (.int m t3) ∧ m₁ (Str.ofString "row") = some (.ref R)) ?_ ?_
        · refine postV fun Qs hqs => ?_
          k_steps
          k_dflt (refine' list_rangeS (n := x.length) ?zh ?zF ?zN ?zr ?zs ?zn ?zl ?_; (case zh => rfl); (case zF => k_asm); (case zN => k_asm); (case zr => k_asm); (case zs => exact small_of (by omega) (by omega) (by omega) (by omega) (.inr (.inl rfl))); (case zn => exact rsize_two); (case zl => omega))
          intro R h9 tk9 vs c9 F9 N9 o9 I9
          k_steps
          rename_i F' N'
          exact hqs _ _ ⟨(by first | rfl | trivial), _, _, _, _, _, R, vs, c9, rfl, F', N', I9, (by exact p2), (by exact p3), (by exact p4), (by rfl)⟩
        clear F N p2 p3 p4
        rintro _ ⟨h', tk', m₁, ta, tb, R, vs, c, rfl, F, N, hv, p2, p3, p4, p5⟩
        k_steps
        refine ⟨For_invV s.heap (by rfl) (by rfl) ?_⟩
        k_steps
        refine ⟨iter_range (n := y.length) (fun i m₁ nx => ∃ (row : List Int) (vs : List Value) (c : Nat) (res : Int) (t ta tb : Tok), nx = [(R, listOf vs.toArray c)] ∧ IntsAre vs row ∧ row.length = x.length ∧
          m₁ (Str.ofString "a") = some (.str (S x) ta) ∧ m₁ (Str.ofString "b") = some (.str (S y) tb) ∧ m₁ (Str.ofString "max_cost") = some (.int m t3) ∧ m₁ (Str.ofString "row") = some (.ref R) ∧ m₁ (Str.ofString "result") = some (.int res t) ∧
          outer x m (y.drop i) i row res = levF a b m) (by rfl) (by assumption) (small_of (by omega) (by omega) (by omega) (by omega) (.inl rfl)) rsize_one (by assumption) (by assumption)
          ⟨_, vs, c, 0, _, ta, tb, rfl, hv, (by simp [initRow, rangeL]), (by exact p2), (by exact p3), (by exact p4), (by exact p5), (by rfl), (by rw [e]; simp)⟩ ?_ ?_⟩
        · clear p2 p3 p4 p5 hv e
          rintro I i t m₁ nx h tk own hi ⟨row, vs, c, res, t', ta, tb, rfl, hv, hrow, p2, p3, p4, p5, p6, e⟩ hne hI hoff F N
          simp only [List.cons_append, List.nil_append, Int.zero_add, Int.mul_one] at F N
          k_fold
          have hRI : R ≠ I := hne _ (.head _)
          have hy : y.drop i = y.getD i 0 :: y.drop (i + 1) := by
            rw [List.drop_eq_getElem_cons hi, List.getD_eq_getElem?_getD, List.getElem?_eq_getElem hi]; rfl
          rw [hy] at e
          unfold outer at e
          dsimp only at e
          refine postV fun Q3 hq3 => ?_
          k_steps
          rename_i F' N'
          refine ⟨after (fun f s' => Stop (f = Flow.next ∧ ∃ h' tk' m₁ vs' c' t4 t5 ta tb, s' = { s with heap := h', toks := tk' } ∧ Fr s.heap L h' m₁ ∧ News s.heap L h' ((R, listOf (List.toArray vs') c') :: own) ∧
            IntsAre vs' (inner (y.getD i 0) x row (i * 2) (i * 2) MAXI).1 ∧
            m₁ (Str.ofString "a") = some (.str (S x) ta) ∧ m₁ (Str.ofString "b") = some (.str (S y) tb) ∧ m₁ (Str.ofString "max_cost") = some (.int m t3) ∧ m₁ (Str.ofString "row") = some (.ref R) ∧
            m₁ (Str.ofString "result") = some (.int (inner (y.getD i 0) x row (i * 2) (i * 2) MAXI).2.1 t4) ∧ m₁ (Str.ofString "minimum") = some (.int (inner (y.getD i 0) x row (i * 2) (i * 2) MAXI).2.2 t5))) ?_ ?_⟩
          · clear e
            refine For_invV s.heap (by rfl) (by rfl) ?_
            k_steps
            refine ⟨iter_range (n := x.length) (fun j m₁ nx => ∃ (pre : List Int) (vs : List Value) (c : Nat) (dist res mn : Int) (t1 t2 t4 tc ta tb : Tok), nx = (R, listOf vs.toArray c) :: own ∧ IntsAre vs (pre ++ row.drop j) ∧ pre.length = j ∧
              m₁ (Str.ofString "a") = some (.str (S x) ta) ∧ m₁ (Str.ofString "b") = some (.str (S y) tb) ∧ m₁ (Str.ofString "max_cost") = some (.int m t3) ∧ m₁ (Str.ofString "row") = some (.ref R) ∧ m₁ (Str.ofString "bchar") = some (.str (S [y.getD i 0]) tc) ∧
              m₁ (Str.ofString "distance") = some (.int dist t1) ∧ m₁ (Str.ofString "result") = some (.int res t2) ∧ m₁ (Str.ofString "minimum") = some (.int mn t4) ∧
              (pre ++ (inner (y.getD i 0) (x.drop j) (row.drop j) dist res mn).1, (inner (y.getD i 0) (x.drop j) (row.drop j) dist res mn).2) = inner (y.getD i 0) x row (i * 2) (i * 2) MAXI) (by rfl) (by assumption) (small_of (by omega) (by omega) (by omega) (by omega) (.inl rfl)) rsize_one (by assumption) (by assumption)
              ⟨[], vs, c, i * 2, i * 2, MAXI, _, _, _, _, ta, tb, rfl, hv, rfl, (by exact p2), (by exact p3), (by exact p4), (by exact p5), (by rfl), (by rfl), (by rfl), (by rfl), (by simp)⟩ ?_ ?_⟩
            · clear p2 p3 p4 p5 p6 hv
              rintro I2 j tj m₁ nx h tk own2 hj ⟨pre, vs, c, dist, res, mn, u1, u2, u4, tc, ta, tb, rfl, hv, hpre, p2, p3, p4, p5, p6, p7, p8, p9, e⟩ hne2 hI2 hoff2 F N
              simp only [List.cons_append, Int.zero_add, Int.mul_one] at F N
              k_fold
              have hR2 : R ≠ I2 := hne2 _ (.head _)
              have hA := off_two (R := R) hoff hoff2 (by simp) (by simp)
              have ij : ((j : Nat) : Int).toNat = j := by omega
              have hj' : j < row.length := by omega
              have hlen : (pre ++ row.drop j).length = row.length := by rw [List.length_append, List.length_drop]; omega
              rw [inner_step hj hj'] at e
              refine postV fun Q2 hq2 => ?_
              k_steps
              rename_i F' N'
              obtain ⟨Z, hZ⟩ : ∃ Z, Z = pmin (pmin res (row.getD j 0) + 2) (dist + cost (y.getD i 0) (x.getD j 0)) := ⟨_, rfl⟩
              have hg := get_turn hpre hj'
              have hu : (if dist + cost (y.getD i 0) (x.getD ((j : Nat) : Int).toNat 0) < (if (pre ++ row.drop j).getD ((j : Nat) : Int).toNat 0 < res then (pre ++ row.drop j).getD ((j : Nat) : Int).toNat 0 else res) + 2
                then dist + cost (y.getD i 0) (x.getD ((j : Nat) : Int).toNat 0)
                else (if (pre ++ row.drop j).getD ((j : Nat) : Int).toNat 0 < res then (pre ++ row.drop j).getD ((j : Nat) : Int).toNat 0 else res) + 2) = Z := by
                rw [ij, hg, hZ]; rfl
              rw [← hZ] at e
              rw [hu] at F' ⊢
              rw [ij, hg] at F'
              k_dflt (refine' ksa_set F' N' (Upd.head (OwnOff.ne hA (by simp))) hv (by omega) (by omega) (by omega) ?_)
              clear hA hoff2
              intro h8 F8 N8 hi8 hl8 hs8
              rw [ij, set_turn hpre hj'] at hi8
              clear F' N' hl8 hs8 hu hlen hg
              k_steps
              · rename_i hlt h' F' N'
                rw [if_pos hlt] at e
                exact hq2 _ _ <| TurnEnd.next F' N' (fun p hp => (List.mem_cons.mp hp).elim (fun q => q ▸ hR2) fun q => hne2 p (.tail _ q))
                  ⟨pre ++ [Z], _, c, row.getD j 0, Z, Z, _, _, _, tc, ta, tb, rfl, hi8, by rw [List.length_append, hpre]; rfl, (by exact p2), (by exact p3), (by exact p4), (by exact p5), (by exact p6), (by rfl), (by rfl), (by rfl), by rw [List.append_assoc]; exact e⟩
              · rename_i hlt
                rw [if_neg hlt] at e
                exact hq2 _ _ <| TurnEnd.next F8 N8 (fun p hp => (List.mem_cons.mp hp).elim (fun q => q ▸ hR2) fun q => hne2 p (.tail _ q))
                  ⟨pre ++ [Z], _, c, row.getD j 0, Z, mn, _, _, _, tc, ta, tb, rfl, hi8, by rw [List.length_append, hpre]; rfl, (by exact p2), (by exact p3), (by exact p4), (by exact p5), (by exact p6), (by rfl), (by rfl), (by exact p9), by rw [List.append_assoc]; exact e⟩
            · clear p2 p3 p4 p5 p6 hv
              rintro m₁ nx h tk ⟨pre, vs, c, dist, res, mn, u1, u2, u4, tc, ta, tb, rfl, hv, hpre, p2, p3, p4, p5, p6, p7, p8, p9, e⟩ F N
              have z1 : row.drop x.length = [] := List.drop_of_length_le (by omega)
              rw [z1, List.append_nil] at hv
              rw [z1, List.drop_length] at e
              rw [show inner (y.getD i 0) [] [] dist res mn = ([], res, mn) from rfl, List.append_nil] at e
              rw [← e]
              exact ⟨(by first | rfl | trivial), _, _, _, vs, c, _, _, ta, tb, rfl, F, N, hv, p2, p3, p4, p5, p8, p9⟩
          · clear p2 p3 p4 p5 p6 hv
            rintro _ _ ⟨rfl, h', tk', m₁, vs, c, t4, t5, ta, tb, rfl, F, N, hv, p2, p3, p4, p5, p6, p7⟩
            k_steps
            · rename_i hgt
              rw [if_pos hgt] at e
              exact hq3 _ _ <| TurnEnd.ret (e ▸ hQ _ _ _ F.keep)
            · rename_i hgt
              rw [if_neg hgt] at e
              refine hq3 _ _ <| TurnEnd.next F (nx := [(R, listOf vs.toArray c)]) N (fun p hp => by rw [List.mem_singleton.mp hp]; exact hRI) ⟨_, vs, c, _, _, ta, tb, rfl, hv, inner_len hrow, p2, p3, p4, p5, p6, e⟩
        · clear p2 p3 p4 p5 hv e
          rintro m₁ nx h tk ⟨row, vs, c, res, t', ta, tb, rfl, hv, hrow, p2, p3, p4, p5, p6, e⟩ F N
          k_steps
          rw [List.drop_length] at e
          unfold outer at e
          show Q _ _
          exact e ▸ hQ _ _ _ F.keep
end
end
-- part Wcards
section
section
variable {w : World} {dp un : Nat} {fr : Option (List Env)} {gd : Option (List Code)} {s : Shared} {mean : ExcName → Option Value} {mg mb : Str → Option Value} {Q : Value → Shared → Prop}
set_option maxHeartbeats 40000000 in
theorem unmatched_spec {l : List Nat} {a ta : Addr} {n : Nat} {w1 w2 f1 f2 f3 f4 : Value} {t : Tok} (hl : l.length ≤ 1000) (hn : n + 2 ≤ l.length)
    (hp : s.heap.get? a = some { cls := .type "re.Match", data := .fields #[.str (S l) t, f1, f2, f3, f4, .ref ta] })
    (hc : s.heap.get? ta = some { cls := .type "tuple", data := .seq #[rawInt n, rawInt (n + 2 : Nat), w1, w2] })
    (X : (hd.heap_39 w.params).In s.heap) (T : Top hd.view_39 LS mean mg mb s.heap) (hr : dp + 1 < recursionLimit) (hu : un + 20 < cLine)
    (hQ : ∀ t h' tk', Grows s.heap h' → Q (.str (S (l.take n ++ l.drop (n + 2))) t) { s with heap := h', toks := tk' }) :
    wpAny (model PG w) (Ar dp fr gd un) (call (.ref 38) [.ref a]) Q (fun _ _ => False) s := by
  refine enterX (binds := [(Str.ofString "match", .ref a)]) X T (by rfl) (by k_is) (by show dp < _; omega) (by rfl) (locs rfl) (by decide) (by rfl) (by rfl) (by rfl) ?_
  intro L h₁ F N
  k_fold
  k_steps
  refine getMethod_builtin (T := "re.Match") (id := "re.Match.span") ⟨_, F.keep _ _ hp, rfl⟩ RF.pa_match RF.slot_span RF.type_span (fun a' e => by cases e; exact ⟨_, F.keep _ _ hp, rfl⟩) ?_
  k_steps
  refine RE.span_wp (F.keep _ _ hp) (F.keep _ _ hc) (fun i j => ?_)
  have F1 := F.push { cls := .type "tuple", data := .seq #[.int (n : Int) i, .int ((n + 2 : Nat) : Int) j] }
  have N1 := N.push F { cls := .type "tuple", data := .seq #[.int (n : Int) i, .int ((n + 2 : Nat) : Int) j] }
  dsimp only
  clear F N
  k_steps
  rename_i F N
  refine RF.string_attr (F.keep _ _ hp) rfl rfl rfl ?_
  k_steps
  rename_i F N
  refine RF.string_attr (F.keep _ _ hp) rfl rfl rfl ?_
  k_steps
  show Q (.str (S (l.take n ++ l.drop (n + 2))) _) _
  exact hQ _ _ _ (Fr.keep ‹Fr _ _ _ _›)
inductive TextsAre : List Value → List (List Nat) → Prop
  | nil : TextsAre [] []
  | cons {v : List Value} {n : List (List Nat)} (l : List Nat) (t : Tok) : TextsAre v n → TextsAre (.str (S l) t :: v) (l :: n)
theorem TextsAre.snoc : ∀ {v : List Value} {n : List (List Nat)} {l : List Nat} {t : Tok}, TextsAre v n → TextsAre (v ++ [.str (S l) t]) (n ++ [l])
  | _, _, _, _, .nil => .cons _ _ .nil
  | _, _, _, _, .cons l t h => .cons l t h.snoc
theorem TextsAre.length : ∀ {v : List Value} {n : List (List Nat)}, TextsAre v n → v.length = n.length
  | _, _, .nil => rfl
  | _, _, .cons _ _ h => by simp [h.length]
def del (l : List Nat) (i : Nat) : List Nat := l.take i ++ l.drop (i + 1)
def cardsL (l : List Nat) : List (List Nat) := (List.range l.length).map (del l)
theorem range_snoc (l : List Nat) (i : Nat) : (List.range (i + 1)).map (del l) = (List.range i).map (del l) ++ [del l i] := by
  rw [List.range_succ, List.map_append]; rfl
theorem search_pre {l : List Nat} {i : Nat} (hs : ∀ c ∈ l, Sg c) (hi : i < l.length) :
    i + 1 < (S (l.take i ++ [92] ++ l.drop i)).cps.size ∧ (∀ k, k < i → ((S (l.take i ++ [92] ++ l.drop i)).cps.getD k 0 == 92) = false) ∧
    ((S (l.take i ++ [92] ++ l.drop i)).cps.getD i 0 == 92) = true ∧ ((S (l.take i ++ [92] ++ l.drop i)).cps.getD (i + 1) 0 != 10) = true := by
  have hg : ∀ k, (S (l.take i ++ [92] ++ l.drop i)).cps.getD k 0 = (l.take i ++ [92] ++ l.drop i).getD k 0 := fun k => by simp [S, List.getD_eq_getElem?_getD]
  simp only [hg]
  refine ⟨by simp [S]; omega, fun k hk => ?_, ?_, ?_⟩
  · have : (l.take i ++ [92] ++ l.drop i).getD k 0 = l[k]'(by omega) := by
      rw [List.getD_eq_getElem?_getD, List.append_assoc, List.getElem?_append_left (by simp; omega), List.getElem?_take, if_pos hk, List.getElem?_eq_getElem (by omega)]; rfl
    rw [this]
    rcases hs _ (List.getElem_mem (by omega : k < l.length)) with h | h | h | h <;> rw [h] <;> rfl
  · have : (l.take i ++ [92] ++ l.drop i).getD i 0 = 92 := by
      rw [List.getD_eq_getElem?_getD, List.append_assoc, List.getElem?_append_right (by rw [List.length_take]; omega)]; simp [Nat.min_eq_left (Nat.le_of_lt hi)]
    rw [this]; rfl
  · have : (l.take i ++ [92] ++ l.drop i).getD (i + 1) 0 = l[i]'hi := by
      rw [List.getD_eq_getElem?_getD, List.getElem?_append_right (by simp only [List.length_append, List.length_take, List.length_singleton]; omega)]; simp [Nat.min_eq_left (Nat.le_of_lt hi), List.getElem?_drop, List.getElem?_eq_getElem hi]
    rw [this]
    rcases hs _ (List.getElem_mem hi) with h | h | h | h <;> rw [h] <;> rfl
theorem ls_new {h₀ h h' : Heap} {L D : Addr} {o : Obj} {m : Str → Option Value} {news : List (Addr × Obj)} (F : Fr h₀ L h m) (N : News h₀ L h news) (g : Grows h h') (hn : h.get? D = none) (ho : h'.get? D = some o) :
    News h₀ L h' ((D, o) :: news) ∧ (∀ p ∈ news, p.1 ≠ D) := by
  refine ⟨fun p hp => ?_, fun p hp e => ?_⟩
  · rcases List.mem_cons.mp hp with rfl | hp
    · refine ⟨ho, fun e => ?_, ?_⟩
      · obtain ⟨oL, _, _, hL, _⟩ := F.ns
        dsimp only at e
        rw [e, hL] at hn
        cases hn
      · cases e : h₀.get? D with
        | none => rfl
        | some o' => rw [F.keep _ _ e] at hn; cases hn
    · exact ⟨g _ _ (N p hp).1, (N p hp).2⟩
  · have := (N p hp).1
    rw [e, hn] at this
    cases this
set_option maxHeartbeats 40000000 in
theorem law_cards_spec {l : List Nat} {t0 : Tok} (hl : l.length ≤ 100) (hs : ∀ c ∈ l, Sg c)
    (X : (hd.heap_39 w.params).In s.heap) (T : Top hd.view_39 LS mean mg mb s.heap) (hr : dp + 2 < recursionLimit) (hu : un + 40 < cLine)
    (hQ : ∀ R h' tk' vs c, Grows s.heap h' → s.heap.get? R = none → h'.get? R = some (listOf (vs : List Value).toArray c) → TextsAre vs (cardsL l) → Q (.ref R) { s with heap := h', toks := tk' }) :
    wpAny (model PG w) (Ar dp fr gd un) (call (.ref 97) [.str (S l) t0]) Q (fun _ _ => False) s := by
  refine enterX (binds := [(Str.ofString "word", .str (S l) t0)]) X T (by rfl) (by k_is) (by show dp < _; omega) (by rfl) (locs rfl) (by decide) (by rfl) (by rfl) (by rfl) ?_
  intro L h₁ F N
  k_fold
  k_steps
  refine ⟨For_invV s.heap (by rfl) (by rfl) ?_⟩
  k_steps
  refine ⟨iter_range (n := l.length) (fun i m₁ nx => ∃ (R : Addr) (vs : List Value) (c : Nat), nx = [(R, listOf vs.toArray c)] ∧ TextsAre vs ((List.range i).map (del l)) ∧
      m₁ (Str.ofString "cards") = some (.ref R) ∧ m₁ (Str.ofString "word") = some (.str (S l) t0)) (by rfl) (by assumption) (small_of (by omega) (by omega) (by omega) (by omega) (.inl rfl)) rsize_one (by assumption) (by assumption)
      ⟨_, [], 0, rfl, .nil, by rfl, by rfl⟩ ?_ ?_⟩
  · rintro I i t m₁ nx h tk own hi ⟨R, vs, c, rfl, hv, p1, p2⟩ hne hI hoff F N
    simp only [List.cons_append, List.nil_append, Int.zero_add, Int.mul_one] at F N
    k_fold
    have hRI : R ≠ I := hne _ (.head _)
    k_steps
    have P43 := F.keep _ _ (X 43 _ (by rfl))
    have P42 := F.keep _ _ (X 42 _ (by rfl))
    refine getMethod_builtin (T := "re.Pattern") (id := "re.Pattern.search") ⟨_, P43, rfl⟩ RF.pa_pattern RF.slot_search RF.type_search (fun a' e => by cases e; exact ⟨_, P43, rfl⟩) ?_
    k_steps
    rw [show Str.ofString "\\" = S [92] from by decide +kernel]
    k_steps
    have e1 : ((i : Nat) : Int).toNat = i := rfl
    rename_i H _ _ F N tt _
    obtain ⟨g1, g2, g3, g4⟩ := search_pre hs hi
    refine RE.search_wp (n := i) (F.keep _ _ (X 43 _ (by rfl))) (F.keep _ _ (X 42 _ (by rfl))) ?_ ?_ ?_ ?_ ?_ ?_
    · exact g1
    · rw [S_cps, List.size_toArray]; simp; omega
    · exact g2
    · exact g3
    · exact g4
    dsimp only
    have F1 := F.push { cls := .type "tuple", data := .seq #[rawInt i, rawInt (i + 2 : Nat), rawInt (i + 1 : Nat), rawInt (i + 2 : Nat)] }
    have N1 := N.push F { cls := .type "tuple", data := .seq #[rawInt i, rawInt (i + 2 : Nat), rawInt (i + 1 : Nat), rawInt (i + 2 : Nat)] }
    have es : H.objs.size + 1 = (H.push { cls := .type "tuple", data := .seq #[rawInt i, rawInt (i + 2 : Nat), rawInt (i + 1 : Nat), rawInt (i + 2 : Nat)] }).objs.size := by simp [Heap.push]
    rw [es]
    have N2 := N1.push F1 { cls := .type "re.Match", data := .fields #[.str (S (l.take i ++ [92] ++ l.drop i)) tt, .ref 43, rawInt 0, rawInt ((S (l.take i ++ [92] ++ l.drop i)).cps.size : Nat), rawInt 1, .ref H.objs.size] }
    have F2 := F1.push { cls := .type "re.Match", data := .fields #[.str (S (l.take i ++ [92] ++ l.drop i)) tt, .ref 43, rawInt 0, rawInt ((S (l.take i ++ [92] ++ l.drop i)).cps.size : Nat), rawInt 1, .ref H.objs.size] }
    clear F N F1 N1
    k_steps
    rename_i F N
    have hM := (N _ (.head _)).1
    have hT := (N _ (.tail _ (.head _))).1
    refine ⟨unmatched_spec (n := i) ?_ ?_ hM hT (by k_in) (Top.keeps T F.keep) (by dsimp only [Around.deeper, Ar]; omega) (by dsimp only [Around.deeper, Ar]; omega) ?_⟩
    · simp; omega
    · simp; omega
    intro t' h' tk' g'
    have F' := Mine.Fr.grows F g'
    have N' := Mine.News.grows (show News _ _ _ _ from fun p hp => N p (.tail _ (.tail _ hp))) g'
    clear F N hM hT g'
    k_steps
    have ed : (l.take i ++ [92] ++ l.drop i).take i ++ (l.take i ++ [92] ++ l.drop i).drop (i + 2) = del l i := by
      have : (l.take i).length = i := by simp; omega
      unfold del
      rw [List.append_assoc, List.take_append_of_le_length (by omega), List.take_of_length_le (by omega), List.drop_append, this]
      rw [List.drop_eq_nil_of_le (by omega)]
      simp [List.drop_drop]
    have hsz : vs.length ≤ 100 := by
      have e := hv.length
      rw [List.length_map, List.length_range] at e
      omega
    refine append_K F' N' (Upd.head (OwnOff.ne hoff (by simp))) ?_ (by rw [List.size_toArray]; rw [sizeLine_eq]; omega)
    intro h' F' N'
    k_steps
    rw [ed, List.push_toArray] at N'
    exact TurnEnd.next F' (nx := [(R, _)]) N' (by intro p hp; rw [List.mem_singleton.mp hp]; exact hRI) ⟨R, _, _, rfl, (range_snoc l i) ▸ hv.snoc, (by exact p1), (by exact p2)⟩
  · rintro m₁ nx h tk ⟨R, vs, c, rfl, hv, p1, p2⟩ F N
    k_steps
    show Q _ _
    exact hQ _ _ _ _ _ F.keep (N _ (.head _)).2.2 (N _ (.head _)).1 hv
end
end
-- part TX
section
open PySem PySem.W PySem.Spec PySem.Calls PyProof.Rows PySem.SeqAt
abbrev TD (ts : List (List Nat)) : List PyData := ts.map fun l => PyData.str (S l)
theorem reads_texts {h : Heap} : ∀ {vs : List Value} {ts : List (List Nat)}, TextsAre vs ts → ReadsAll h vs (TD ts) []
  | _, _, .nil => .nil
  | _, _, .cons l t r => by
    have := ReadsAll.cons (Reads.str (h := h) (S l) t) (reads_texts (h := h) r)
    simpa using this
theorem reads_textsL {h : Heap} {a : Addr} {vs : List Value} {ts : List (List Nat)} (hl : h.IsList a vs.toArray) (hv : TextsAre vs ts) : Reads h (.ref a) (.list (TD ts)) [a] := by
  obtain ⟨o, ho, hc, n, hd⟩ := hl
  exact Reads.list ho hc hd (by simpa using reads_texts hv)
theorem lay_texts : ∀ {ts : List (List Nat)}, (∀ l ∈ ts, PyData.strOk (S l) = true) → PyData.canLayAll0 (TD ts) = true
  | [], _ => by simp [PyData.canLayAll0]
  | n :: r, h => by
    have ih := lay_texts (ts := r) fun l hl => h l (.tail _ hl)
    have h1 := h n (.head _)
    simp [PyData.canLayAll0, PyData.canLay0, ih, h1]
theorem depth_texts : ∀ ts : List (List Nat), PyData.depthAll (TD ts) ≤ 1
  | [] => by simp [PyData.depthAll]
  | n :: r => by
    have := depth_texts r
    show max (PyData.depth (.str (S n))) (PyData.depthAll (TD r)) ≤ 1
    simp only [PyData.depth]
    omega
theorem shaped_texts {ts : List (List Nat)} (hk : ∀ l ∈ ts, PyData.strOk (S l) = true) : shaped (.list (TD ts)) = true := by
  have h1 := depth_texts ts
  have h2 : PyData.depth (.list (TD ts)) ≤ 64 := by simp only [PyData.depth]; omega
  show (PyData.canLay0 (.list (TD ts)) && decide (PyData.depth (.list (TD ts)) ≤ 64)) = true
  rw [Bool.and_eq_true]
  exact ⟨by simp only [PyData.canLay0]; exact lay_texts hk, decide_eq_true h2⟩
theorem nomix_texts : ∀ a b : List (List Nat), noMixAll (TD a) (TD b) = true
  | [], [] => by simp [noMixAll]
  | [], _ :: _ => by simp [noMixAll]
  | _ :: _, [] => by simp [noMixAll]
  | _ :: r, _ :: q => by simp [noMixAll, noMix, nomix_texts r q]
theorem same_texts : ∀ a b : List (List Nat), PySem.Spec.sameAll (TD a) (TD b) = decide (a = b)
  | [], [] => by simp [PySem.Spec.sameAll]
  | [], _ :: _ => by simp [PySem.Spec.sameAll]
  | _ :: _, [] => by simp [PySem.Spec.sameAll]
  | n :: r, k :: q => by
    simp only [List.map_cons, PySem.Spec.sameAll, PySem.Spec.same, same_texts r q, S_beq]
    by_cases h : n = k <;> simp [h]
section
variable {prog : Program} {w : World} {A : Around} {E : Value → Shared → Prop} {s : Shared}
theorem neT {a b : Addr} {vs us : List Value} {x y : List (List Nat)} {Q : Value → Shared → Prop} (hl : s.heap.IsList a vs.toArray) (hv : TextsAre vs x) (hl' : s.heap.IsList b us.toArray) (hv' : TextsAre us y) (hx : ∀ l ∈ x, PyData.strOk (S l) = true) (hy : ∀ l ∈ y, PyData.strOk (S l) = true) (hu : A.units + 64 < cLine)
    (h : Q (.bool (!decide (x = y))) s) : wpAny (model prog w) A (compareOp .NotEq (.ref a) (.ref b)) Q E s :=
  ne_dataH_same (reads_textsL hl hv) (reads_textsL hl' hv') (shaped_texts hx) (shaped_texts hy) hu (by simp only [noMix]; exact nomix_texts x y) (by simp only [PySem.Spec.same]; rw [same_texts]; exact h)
end
end
-- part Whas
section
local macro_rules | `(tactic| walk_at "call ref") => `(tactic| (k_here; (with_reducible show wpAny _ _ (call (Value.ref 85) _) _ _ _); k_dflt (refine' wpAny_noRaise (lev_spec ?h1 ?h2 ?h3 ?X ?T ?r ?u ?_); (case h1 => (constructor <;> omega)); (case h2 => assumption); (case h3 => assumption); (case X => k_in); (case T => exact Top.keeps (by assumption) (Fr.keep (by k_asm))); (case r => ((try dsimp only [Around.deeper, Ar]); omega)); (case u => ((try dsimp only [Around.deeper, Ar]); omega))); intro t' h' tk' g'; (rename Fr _ _ _ _ => oF'); (rename News _ _ _ _ => oN'); (have F' := Mine.Fr.grows oF' g'); (have N' := Mine.News.grows oN' g'); clear oF' oN' g'; (try k_sweep)))
section
variable {w : World} {dp un : Nat} {fr : Option (List Env)} {gd : Option (List Code)} {s : Shared} {mean : ExcName → Option Value} {mg mb : Str → Option Value} {Q : Value → Shared → Prop}
def hasAllF (l : List Nat) (ts : List (List Nat)) : Bool := ts.all fun t => decide (levF l t 0 ≠ 1)
theorem TextsAre.at : ∀ {v : List Value} {n : List (List Nat)} {i : Nat} {x : Value}, TextsAre v n → v[i]? = some x → ∃ l t, x = .str (S l) t ∧ n[i]? = some l
  | _, _, i, _, .nil, h => by simp at h
  | _, _, 0, x, .cons l t h, e => by
    simp at e
    exact ⟨l, t, e.symm, rfl⟩
  | _, _, i + 1, x, .cons l t h, e => by simpa using h.at (by simpa using e)
set_option maxHeartbeats 40000000 in
theorem law_has_all_spec {l : List Nat} {ts : List (List Nat)} {vs : List Value} {c : Nat} {R : Addr} {t0 : Tok} (hl : l.length ≤ 7) (ht : ∀ t ∈ ts, t.length ≤ 7) (hv : TextsAre vs ts) (hR : s.heap.get? R = some (listOf vs.toArray c))
    (X : (hd.heap_39 w.params).In s.heap) (T : Top hd.view_39 LS mean mg mb s.heap) (hr : dp + 3 < recursionLimit) (hu : un + 80 < cLine)
    (hQ : ∀ h' tk', Grows s.heap h' → Q (.bool (hasAllF l ts)) { s with heap := h', toks := tk' }) :
    wpAny (model PG w) (Ar dp fr gd un) (call (.ref 121) [.str (S l) t0, .ref R]) Q (fun _ _ => False) s := by
  refine enterX (binds := [(Str.ofString "word", .str (S l) t0), (Str.ofString "texts", .ref R)]) X T (by rfl) (by k_is) (by show dp < _; omega) (by rfl) (locs rfl) (by decide) (by rfl) (by rfl) (by rfl) ?_
  intro L h₁ F N
  k_fold
  k_steps
  refine ⟨For_invV s.heap (by rfl) (by rfl) ?_⟩
  k_steps
  have hL : s.heap.IsList R vs.toArray := ⟨_, hR, rfl, _, rfl⟩
  refine ⟨iter_list (fun i m₁ nx => nx = [] ∧ m₁ (Str.ofString "word") = some (.str (S l) t0) ∧ ∀ j t, j < i → ts[j]? = some t → levF l t 0 ≠ 1) (by rfl) hL (by assumption) (by assumption) ⟨rfl, by rfl, by simp⟩ ?_ ?_⟩
  · rintro I i v m₁ nx h tk own hi ⟨rfl, p1, p2⟩ hne hI hoff F N
    k_fold
    rw [List.getElem?_toArray] at hi
    obtain ⟨x, t, rfl, hx⟩ := hv.at hi
    have hxl := ht x (List.mem_of_getElem? hx)
    simp only [List.nil_append] at N
    k_steps
    · rename_i F' N' h1
      refine TurnEnd.ret ?_
      show Q _ _
      have e : hasAllF l ts = false := by
        cases hq : hasAllF l ts with
        | false => rfl
        | true =>
          unfold hasAllF at hq
          rw [List.all_eq_true] at hq
          exact absurd h1 (of_decide_eq_true (hq x (List.mem_of_getElem? hx)))
      exact e ▸ hQ _ _ (Fr.keep F')
    · rename_i F' N' h1
      refine TurnEnd.next F' (nx := []) N' (by simp) ⟨rfl, (by exact p1), ?_⟩
      intro j y hj hy
      by_cases hji : j = i
      · subst hji
        rw [hx] at hy
        cases hy
        exact h1
      · exact p2 j y (by omega) hy
  · rintro m₁ nx h tk ⟨rfl, p1, p2⟩ F N
    k_steps
    show Q _ _
    have e : hasAllF l ts = true := by
      unfold hasAllF
      rw [List.all_eq_true]
      intro x hx
      obtain ⟨j, hj, e⟩ := List.getElem_of_mem hx
      have hlen := hv.length
      exact decide_eq_true (p2 j x (by rw [List.size_toArray]; omega) (by rw [List.getElem?_eq_getElem hj, e]))
    exact e ▸ hQ _ _ F.keep
end
end
-- part Wends
section
section
variable {w : World} {dp un : Nat} {fr : Option (List Env)} {gd : Option (List Code)} {s : Shared} {mean : ExcName → Option Value} {mg mb : Str → Option Value} {Q : Value → Shared → Prop}
def endP (l : List Nat) (i : Nat) : Bool := decide ((l.take (i + 2)).drop (i + 1) ≠ [l.getD i 0])
def endsL (l : List Nat) : List Nat := (List.range l.length).filter (endP l)
theorem fold_filter {α : Type} (p : Nat → Prop) [DecidablePred p] (f : Nat → α) (g : α → Prop) [DecidablePred g] (hg : ∀ k, g (f k) ↔ p k) : ∀ (r : List Nat) (acc : List α),
    (r.map f).foldl (fun l' k' => if g k' then l' ++ [k'] else l') acc = acc ++ (r.filter (fun k => decide (p k))).map f
  | [], acc => by simp
  | x :: r, acc => by
    have ih := fold_filter p f g hg r
    simp only [List.map_cons, List.foldl_cons]
    by_cases h : p x
    · rw [if_pos ((hg x).mpr h), List.filter_cons_of_pos (by simpa using h), ih]; simp
    · rw [if_neg (fun q => h ((hg x).mp q)), List.filter_cons_of_neg (by simpa using h), ih]
theorem ends_eq {l : List Nat} : List.foldl (fun l' (k' : Int) => if ¬List.drop (k' + 1).toNat (List.take (k' + 2).toNat l) = [l.getD k'.toNat 0] then l' ++ [k'] else l') [] (rangeKs 0 ((l.length : Int) - 0).toNat) = (endsL l).map (fun (k : Nat) => (k : Int)) := by
  unfold rangeKs endsL
  have e := fold_filter (α := Int) (fun k => ¬List.drop (k + 1) (List.take (k + 2) l) = [l.getD k 0]) (fun i => 0 + (i : Int)) (fun k' : Int => ¬List.drop (k' + 1).toNat (List.take (k' + 2).toNat l) = [l.getD k'.toNat 0]) (fun k => by
    rw [show (0 + (k : Int) + 1).toNat = k + 1 by omega, show (0 + (k : Int) + 2).toNat = k + 2 by omega, show (0 + (k : Int)).toNat = k by omega]) (List.range ((l.length : Int) - 0).toNat) []
  rw [e, show ((l.length : Int) - 0).toNat = l.length by omega]
  simp only [List.nil_append, Int.zero_add]
  rfl
set_option maxHeartbeats 40000000 in
theorem law_ends_spec {l : List Nat} {t0 : Tok} (hl : l.length ≤ 100)
    (X : (hd.heap_39 w.params).In s.heap) (T : Top hd.view_39 LS mean mg mb s.heap) (hr : dp + 2 < recursionLimit) (hu : un + 40 < cLine)
    (hQ : ∀ R h' tk' vs c, Grows s.heap h' → s.heap.get? R = none → h'.get? R = some (listOf (vs : List Value).toArray c) → IntsAre vs ((endsL l).map (fun (k : Nat) => (k : Int))) → Q (.ref R) { s with heap := h', toks := tk' }) :
    wpAny (model PG w) (Ar dp fr gd un) (call (.ref 102) [.str (S l) t0]) Q (fun _ _ => False) s := by
  refine enterC (binds := [(Str.ofString "word", .str (S l) t0)]) X T (by rfl) (by k_is) (by show dp < _; omega) (by rfl) (kindsX rfl) (by decide) (by rfl) (by rfl) (by rfl) ?_
  intro L h₁ tk₁ cells F N Y
  k_cells Y
  k_steps
  refine ⟨LCt.ListComp_T (F₀ := by k_asm) (by with_unfolding_all rfl) (by decide) (by rfl) (by decide) (by rfl) ?_⟩
  k_steps
  rename_i hI _ hL D h' tk' F' N' _
  refine hQ _ _ _ ys ys.length (Fr.keep F') (N' _ (.head _)).2.2 (N' _ (.head _)).1 ?_
  rw [ends_eq] at hI
  exact hI
end
end
-- part Wcnt
section
section
variable {w : World} {dp un : Nat} {fr : Option (List Env)} {gd : Option (List Code)} {s : Shared} {mean : ExcName → Option Value} {mg mb : Str → Option Value} {Q : Value → Shared → Prop}
set_option maxHeartbeats 40000000 in
theorem count_calls_spec {ps : List (List Nat × Int)} {d : Addr} (b : IsBook w s.heap d ps)
    (X : (hd.heap_39 w.params).In s.heap) (T : Top hd.view_39 LS mean mg mb s.heap) (hr : dp + 2 < recursionLimit) (hu : un + 40 < cLine)
    (hQ : ∀ t h' tk', Grows s.heap h' → Q (.int (ps.map (·.2)).sum t) { s with heap := h', toks := tk' }) :
    wpAny (model PG w) (Ar dp fr gd un) (call (.ref 71) [.ref d]) Q (fun _ _ => False) s := by
  refine enterX (binds := [(Str.ofString "callers", .ref d)]) X T (by rfl) (by k_is) (by show dp < _; omega) (by rfl) (locs rfl) (by decide) (by rfl) (by rfl) (by rfl) ?_
  intro L h₁ F N
  k_fold
  k_steps
  refine ⟨For_invV s.heap (by rfl) (by rfl) ?_⟩
  k_steps
  rename_i F N
  refine bk_method F b PySem.F.slot_dict_values PySem.F.type_dict_values ?_
  k_steps
  refine bk_values F N b ?_
  intro V h₂ hV F N
  k_steps
  obtain ⟨ep, kvs, hD, hP⟩ := b.ex
  refine ⟨iter_values (knd := strKind PG w) (fun i m₁ nx => ∃ t, nx = [] ∧ m₁ (Str.ofString "nc") = some (.int (((ps.map (·.2)).take i).sum) t)) (by rfl) hV hD (by assumption) (by assumption) ⟨_, rfl, by rfl⟩ ?_ ?_⟩
  · rintro I i k v m₁ nx h tk own hi ⟨t, rfl, p1⟩ hne hI hoff F N
    obtain ⟨a, c, t', rfl, rfl, hi'⟩ := hP.at hi
    simp only [List.nil_append] at N
    k_fold
    k_steps
    rename_i F' N'
    have e : (((ps.map (·.2)).take (i + 1)).sum) = ((ps.map (·.2)).take i).sum + c := by
      rw [List.take_add_one, List.getElem?_map, hi']; simp
    exact TurnEnd.next F' (nx := []) N' (by simp) ⟨_, rfl, by rw [e]; rfl⟩
  · rintro m₁ nx h tk ⟨t, rfl, p1⟩ F N
    k_steps
    show Q _ _
    have e : ((ps.map (·.2)).take kvs.length).sum = (ps.map (·.2)).sum := by rw [hP.length]; rw [List.take_of_length_le (by simp)]
    rw [e]
    exact hQ _ _ _ F.keep
end
end
-- part Wadd
section
section
variable {w : World} {dp un : Nat} {fr : Option (List Env)} {gd : Option (List Code)} {s : Shared} {mean : ExcName → Option Value} {mg mb : Str → Option Value} {Q : Value → Shared → Prop}
set_option maxHeartbeats 40000000 in
theorem add_callers_spec {d1 d2 : Addr} {ps1 ps2 : List (List Nat × Int)} (b1 : IsBook w s.heap d1 ps1) (b2 : IsBook w s.heap d2 ps2) (z1 : ps1.length ≤ 100) (z2 : ps2.length ≤ 100)
    (X : (hd.heap_39 w.params).In s.heap) (T : Top hd.view_39 LS mean mg mb s.heap) (hr : dp + 2 < recursionLimit) (hu : un + 40 < cLine)
    (hQ : ∀ D h' tk', Grows s.heap h' → s.heap.get? D = none → IsBook w h' D (addP ps1 ps2) → Q (.ref D) { s with heap := h', toks := tk' }) :
    wpAny (model PG w) (Ar dp fr gd un) (call (.ref 64) [.ref d1, .ref d2]) Q (fun _ _ => False) s := by
  refine enterX (binds := [(Str.ofString "target", .ref d1), (Str.ofString "source", .ref d2)]) X T (by rfl) (by k_is) (by show dp < _; omega) (by rfl) (locs rfl) (by decide) (by rfl) (by rfl) (by rfl) ?_
  intro L h₁ F N
  k_fold
  k_steps
  rename_i D _ o low hD _ _ _ _ h' F' N'
  obtain ⟨ep1, kvs1, g1, q1⟩ := b1.ex
  obtain ⟨ep2, kvs2, g2, q2⟩ := b2.ex
  refine ⟨after (fun f s' => Stop (f = Flow.next ∧ ∃ h' tk' m₁ o kvs, s' = { s with heap := h', toks := tk' } ∧ Fr s.heap L h' m₁ ∧ News s.heap L h' [(D, o)] ∧ o.IsDictOf (strKind PG w) kvs ∧ PairsAre kvs (ps1.foldl (fun acc p => putP acc p.1 p.2) []) ∧
      m₁ (Str.ofString "new_callers") = some (.ref D) ∧ m₁ (Str.ofString "target") = some (.ref d1) ∧ m₁ (Str.ofString "source") = some (.ref d2))) ?_ ?_⟩
  · refine For_pair_inv s.heap ?_
    k_steps
    refine bk_method F' b1 PySem.F.slot_dict_items PySem.F.type_dict_items ?_
    k_steps
    refine bk_items F' N' b1 ?_
    intro V h₂ hV F N
    k_steps
    refine ⟨iter_items (knd := strKind PG w) (fun i m₁ nx => ∃ o kvs, nx = [(D, o)] ∧ o.IsDictOf (strKind PG w) kvs ∧ PairsAre kvs ((ps1.take i).foldl (fun acc p => putP acc p.1 p.2) []) ∧
      m₁ (Str.ofString "new_callers") = some (.ref D) ∧ m₁ (Str.ofString "target") = some (.ref d1) ∧ m₁ (Str.ofString "source") = some (.ref d2)) (by rfl) (by rfl) (by rfl) (by rfl) hV g1 F N ⟨o, [], rfl, hD, .nil, by rfl, by rfl, by rfl⟩ ?_ ?_⟩
    · rintro I i k key v m₁ nx ⟨hh', gens', drawn', tk', os'⟩ own hi hkey ⟨o, kvs, rfl, hD, hP, p1, p2, p3⟩ hne hoff F N
      dsimp only at F N
      k_fold
      obtain ⟨t, rfl⟩ := Value.isStrOf_shape hkey
      obtain ⟨a, c, t', rfl, rfl, hi'⟩ := q1.at hi
      simp only [List.cons_append, List.nil_append] at N
      k_steps
      refine kda_set F N (UpdF.head (OwnOff.ne hoff (by simp))) hD (strKind_is _ _ _ _) (by rw [hP.length, sizeLine_eq]; have := foldl_len (f := fun acc p => putP acc p.1 p.2) (fun a p => putP_len a p.1 p.2) (ps1.take i) []; simp only [List.length_nil, List.length_take] at this; omega) ?_
      intro h' o' F' N' hD'
      k_steps
      refine TurnNext.next F' (nx := [(D, o')]) N' (by intro p hp; rw [List.mem_singleton.mp hp]; exact hne (D, o) (.head _)) ⟨o', _, rfl, hD', ?_, (by exact p1), (by exact p2), (by exact p3)⟩
      rw [List.take_add_one, hi', List.foldl_append]
      exact hP.put
    · rintro m₁ nx h tk ⟨o, kvs, rfl, hD, hP, p1, p2, p3⟩ F N
      rw [q1.length, List.take_length] at hP
      exact ⟨rfl, _, _, _, _, _, rfl, F, N, hD, hP, p1, p2, p3⟩
  · rintro f s' ⟨rfl, h', tk', m₁, o, kvs, rfl, F, N, hD, hP, p1, p2, p3⟩
    clear F' N'
    k_steps
    refine ⟨after (fun f s' => Stop (f = Flow.next ∧ ∃ h' tk' m₁ o kvs, s' = { s with heap := h', toks := tk' } ∧ Fr s.heap L h' m₁ ∧ News s.heap L h' [(D, o)] ∧ o.IsDictOf (strKind PG w) kvs ∧ PairsAre kvs (addP ps1 ps2) ∧
      m₁ (Str.ofString "new_callers") = some (.ref D))) ?_ ?_⟩
    · refine For_pair_inv s.heap ?_
      k_steps
      refine bk_method F b2 PySem.F.slot_dict_items PySem.F.type_dict_items ?_
      k_steps
      refine bk_items F N b2 ?_
      intro V h₂ hV F1 N1
      k_steps
      refine ⟨iter_items (knd := strKind PG w) (fun i m₁ nx => ∃ o kvs, nx = [(D, o)] ∧ o.IsDictOf (strKind PG w) kvs ∧ PairsAre kvs ((ps2.take i).foldl bumpP (ps1.foldl (fun (acc : List (List Nat × Int)) (p : List Nat × Int) => putP acc p.1 p.2) [])) ∧
        m₁ (Str.ofString "new_callers") = some (.ref D)) (by rfl) (by rfl) (by rfl) (by rfl) hV g2 F1 N1 ⟨o, kvs, rfl, hD, hP, p1⟩ ?_ ?_⟩
      · clear F1 N1 F N p1 p2 p3 hP hD
        rintro I i k key v m₁ nx ⟨hh', gens', drawn', tk', os'⟩ own hi hkey ⟨o, kvs, rfl, hD, hP, p1⟩ hne hoff F N
        dsimp only at F N
        k_fold
        obtain ⟨t, rfl⟩ := Value.isStrOf_shape hkey
        obtain ⟨a, c, t', rfl, rfl, hi'⟩ := q2.at hi
        simp only [List.cons_append, List.nil_append] at N
        have hz : kvs.length ≤ sizeLine := by
          rw [hP.length, sizeLine_eq]
          have h1 := foldl_len bumpP_len (ps2.take i) (ps1.foldl (fun acc p => putP acc p.1 p.2) [])
          have h2 := foldl_len (f := fun acc p => putP acc p.1 p.2) (fun a p => putP_len a p.1 p.2) ps1 []
          simp only [List.length_nil, List.length_take] at h1 h2
          omega
        have hg := hP.get (k := a)
        have hb : (ps2.take (i + 1)).foldl bumpP (ps1.foldl (fun acc p => putP acc p.1 p.2) []) = bumpP ((ps2.take i).foldl bumpP (ps1.foldl (fun acc p => putP acc p.1 p.2) [])) (a, c) := by
          rw [List.take_add_one, hi', List.foldl_append]; rfl
        generalize (ps2.take i).foldl bumpP (ps1.foldl (fun acc p => putP acc p.1 p.2) []) = B at *
        cases hgp : getP B a with
        | none =>
          rw [hgp] at hg
          dsimp only at hg
          k_steps
          refine kda_in N (.head _) hD low (strKind_is _ _ _ _) false (by rw [hg]; rfl) ?_
          k_steps
          refine kda_set F N (UpdF.head (OwnOff.ne hoff (by simp))) hD (strKind_is _ _ _ _) hz ?_
          intro h' o' F' N' hD'
          k_steps
          refine TurnNext.next F' (nx := [(D, o')]) N' (by intro p hp; rw [List.mem_singleton.mp hp]; exact hne (D, o) (.head _)) ⟨o', _, rfl, hD', ?_, (by exact p1)⟩
          rw [hb]
          unfold bumpP
          rw [hgp]
          exact hP.put
        | some x =>
          rw [hgp] at hg
          dsimp only at hg
          obtain ⟨tx, hg⟩ := hg
          k_steps
          refine kda_in N (.head _) hD low (strKind_is _ _ _ _) true (by rw [hg]; rfl) ?_
          k_steps
          refine wpAny_getItem_of (strKind_is _ _ _ _) (kda_dict N (.head _) hD).mapOf hg ?_
          k_steps
          refine kda_set F N (UpdF.head (OwnOff.ne hoff (by simp))) hD (strKind_is _ _ _ _) hz ?_
          intro h' o' F' N' hD'
          k_steps
          refine TurnNext.next F' (nx := [(D, o')]) N' (by intro p hp; rw [List.mem_singleton.mp hp]; exact hne (D, o) (.head _)) ⟨o', _, rfl, hD', ?_, (by exact p1)⟩
          rw [hb]
          unfold bumpP
          rw [hgp]
          exact hP.put
      · rintro m₁ nx h tk ⟨o, kvs, rfl, hD, hP, p1⟩ F N
        rw [q2.length, List.take_length] at hP
        exact ⟨rfl, _, _, _, _, _, rfl, F, N, hD, hP, p1⟩
    · clear F N p1 p2 p3 hP hD
      rintro f s' ⟨rfl, h', tk', m₁, o, kvs, rfl, F, N, hD, hP, p1⟩
      k_steps
      show Q _ _
      exact hQ _ _ _ F.keep (N _ (.head _)).2.2 (IsBook.ofNews N (.head _) hD low hP)
end
end
-- part Wlow
section
section
variable {w : World} {dp un : Nat} {fr : Option (List Env)} {gd : Option (List Code)} {s : Shared} {mean : ExcName → Option Value} {mg mb : Str → Option Value} {Q : Value → Shared → Prop}
def turnsL (l : List Nat) (i j : Nat) : List Nat := (List.range' i (j - i)).filter fun k => decide (l.getD k 0 ≠ l.getD (k + 1) 0)
def lowF (l : List Nat) (i j : Nat) : Int := match turnsL l i j with
  | [] => 0
  | p :: _ => if l.getD (p + 1) 0 < l.getD p 0 then -1 else 1
theorem turns_lt {l : List Nat} {i j p : Nat} {r : List Nat} (h : turnsL l i j = p :: r) : i ≤ p ∧ p < j := by
  have : p ∈ turnsL l i j := by rw [h]; exact .head _
  unfold turnsL at this
  have := (List.mem_filter.mp this).1
  rw [List.mem_range'_1] at this
  omega
theorem turns_eq {l : List Nat} {i j : Nat} : List.foldl (fun l' (k' : Int) => if ¬[l.getD k'.toNat 0] = [l.getD (k' + 1).toNat 0] then l' ++ [k'] else l') [] (rangeKs (i : Int) ((j : Int) - (i : Int)).toNat) = (turnsL l i j).map (fun (k : Nat) => (k : Int)) := by
  unfold rangeKs turnsL
  have e := fold_filter (α := Int) (fun k => ¬[l.getD (i + k) 0] = [l.getD (i + k + 1) 0]) (fun k => (i : Int) + (k : Int)) (fun k' : Int => ¬[l.getD k'.toNat 0] = [l.getD (k' + 1).toNat 0]) (fun k => by
    rw [show ((i : Int) + (k : Int) + 1).toNat = i + k + 1 by omega, show ((i : Int) + (k : Int)).toNat = i + k by omega]) (List.range ((j : Int) - (i : Int)).toNat) []
  rw [e, show ((j : Int) - (i : Int)).toNat = j - i by omega, List.nil_append, List.range'_eq_map_range, List.filter_map, List.map_map]
  have e1 : ((fun (k : Nat) => (k : Int)) ∘ fun x => i + x) = fun (k : Nat) => (i : Int) + (k : Int) := by funext k; simp
  rw [e1]
  congr 1
  congr 1
  funext k
  simp
set_option maxHeartbeats 40000000 in
theorem law_lower_spec {l : List Nat} {i j : Nat} {t0 t1 t2 : Tok} (hl : l.length ≤ 100) (hij : i ≤ j) (hj : j < l.length)
    (X : (hd.heap_39 w.params).In s.heap) (T : Top hd.view_39 LS mean mg mb s.heap) (hr : dp + 2 < recursionLimit) (hu : un + 100 < cLine)
    (hQ : ∀ t h' tk', Grows s.heap h' → Q (.int (lowF l i j) t) { s with heap := h', toks := tk' }) :
    wpAny (model PG w) (Ar dp fr gd un) (call (.ref 140) [.str (S l) t0, .int (i : Int) t1, .int (j : Int) t2]) Q (fun _ _ => False) s := by
  refine enterC (binds := [(Str.ofString "word", .str (S l) t0), (Str.ofString "one", .int (i : Int) t1), (Str.ofString "other", .int (j : Int) t2)]) X T (by rfl) (by k_is) (by show dp < _; omega) (by rfl) (kindsX rfl) (by decide) (by rfl) (by rfl) (by rfl) ?_
  intro L h₁ tk₁ cells F N Y
  k_cells Y
  k_steps
  · rename_i hI _ _ D _ _ _ l0 h' F' N' _ h0
    show Q _ _
    rw [turns_eq] at h0
    have e : lowF l i j = 0 := by
      unfold lowF
      cases ht : turnsL l i j with
      | nil => rfl
      | cons p r => rw [ht] at h0; simp at h0
    exact e ▸ hQ _ _ _ (Fr.keep F')
  · rename_i hI _ _ D _ _ _ l0 h' F' N' _ h0
    rw [turns_eq] at h0 hI
    cases ht : turnsL l i j with
    | nil => rw [ht] at h0; simp at h0
    | cons p r =>
      rw [ht, List.map_cons] at hI
      have hp := turns_lt ht
      have e : lowF l i j = if l.getD (p + 1) 0 < l.getD p 0 then -1 else 1 := by unfold lowF; rw [ht]
      clear h0
      generalize hm : List.map (fun (k : Nat) => (k : Int)) r = mr at hI
      cases hI with
      | cons _ t rest =>
        k_steps
        rw [show ((p : Int) :: mr).getD (Int.toNat 0) 0 = (p : Int) from rfl]
        k_steps
        rw [show ((p : Int) :: mr).getD (Int.toNat 0) 0 = (p : Int) from rfl]
        k_steps
        · rename_i hc
          rw [S_list, S_list, show ((p : Int) + 1).toNat = p + 1 by omega, show ((p : Int)).toNat = p by omega] at hc
          have hc' : l.getD (p + 1) 0 < l.getD p 0 := by simpa [List.cons_lt_cons_iff] using hc
          rw [if_pos hc'] at e
          show Q _ _
          exact e ▸ hQ _ _ _ (Fr.keep F')
        · rename_i hc
          rw [S_list, S_list, show ((p : Int) + 1).toNat = p + 1 by omega, show ((p : Int)).toNat = p by omega] at hc
          have hc' : ¬ l.getD (p + 1) 0 < l.getD p 0 := by simpa [List.cons_lt_cons_iff] using hc
          rw [if_neg hc'] at e
          show Q _ _
          exact e ▸ hQ _ _ _ (Fr.keep F')
end
end
-- part Wbook
section
section
variable {w : World} {dp un : Nat} {fr : Option (List Env)} {gd : Option (List Code)} {s : Shared} {mean : ExcName → Option Value} {mg mb : Str → Option Value} {Q : Value → Shared → Prop}
def bookL (ts : List (List Nat)) : List (List Nat × Int) := ts.foldl (fun b t => addP b [(t, 1)]) []
theorem IsBook.obj {w : World} {h : Heap} {d : Addr} {ps : List (List Nat × Int)} (b : IsBook w h d ps) : ∃ o kvs, h.get? d = some o ∧ o.IsDictOf (strKind PG w) kvs ∧ PairsAre kvs ps := by
  obtain ⟨ep, kvs, h1, h2⟩ := b.ex
  obtain ⟨o, ho, hd⟩ := Heap.dictOf_iff.mp h1.dictOf
  exact ⟨o, kvs, ho, hd, h2⟩
theorem bk_new {w : World} {h₀ h h' : Heap} {L D : Addr} {m : Str → Option Value} {news : List (Addr × Obj)} {ps : List (List Nat × Int)} (F : Fr h₀ L h m) (N : News h₀ L h news) (g : Grows h h') (hn : h.get? D = none) (b : IsBook w h' D ps) :
    ∃ o kvs, o.IsDictOf (strKind PG w) kvs ∧ PairsAre kvs ps ∧ News h₀ L h' ((D, o) :: news) ∧ (∀ p ∈ news, p.1 ≠ D) := by
  obtain ⟨o, kvs, ho, hd, hp⟩ := b.obj
  refine ⟨o, kvs, hd, hp, fun p hp => ?_, fun p hp e => ?_⟩
  · rcases List.mem_cons.mp hp with rfl | hp
    · refine ⟨ho, fun e => ?_, ?_⟩
      · obtain ⟨oL, _, _, hL, _⟩ := F.ns
        dsimp only at e
        rw [e, hL] at hn
        cases hn
      · cases e : h₀.get? D with
        | none => rfl
        | some o' => rw [F.keep _ _ e] at hn; cases hn
    · exact ⟨g _ _ (N p hp).1, (N p hp).2⟩
  · have := (N p hp).1
    rw [e, hn] at this
    cases this
theorem addP_len (a b : List (List Nat × Int)) : (addP a b).length ≤ a.length + b.length := by
  unfold addP
  have h1 := foldl_len bumpP_len b (a.foldl (fun acc p => putP acc p.1 p.2) [])
  have h2 := foldl_len (f := fun acc p => putP acc p.1 p.2) (fun a p => putP_len a p.1 p.2) a []
  simp only [List.length_nil] at h2
  omega
theorem bookL_len (ts : List (List Nat)) : (bookL ts).length ≤ ts.length := by
  have go : ∀ (ts : List (List Nat)) (a : List (List Nat × Int)), (ts.foldl (fun b t => addP b [(t, 1)]) a).length ≤ a.length + ts.length := by
    intro ts
    induction ts with
    | nil => intro a; exact Nat.le_refl _
    | cons t ts ih =>
      intro a
      have h1 := ih (addP a [(t, 1)])
      have h2 := addP_len a [(t, 1)]
      simp only [List.foldl_cons, List.length_cons, List.length_nil] at *
      omega
  have := go ts []
  simpa [bookL] using this
set_option maxHeartbeats 40000000 in
theorem law_book_spec {ts : List (List Nat)} {vs : List Value} {c : Nat} {R : Addr} (hv : TextsAre vs ts) (hz : ts.length ≤ 90) (hR : s.heap.get? R = some (listOf vs.toArray c))
    (X : (hd.heap_39 w.params).In s.heap) (T : Top hd.view_39 LS mean mg mb s.heap) (hr : dp + 3 < recursionLimit) (hu : un + 100 < cLine)
    (hQ : ∀ D h' tk', Grows s.heap h' → s.heap.get? D = none → IsBook w h' D (bookL ts) → Q (.ref D) { s with heap := h', toks := tk' }) :
    wpAny (model PG w) (Ar dp fr gd un) (call (.ref 109) [.ref R]) Q (fun _ _ => False) s := by
  refine enterX (binds := [(Str.ofString "cards", .ref R)]) X T (by rfl) (by k_is) (by show dp < _; omega) (by rfl) (locs rfl) (by decide) (by rfl) (by rfl) (by rfl) ?_
  intro L h₁ F N
  k_fold
  k_steps
  rename_i B _ o low hD _ _ _ _ h' F' N'
  refine ⟨For_invV s.heap (by rfl) (by rfl) ?_⟩
  k_steps
  have hL : s.heap.IsList R vs.toArray := ⟨_, hR, rfl, _, rfl⟩
  refine ⟨iter_list (fun i m₁ nx => ∃ B o kvs, nx = [(B, o)] ∧ o.IsDictOf (strKind PG w) kvs ∧ PairsAre kvs (bookL (ts.take i)) ∧ (B == sysModules) = false ∧ m₁ (Str.ofString "book") = some (.ref B)) (by rfl) hL (by assumption) (by assumption) ⟨B, o, [], rfl, hD, .nil, low, by rfl⟩ ?_ ?_⟩
  · rintro I i v m₁ nx h tk own hi ⟨B, o, kvs, rfl, hD, hP, low, p1⟩ hne hI hoff F N
    k_fold
    rw [List.getElem?_toArray] at hi
    obtain ⟨x, t, rfl, hx⟩ := hv.at hi
    simp only [List.nil_append, List.cons_append] at N
    k_steps
    refine kdn_eval (knd := strKind PG w) F N T.nolimit (by rfl) (by rfl) (List.cons_ne_nil _ _) (by decide) ?_
    intro d1 h1 o1 F1 N1 l1 lo1 hd1
    k_steps
    dsimp only
    refine kdn_made_str F1 N1 (UpdF.head (fun p hp => Nat.ne_of_lt (l1 p hp))) hd1 (by rfl) (by simp [strPairs]) ?_
    intro h2 o2 F2 N2 hd2
    clear F N F1 N1
    k_steps
    have hd3 : o2.IsDictOf (strKind PG w) [(S x, .int 1 tk)] := hd2
    refine ⟨add_callers_spec (IsBook.ofNews N2 (.tail _ (.head _)) hD low hP) (IsBook.ofNews N2 (.head _) hd3 lo1 (.cons x 1 _ .nil)) ?_ ?_ (by k_in) (Top.keeps T F2.keep) (by dsimp only [Around.deeper, Ar]; omega) (by dsimp only [Around.deeper, Ar]; omega) ?_⟩
    · have := bookL_len (ts.take i)
      rw [List.length_take] at this
      omega
    · simp
    intro D h3 tk3 g hn bk
    obtain ⟨o3, kvs3, hd3, hP3, N3, hoff3⟩ := bk_new F2 (show News _ _ _ own from fun p hp => N2 p (.tail _ (.tail _ hp))) g hn bk
    have F3 := Mine.Fr.grows F2 g
    have bk_low := bk.low
    clear F2 N2 bk
    k_steps
    rename_i F N
    have hDI : D ≠ I := by
      obtain ⟨oI, hoI⟩ := hI
      exact fun e => hoff3 _ hoI e.symm
    refine TurnEnd.next F (nx := [(D, o3)]) N (by intro p hp; rw [List.mem_singleton.mp hp]; exact hDI) ⟨D, o3, kvs3, rfl, hd3, ?_, bk_low, by rfl⟩
    rw [List.take_add_one, hx]
    unfold bookL at hP3 ⊢
    rw [List.foldl_append]
    exact hP3
  · rintro m₁ nx h tk ⟨B, o, kvs, rfl, hD, hP, low, p1⟩ F N
    k_steps
    show Q _ _
    rw [List.size_toArray, hv.length, List.take_length] at hP
    exact hQ _ _ _ F.keep (N _ (.head _)).2.2 (IsBook.ofNews N (.head _) hD low hP)
end
end
-- part Wwords
section
section
variable {w : World} {dp un : Nat} {fr : Option (List Env)} {gd : Option (List Code)} {s : Shared} {mean : ExcName → Option Value} {mg mb : Str → Option Value} {Q : Value → Shared → Prop}
def otherL (l : List Nat) (p c : Nat) : List Nat := l.take p ++ [c] ++ l.drop p
def goodW (ts : List (List Nat)) (l : List Nat) (p c : Nat) : Bool := (decide (p = 0) || decide (l.getD (p - 1) 0 ≠ c)) && (decide ((endsL (otherL l p c)).length = ts.length) && hasAllF (otherL l p c) ts)
def signsL : List Nat := [97, 65, 98, 66]
def wordsAt (ts : List (List Nat)) (l : List Nat) (p j : Nat) : List (List Nat) := ((signsL.take j).filter (goodW ts l p)).map (otherL l p)
def wordsL (ts : List (List Nat)) (l : List Nat) : List (List Nat) := (List.range (l.length + 1)).flatMap fun p => wordsAt ts l p 4
theorem wordsAt_succ {ts : List (List Nat)} {l : List Nat} {p j ch : Nat} (h : signsL[j]? = some ch) : wordsAt ts l p (j + 1) = wordsAt ts l p j ++ if goodW ts l p ch = true then [otherL l p ch] else [] := by
  unfold wordsAt
  rw [List.take_add_one, h, List.filter_append, List.map_append]
  congr 1
  by_cases hg : goodW ts l p ch = true <;> simp [hg]
theorem wordsAt_len {ts : List (List Nat)} {l : List Nat} {p j : Nat} : (wordsAt ts l p j).length ≤ 4 := by
  unfold wordsAt
  rw [List.length_map]
  refine Nat.le_trans (List.length_filter_le _ _) ?_
  rw [List.length_take]
  exact Nat.min_le_right _ _
theorem words_len {ts : List (List Nat)} {l : List Nat} {i j : Nat} : (((List.range i).flatMap fun p => wordsAt ts l p 4) ++ wordsAt ts l i j).length ≤ 4 * i + 4 := by
  rw [List.length_append, List.length_flatMap]
  have h1 := wordsAt_len (ts := ts) (l := l) (p := i) (j := j)
  have h2 : ((List.range i).map fun p => (wordsAt ts l p 4).length).sum ≤ 4 * i := by
    induction i with
    | zero => simp
    | succ i ih =>
      rw [List.range_succ, List.map_append, List.sum_append]
      have := wordsAt_len (ts := ts) (l := l) (p := i) (j := 4)
      have ih' := ih (wordsAt_len (j := j))
      simp
      omega
  omega
theorem ne_two {W I : Addr} {o o' : Obj} {own : List (Addr × Obj)} (h : ∀ p ∈ (W, o) :: own, p.1 ≠ I) : ∀ p ∈ (W, o') :: own, p.1 ≠ I := fun p hp => by
  rcases List.mem_cons.mp hp with rfl | hp
  · exact h (W, o) (.head _)
  · exact h p (.tail _ hp)
set_option maxHeartbeats 40000000 in
theorem law_words_spec {ts : List (List Nat)} {l : List Nat} {vs : List Value} {c0 : Nat} {R : Addr} {t0 : Tok} (hv : TextsAre vs ts) (hz : ts.length ≤ 90) (hl0 : Stop (l.length ≤ 6)) (hl : l.length ≤ 1000) (ht : ∀ t ∈ ts, t.length ≤ 7) (hR : s.heap.get? R = some (listOf vs.toArray c0))
    (X : (hd.heap_39 w.params).In s.heap) (T : Top hd.view_39 LS mean mg mb s.heap) (hr : dp + 5 < recursionLimit) (hu : un + 200 < cLine)
    (hQ : ∀ D h' tk' us c, Grows s.heap h' → s.heap.get? D = none → h'.get? D = some (listOf (us : List Value).toArray c) → TextsAre us (wordsL ts l) → Q (.ref D) { s with heap := h', toks := tk' }) :
    wpAny (model PG w) (Ar dp fr gd un) (call (.ref 128) [.ref R, .str (S l) t0]) Q (fun _ _ => False) s := by
  refine enterX (binds := [(Str.ofString "texts", .ref R), (Str.ofString "card", .str (S l) t0)]) X T (by rfl) (by k_is) (by show dp < _; omega) (by rfl) (locs rfl) (by decide) (by rfl) (by rfl) (by rfl) ?_
  intro L h₁ F N
  k_fold
  k_steps
  refine ⟨For_invV s.heap (by rfl) (by rfl) ?_⟩
  k_steps
  have hL : s.heap.IsList R vs.toArray := ⟨_, hR, rfl, _, rfl⟩
  refine ⟨iter_range (n := l.length + 1) (fun i m₁ nx => ∃ (W : Addr) (us : List Value) (c : Nat), nx = [(W, listOf us.toArray c)] ∧ TextsAre us ((List.range i).flatMap fun p => wordsAt ts l p 4) ∧
      m₁ (Str.ofString "words") = some (.ref W) ∧ m₁ (Str.ofString "card") = some (.str (S l) t0) ∧ m₁ (Str.ofString "texts") = some (.ref R)) (by rfl) (by assumption) (small_of (by omega) (by omega) (by omega) (by omega) (.inl rfl)) (rsize_one (n := l.length + 1)) (by assumption) (by assumption)
      ⟨_, [], 0, rfl, .nil, by rfl, by rfl, by rfl⟩ ?_ ?_⟩
  · rintro I i t m₁ nx h tk own hi ⟨W, us, c, rfl, hv', p1, p2, p3⟩ hne hI hoff F N
    simp only [List.cons_append, List.nil_append, Int.zero_add, Int.mul_one] at F N
    k_fold
    have hRI : W ≠ I := hne _ (.head _)
    k_steps
    refine ⟨after (fun f s' => Stop (f = Flow.next ∧ ∃ h' tk' m₁ us c, s' = { s with heap := h', toks := tk' } ∧ Fr s.heap L h' m₁ ∧ News s.heap L h' ((W, listOf (List.toArray us) c) :: own) ∧ TextsAre us (((List.range i).flatMap fun p => wordsAt ts l p 4) ++ wordsAt ts l i 4) ∧
      m₁ (Str.ofString "words") = some (.ref W) ∧ m₁ (Str.ofString "card") = some (.str (S l) t0) ∧ m₁ (Str.ofString "texts") = some (.ref R))) ?_ ?_⟩
    · refine For_invV s.heap (by rfl) (by rfl) ?_
      k_steps
      refine ⟨iter_str (fun j m₁ nx => ∃ (us : List Value) (c : Nat) (ti : Tok), nx = (W, listOf us.toArray c) :: own ∧ TextsAre us (((List.range i).flatMap fun p => wordsAt ts l p 4) ++ wordsAt ts l i j) ∧
        m₁ (Str.ofString "words") = some (.ref W) ∧ m₁ (Str.ofString "card") = some (.str (S l) t0) ∧ m₁ (Str.ofString "texts") = some (.ref R) ∧ m₁ (Str.ofString "place") = some (.int (i : Int) ti)) (by rfl) F N
        ⟨us, c, t, rfl, (by simpa [wordsAt] using hv'), (by exact p1), (by exact p2), (by exact p3), (by rfl)⟩ (by decide +kernel) ?_ ?_⟩
      · clear F N p1 p2 p3 hv'
        rintro I2 j ch tc m₁ nx h tk own2 hj ⟨us, c, ti, rfl, hv', p1, p2, p3, p4⟩ hne2 hI2 hoff2 F N
        simp only [List.cons_append] at N
        k_fold
        have F : Fr s.heap L h (fun y => if y = Str.ofString "sign" then some (.str (S [ch]) tc) else m₁ y) := F
        have hch : signsL[j]? = some ch := by
          have e : (Str.ofString "aAbB").cps = signsL.toArray := by decide +kernel
          rw [e, List.getElem?_toArray] at hj
          exact hj
        have hW := wordsAt_succ (ts := ts) (l := l) (p := i) hch
        have hl6 := hl0.out
        k_steps
        rotate_left 2
        · rename_i h1 h2
          have hg : goodW ts l i ch = false := by
            have e1 : i ≠ 0 := by omega
            have e2 : l.getD (i - 1) 0 = ch := by
              have := Classical.not_not.mp h2
              rw [show ((i : Int) - 1).toNat = i - 1 by omega] at this
              exact List.singleton_inj.mp this
            unfold goodW
            rw [decide_eq_false e1, decide_eq_false (fun h => h e2)]; rfl
          rw [hg] at hW
          simp only [Bool.false_eq_true, if_false, List.append_nil] at hW
          refine TurnEnd.next F (nx := (W, _) :: own) N ?_ ⟨us, c, ti, rfl, hW ▸ hv', (by exact p1), (by exact p2), (by exact p3), (by exact p4)⟩
          exact hne2
        all_goals
          have hA : (decide (i = 0) || decide (l.getD (i - 1) 0 ≠ ch)) = true := by
            first
            | (have e1 : i = 0 := by omega
               rw [decide_eq_true e1]; rfl)
            | (have h2 := ‹[l.getD ((i : Int) - 1).toNat 0] ≠ [ch]›
               have e2 : l.getD (i - 1) 0 ≠ ch := fun e => h2 (by rw [show ((i : Int) - 1).toNat = i - 1 by omega, e])
               rw [decide_eq_true e2, Bool.or_true])
          rename_i F N
          have eo : List.take ((i : Nat) : Int).toNat l ++ [ch] ++ List.drop ((i : Nat) : Int).toNat l = otherL l i ch := rfl
          rw [eo] at F ⊢
          have hlo : (otherL l i ch).length ≤ 7 := by unfold otherL; simp only [List.length_append, List.length_take, List.length_drop, List.length_singleton]; omega
          refine ⟨law_ends_spec (by omega) (by k_in) (Top.keeps T F.keep) (by dsimp only [Around.deeper, Ar]; omega) (by dsimp only [Around.deeper, Ar]; omega) ?_⟩
          intro E h2 tk2 es ce g _ hE hEI
          have F2 := Mine.Fr.grows F g
          have N2 := Mine.News.grows N g
          clear F N g
          have hEl : h2.IsList E es.toArray := ⟨_, hE, rfl, _, rfl⟩
          have hEs : es.length = (endsL (otherL l i ch)).length := by rw [hEI.length, List.length_map]
          have hEz : (endsL (otherL l i ch)).length ≤ 7 := by
            unfold endsL
            exact Nat.le_trans (List.length_filter_le _ _) (by rw [List.length_range]; exact hlo)
          k_steps
          refine call_len_list (items := vs.toArray) (hL.at fun o e => F2.keep R o e) (by rw [List.size_toArray, hv.length]; omega) ?_
          rw [List.size_toArray, hv.length, List.length_map]
          k_steps
          · rename_i hq
            have hB : decide ((endsL (otherL l i ch)).length = ts.length) = true := decide_eq_true (by omega)
            have hR2 : h2.get? R = some (listOf vs.toArray c0) := F2.keep _ _ hR
            refine ⟨law_has_all_spec hlo ht hv hR2 (by k_in) (Top.keeps T F2.keep) (by dsimp only [Around.deeper, Ar]; omega) (by dsimp only [Around.deeper, Ar]; omega) ?_⟩
            intro h3 tk3 g
            have F3 := Mine.Fr.grows F2 g
            have N3 := Mine.News.grows N2 g
            clear F2 N2 g hR2 hE hEl
            have hg : goodW ts l i ch = hasAllF (otherL l i ch) ts := by unfold goodW; rw [hA, hB]; rfl
            rw [hg] at hW
            cases hc : hasAllF (otherL l i ch) ts with
            | true =>
              rw [hc] at hW
              simp only [if_true] at hW
              k_steps
              have hsz : us.length ≤ sizeLine := by
                rw [hv'.length, sizeLine_eq]
                have := words_len (ts := ts) (l := l) (i := i) (j := j)
                omega
              refine append_K F3 N3 (Upd.head (OwnOff.ne (off_two (R := W) hoff hoff2 (by simp) (by simp)) (by simp))) ?_ (by rw [List.size_toArray]; exact hsz)
              intro h' F' N'
              k_steps
              rw [List.push_toArray] at N'
              refine TurnEnd.next F' (nx := (W, _) :: own) N' (ne_two hne2) ⟨us ++ [.str (S (otherL l i ch)) _], c + 1, ti, rfl, ?_, (by exact p1), (by exact p2), (by exact p3), (by exact p4)⟩
              rw [hW, ← List.append_assoc]
              exact hv'.snoc
            | false =>
              rw [hc] at hW
              simp only [Bool.false_eq_true, if_false, List.append_nil] at hW
              k_steps
              exact TurnEnd.next F3 (nx := (W, _) :: own) N3 hne2 ⟨us, c, ti, rfl, hW ▸ hv', (by exact p1), (by exact p2), (by exact p3), (by exact p4)⟩
          · rename_i hq
            have hB : decide ((endsL (otherL l i ch)).length = ts.length) = false := decide_eq_false (by omega)
            have hg : goodW ts l i ch = false := by unfold goodW; rw [hB, Bool.false_and, Bool.and_false]
            rw [hg] at hW
            simp only [Bool.false_eq_true, if_false, List.append_nil] at hW
            exact TurnEnd.next F2 (nx := (W, _) :: own) N2 hne2 ⟨us, c, ti, rfl, hW ▸ hv', (by exact p1), (by exact p2), (by exact p3), (by exact p4)⟩
      · rintro m₁ nx h tk ⟨us, c, ti, rfl, hv', p1, p2, p3, p4⟩ F N
        exact ⟨rfl, _, _, _, _, _, rfl, F, N, hv', p1, p2, p3⟩
    · rintro f s' ⟨rfl, h', tk', m₁, us, c, rfl, F', N', hv', p1, p2, p3⟩
      k_steps
      refine TurnEnd.next F' (nx := [(W, _)]) N' (by intro p hp; rw [List.mem_singleton.mp hp]; exact hRI) ⟨W, us, c, rfl, ?_, p1, p2, p3⟩
      rw [List.range_succ, List.flatMap_append]
      simpa using hv'
  · rintro m₁ nx h tk ⟨W, us, c, rfl, hv', p1, p2, p3⟩ F N
    k_steps
    show Q _ _
    exact hQ _ _ _ us c F.keep (N _ (.head _)).2.2 (N _ (.head _)).1 hv'
end
end
-- part Wread
section
section
variable {w : World} {dp un : Nat} {fr : Option (List Env)} {gd : Option (List Code)} {s : Shared} {mean : ExcName → Option Value} {mg mb : Str → Option Value} {Q : Value → Shared → Prop}
def countsAt (ps : List (List Nat × Int)) (place : Nat) : List (List Nat × Int) := ps.foldl (fun c p => addP c [([p.1.getD place 0], p.2)]) []
def readStep (ps : List (List Nat × Int)) (N : Nat) (wd : List Nat) (place : Nat) : List Nat :=
  let cs := countsAt ps place
  let wd1 := if wd = [] then ((cs.filter (fun p => decide (p.2 ≥ (N : Int)))).map (·.1)).flatten else wd
  (((addP cs [(wd1.take 1, -(place : Int) - 1)]).filter (fun p => decide (p.2 = (N : Int) - place))).map (·.1)).flatten ++ wd1
def readW (ps : List (List Nat × Int)) (N i : Nat) : List Nat := (List.range i).foldl (fun wd i => readStep ps N wd (N - 1 - i)) []
theorem rsize_down {n : Nat} : Builtin.Range.rangeSize (((n : Nat) : Int) - 1) (-1) (-1) = (n : Int) := by
  unfold Builtin.Range.rangeSize
  rw [if_neg (by decide)]
  simp only [show -(-1 : Int) = 1 by decide, Int.ediv_one]
  split <;> omega
theorem off_cons {a b : Addr} {o : Obj} {l : List (Addr × Obj)} (h1 : a ≠ b) (h2 : ∀ p ∈ l, p.1 ≠ b) : ∀ p ∈ (a, o) :: l, p.1 ≠ b := fun p hp => by
  rcases List.mem_cons.mp hp with rfl | hp
  · exact h1
  · exact h2 p hp
theorem off_own {I b : Addr} {own : List (Addr × Obj)} (h : ∀ p ∈ own, p.1 = I) (hb : b ≠ I) : ∀ p ∈ own, p.1 ≠ b := fun p hp e => hb (by rw [← h p hp, e])
theorem mem_rot {α : Type} {a b c e p : α} {l : List α} (h : p ∈ b :: c :: e :: a :: l) : p ∈ a :: b :: c :: e :: l := by
  simp only [List.mem_cons] at h ⊢
  rcases h with h | h | h | h | h <;> simp [h]
theorem allLt_mem {d : Addr} : ∀ {l : List (Addr × Obj)} {p : Addr × Obj}, AllLt d l → p ∈ l → p.1 < d := by
  intro l
  induction l with
  | nil => intro p _ hp; exact (nomatch hp)
  | cons q r ih =>
    intro p h hp
    rcases List.mem_cons.mp hp with rfl | hp
    · exact h.1
    · exact ih h.2 hp
theorem valueAt_nodup : ∀ {kvs : List (Str × Value)} {j : Nat} {k : Str} {v : Value}, (kvs.map (·.1)).Nodup → kvs[j]? = some (k, v) → valueAt kvs k = some v
  | [], j, k, v, _, h => by simp at h
  | (k', v') :: r, 0, k, v, _, h => by
    simp at h
    obtain ⟨rfl, rfl⟩ := h
    simp [valueAt]
  | (k', v') :: r, j + 1, k, v, hn, h => by
    have h' : r[j]? = some (k, v) := by simpa using h
    have hne : k' ≠ k := by
      rintro rfl
      have hm : k' ∈ r.map (·.1) := List.mem_map.mpr ⟨(k', v), List.mem_of_getElem? h', rfl⟩
      rw [List.map_cons, List.nodup_cons] at hn
      exact hn.1 hm
    have ih := valueAt_nodup (List.nodup_cons.mp (by simpa using hn)).2 h'
    simpa [valueAt, hne] using ih
theorem countsAt_len (ps : List (List Nat × Int)) (pl : Nat) : (countsAt ps pl).length ≤ ps.length := by
  have go : ∀ (ts : List (List Nat × Int)) (a : List (List Nat × Int)), (ts.foldl (fun c p => addP c [([p.1.getD pl 0], p.2)]) a).length ≤ a.length + ts.length := by
    intro ts
    induction ts with
    | nil => intro a; exact Nat.le_refl _
    | cons t ts ih =>
      intro a
      have h1 := ih (addP a [([t.1.getD pl 0], t.2)])
      have h2 := addP_len a [([t.1.getD pl 0], t.2)]
      simp only [List.foldl_cons, List.length_cons, List.length_nil] at *
      omega
  have := go ps []
  simpa [countsAt] using this
theorem mem_skip3 {α : Type} {a b c e p : α} {l : List α} (h : p ∈ a :: b :: c :: l) : p ∈ a :: b :: c :: e :: l := by
  simp only [List.mem_cons] at h ⊢
  rcases h with h | h | h | h <;> simp [h]
theorem mem_rot2 {α : Type} {a b c e p : α} {l l2 : List α} (h : p ∈ (b :: c :: e :: a :: l) ++ l2) : p ∈ a :: b :: c :: e :: (l ++ l2) := by
  simp only [List.mem_cons, List.mem_append] at h ⊢
  rcases h with (h | h | h | h | h) | h <;> simp [h]
theorem off_app {b : Addr} {l l2 : List (Addr × Obj)} (h1 : ∀ p ∈ l, p.1 ≠ b) (h2 : ∀ p ∈ l2, p.1 ≠ b) : ∀ p ∈ l ++ l2, p.1 ≠ b := fun p hp => (List.mem_append.mp hp).elim (h1 p) (h2 p)
theorem TextsAre.strs : ∀ {vs : List Value} {ts : List (List Nat)}, TextsAre vs ts → StrsAre vs (ts.map S)
  | _, _, .nil => .nil
  | _, _, .cons l t h => .cons (S l) t h.strs
theorem fold_S : ∀ (ts : List (List Nat)) (acc : Array Nat), (ts.map S).foldl (fun acc p => acc ++ (S []).cps ++ p.cps) acc = acc ++ ts.flatten.toArray
  | [], acc => by simp
  | t :: ts, acc => by
    rw [List.map_cons, List.foldl_cons, fold_S ts]
    simp [S]
theorem join_S : ∀ ts : List (List Nat), Txt.join (Str.ofString "") (ts.map S) = S ts.flatten := by
  intro ts
  have e0 : Str.ofString "" = S [] := by decide +kernel
  rw [e0]
  show Builtin.Str.glued (S []) (ts.map S) = _
  unfold Builtin.Str.glued
  cases ts with
  | nil => rfl
  | cons t ts =>
    rw [List.map_cons, List.drop_succ_cons, List.drop_zero, List.headD_cons, fold_S]
    simp [S]
theorem joinS {prog : Program} {w : World} {A : Around} {E : Value → Shared → Prop} {s : Shared} {Q : Value → Shared → Prop} {D : Addr} {vs : List Value} {ts : List (List Nat)} {t : Tok} (hl : s.heap.IsList D vs.toArray) (hv : TextsAre vs ts) (hw : ts.flatten.length + ts.length ≤ 100000)
    (h : ∀ t' k, Q (.str (S ts.flatten) t') { s with toks := k }) : wpAny (model prog w) A (call (.builtin "str.join") [.str (Str.ofString "") t, .ref D]) Q E s := by
  refine join_listW hl (by simpa using hv.strs) (by decide +kernel) ?_ (fun t' k => by rw [join_S]; exact h t' k)
  have e : ((ts.map S).map (·.length)).sum = ts.flatten.length := by
    rw [List.map_map, List.length_flatten]
    exact congrArg List.sum (List.map_congr_left fun a _ => S_len a)
  rw [e, List.length_map]
  omega
def K1 (ps : List (List Nat × Int)) : Prop := ∀ p ∈ ps, p.1.length ≤ 1
theorem k1_put {ps : List (List Nat × Int)} {k : List Nat} {v : Int} (h : K1 ps) (hk : k.length ≤ 1) : K1 (putP ps k v) := by
  intro p hp
  unfold putP at hp
  split at hp
  · obtain ⟨q, hq, rfl⟩ := List.mem_map.mp hp
    by_cases e : q.1 = k
    · rw [if_pos e]; exact h q hq
    · rw [if_neg e]; exact h q hq
  · rcases List.mem_append.mp hp with hp | hp
    · exact h p hp
    · rw [List.mem_singleton.mp hp]; exact hk
theorem k1_bump {ps : List (List Nat × Int)} {p : List Nat × Int} (h : K1 ps) (hk : p.1.length ≤ 1) : K1 (bumpP ps p) := by
  unfold bumpP
  split <;> exact k1_put h hk
theorem k1_fold {f : List (List Nat × Int) → List Nat × Int → List (List Nat × Int)} (hf : ∀ a p, K1 a → p.1.length ≤ 1 → K1 (f a p)) : ∀ (l : List (List Nat × Int)) (a), K1 a → K1 l → K1 (l.foldl f a)
  | [], a, h, _ => h
  | p :: l, a, h, hl => k1_fold hf l (f a p) (hf a p h (hl p (.head _))) fun q hq => hl q (.tail _ hq)
theorem k1_add {a b : List (List Nat × Int)} (ha : K1 a) (hb : K1 b) : K1 (addP a b) :=
  k1_fold (fun _ _ h hk => k1_bump h hk) b _ (k1_fold (fun _ _ h hk => k1_put h hk) a [] (fun _ hp => nomatch hp) ha) hb
theorem countsAt_k1 (ps : List (List Nat × Int)) (pl : Nat) : K1 (countsAt ps pl) := by
  have go : ∀ (ts : List (List Nat × Int)) (a : List (List Nat × Int)), K1 a → K1 (ts.foldl (fun c p => addP c [([p.1.getD pl 0], p.2)]) a) := by
    intro ts
    induction ts with
    | nil => intro a h; exact h
    | cons t ts ih => intro a h; exact ih _ (k1_add h (fun p hp => by rw [List.mem_singleton.mp hp]; exact Nat.le_refl _))
  exact go ps [] (fun _ hp => nomatch hp)
theorem k1_filter {ps : List (List Nat × Int)} {f : List Nat × Int → Bool} (h : K1 ps) : K1 (ps.filter f) := fun p hp => h p (List.mem_filter.mp hp).1
theorem k1_keys {ps : List (List Nat × Int)} (h : K1 ps) : ∀ l ∈ ps.map (·.1), l.length ≤ 1 := fun l hl => by
  obtain ⟨p, hp, rfl⟩ := List.mem_map.mp hl
  exact h p hp
theorem flat_len : ∀ {ts : List (List Nat)}, (∀ l ∈ ts, l.length ≤ 1) → ts.flatten.length ≤ ts.length
  | [], _ => Nat.le_refl _
  | l :: ts, h => by
    have h1 := flat_len (ts := ts) fun l hl => h l (.tail _ hl)
    have h2 := h l (.head _)
    simp only [List.flatten_cons, List.length_append, List.length_cons]
    omega
set_option maxHeartbeats 40000000 in
theorem law_read_spec {ps : List (List Nat × Int)} {d : Addr} {n : Nat} (b : IsBook w s.heap d ps) (hz : ps.length ≤ 50) (hn : (ps.map (·.2)).sum = (n : Int) + 1) (hn1 : n ≤ 20) (hk : ∀ p ∈ ps, p.1.length = n)
    (X : (hd.heap_39 w.params).In s.heap) (T : Top hd.view_39 LS mean mg mb s.heap) (hr : dp + 5 < recursionLimit) (hu : un + 300 < cLine)
    (hQ : ∀ t h' tk', Grows s.heap h' → Q (.str (S (readW ps n n)) t) { s with heap := h', toks := tk' }) :
    wpAny (model PG w) (Ar dp fr gd un) (call (.ref 114) [.ref d]) Q (fun _ _ => False) s := by
  refine enterC (binds := [(Str.ofString "book", .ref d)]) X T (by rfl) (by k_is) (by show dp < _; omega) (by rfl) (kindsX rfl) (by decide) (by rfl) (by rfl) (by rfl) ?_
  intro L h₁ tk₁ cells F N Y
  k_cells Y
  k_steps
  refine ⟨count_calls_spec (b.grow F.keep) (by k_in) (Top.keeps T F.keep) (by dsimp only [Around.deeper, Ar]; omega) (by dsimp only [Around.deeper, Ar]; omega) ?_⟩
  intro t1 h2 tk2 g
  have F1 := Mine.Fr.grows F g
  have N1 := Mine.News.grows N g
  clear F N g
  rw [hn]
  k_steps
  rename_i oC oP _ _ dP _ oS dS _ F N
  refine ⟨wpAny_For ?_⟩
  k_steps
  refine ⟨forT_range (n := n) (fun i m₁ nx => ∃ (oC oP oS : Obj) (cC cP : Option Value) (tS : Tok) (wd : List Nat) (tw : Tok), nx = [(L + 1 + 1 + 1, oC), (L + 1 + 1, oP), (L + 1, oS)] ∧ oC.data = .cell cC ∧ oP.data = .cell cP ∧ oS.data = .cell (some (.int ((n : Int) + 1) tS)) ∧
    m₁ (Str.ofString "word") = some (.str (S wd) tw) ∧ m₁ (Str.ofString "book") = some (.ref d) ∧ wd = readW ps n i ∧ wd.length ≤ i * 200) (by rfl) (by assumption) (small_of (by omega) (by omega) (by omega) (by omega) (.inr (.inr rfl))) ?_ (by assumption) (by assumption) ?_ ?_ ?_⟩
  · rw [show (n : Int) + 1 - 2 = (n : Int) - 1 by omega]; exact rsize_down
  · exact ⟨_, _, _, _, _, _, [], _, rfl, (by assumption), (by assumption), (by assumption), (congrArg some (congrArg (fun x => Value.str x _) (by decide +kernel : Str.ofString "" = S []))), (by rfl), rfl, Nat.le_refl _⟩
  · clear dP dS
    rintro I i tp m₁ nx ⟨hh', gg', dd', tk', os'⟩ own hi ⟨oC, oP, oS, cC, cP, tS, wd, tw, rfl, q1, q2, q3, p1, p2, hwd, hl⟩ hne hown hIo hoff F N
    dsimp only at F N
    simp only [List.cons_append, List.nil_append] at N
    have hpl : (n : Int) + 1 - 2 + (i : Int) * (-1) = ((n - 1 - i : Nat) : Int) := by omega
    rw [hpl]
    obtain ⟨pl, hpl2⟩ : ∃ pl, pl = n - 1 - i := ⟨_, rfl⟩
    rw [← hpl2]
    have w1 : L + 1 ≠ I := hne (L + 1, oS) (by simp)
    have w2 : L + 1 + 1 ≠ I := hne (L + 1 + 1, oP) (by simp)
    have w3 : L + 1 + 1 + 1 ≠ I := hne (L + 1 + 1 + 1, oC) (by simp)
    refine storeX_C F N (by rfl) (UpdF.tail (Nat.succ_ne_self _) (UpdF.head (off_cons (Nat.ne_of_lt (Nat.lt_succ_self _)) (off_own hown w2)))) q2 ?_
    intro h1 oP1 F1 N1 q2
    clear F N
    k_fold
    k_steps
    rename_i B _ ob low hob _ _ _ lts _ oC1 F N qC
    obtain ⟨ep, kvs0, hdat, hps⟩ := id b.ex
    have hpn : pl < n := by omega
    have hB3 : B ≠ L + 1 + 1 + 1 := Nat.ne_of_gt lts.1
    refine ⟨after (fun f s' => Stop (f = Flow.next ∧ ∃ (h' : Heap) (tk2 : Nat) (m₁ : Str → Option Value) (oC : Obj) (B : Addr) (ob : Obj) (kvs : List (Str × Value)), s' = (⟨h', gg', dd', tk2, os'⟩ : Shared) ∧ Fr s.heap L h' m₁ ∧
      News s.heap L h' ((L + 1 + 1 + 1, oC) :: (L + 1 + 1, oP1) :: (L + 1, oS) :: (B, ob) :: own) ∧ oC.data = .cell (some (.ref B)) ∧ ob.IsDictOf (strKind PG w) kvs ∧ PairsAre kvs (countsAt ps pl) ∧ (B == sysModules) = false ∧ B ≠ L + 1 + 1 + 1 ∧ B ≠ I ∧
      m₁ (Str.ofString "word") = some (.str (S wd) tw) ∧ m₁ (Str.ofString "book") = some (.ref d))) ?_ ?_⟩
    · refine For_invV s.heap (by rfl) (by rfl) ?_
      k_steps
      refine ⟨iter_keys (knd := strKind PG w) (fun j m₁ nx => ∃ (oC : Obj) (B : Addr) (ob : Obj) (kvs : List (Str × Value)), nx = (L + 1 + 1 + 1, oC) :: (L + 1 + 1, oP1) :: (L + 1, oS) :: (B, ob) :: own ∧ oC.data = .cell (some (.ref B)) ∧ ob.IsDictOf (strKind PG w) kvs ∧
        PairsAre kvs (countsAt (ps.take j) pl) ∧ (B == sysModules) = false ∧ B ≠ L + 1 + 1 + 1 ∧ B ≠ I ∧ m₁ (Str.ofString "word") = some (.str (S wd) tw) ∧ m₁ (Str.ofString "book") = some (.ref d)) (by rfl) b.low hdat F
        (show News _ _ _ ((L + 1 + 1 + 1, oC1) :: (L + 1 + 1, oP1) :: (L + 1, oS) :: (B, ob) :: own) from fun p hp => N p (mem_rot hp)) ⟨oC1, B, ob, [], rfl, qC, hob, .nil, low, hB3, ?_, (by exact p1), (by exact p2)⟩ ?_ ?_⟩
      · obtain ⟨oI, hoI⟩ := hIo
        exact Nat.ne_of_gt (allLt_mem lts.2.2.2 hoI)
      · clear N F hob qC lts hB3 low
        rintro I2 j k x v m₁ nx h tk own2 hj hkey ⟨oC, B, ob, kvs, rfl, qC, hob, hP, low, hB3, hBI, p1, p2⟩ hne2 hI2 hoff2 F N
        k_fold
        obtain ⟨t, rfl⟩ := Value.isStrOf_shape hkey
        obtain ⟨a, c, t', rfl, rfl, hj'⟩ := hps.at hj
        have hal : a.length = n := hk _ (List.mem_of_getElem? hj')
        simp only [List.cons_append] at N
        k_steps
        refine kdn_eval (knd := strKind PG w) F N T.nolimit (by rfl) (by rfl) (List.cons_ne_nil _ _) (by decide) ?_
        intro d1 h2 o1 F1 N1 l1 lo1 hd1
        clear F N
        k_steps
        have hd' := (hdat.keep F1.keep)
        refine subscriptTail_builtin hd'.dictOf.typeIs slot_dict_getitem.lookup (wpAny_getItem_of (strKind_is _ _ _ _) hd'.dictOf.mapOf (valueAt_nodup hdat.nodup hj) ?_) (by with_unfolding_all rfl) (by intro _; with_unfolding_all rfl)
        k_steps
        dsimp only
        refine kdn_made_str F1 N1 (UpdF.head (fun p hp => Nat.ne_of_lt (l1 p hp))) hd1 (by rfl) (by simp [strPairs]) ?_
        intro h2 o2 F2 N2 hd2
        clear F1 N1
        k_steps
        have hd3 : o2.IsDictOf (strKind PG w) [(S [a.getD pl 0], .int c t')] := hd2
        have hcl := countsAt_len (ps.take j) pl
        refine ⟨add_callers_spec (IsBook.ofNews N2 (.tail _ (.tail _ (.tail _ (.tail _ (.head _))))) hob low hP) (IsBook.ofNews N2 (.head _) hd3 lo1 (.cons _ c _ .nil)) ?_ ?_ (by k_in) (Top.keeps T F2.keep) (by dsimp only [Around.deeper, Ar]; omega) (by dsimp only [Around.deeper, Ar]; omega) ?_⟩
        · rw [List.length_take] at hcl; omega
        · simp
        intro D h3 tk3 g hn bk
        obtain ⟨ob3, kvs3, hd4, hP3, N3, hoff3⟩ := bk_new F2 (show News _ _ _ ((L + 1 + 1 + 1, oC) :: (L + 1 + 1, oP1) :: (L + 1, oS) :: (own ++ own2)) from fun p hp => N2 p (.tail _ (mem_skip3 hp))) g hn bk
        have F3 := Mine.Fr.grows F2 g
        have low3 := bk.low
        clear F2 N2 bk
        have hD3 : D ≠ L + 1 + 1 + 1 := fun e => hoff3 _ (.head _) e.symm
        have hDI : D ≠ I := by
          obtain ⟨oI, hoI⟩ := hIo
          exact fun e => hoff3 _ (.tail _ (.tail _ (.tail _ (List.mem_append_left _ hoI)))) e.symm
        have hDI2 : D ≠ I2 := by
          obtain ⟨oI, hoI⟩ := hI2
          exact fun e => hoff3 _ (.tail _ (.tail _ (.tail _ (List.mem_append_right _ hoI)))) e.symm
        refine storeX_C F3 N3 (by rfl) (UpdF.tail hD3 (UpdF.head (off_cons (Nat.ne_of_lt (Nat.lt_succ_self _)) (off_cons (Nat.ne_of_lt (Nat.lt_succ_of_lt (Nat.lt_succ_self _))) (off_app (off_own hown w3) (fun p hp => hoff2 p hp _ (by simp))))))) qC ?_
        intro h4 oC4 F4 N4 qC4
        k_steps
        refine TurnEnd.next F4 (nx := (L + 1 + 1 + 1, oC4) :: (L + 1 + 1, oP1) :: (L + 1, oS) :: (D, ob3) :: own) (fun p hp => N4 p (mem_rot2 hp)) ?_ ⟨oC4, D, ob3, kvs3, rfl, qC4, hd4, ?_, low3, hD3, hDI, (by exact p1), (by exact p2)⟩
        · have h5 : ∀ p ∈ own, p.1 ≠ I2 := fun p hp => hne2 p (by simp [hp])
          exact off_cons (hne2 (L + 1 + 1 + 1, oC) (by simp)) (off_cons (hne2 (L + 1 + 1, oP1) (by simp)) (off_cons (hne2 (L + 1, oS) (by simp)) (off_cons hDI2 h5)))
        · rw [List.take_add_one, hj']
          unfold countsAt at hP3 ⊢
          rw [List.foldl_append]
          exact hP3
      · rintro m₁ nx h tk ⟨oC, B, ob, kvs, rfl, qC, hob, hP, low, hB3, hBI, p1, p2⟩ F N
        rw [hps.length, List.take_length] at hP
        exact ⟨rfl, h, tk, m₁, oC, B, ob, kvs, rfl, F, N, qC, hob, hP, low, hB3, hBI, p1, p2⟩
    · rintro f s' ⟨rfl, h', tk2, m₁, oC, B, ob, kvs, rfl, F', N', qC, hob, hP, low, hB3, hBI, p1, p2⟩
      clear F N lts hB3
      refine seqS (fun s' => ∃ (h' : Heap) (tk2 : Nat) (m₁ : Str → Option Value) (tw : Tok), s' = (⟨h', gg', dd', tk2, os'⟩ : Shared) ∧ Fr s.heap L h' m₁ ∧
        News s.heap L h' ((L + 1 + 1 + 1, oC) :: (L + 1 + 1, oP1) :: (L + 1, oS) :: (B, ob) :: own) ∧
        m₁ (Str.ofString "word") = some (.str (S (if wd = [] then (((countsAt ps pl).filter (fun p => decide (p.2 ≥ (n : Int)))).map (·.1)).flatten else wd)) tw) ∧ m₁ (Str.ofString "book") = some (.ref d)) ?_ ?_
      · k_steps
        · rename_i hw
          have hw0 : wd = [] := by
            rw [show Str.ofString "" = S [] from by decide +kernel, S_beq] at hw
            exact of_decide_eq_true hw
          rw [if_pos hw0]
          refine ⟨listComp_K (knd := strKind PG w) (F₀ := F') (by with_unfolding_all rfl) (by decide) (by rfl) (by decide) (by rfl) ?_⟩
          k_steps
          have hkz : kvs.length ≤ 50 := by rw [hP.length]; exact Nat.le_trans (countsAt_len ps pl) hz
          refine ⟨B, ob, kvs, _, rfl, rfl, low, F', N', (.tail _ (.tail _ (.tail _ (.head _)))), hob, (by rw [sizeLine_eq]; omega), ?_⟩
          rintro _ ⟨g, rfl⟩
          refine compT_ind (fun i ys => TextsAre ys ((((countsAt ps pl).take i).filter (fun p => decide (p.2 ≥ (n : Int)))).map (·.1))) .nil ?_ ?_
          · rintro i3 ys v I3 oI3 C3 oC3 D3 m₃ h3 tk3 E3 hi3 hJ ⟨k, x, hk3, hkey⟩ hNs hx F N off ne
            obtain ⟨a, c, t', rfl, rfl, hk4⟩ := hP.at hk3
            obtain ⟨t, rfl⟩ := Value.isStrOf_shape hkey
            obtain ⟨_, _, _, _, _, _, nd⟩ := id hob
            have hT : ((countsAt ps pl).take (i3 + 1)).filter (fun p => decide (p.2 ≥ (n : Int))) = ((countsAt ps pl).take i3).filter (fun p => decide (p.2 ≥ (n : Int))) ++ [(a, c)].filter (fun p => decide (p.2 ≥ (n : Int))) := by
              rw [List.take_add_one, hk4, List.filter_append]; rfl
            k_steps
            refine kda_item N (.tail _ (.tail _ (.tail _ (.tail _ (.tail _ (.tail _ (.head _))))))) hob (strKind_is _ _ _ _) (valueAt_nodup nd hk3) ?_
            k_steps
            · rename_i hc
              refine LCg.CompEnd.intro F N _ (fun _ hp => hp) off (.tail _ (.tail _ (.tail _ (.head _)))) ⟨rfl, ?_⟩
              rw [hT, List.filter_cons_of_pos (by simpa using (by omega : c ≥ (n : Int))), List.map_append]
              exact hJ.snoc
            · rename_i hc
              refine LCg.CompEnd.intro F N _ (fun _ hp => hp) off (.tail _ (.tail _ (.tail _ (.head _)))) ⟨rfl, ?_⟩
              rw [hT, List.filter_cons_of_neg (by simpa using (by omega : ¬ c ≥ (n : Int))), List.filter_nil, List.append_nil]
              exact hJ
          · intro ys hJ
            unfold LCg.FinE
            intro D3 h3 tk3 F N o1
            rw [hP.length, List.take_length] at hJ
            k_steps
            refine joinS (N.isList (.head _)) hJ ?_ ?_
            · have h1 := flat_len (ts := ((countsAt ps pl).filter (fun p => decide (p.2 ≥ (n : Int)))).map (·.1)) (k1_keys (k1_filter (countsAt_k1 ps pl)))
              have h2 := List.length_filter_le (fun p => decide (p.2 ≥ (n : Int))) (countsAt ps pl)
              have h3 := countsAt_len ps pl
              rw [List.length_map] at h1 ⊢
              omega
            intro t4 tk4
            clear F' N'
            k_steps
            rename_i F' N'
            exact ⟨rfl, _, _, _, _, rfl, F', (fun p hp => N' p (.tail _ hp)), (by rfl), (by exact p2)⟩
        · rename_i hw
          have hw0 : wd ≠ [] := by
            rw [show Str.ofString "" = S [] from by decide +kernel, S_beq] at hw
            exact fun e => by rw [e] at hw; simp at hw
          rw [if_neg hw0]
          exact ⟨rfl, h', _, m₁, tw, rfl, F', N', p1, p2⟩
      · rintro s' ⟨h', tk2, m₁, tw1, rfl, F', N', p1, p2⟩
        obtain ⟨wd1, hwd1⟩ : ∃ wd1, wd1 = if wd = [] then (((countsAt ps pl).filter (fun p => decide (p.2 ≥ (n : Int)))).map (·.1)).flatten else wd := ⟨_, rfl⟩
        rw [← hwd1] at p1
        have hwl : wd1.length ≤ i * 200 + 50 := by
          rw [hwd1]
          split
          · have h1 := flat_len (ts := ((countsAt ps pl).filter (fun p => decide (p.2 ≥ (n : Int)))).map (·.1)) (k1_keys (k1_filter (countsAt_k1 ps pl)))
            have h2 := List.length_filter_le (fun p => decide (p.2 ≥ (n : Int))) (countsAt ps pl)
            have h3 := countsAt_len ps pl
            rw [List.length_map] at h1
            omega
          · omega
        have hiw : i * 200 + 50 ≤ 5000 := by omega
        k_steps
        refine kdn_eval (knd := strKind PG w) F' N' T.nolimit (by rfl) (by rfl) (List.cons_ne_nil _ _) (by decide) ?_
        intro d1 h2 o1 F1 N1 l1 lo1 hd1
        clear F' N'
        k_steps
        dsimp only
        rename_i F1 N1
        refine kdn_made_str F1 N1 (UpdF.head (fun p hp => Nat.ne_of_lt (l1 p hp))) hd1 (by rfl) (by simp [strPairs]) ?_
        intro h2 o2 F2 N2 hd2
        clear F1 N1
        k_steps
        have hd3 : o2.IsDictOf (strKind PG w) [(S (wd1.take 1), .int (-(pl : Int) - 1) _)] := hd2
        have hcl := countsAt_len ps pl
        refine ⟨add_callers_spec (IsBook.ofNews N2 (.tail _ (.tail _ (.tail _ (.tail _ (.head _))))) hob low hP) (IsBook.ofNews N2 (.head _) hd3 lo1 (.cons _ _ _ .nil)) (by omega) (by simp) (by k_in) (Top.keeps T F2.keep) (by dsimp only [Around.deeper, Ar]; omega) (by dsimp only [Around.deeper, Ar]; omega) ?_⟩
        intro D h3 tk3 g hn bk
        obtain ⟨ob3, kvs3, hd4, hP3, N3, hoff3⟩ := bk_new F2 (show News _ _ _ ((L + 1 + 1 + 1, oC) :: (L + 1 + 1, oP1) :: (L + 1, oS) :: own) from fun p hp => N2 p (.tail _ (mem_skip3 hp))) g hn bk
        have F3 := Mine.Fr.grows F2 g
        have low3 := bk.low
        clear F2 N2 bk
        have hD3 : D ≠ L + 1 + 1 + 1 := fun e => hoff3 _ (.head _) e.symm
        refine storeX_C F3 N3 (by rfl) (UpdF.tail hD3 (UpdF.head (off_cons (Nat.ne_of_lt (Nat.lt_succ_self _)) (off_cons (Nat.ne_of_lt (Nat.lt_succ_of_lt (Nat.lt_succ_self _))) (off_own hown w3))))) qC ?_
        intro h4 oC4 F4 N4 qC4
        clear F3 N3
        obtain ⟨cs, hcs⟩ : ∃ cs, cs = addP (countsAt ps pl) [(wd1.take 1, -(pl : Int) - 1)] := ⟨_, rfl⟩
        rw [← hcs] at hP3
        have hcs1 : K1 cs := by
          rw [hcs]
          exact k1_add (countsAt_k1 ps pl) (fun p hp => by rw [List.mem_singleton.mp hp]; simp; omega)
        have hcs2 : cs.length ≤ 51 := by
          rw [hcs]
          have := addP_len (countsAt ps pl) [(wd1.take 1, -(pl : Int) - 1)]
          simp only [List.length_cons, List.length_nil] at this
          omega
        k_steps
        refine ⟨listComp_K (knd := strKind PG w) (F₀ := F4) (by with_unfolding_all rfl) (by decide) (by rfl) (by decide) (by rfl) ?_⟩
        k_steps
        refine ⟨D, ob3, kvs3, _, rfl, rfl, low3, F4, N4, .head _, hd4, (by rw [hP3.length, sizeLine_eq]; omega), ?_⟩
        rintro _ ⟨g, rfl⟩
        refine compT_ind (fun i ys => TextsAre ys (((cs.take i).filter (fun p => decide (p.2 = (n : Int) - pl))).map (·.1))) .nil ?_ ?_
        · rintro i3 ys v I3 oI3 C3 oC3 D3 m₃ h3 tk3 E3 hi3 hJ ⟨k, x, hk3, hkey⟩ hNs hx F N off ne
          obtain ⟨a, c, t', rfl, rfl, hk4⟩ := hP3.at hk3
          obtain ⟨t, rfl⟩ := Value.isStrOf_shape hkey
          obtain ⟨_, _, _, _, _, _, nd⟩ := id hd4
          have hT : (cs.take (i3 + 1)).filter (fun p => decide (p.2 = (n : Int) - pl)) = (cs.take i3).filter (fun p => decide (p.2 = (n : Int) - pl)) ++ [(a, c)].filter (fun p => decide (p.2 = (n : Int) - pl)) := by
            rw [List.take_add_one, hk4, List.filter_append]; rfl
          k_steps
          refine kda_item N (.tail _ (.tail _ (.tail _ (.head _)))) hd4 (strKind_is _ _ _ _) (valueAt_nodup nd hk3) ?_
          k_steps
          · rename_i hc
            refine LCg.CompEnd.intro F N _ (fun _ hp => hp) off (.head _) ⟨rfl, ?_⟩
            rw [hT, List.filter_cons_of_pos (by simpa using (by omega : c = (n : Int) - pl)), List.map_append]
            exact hJ.snoc
          · rename_i hc
            refine LCg.CompEnd.intro F N _ (fun _ hp => hp) off (.head _) ⟨rfl, ?_⟩
            rw [hT, List.filter_cons_of_neg (by simpa using (by omega : ¬ c = (n : Int) - pl)), List.filter_nil, List.append_nil]
            exact hJ
        · intro ys hJ
          unfold LCg.FinE
          intro D3 h3 tk3 F N o1
          rw [hP3.length, List.take_length] at hJ
          have h1 := flat_len (ts := (cs.filter (fun p => decide (p.2 = (n : Int) - pl))).map (·.1)) (k1_keys (k1_filter hcs1))
          have h2 := List.length_filter_le (fun p => decide (p.2 = (n : Int) - pl)) cs
          rw [List.length_map] at h1
          have hlen : (((cs.filter (fun p => decide (p.2 = (n : Int) - pl))).map (·.1)).flatten).length ≤ 51 := by omega
          k_steps
          refine joinS (N.isList (.head _)) hJ (by rw [List.length_map]; omega) ?_
          intro t4 tk4
          clear F4 N4
          obtain ⟨pre, hpre⟩ : ∃ pre, pre = ((cs.filter (fun p => decide (p.2 = (n : Int) - pl))).map (·.1)).flatten := ⟨_, rfl⟩
          rw [← hpre] at hlen ⊢
          k_steps
          rename_i F4 N4
          refine TurnNext.next F4 (nx := [(L + 1 + 1 + 1, oC4), (L + 1 + 1, oP1), (L + 1, oS)]) (fun p hp => N4 p (.tail _ (.tail _ hp))) (off_cons w3 (off_cons w2 (off_cons w1 (fun _ hp => nomatch hp)))) ⟨oC4, oP1, oS, _, _, tS, pre ++ wd1, _, rfl, qC4, q2, q3, (by rfl), (by exact p2), ?_, ?_⟩
          · have e : readW ps n (i + 1) = readStep ps n (readW ps n i) (n - 1 - i) := by
              unfold readW
              rw [List.range_succ, List.foldl_append]; rfl
            rw [e, ← hwd, ← hpl2, hpre, hcs, hwd1]
            rfl
          · rw [List.length_append]
            omega
  · rintro m₁ nx h tk ⟨oC, oP, oS, cC, cP, tS, wd, tw, rfl, q1, q2, q3, p1, p2, rfl, hl⟩ F N
    k_steps
    show Q _ _
    exact hQ _ _ _ F.keep
end
end
-- part Wword
section
local macro_rules | `(tactic| walk_at "CompSrc") => `(tactic| refine Mine.stop_in ?_)
section
variable {w : World} {dp un : Nat} {fr : Option (List Env)} {gd : Option (List Code)} {s : Shared} {mean : ExcName → Option Value} {mg mb : Str → Option Value} {Q : Value → Shared → Prop}
theorem ints_at : ∀ {vs : List Value} {ns : List Int} {i : Nat} {v : Value}, IntsAre vs ns → vs[i]? = some v → ∃ k t, v = .int k t ∧ ns[i]? = some k
  | _, _, i, _, .nil, h => by simp at h
  | _, _, 0, v, .cons k t h, e => by
    simp at e
    exact ⟨k, t, e.symm, rfl⟩
  | _, _, i + 1, v, .cons k t h, e => by simpa using ints_at h (by simpa using e)
theorem sign_item (k : Int) : ∃ c, Txt.item (Str.ofString "aAbB") (k.fmod 4) = S [c] ∧ Sg c := by
  have h0 : 0 ≤ k.fmod 4 := Int.fmod_nonneg_of_pos k (by decide)
  have h1 : k.fmod 4 < 4 := Int.fmod_lt_of_pos k (by decide)
  have e : Str.ofString "aAbB" = S [97, 65, 98, 66] := by decide +kernel
  rw [e, item_S h0 (by simpa using h1)]
  generalize k.fmod 4 = j at *
  refine ⟨_, rfl, ?_⟩
  have : j = 0 ∨ j = 1 ∨ j = 2 ∨ j = 3 := by omega
  rcases this with rfl | rfl | rfl | rfl
  · exact .inl rfl
  · exact .inr (.inl rfl)
  · exact .inr (.inr (.inl rfl))
  · exact .inr (.inr (.inr rfl))
theorem flat_one : ∀ {ls : List (List Nat)}, (∀ l ∈ ls, ∃ c, l = [c] ∧ Sg c) → ls.flatten.length = ls.length
  | [], _ => rfl
  | l :: ls, h => by
    obtain ⟨c, rfl, _⟩ := h l (.head _)
    have := flat_one fun l hl => h l (.tail _ hl)
    simp only [List.flatten_cons, List.length_append, List.length_cons, List.length_nil]
    omega
theorem flat_sg {ls : List (List Nat)} (h : ∀ l ∈ ls, ∃ c, l = [c] ∧ Sg c) : ∀ c ∈ ls.flatten, Sg c := fun c hc => by
  obtain ⟨l, hl, hcl⟩ := List.mem_flatten.mp hc
  obtain ⟨d, rfl, hd⟩ := h l hl
  rw [List.mem_singleton.mp hcl]
  exact hd
set_option maxHeartbeats 40000000 in
theorem law_word_spec {R : Addr} {xs : List Value} {ns : List Int} (hS : s.heap.IsList R xs.toArray) (hi : IntsAre xs ns) (hz : ns.length ≤ 63)
    (X : (hd.heap_39 w.params).In s.heap) (T : Top hd.view_39 LS mean mg mb s.heap) (hr : dp + 5 < recursionLimit) (hu : un + 200 < cLine)
    (hQ : ∀ D h' tk' (l : List Nat) (b : Int) t1 t2, Grows s.heap h' → h'.IsTuple D #[.str (S l) t1, .int b t2] → 4 ≤ l.length → l.length ≤ 6 → (∀ c ∈ l, Sg c) → 0 ≤ b → b ≤ 3 → Q (.ref D) { s with heap := h', toks := tk' }) :
    wpAny (model PG w) (Ar dp fr gd un) (call (.ref 90) [.ref R]) Q (fun _ _ => False) s := by
  refine enterX (binds := [(Str.ofString "script", .ref R)]) X T (by rfl) (by k_is) (by show dp < _; omega) (by rfl) (locs rfl) (by decide) (by rfl) (by rfl) (by rfl) ?_
  intro L h₁ F N
  k_fold
  k_steps
  rename_i _ Rs _ _ _ _ F' N'
  refine ⟨after (fun f s' => Stop (f = Flow.next ∧ ∃ (h' : Heap) (tk' : Nat) (m₁ : Str → Option Value) (vs : List Value) (c : Nat) (ns2 : List Int) (p : Nat) (t : Tok), s' = { s with heap := h', toks := tk' } ∧ Fr s.heap L h' m₁ ∧ News s.heap L h' [(Rs, listOf vs.toArray c)] ∧ IntsAre vs ns2 ∧ ns2.length = 6 ∧
      m₁ (Str.ofString "sums") = some (.ref Rs) ∧ m₁ (Str.ofString "place") = some (.int (p : Int) t))) ?_ ?_⟩
  · refine For_invV s.heap (by rfl) (by rfl) ?_
    k_steps
    rename_i D ws h2 F2 N2 hI _ _ hlt
    refine ⟨iter_listN (fun i m₁ nx => ∃ (vs : List Value) (c : Nat) (ns2 : List Int) (t : Tok), nx = [(Rs, listOf vs.toArray c)] ∧ IntsAre vs ns2 ∧ ns2.length = 6 ∧ m₁ (Str.ofString "sums") = some (.ref Rs) ∧ m₁ (Str.ofString "place") = some (.int (i : Int) t)) (by rfl) F2 N2
      ⟨_, _, [2, 2, 1, 0, 3, 9], _, rfl, .cons _ _ (.cons _ _ (.cons _ _ (.cons _ _ (.cons _ _ (.cons _ _ .nil))))), rfl, by rfl, by rfl⟩ ?_ ?_ ?_⟩
    · rintro i m nx ⟨vs, c, ns2, t, rfl, _⟩ p hp
      rw [List.mem_singleton.mp hp]
      exact Nat.ne_of_lt hlt
    · clear F2 N2
      rintro I i v m₁ nx h tk own hi' ⟨vs, c, ns2, t, rfl, hv, hl, p1, p2⟩ hne hoff F N
      k_fold
      rw [List.getElem?_toArray] at hi'
      obtain ⟨k, tk2, rfl, hk⟩ := ints_at hI hi'
      simp only [List.cons_append, List.nil_append] at N
      k_steps
      rename_i _ _ _ _ hv2 hl2 _ _ F' N'
      exact TurnEnd.next F' (nx := [(Rs, _)]) N' (by intro p hp; rw [List.mem_singleton.mp hp]; exact hne (Rs, listOf vs.toArray c) (.head _)) ⟨_, _, _, _, rfl, hv2, by rw [hl2, hl], (by exact p1), by rfl⟩
    · rintro m₁ nx h tk ⟨vs, c, ns2, t, rfl, hv, hl, p1, p2⟩ F N
      exact ⟨rfl, h, tk, m₁, vs, c, ns2, _, t, rfl, F, N, hv, hl, p1, p2⟩
  · clear F' N'
    rintro f s' ⟨rfl, h', tk', m₁, vs, c, ns2, p, t, rfl, F, N, hv, hl, p1, p2⟩
    k_steps
    rename_i h3 _ _ _ F N
    refine ⟨LCg.ListComp_U (F₀ := by k_asm) (by with_unfolding_all rfl) (by decide) (by rfl) (by decide) (by rfl) ?_⟩
    k_steps
    refine ⟨LCg.CompSrc.ledger (by rfl) (by k_asm) (by k_asm) (.head _) (by rw [List.size_toArray, hv.length, sizeLine_eq]; omega) ?_⟩
    intro g
    refine compU_ind (fun i ys => ∃ ls, TextsAre ys ls ∧ ls.length = i ∧ ∀ l ∈ ls, ∃ c, l = [c] ∧ Sg c) ⟨[], .nil, rfl, by simp⟩ ?_ ?_
    · rintro i3 ys v I3 oI3 C3 oC3 D3 m₃ h4 tk3 E3 hi3 ⟨ls, hJ, hJl, hJs⟩ hP hNs hx F N off ne
      rw [List.getElem?_toArray] at hP
      obtain ⟨k, tk2, rfl, hk⟩ := ints_at hv hP
      k_steps
      obtain ⟨c4, e4, hc4⟩ := sign_item k
      rw [e4]
      refine LCg.CompEnd.intro F N _ (fun _ hp => hp) off (.inr ⟨_, .head _, rfl, _, rfl⟩) ⟨rfl, ls ++ [[c4]], hJ.snoc, by simp [hJl], fun l hl => ?_⟩
      rcases List.mem_append.mp hl with h | h
      · exact hJs l h
      · exact ⟨c4, List.mem_singleton.mp h, hc4⟩
    · rintro ys ⟨ls, hJ, hJl, hJs⟩
      unfold LCg.FinE
      intro D3 h4 tk3 F N o1
      k_steps
      have hfl := flat_one hJs
      have hfs := flat_sg hJs
      rw [List.size_toArray, hv.length, hl] at hJl
      rw [hJl] at hfl
      have q0 : 0 ≤ (ns2.sum + (p : Int)).fmod 3 := Int.fmod_nonneg_of_pos _ (by decide)
      have q1 : (ns2.sum + (p : Int)).fmod 3 < 3 := Int.fmod_lt_of_pos _ (by decide)
      refine joinS (N.isList (.head _)) hJ (by omega) ?_
      intro t5 tk5
      generalize ls.flatten = wd at hfl hfs
      k_steps
      rename_i D h5 F N _
      show Q _ _
      refine hQ _ _ _ _ _ _ _ (Fr.keep F) ⟨_, (N _ (.head _)).1, rfl, _, rfl⟩ ?_ ?_ ?_ (Int.fmod_nonneg_of_pos _ (by decide)) (by have := Int.fmod_lt_of_pos ((ns2.sum + (p : Int)).fdiv 3) (b := 4) (by decide); omega)
      · rw [List.length_take]; omega
      · rw [List.length_take]; omega
      · exact fun c hc => hfs c (List.mem_of_mem_take hc)
end
end
-- part HX
section
open PySem PySem.W PySem.Spec PySem.Calls PyProof.Rows
theorem kdl_keys_in : ∀ {kvs : List (Str × Value)} {ps : List (List Nat × Int)} {C : List Value → Prop}, PairsAre kvs ps → (∀ vs, TextsAre vs (ps.map (·.1)) → C vs) → KdlKeysS kvs C
  | _, _, _, .nil, h => h [] .nil
  | _, _, _, .cons k _ _ r, h => fun t' => kdl_keys_in r fun _ hv => h _ (.cons k t' hv)
theorem count_T (k : List Nat) : ∀ ts : List (List Nat), Spec.countIn (.str (S k)) ((ts.map S).map PyData.str) = ((ts.count k : Nat) : Int)
  | [] => rfl
  | t :: ts => by
    rw [List.map_cons, List.map_cons, Spec.countIn, count_T k ts]
    simp only [Spec.same, S_beq, List.count_cons]
    by_cases h : t = k
    · subst h; simp; omega
    · simp [h]
theorem TextsAre.reverse : ∀ {vs : List Value} {ts : List (List Nat)}, TextsAre vs ts → TextsAre vs.reverse ts.reverse
  | _, _, .nil => .nil
  | _, _, .cons l t h => by
    rw [List.reverse_cons, List.reverse_cons]
    exact h.reverse.snoc
section
variable {w : World} {A : Around} {E : Value → Shared → Prop} {s : Shared} {h₀ : Heap} {L d l : Addr} {m : Str → Option Value} {news : List (Addr × Obj)} {o : Obj} {kvs : List (Str × Value)} {ps : List (List Nat × Int)} {Q : Value → Shared → Prop}
theorem list_book (hh : A.handled = none) (F : Fr h₀ L s.heap m) (N : News h₀ L s.heap news) (hp : (d, o) ∈ news) (hd : o.IsDictOf (PySem.strKind PG w) kvs) (lo : (d == sysModules) = false) (hP : PairsAre kvs ps) (hn : ps.length ≤ 1000)
    (h : ∀ (B : Addr) c h' tk vs, Fr h₀ L h' m → News h₀ L h' ((B, listOf vs.toArray c) :: news) → (∀ q ∈ news, q.1 < B) → TextsAre vs (ps.map (·.1)) → Q (.ref B) { s with heap := h', toks := tk }) :
    wpAny (model PG w) A (call (.type "list") [.ref d]) Q E s :=
  kdl_list_keysS hh F N hp hd lo (by rw [hP.length]; omega) fun B c h' tk => kdl_keys_in hP fun vs hv F' N' l1 => h B c h' tk vs F' N' l1 hv
theorem list_vals {v : Addr} (hh : A.handled = none) (F : Fr h₀ L s.heap m) (N : News h₀ L s.heap news) (hv : (v, { cls := .type "dict_values", data := .fields #[.ref d] }) ∈ news) (hp : (d, o) ∈ news) (hd : o.IsDictOf (PySem.strKind PG w) kvs) (hP : PairsAre kvs ps) (hn : ps.length ≤ 1000)
    (h : ∀ (B : Addr) c h' tk vs, Fr h₀ L h' m → News h₀ L h' ((B, listOf vs.toArray c) :: news) → (∀ q ∈ news, q.1 < B) → IntsAre vs (ps.map (·.2)) → Q (.ref B) { s with heap := h', toks := tk }) :
    wpAny (model PG w) A (call (.type "list") [.ref v]) Q E s :=
  kdl_list_valuesP hh F N hv hp hd (by rw [hP.length]; omega) fun B c h' tk F' N' l1 => h B c h' tk _ F' N' l1 hP.values
theorem item_T {vs : List Value} {ts : List (List Nat)} {i : Int} {u : Tok} {value slice : PySem.Expr} (hl : s.heap.IsList l vs.toArray) (hv : TextsAre vs ts) (h0 : 0 ≤ i) (h1 : i < (ts.length : Int)) (hz : ts.length ≤ 1000)
    (h : ∀ t', Q (.str (S (ts.getD i.toNat [])) t') s)
    (hs : subscripted slice false (.ref l) (.int i u) = operate [.ref l, .int i u] (getItem (.ref l) (.int i u)) := by with_unfolding_all rfl) :
    wpAny (model PG w) A (subscriptTail value slice (.ref l) (.int i u)) Q E s := by
  refine KTb.item_list hl hv.strs h0 (by rw [List.length_map]; exact h1) (by omega) (fun t' hn => ?_) hs
  have e : (ts.map S).getD i.toNat PySem.Str.empty = S (ts.getD i.toNat []) := by
    rw [List.length_map] at hn
    simp [List.getD_eq_getElem?_getD, List.getElem?_eq_getElem hn]
  rw [e]
  exact h t'
theorem count_tx {vs : List Value} {ts : List (List Nat)} {k : List Nat} {t : Tok} (hl : s.heap.IsList l vs.toArray) (hv : TextsAre vs ts)
    (h : Q (.int ((ts.count k : Nat) : Int) s.toks) { s with toks := s.toks + 1 }) : wpAny (model PG w) A (call (.builtin "list.count") [.ref l, .str (S k) t]) Q E s :=
  count_list_strs hl hv.strs (by rw [count_T]; exact h)
theorem rev_T {vs : List Value} {ts : List (List Nat)} {value slice : PySem.Expr} {vk : Value} {ops : List Value} (F : Fr h₀ L s.heap m) (N : News h₀ L s.heap news) (hl : s.heap.IsList l vs.toArray) (hv : TextsAre vs ts) (pk : IsPart vk (some (-1))) (hz : ts.length ≤ 1000)
    (h : ∀ D ws h', Fr h₀ L h' m → News h₀ L h' ((D, listOf (List.toArray ws) 0) :: news) → (∀ p ∈ news, p.1 < D) → TextsAre ws ts.reverse → Q (.ref D) { s with heap := h' })
    (hs : subscripted slice false (.ref l) (.ref s.heap.objs.size) = operate ops (getItem (.ref l) (.ref s.heap.objs.size))) (ht : ∀ r, letTemporaryGo value (.ref l) r = pure ()) :
    wpAny (model PG w) A (subscriptTail value slice (.ref l) (.ref s.heap.objs.size)) Q E { s with heap := s.heap.push { cls := .type "slice", data := .fields #[.none, .none, vk] } } :=
  krv_lit (its := vs.toArray) (zs := vs.reverse) F N hl pk rfl (fun D h' F' N' l1 => h D vs.reverse h' F' N' l1 hv.reverse) hs ht (by rw [List.size_toArray, hv.length, sizeLine_eq]; omega)
end
section
variable {prog : Program} {w : World} {A : Around} {E : Value → Shared → Prop} {s : Shared} {env : Env} {h₀ : Heap} {L : Addr} {m : Str → Option Value} {body : List Stmt} {Q : Flow → Shared → Prop} {K : Type} [DecidableEq K] {knd : KeyKind prog w K}
theorem listComp_KU {elt iter : Expr} {x : Str} {px : Pos} {scope : Scope} {cl : List (Str × Addr)} {pos : Pos} {Q : Value → Shared → Prop} (F₀ : Fr h₀ L s.heap m)
    (hclos : closureFor scope env = pure cl) (hcell : ∀ y ∈ scope.names, y.2 ≠ .cell) (hkind : scope.kind = .function)
    (hnames : ∀ y ∈ scope.names, y.2 = .local → scope.names.lookup y.1 = some .local) (hx : scope.names.lookup x = some .local)
    (h : wpAny (model prog w) A (eval iter env) (fun xv s₁ => Stop (∃ d o kvs news, xv = .ref d ∧ A.handled = none ∧ (d == sysModules) = false ∧ Fr h₀ L s₁.heap m ∧ News h₀ L s₁.heap news ∧ (d, o) ∈ news ∧ o.IsDictOf knd kvs ∧ kvs.length ≤ sizeLine ∧
      ∀ s₂ : Shared, (∃ h, s₂ = { s₁ with heap := h }) → LCg.CompRest prog w A h₀ L m env elt x scope cl s₂ (fun nw => (d, o) ∈ nw) (fun i v => ∃ k x, kvs[i]? = some (k, x) ∧ knd.is k v = true) (LCg.FinE h₀ L m s₂ Q) kvs.length 0 [] news)) E s)
    (hs : ∀ x, foldedSetIterable iter env x = pure x := by intro _; rfl) :
    wpAny (model prog w) A (eval (.ListComp elt [⟨.Name x px, iter, [], 0⟩] scope pos) env) Q E s := by
  rw [eval_ListComp]
  refine wpAny_comprehension_free (use := none) rfl hs hclos hkind hnames (wpAny_mono h (fun xv s₁ h₁ => ?_) fun _ _ e => e)
  obtain ⟨d, o, kvs, news, rfl, hh, low, F, N, hm, hod, hsz, R⟩ := h₁.out
  obtain ⟨es, ep, hod'⟩ := id hod
  have hat : ∀ h : Heap, h.get? d = some o → h.DictAt knd d kvs ep := fun h e => ⟨o, es, e, hod'⟩
  have hms := hat _ (N _ hm).1
  have hlt : d < s₁.heap.objs.size := hms.lt_size
  refine wpAny_pyIter_dict low hms ?_
  refine LCg.block_U (Walks.dictKeys hh s₁.heap.objs.size d (Nat.ne_of_lt hlt) kvs ep) hsz (fun i h st => by obtain ⟨o, e, _⟩ := st.1; exact ⟨o, e⟩) (S := fun nw => (d, o) ∈ nw) ?_ hcell hkind hx ⟨⟨_, Heap.get?_push_size _ rfl, rfl, rfl⟩, hms.push _⟩ (fun b hb => ?_)
    (F.keeps fun _ _ e => Heap.get?_push_of_some _ e) (N.grown fun _ _ e => Heap.get?_push_of_some _ e) (Nat.ne_of_lt F.ns.lt) (next_is_new F) (fun p hp => Nat.ne_of_lt (Heap.lt_size (N p hp).1)) hm (R _ ⟨_, rfl⟩) ?_
  · intro i h h' o' nw st e e' k N' S'
    exact ⟨by obtain ⟨o', q, r⟩ := st.1; rw [e] at q; cases q; exact ⟨_, e', r⟩, hat _ (N' _ S').1⟩
  · show b < (s₁.heap.push _).objs.size
    rw [Heap.size_push]
    rcases List.mem_cons.mp hb with rfl | hb
    · exact Nat.lt_succ_self _
    · rw [List.mem_singleton.mp hb]; exact Nat.lt_succ_of_lt hlt
  · intro D C h tk m' ys news' F' N' o1 hn hC₀ hD₀ hCL hDL hCD offC fin
    refine ⟨m', hn, fun h'' hs'' => fin D h'' tk (F'.change hs'' hCL hC₀) (fun p hp => ?_) o1⟩
    refine ⟨hs''.extBut _ _ ?_ (N' p hp).1, (N' p hp).2⟩
    rcases List.mem_cons.mp hp with rfl | hp
    · exact Ne.symm hCD
    · exact offC p hp
end
end
-- part SK
section
open PySem PySem.W PySem.Spec PySem.Calls PyProof.Rows
theorem le_tr {a b c : List Nat} (h1 : ¬ b < a) (h2 : ¬ c < b) : ¬ c < a := by
  rw [List.not_lt] at *
  exact List.le_trans h1 h2
theorem rising_pw : ∀ (ss : List Str) (p : Str), risingS p ss = true → (p :: ss).Pairwise (fun a b => ¬ b.cps.toList < a.cps.toList)
  | [], p, _ => by simp
  | x :: r, p, h => by
    unfold risingS at h
    rw [Bool.and_eq_true] at h
    have ih := rising_pw r x h.2
    have h1 : ¬ x.cps.toList < p.cps.toList := by
      have := h.1
      rw [ltCps_eq] at this
      simpa using this
    refine List.pairwise_cons.mpr ⟨fun y hy => ?_, ih⟩
    rcases List.mem_cons.mp hy with rfl | hy
    · exact h1
    · exact le_tr h1 (List.rel_of_pairwise_cons ih hy)
theorem sorted_pw (ss : List Str) (h : sortedS ss = true) : ss.Pairwise (fun a b => ¬ b.cps.toList < a.cps.toList) := by
  cases ss with
  | nil => exact .nil
  | cons x r => exact rising_pw r x h
theorem texts_of_strs : ∀ {vs : List Value} {ss : List Str}, StrsAre vs ss → ∃ ts, TextsAre vs ts ∧ ss = ts.map S
  | _, _, .nil => ⟨[], .nil, rfl⟩
  | _, _, .cons x t h => by
    obtain ⟨ts, h1, rfl⟩ := texts_of_strs h
    exact ⟨x.cps.toList :: ts, .cons _ t h1, rfl⟩
theorem S_map_perm {a b : List (List Nat)} (h : (a.map S).Perm (b.map S)) : a.Perm b := by
  have h2 := h.map (fun z : Str => z.cps.toList)
  rw [List.map_map, List.map_map] at h2
  have e : (fun z : Str => z.cps.toList) ∘ S = id := by funext l; rfl
  rw [e, List.map_id, List.map_id] at h2
  exact h2
theorem srt_out {vs : List Value} {ts : List (List Nat)} (hv : TextsAre vs ts) {xs : Array Keyed} (hp : xs.Perm (pairsOf vs)) (hs : SortedToK PyProof.Rows.strKind xs (pairsOf vs).size) :
    ∃ ts', TextsAre (xs.map (·.2)).toList ts' ∧ ts'.Perm ts ∧ ts'.Pairwise (fun a b => ¬ b < a) := by
  obtain ⟨ss', h1, h2, h3⟩ := sorted_out_str hv.strs hp hs
  obtain ⟨ts', h4, rfl⟩ := texts_of_strs h1
  refine ⟨ts', h4, S_map_perm h2, ?_⟩
  have := sorted_pw _ h3
  rw [List.pairwise_map] at this
  exact this
section
variable {prog : Program} {w : World} {A : Around} {E : Value → Shared → Prop} {s : Shared} {h₀ : Heap} {L : Addr} {m : Str → Option Value} {news : List (Addr × Obj)} {a kS : Addr} {vs : List Value} {ts : List (List Nat)} {keys : Array Value} {e e1 : Nat} {P : PySem.Fin → Shared → Prop}
set_option maxHeartbeats 40000000 in
theorem srt_tail {st : SortSt} (F : Fr h₀ L s.heap m) (N : News h₀ L s.heap news) (hk : s.heap.get? kS = some (seqObj "list" keys e)) (ha : s.heap.get? a = some (seqObj "list" #[] e1)) (hka : kS ≠ a) (hkL : kS ≠ L) (haL : a ≠ L) (hk0 : h₀.get? kS = none) (ha0 : h₀.get? a = none)
    (hnk : ∀ p ∈ news, p.1 ≠ kS) (hna : ∀ p ∈ news, p.1 ≠ a) (hz1 : keys.size ≤ 100) (hz2 : (arrOf st).size ≤ 100) (hfl : failedOf st = none)
    (h : ∀ h' tk c, Fr h₀ L h' m → News h₀ L h' ((a, seqObj "list" ((arrOf st).map (·.2)) c) :: news) → P (.done (.ret .none)) { s with heap := h', toks := tk }) :
    wpAny (model prog w) A (ksk_tail a false e1 (.ref kS) st) P E s := by
  have s1 := Heap.SameBut.update s.heap kS (Obj.mapSeq fun _ => (#[] : Array Value))
  have ha1 := (s1.2 a hka.symm).trans ha
  have s2 := Heap.SameBut.update (s.heap.update kS (Obj.mapSeq fun _ => (#[] : Array Value))) a (Obj.mapSeq fun _ => (arrOf st).map (·.2))
  obtain ⟨c2, hc2⟩ : ∃ c2, ((s.heap.update kS (Obj.mapSeq fun _ => (#[] : Array Value))).update a (Obj.mapSeq fun _ => (arrOf st).map (·.2))).get? a = some (seqObj "list" ((arrOf st).map (·.2)) c2) := ⟨_, get?_update_seq ha1 fun _ => (arrOf st).map (·.2)⟩
  unfold ksk_tail
  refine wpAny_bind (listUpdate_at hk rfl ?_ (by rw [sizeLine_eq]; omega) (Nat.zero_le _))
  refine wpAny_bind (wpAny_letGo ?_)
  refine wpAny_bind (seqEpoch_at ha1 rfl ?_)
  refine wpAny_bind (listUpdate_at ha1 rfl ?_ (Nat.zero_le _) (by
    refine Nat.le_trans (Nat.le_of_eq ?_) (Nat.le_trans hz2 (by rw [sizeLine_eq]; omega))
    simp))
  rw [hfl]
  simp only [bne_self_eq_false, Bool.false_eq_true, if_false]
  refine wpAny_pure (h _ _ c2 (ksk_fr (ksk_fr F s1 hkL hk0) s2 haL ha0) (fun p hp => ?_))
  rcases List.mem_cons.mp hp with rfl | hp
  · exact ⟨hc2, haL, ha0⟩
  · exact ksk_news (ksk_news N s1 hnk) s2 hna p hp
theorem srt_end (F : Fr h₀ L s.heap m) (N : News h₀ L s.heap news) (hk : s.heap.get? kS = some (seqObj "list" vs.toArray e)) (ha : s.heap.get? a = some (seqObj "list" #[] e1)) (hka : kS ≠ a) (hkL : kS ≠ L) (haL : a ≠ L) (hk0 : h₀.get? kS = none) (ha0 : h₀.get? a = none)
    (hnk : ∀ p ∈ news, p.1 ≠ kS) (hna : ∀ p ∈ news, p.1 ≠ a) (hv : TextsAre vs ts) (hz : vs.length < 60)
    (h : ∀ h' tk c us ts', Fr h₀ L h' m → News h₀ L h' ((a, seqObj "list" (List.toArray us) c) :: news) → TextsAre us ts' → ts'.Perm ts → ts'.Pairwise (fun a b => ¬ b < a) → P (.done (.ret .none)) { s with heap := h', toks := tk }) :
    wpAny (model prog w) A (ksk_end a false vs.toArray e1 (.ref kS) vs.toArray) P E s := by
  have hps : (pairsOf vs).size = vs.length := pairsOf_size vs
  have fin : ∀ st : SortSt, (arrOf st).Perm (pairsOf vs) → SortedToK PyProof.Rows.strKind (arrOf st) (pairsOf vs).size → failedOf st = none → wpAny (model prog w) A (ksk_tail a false e1 (.ref kS) st) P E s := by
    intro st hp hs hf
    obtain ⟨ts', h1, h2, h3⟩ := srt_out hv hp hs
    refine srt_tail F N hk ha hka hkL haL hk0 ha0 hnk hna (by rw [List.size_toArray]; omega) (by rw [hp.size_eq]; omega) hf fun h' tk c F' N' => ?_
    refine h h' tk c _ ts' F' ?_ h1 h2 h3
    rw [Array.toArray_toList]
    exact N'
  unfold ksk_end
  simp only [Bool.false_eq_true, if_false]
  by_cases h2 : vs.toArray.size < 2
  · rw [if_pos h2, if_pos h2]
    refine wpAny_bind (wpAny_pure ?_)
    rw [StateT.run_pure]
    refine wpAny_bind (wpAny_pure ?_)
    refine fin _ (Array.Perm.refl _) ?_ rfl
    intro i j hij hj
    rw [List.size_toArray] at h2
    have : i = j := by omega
    subst this
    exact KeyOrd.kle_refl _
  · rw [if_neg h2, if_neg h2]
    rw [List.size_toArray] at h2
    have hkk : keyKind' vs.toArray = pure oneType' := by
      match vs, hv, h2 with
      | [], _, h2 => simp at h2
      | [_], _, h2 => simp at h2
      | v₁ :: v₂ :: rest, hv, _ => exact keyKind_strs hv.strs
    rw [hkk]
    refine wpAny_bind (wpAny_pure ?_)
    refine wpAny_bind (wpAny_mono (wpS_sortRunsK (κ := PyProof.Rows.strKind) strKind_oneLt (a₀ := pairsOf vs) (st := SortSt.mk' oneType' (pairsOf vs) #[] 7 none)
      (Q := fun _ st' => (arrOf st').Perm (pairsOf vs) ∧ failedOf st' = none ∧ SortedToK PyProof.Rows.strKind (arrOf st') (pairsOf vs).size)
      hv.strs.keysOf ⟨Array.Perm.refl _, rfl, rfl, rfl⟩ (by omega) (by omega) fun st' a1 a2 a3 => ⟨a1, a2, a3⟩) ?_ fun _ _ e => e)
    rintro ⟨⟨⟩, st'⟩ s' ⟨rfl, hp, hf, hs⟩
    exact fin st' hp hs hf
theorem srt_rest {f : Value} (F : Fr h₀ L s.heap m) (N : News h₀ L s.heap news) (hk : s.heap.get? kS = some (seqObj "list" #[] 0)) (ha : s.heap.get? a = some (seqObj "list" #[] e1)) (hka : kS ≠ a) (hkL : kS ≠ L) (haL : a ≠ L) (hk0 : h₀.get? kS = none) (ha0 : h₀.get? a = none)
    (hnk : ∀ p ∈ news, p.1 ≠ kS) (hna : ∀ p ∈ news, p.1 ≠ a) (hv : TextsAre vs ts) (hz : vs.length < 60)
    (turn : ∀ (x : Str) (t : Tok) (h : Heap) (tk : Nat), Fr h₀ L h m → wpAny (model prog w) A (call f [.str x t]) (fun v s' => v = .str x t ∧ ∃ h' tk', s' = { s with heap := h', toks := tk' } ∧ Grows h h') (fun _ _ => False) { s with heap := h, toks := tk })
    (h : ∀ h' tk c us ts', Fr h₀ L h' m → News h₀ L h' ((a, seqObj "list" (List.toArray us) c) :: news) → TextsAre us ts' → ts'.Perm ts → ts'.Pairwise (fun a b => ¬ b < a) → P (.done (.ret .none)) { s with heap := h', toks := tk }) :
    wpAny (model prog w) A (ksk_rest a f false vs.toArray e1 (.ref kS)) P E s := by
  unfold ksk_rest
  refine wpAny_bind (wpAny_rule ?_)
  rw [← Array.forIn_toList]
  refine wpAny_bind (ksk_fold (fun i s' => ∃ h' tk kA e, s' = { s with heap := h', toks := tk } ∧ Fr h₀ L h' m ∧ News h₀ L h' news ∧ h'.get? kS = some (seqObj "list" kA e) ∧ h'.get? a = some (seqObj "list" #[] e1) ∧ kA.toList = vs.take i) vs 0 s
    ⟨s.heap, s.toks, #[], 0, rfl, F, N, hk, ha, by simp⟩ ?step ?done)
  case step =>
    rintro j x s' hx ⟨h', tk, kA, e, rfl, F', N', hk', ha', hA⟩
    simp only [Nat.zero_add] at hA ⊢
    obtain ⟨l, t, rfl, _⟩ := hv.at hx
    refine wpAny_bind (wpAny_attempt (wpAny_mono (turn (S l) t h' tk F') (fun v s'' he => ?_) fun _ _ hF => hF.elim))
    obtain ⟨rfl, g, tk2, rfl, gg⟩ := he
    dsimp only
    have hk2 := gg _ _ hk'
    have ha2 := gg _ _ ha'
    have s1 := Heap.SameBut.update g kS (Obj.mapSeq (·.push (.str (S l) t)))
    have hc2 := get?_update_seq hk2 (·.push (.str (S l) t))
    have hkz : kA.size ≤ vs.length := by
      rw [← Array.length_toList, hA, List.length_take]; omega
    refine wpAny_bind (listUpdate_at hk2 rfl ?_ (by rw [sizeLine_eq]; omega) (Nat.le_trans (Nat.le_of_eq (Array.size_push ..)) (by rw [sizeLine_eq]; omega)))
    refine wpAny_pure ⟨rfl, _, _, _, _, rfl, ksk_fr (Mine.Fr.grows F' gg) s1 hkL hk0, ksk_news (Mine.News.grows N' gg) s1 hnk, hc2, (s1.2 a hka.symm).trans ha2, ?_⟩
    rw [List.take_add_one, hx, ← hA]
    simp
  case done =>
    rintro s' ⟨h', tk, kA, e, rfl, F', N', hk', ha', hA⟩
    rw [Nat.zero_add, List.take_length] at hA
    have hA' : kA = vs.toArray := by rw [← hA, Array.toArray_toList]
    subst hA'
    refine wpAny_bind (listItems_at hk' rfl ?_)
    exact srt_end F' N' hk' ha' hka hkL haL hk0 ha0 hnk hna hv hz fun h3 tk3 c us ts' F3 N3 a1 a2 a3 => h h3 tk3 c us ts' F3 N3 a1 a2 a3
end
end
-- part SB
section
open PySem PySem.W PySem.Spec PySem.Calls PyProof.Rows
theorem texts_keys {kvs : List (Str × Value)} {ps : List (List Nat × Int)} (hP : PairsAre kvs ps) : ∀ (vs : List Value), vs.length = kvs.length → (∀ (j : Nat) (v : Value), vs[j]? = some v → ∃ k x, kvs[j]? = some (k, x) ∧ Value.isStrOf k v = true) → TextsAre vs (ps.map (·.1)) := by
  induction hP with
  | nil => intro vs hl _; cases vs with
    | nil => exact .nil
    | cons v r => simp at hl
  | cons k c t h ih =>
    intro vs hl hv
    cases vs with
    | nil => simp at hl
    | cons v r =>
      obtain ⟨k', x, e, hk⟩ := hv 0 v rfl
      simp at e
      obtain ⟨rfl, rfl⟩ := e
      obtain ⟨u, rfl⟩ := Value.isStrOf_shape hk
      refine .cons k u (ih r (by simpa using hl) fun j v hj => ?_)
      obtain ⟨k', x, e, hk⟩ := hv (j + 1) v (by simpa using hj)
      exact ⟨k', x, by simpa using e, hk⟩
section
variable {w : World} {A : Around} {E : Value → Shared → Prop} {s : Shared} {h₀ : Heap} {L d q : Addr} {m : Str → Option Value} {news : List (Addr × Obj)} {o : Obj} {kvs : List (Str × Value)} {ps : List (List Nat × Int)} {Q : Value → Shared → Prop}
set_option maxHeartbeats 40000000 in
theorem sorted_book (hh : A.handled = none) (F : Fr h₀ L s.heap m) (N : News h₀ L s.heap news) (hp : (d, o) ∈ news) (hd : o.IsDictOf (PySem.strKind PG w) kvs) (lo : (d == sysModules) = false) (hP : PairsAre kvs ps) (hn : ps.length < 60)
    (turn : ∀ (x : Str) (t : Tok) (h : Heap) (tk : Nat), Fr h₀ L h m → wpAny (model PG w) A.in1.in1 (call (.ref q) [.str x t]) (fun v s' => v = .str x t ∧ ∃ h' tk', s' = { s with heap := h', toks := tk' } ∧ Grows h h') (fun _ _ => False) { s with heap := h, toks := tk })
    (h : ∀ (D : Addr) h' tk c us ts', Fr h₀ L h' m → News h₀ L h' ((D, listOf (List.toArray us) c) :: news) → TextsAre us ts' → ts'.Perm (ps.map (·.1)) → ts'.Pairwise (fun a b => ¬ b < a) → Q (.ref D) { s with heap := h', toks := tk }) :
    wpAny (model PG w) A (call (.builtin "sorted") [.ref d] [(Str.ofString "key", .ref q)]) Q E s := by
  obtain ⟨ep, hat⟩ := (kda_dict N hp hd).dictAt
  have hkl : kvs.length = ps.length := hP.length
  refine call_function_entry_kw kind_sorted plain_sorted entry_sorted (ksk_s1 _ _) ?_
  unfold Builtin.«sorted»
  refine wpAny_bind (m := checkCount "sorted" 1 1 _) (wpAny_pure ?_)
  refine wpAny_bind (kdu_collect (A := A.in1) (kdl_dict (knd := PySem.strKind PG w) (kvs := kvs) (ep := ep) lo) hh hat (by rw [sizeLine_eq]; omega) fun h' tk acc hk hacc => ?_)
  have hl : acc.toList.length = kvs.length := by rw [Array.length_toList]; exact hacc.1
  have hT : TextsAre acc.toList (ps.map (·.1)) := texts_keys hP _ hl fun j v e => hacc.2 j v (by rw [← Array.getElem?_toList]; exact e)
  generalize acc.toList = vs at hl hT ⊢
  refine wpAny_bind (wpAny_newList ?_ (by rw [hl, sizeLine_eq]; omega))
  have F1 : Fr h₀ L h' m := F.keeps hk
  have N1 : News h₀ L h' news := fun p hp => ⟨hk _ _ (N p hp).1, (N p hp).2⟩
  have hL : L < h'.objs.size := F1.ns.lt
  have hoA : (h'.push (seqObj "list" vs.toArray 0)).get? h'.objs.size = some (seqObj "list" vs.toArray 0) := Heap.get?_push_size _ rfl
  refine wpAny_bind (wpAny_holding (wpAny_call_entry_kw slot_list_sort ⟨_, hoA, rfl⟩ entry_list_sort ?body (ksk_l1 _ _)))
  case body =>
    show wpAny (model PG w) A.in1.in1 (Builtin.«list.sort» ⟨[.ref h'.objs.size], _⟩) _ _ _
    rw [ksk_t1]
    unfold ksk_tree
    have s1 := Heap.SameBut.update (h'.push (seqObj "list" vs.toArray 0)) h'.objs.size (Obj.mapSeq fun _ => (#[] : Array Value))
    obtain ⟨e1, ho1⟩ : ∃ e1, ((h'.push (seqObj "list" vs.toArray 0)).update h'.objs.size (Obj.mapSeq fun _ => (#[] : Array Value))).get? h'.objs.size = some (seqObj "list" #[] e1) := ⟨_, get?_update_seq hoA fun _ => #[]⟩
    have ha0 : h₀.get? h'.objs.size = none := Heap.get?_none_of_le (Nat.le_trans F1.above (Nat.le_of_lt hL))
    have hna : ∀ p ∈ news, p.1 ≠ h'.objs.size := fun p hp => Nat.ne_of_lt (Heap.lt_size (N1 p hp).1)
    have F2 := ksk_fr (F1.push (seqObj "list" vs.toArray 0)) s1 (Nat.ne_of_gt hL) ha0
    have N2 := ksk_news (N1.pushKeep (seqObj "list" vs.toArray 0)) s1 hna
    have hsz : ((h'.push (seqObj "list" vs.toArray 0)).update h'.objs.size (Obj.mapSeq fun _ => (#[] : Array Value))).objs.size = h'.objs.size + 1 := by rw [Heap.size_update, size_push']
    refine wpAny_bind (listItems_at hoA rfl ?_)
    refine wpAny_bind (listUpdate_at hoA rfl ?_ (by rw [List.size_toArray, sizeLine_eq]; omega) (Nat.zero_le _))
    refine wpAny_bind (seqEpoch_at ho1 rfl ?_)
    refine wpAny_bind (wpAny_newTuple ?_ (by show vs.length ≤ _; rw [sizeLine_eq]; omega))
    refine wpAny_bind (wpAny_newList ?_ (Nat.zero_le _))
    refine wpAny_holding ?_
    have hkS : (((h'.push (seqObj "list" vs.toArray 0)).update h'.objs.size (Obj.mapSeq fun _ => (#[] : Array Value))).push (seqObj "tuple" vs.toArray 0)).objs.size = h'.objs.size + 2 := by rw [size_push', hsz]
    have g1 : h'.objs.size < (((h'.push (seqObj "list" vs.toArray 0)).update h'.objs.size (Obj.mapSeq fun _ => (#[] : Array Value))).push (seqObj "tuple" vs.toArray 0)).objs.size := by rw [hkS]; omega
    refine srt_rest (ts := ps.map (·.1)) (kS := (((h'.push (seqObj "list" vs.toArray 0)).update h'.objs.size (Obj.mapSeq fun _ => (#[] : Array Value))).push (seqObj "tuple" vs.toArray 0)).objs.size)
      ((F2.push _).push _) ((N2.pushKeep _).pushKeep _) (Heap.get?_push_size _ rfl) (Heap.get?_push_of_some _ (Heap.get?_push_of_some _ ho1)) (Nat.ne_of_gt g1) (Nat.ne_of_gt (Nat.lt_trans hL g1)) (Nat.ne_of_gt hL) (Heap.get?_none_of_le (Nat.le_trans F1.above (Nat.le_of_lt (Nat.lt_trans hL g1)))) ha0
      (fun p hp => Nat.ne_of_lt (Nat.lt_trans (Heap.lt_size (N1 p hp).1) g1)) hna hT (by rw [hl]; omega) (fun x t h tk F => turn x t h tk F) fun h3 tk3 c us ts' F3 N3 a1 a2 a3 => ⟨_, rfl, ?_⟩
    exact wpAny_pure ⟨_, rfl, h _ h3 tk3 c us ts' F3 N3 a1 a2 a3⟩
end
end
-- part PD
section
open PySem PySem.W PySem.Spec PySem.Calls PyProof.Rows
def initE (l : List Nat) : List Nat := (endsL l).take ((endsL l).length - 1)
def lowP (l : List Nat) (e : Nat) : Bool := decide (l.getD (e + 1) 0 < l.getD e 0)
def upP (l : List Nat) (e : Nat) : Bool := decide (l.getD e 0 < l.getD (e + 1) 0)
def thereL (l : List Nat) : List Nat := (initE l).filter (lowP l)
def backL (l : List Nat) : List Nat := (initE l).filter (upP l)
def walkL (l : List Nat) : List Nat := thereL l ++ [l.length - 1] ++ (backL l).reverse
structure Plain (l : List Nat) (b : Int) : Prop where
  keys : (bookL (cardsL l)).map (·.1) = (endsL l).map (del l)
  vals : (bookL (cardsL l)).map (·.2) = (bookL (cardsL l)).map (fun p => (((cardsL l).count p.1 : Nat) : Int))
  total : ((bookL (cardsL l)).map (·.2)).sum = (l.length : Int)
  read : readW (bookL (cardsL l)) (l.length - 1) (l.length - 1) = l
  words : wordsL ((bookL (cardsL l)).map (·.1)).reverse (del l 0) = [l]
  steps : (List.range (l.length - 1)).map (fun k => cost (l.getD k 0) (l.getD (k + 1) 0)) = (List.range (l.length - 1)).map (fun k => stepF (l.getD k 0) (l.getD (k + 1) 0))
  levw : ∀ i, i < l.length → levF l (del l i) b = 2
  strc : ∀ i j, i < j → j < l.length → b2i (decide ((S (del l j)).cps.toList < (S (del l i)).cps.toList)) - b2i (decide ((S (del l i)).cps.toList < (S (del l j)).cps.toList)) = lowF l i j
  strc' : ∀ i j, i < j → j < l.length → b2i (decide ((S (del l i)).cps.toList < (S (del l j)).cps.toList)) - b2i (decide ((S (del l j)).cps.toList < (S (del l i)).cps.toList)) = - lowF l i j
  levc : ∀ i j, i < j → j < l.length → levF (del l i) (del l j) b = pmin ([1, 2, 4, 4].getD b.toNat 0) ((((List.range (l.length - 1)).map (fun k => cost (l.getD k 0) (l.getD (k + 1) 0))).drop i).take (j - i)).sum
  sort : ∀ ts', ts'.Perm ((bookL (cardsL l)).map (·.1)) → ts'.Pairwise (fun a b => ¬ b < a) → ts' = (walkL l).map (del l)
end
-- part P1
section
open PySem PySem.W PySem.Spec PySem.Calls PyProof.Rows
theorem del_zero (c : Nat) (l : List Nat) : del (c :: l) 0 = l := by simp [del]
theorem del_succ (c : Nat) (l : List Nat) (i : Nat) : del (c :: l) (i + 1) = c :: del l i := by simp [del]
theorem cards_nil : cardsL [] = [] := rfl
theorem cards_cons (c : Nat) (l : List Nat) : cardsL (c :: l) = l :: (cardsL l).map (c :: ·) := by
  unfold cardsL
  rw [List.length_cons, List.range_succ_eq_map, List.map_cons, List.map_map, List.map_map, del_zero]
  rfl
theorem endP_succ (c : Nat) (l : List Nat) (i : Nat) : endP (c :: l) (i + 1) = endP l i := by
  unfold endP
  simp
theorem ends_cons (c : Nat) (l : List Nat) : endsL (c :: l) = (if l.take 1 = [c] then [] else [0]) ++ (endsL l).map (· + 1) := by
  unfold endsL
  rw [List.length_cons, List.range_succ_eq_map, List.filter_cons, List.filter_map]
  have e : endP (c :: l) ∘ Nat.succ = endP l := funext fun i => endP_succ c l i
  rw [e]
  have e0 : endP (c :: l) 0 = decide (l.take 1 ≠ [c]) := by unfold endP; simp
  rw [e0]
  by_cases h : l.take 1 = [c] <;> simp [h]
def keysL (l : List Nat) : List (List Nat) := (endsL l).map (del l)
theorem keys_nil : keysL [] = [] := rfl
theorem keys_cons (c : Nat) (l : List Nat) : keysL (c :: l) = (if l.take 1 = [c] then [] else [l]) ++ (keysL l).map (c :: ·) := by
  unfold keysL
  rw [ends_cons, List.map_append, List.map_map, List.map_map]
  congr 1
  split <;> simp [del_zero]
theorem keys_same (c : Nat) (l : List Nat) : keysL (c :: c :: l) = (keysL (c :: l)).map (c :: ·) := by rw [keys_cons]; simp
theorem keys_diff {c d : Nat} (l : List Nat) (h : d ≠ c) : keysL (c :: d :: l) = (d :: l) :: (keysL (d :: l)).map (c :: ·) := by rw [keys_cons]; simp [h]
theorem keys_one (c : Nat) : keysL [c] = [[]] := by rw [keys_cons]; simp [keys_nil]
theorem keys_pos (c : Nat) : ∀ l : List Nat, 0 < (keysL (c :: l)).length := by
  intro l
  induction l generalizing c with
  | nil => rw [keys_one]; simp
  | cons d l ih =>
    by_cases h : d = c
    · subst h; rw [keys_same, List.length_map]; exact ih d
    · rw [keys_diff l h]; simp
/-- the texts in the order of their first standing -/
def nub : List (List Nat) → List (List Nat)
  | [] => []
  | x :: ts => x :: (nub ts).filter (fun y => decide (y ≠ x))
theorem mem_nub {x : List Nat} : ∀ {ts : List (List Nat)}, x ∈ nub ts ↔ x ∈ ts
  | [] => by simp [nub]
  | y :: ts => by
    have ih := mem_nub (x := x) (ts := ts)
    simp only [nub, List.mem_cons, List.mem_filter, decide_eq_true_eq, ih]
    by_cases h : x = y <;> simp [h]
theorem nodup_nub : ∀ ts : List (List Nat), (nub ts).Nodup
  | [] => by simp [nub]
  | y :: ts => by
    rw [nub, List.nodup_cons]
    refine ⟨fun h => ?_, (nodup_nub ts).filter _⟩
    simpa using (List.mem_filter.mp h).2
theorem nub_snoc (t : List Nat) : ∀ ts : List (List Nat), nub (ts ++ [t]) = if t ∈ ts then nub ts else nub ts ++ [t]
  | [] => by simp [nub]
  | x :: ts => by
    rw [List.cons_append, nub, nub_snoc t ts, nub]
    by_cases h : t ∈ ts
    · rw [if_pos h, if_pos (List.mem_cons_of_mem _ h)]
    · rw [if_neg h]
      by_cases e : t = x
      · subst e; rw [if_pos (List.mem_cons_self ..), List.filter_append]; simp
      · rw [if_neg (by simp [e, h]), List.filter_append]; simp [e]
theorem nub_map {f : List Nat → List Nat} (hf : ∀ a b, f a = f b → a = b) : ∀ ts : List (List Nat), nub (ts.map f) = (nub ts).map f
  | [] => rfl
  | x :: ts => by
    rw [List.map_cons, nub, nub_map hf ts, nub, List.map_cons, List.filter_map]
    congr 2
    apply List.filter_congr
    intro y _
    show decide (f y ≠ f x) = decide (y ≠ x)
    by_cases h : y = x
    · simp [h]
    · have : f y ≠ f x := fun e => h (hf _ _ e)
      simp [h, this]
theorem nub_cards : ∀ l : List Nat, nub (cardsL l) = keysL l
  | [] => rfl
  | [c] => by rw [cards_cons, keys_one]; rfl
  | c :: d :: l => by
    have ih := nub_cards (d :: l)
    have inj : ∀ a b : List Nat, c :: a = c :: b → a = b := fun a b h => (List.cons.inj h).2
    rw [cards_cons, nub, nub_map inj, ih]
    by_cases h : d = c
    · subst h
      rw [keys_same]
      have e : keysL (d :: l) = l :: ((nub ((cardsL l).map (d :: ·))).filter (fun y => decide (y ≠ l))) := by rw [← ih, cards_cons, nub]
      have hn : (keysL (d :: l)).Nodup := by rw [← ih]; exact nodup_nub _
      rw [e] at hn ⊢
      rw [List.map_cons, List.filter_cons_of_neg (by simp)]
      congr 1
      rw [List.filter_eq_self]
      intro y hy
      obtain ⟨z, hz, rfl⟩ := List.mem_map.mp hy
      have : z ≠ l := fun q => (List.nodup_cons.mp hn).1 (q ▸ hz)
      simpa using this
    · rw [keys_diff l h]
      congr 1
      rw [List.filter_eq_self]
      intro y hy
      obtain ⟨z, hz, rfl⟩ := List.mem_map.mp hy
      have : c ≠ d := fun q => h q.symm
      simp [this]
theorem keys_nodup (l : List Nat) : (keysL l).Nodup := by rw [← nub_cards]; exact nodup_nub _
theorem mem_cards_cons {t : List Nat} {y : Nat} {o : List Nat} : t ∈ cardsL (y :: o) ↔ t = o ∨ ∃ t', t' ∈ cardsL o ∧ y :: t' = t := by
  rw [cards_cons, List.mem_cons, List.mem_map]
theorem head_ne {t o : List Nat} {x y : Nat} (h : x :: t ∈ cardsL (y :: o)) (hxy : x ≠ y) : x :: t = o := by
  rcases mem_cards_cons.mp h with h | ⟨t', _, h⟩
  · exact h
  · exact absurd (List.cons.inj h).1.symm hxy
theorem all_eq_len {α : Type} {L : List α} {a : α} (hn : L.Nodup) (h : ∀ x ∈ L, x = a) : L.length ≤ 1 := by
  match L, hn, h with
  | [], _, _ => simp
  | [_], _, _ => simp
  | x :: y :: L, hn, h =>
    have h1 := h x (by simp)
    have h2 := h y (by simp)
    rw [List.nodup_cons] at hn
    exact absurd (by rw [h1, ← h2]; simp : x ∈ y :: L) hn.1
theorem sim1 {x y : Nat} {l o : List Nat} (hxy : x ≠ y) (hl : l.length = o.length) (hk : ∀ t ∈ keysL (x :: l), t ∈ cardsL (y :: o)) :
    (keysL (x :: l)).length ≤ (keysL (y :: o)).length ∧ (2 ≤ l.length → (keysL (x :: l)).length < (keysL (y :: o)).length) := by
  match l, hl, hk with
  | [], hl, hk =>
    refine ⟨?_, by simp⟩
    rw [keys_one]
    exact keys_pos y o
  | z :: l, hl, hk =>
    have hall : ∀ t ∈ keysL (z :: l), x :: t = o := fun t ht => head_ne (hk _ (by rw [keys_cons]; exact List.mem_append_right _ (List.mem_map.mpr ⟨t, ht, rfl⟩))) hxy
    obtain ⟨t, ht⟩ : ∃ t, t ∈ keysL (z :: l) := List.exists_mem_of_length_pos (keys_pos z l)
    have ho := hall t ht
    subst ho
    have h1 : (keysL (z :: l)).length ≤ 1 := all_eq_len (a := t) (keys_nodup _) fun u hu => (List.cons.inj (hall u hu)).2
    have h2 : (keysL (y :: x :: t)).length = 1 + (keysL (x :: t)).length := by rw [keys_diff t hxy]; simp; omega
    have h3 := keys_pos x t
    by_cases h : z = x
    · subst h
      rw [keys_same, List.length_map]
      omega
    · rw [keys_diff l h, List.length_cons, List.length_map]
      refine ⟨by omega, fun hz => ?_⟩
      have h4 : 2 ≤ (keysL (x :: t)).length := by
        match l, ht, h1, hz with
        | w :: l, ht, h1, hz =>
          by_cases hw : w = z
          · subst hw
            rw [keys_same] at ht
            obtain ⟨u, hu, rfl⟩ := List.mem_map.mp ht
            rw [keys_diff u h]
            have := keys_pos w u
            simp; omega
          · rw [keys_diff l hw, List.length_cons, List.length_map] at h1
            have := keys_pos w l
            omega
      omega
theorem sim2 : ∀ {l o : List Nat}, l.length = o.length → (∀ t ∈ keysL l, t ∈ cardsL o) → l = o ∨ (keysL l).length < (keysL o).length ∨ (l.length ≤ 2 ∧ (keysL l).length ≤ (keysL o).length ∧ l.head? ≠ o.head?)
  | [], [], _, _ => .inl rfl
  | x :: l, y :: o, hl, hk => by
    have hl' : l.length = o.length := by simpa using hl
    by_cases hxy : x = y
    · subst hxy
      match l, hl', hk with
      | [], hl', hk =>
        cases o with
        | nil => exact .inl rfl
        | cons => simp at hl'
      | z :: l, hl', hk =>
        by_cases h : z = x
        · subst h
          have hk2 : ∀ t ∈ keysL (z :: l), t ∈ cardsL o := by
            intro t ht
            have := hk (z :: t) (by rw [keys_same]; exact List.mem_map.mpr ⟨t, ht, rfl⟩)
            rcases mem_cards_cons.mp this with h | ⟨t', h', h⟩
            · match o, h with
              | _, rfl => exact (mem_cards_cons.mpr (.inl rfl))
            · rw [← (List.cons.inj h).2]; exact h'
          have hz : (keysL (z :: z :: l)).length = (keysL (z :: l)).length := by rw [keys_same, List.length_map]
          have ho : (keysL o).length ≤ (keysL (z :: o)).length := by rw [keys_cons, List.length_append, List.length_map]; omega
          rcases sim2 hl' hk2 with e | e | ⟨e1, e2, e3⟩
          · exact .inl (by rw [e])
          · exact .inr (.inl (by omega))
          · match o, hl', ho, e2, e3 with
            | w :: o, hl', ho, e2, e3 =>
              have hw : w ≠ z := fun q => e3 (by rw [q]; rfl)
              refine .inr (.inl ?_)
              rw [keys_diff o hw, List.length_cons, List.length_map]
              omega
        · have := hk (z :: l) (by rw [keys_diff l h]; exact .head _)
          exact .inl (by rw [head_ne this h])
    · obtain ⟨h1, h2⟩ := sim1 hxy hl' hk
      by_cases h3 : 2 ≤ l.length
      · exact .inr (.inl (h2 h3))
      · exact .inr (.inr ⟨by rw [List.length_cons]; omega, h1, by simpa using hxy⟩)
end
-- part P2
section
open PySem PySem.W PySem.Spec PySem.Calls PyProof.Rows
theorem lcp_app (u a b : List Nat) : lcp (u ++ a) (u ++ b) = u.length + lcp a b := by
  induction u with
  | nil => simp
  | cons x u ih => simp only [List.cons_append, lcp, if_true, ih, List.length_cons]; omega
theorem lcp_take : ∀ a b : List Nat, a.take (lcp a b) = b.take (lcp a b)
  | [], _ => by simp [lcp]
  | _ :: _, [] => by simp [lcp]
  | x :: a, y :: b => by
    unfold lcp
    split
    · rename_i e
      rw [List.take_succ_cons, List.take_succ_cons, lcp_take a b, e]
    · simp
theorem lcp_self_app (b c : List Nat) : lcp (b ++ c) b = b.length := by
  have := lcp_app b c []
  rw [List.append_nil] at this
  rw [this]
  cases c <;> simp [lcp]
theorem lev_del {l : List Nat} {i : Nat} (m : Int) (hi : i < l.length) : levF l (del l i) m = 2 := by
  have hne : l ≠ del l i := fun h => by
    have := congrArg List.length h
    unfold del at this
    rw [List.length_append, List.length_take, List.length_drop] at this
    omega
  obtain ⟨u, c, v, rfl, hu⟩ : ∃ u c v, l = u ++ c :: v ∧ u.length = i :=
    ⟨l.take i, l[i], l.drop (i + 1), by rw [← List.drop_eq_getElem_cons hi, List.take_append_drop], by rw [List.length_take]; omega⟩
  have hd : del (u ++ c :: v) i = u ++ v := by
    unfold del
    subst hu
    simp
  rw [hd] at hne ⊢
  unfold levF
  rw [if_neg hne]
  simp only []
  rw [lcp_app, List.drop_append, List.drop_append]
  have e1 : u.drop (u.length + lcp (c :: v) v) = [] := List.drop_eq_nil_of_le (by omega)
  rw [e1, List.nil_append, List.nil_append, show u.length + lcp (c :: v) v - u.length = lcp (c :: v) v by omega]
  have hr := lcp_le_right (c :: v) v
  generalize lcp (c :: v) v = r at hr
  obtain ⟨h, hA⟩ : ∃ h, (c :: v).drop r = h :: v.drop r := by
    have hlt : r < (c :: v).length := by rw [List.length_cons]; omega
    exact ⟨(c :: v)[r], by rw [List.drop_eq_getElem_cons hlt]; simp⟩
  rw [hA]
  generalize v.drop r = B
  rw [List.reverse_cons, lcp_self_app, List.length_reverse, List.length_cons]
  simp
theorem lev_card {o t : List Nat} (hl : o.length = t.length + 1) (h : levF o t 0 ≠ 1) : t ∈ cardsL o := by
  have hne : o ≠ t := fun e => by rw [e] at hl; omega
  unfold levF at h
  rw [if_neg hne] at h
  simp only [] at h
  have hp1 := lcp_le_left o t
  have hp2 := lcp_le_right o t
  have ht := lcp_take o t
  generalize hp : lcp o t = p at *
  have hA : (o.drop p).length = (t.drop p).length + 1 := by rw [List.length_drop, List.length_drop]; omega
  have hto : o = o.take p ++ o.drop p := (List.take_append_drop p o).symm
  have htt : t = o.take p ++ t.drop p := by rw [ht, List.take_append_drop]
  generalize hAA : o.drop p = A at *
  generalize hBB : t.drop p = B at *
  have hq1 := lcp_le_left A.reverse B.reverse
  have hq2 := lcp_le_right A.reverse B.reverse
  have hq3 := lcp_take A.reverse B.reverse
  generalize lcp A.reverse B.reverse = q at *
  rw [List.length_reverse] at hq1 hq2
  have ha2 : (A.take (A.length - q)).length = A.length - q := by rw [List.length_take]; omega
  have hb2 : (B.take (B.length - q)).length = B.length - q := by rw [List.length_take]; omega
  by_cases hq : q = B.length
  · subst hq
    have e1 : B.reverse = A.reverse.take B.length := by
      rw [hq3]; rw [List.take_of_length_le (by rw [List.length_reverse]; exact Nat.le_refl _)]
    have e2 : B = A.tail := by
      cases A with
      | nil => simp at hA
      | cons a A =>
        have hAl : A.length = B.length := by simpa using hA
        rw [List.reverse_cons, List.take_append_of_le_length (by rw [List.length_reverse]; omega), List.take_of_length_le (by rw [List.length_reverse]; omega)] at e1
        exact List.reverse_inj.mp e1
    unfold cardsL
    refine List.mem_map.mpr ⟨p, List.mem_range.mpr (by omega), ?_⟩
    unfold del
    rw [htt, e2, ← hAA, List.tail_drop]
  · rw [if_neg (by
      rintro (h | h)
      · rw [h] at ha2; simp at ha2; omega
      · rw [h] at hb2; simp at hb2; omega), if_pos (by omega)] at h
    unfold levDP at h
    rw [if_pos (by omega)] at h
    exact absurd rfl h
theorem filter_one {α : Type} {P : α → Bool} {x : α} : ∀ {L : List α}, L.Nodup → x ∈ L → (∀ y ∈ L, P y = true ↔ y = x) → L.filter P = [x]
  | [], _, h, _ => by simp at h
  | y :: L, hn, hm, hP => by
    rw [List.nodup_cons] at hn
    by_cases h : y = x
    · subst h
      rw [List.filter_cons_of_pos ((hP y (.head _)).mpr rfl)]
      congr 1
      rw [List.filter_eq_nil_iff]
      intro z hz hpz
      have := (hP z (.tail _ hz)).mp hpz
      exact hn.1 (this ▸ hz)
    · rw [List.filter_cons_of_neg (fun q => h ((hP y (.head _)).mp q))]
      exact filter_one hn.2 ((List.mem_cons.mp hm).elim (fun e => absurd e.symm h) id) fun z hz => hP z (.tail _ hz)
theorem sg_signs {c : Nat} (h : Sg c) : c ∈ signsL := by
  rcases h with rfl | rfl | rfl | rfl <;> simp [signsL]
theorem ends_keys (l : List Nat) : (endsL l).length = (keysL l).length := by unfold keysL; rw [List.length_map]
theorem words_plain {x : Nat} {m : List Nat} (hx : Sg x) (hm : 2 ≤ m.length) : wordsL (keysL (x :: m)).reverse m = [x :: m] := by
  have good : ∀ p c, p ≤ m.length → goodW (keysL (x :: m)).reverse m p c = true → p = 0 ∧ c = x := by
    intro p c hp hg
    unfold goodW at hg
    simp only [Bool.and_eq_true, Bool.or_eq_true, decide_eq_true_eq] at hg
    obtain ⟨h1, h2, h3⟩ := hg
    have hol : (otherL m p c).length = m.length + 1 := by
      unfold otherL
      simp only [List.length_append, List.length_take, List.length_drop, List.length_singleton]
      omega
    have hk : ∀ t ∈ keysL (x :: m), t ∈ cardsL (otherL m p c) := by
      intro t ht
      refine lev_card ?_ ?_
      · obtain ⟨i, hi, rfl⟩ := List.mem_map.mp ht
        unfold endsL at hi
        have := List.mem_range.mp (List.mem_filter.mp hi).1
        rw [hol]
        unfold del
        simp only [List.length_append, List.length_take, List.length_drop, List.length_cons] at *
        omega
      · unfold hasAllF at h3
        have := List.all_eq_true.mp h3 t (List.mem_reverse.mpr ht)
        simpa using this
    have e : x :: m = otherL m p c := by
      rcases sim2 (by rw [hol]; rfl) hk with e | e | e
      · exact e
      · rw [List.length_reverse, ends_keys] at h2; omega
      · rw [List.length_cons] at e; omega
    unfold otherL at e
    cases p with
    | zero =>
      refine ⟨rfl, ?_⟩
      simp at e
      exact e.symm
    | succ p =>
      exfalso
      rcases h1 with h1 | h1
      · omega
      · have e3 : (x :: m)[p + 1]? = some c := by
          rw [e]
          rw [List.append_assoc, List.getElem?_append_right (by rw [List.length_take]; omega)]
          rw [List.length_take, show p + 1 - min (p + 1) m.length = 0 by omega]
          rfl
        have e4 : m[p]? = some c := by simpa using e3
        apply h1
        rw [show p + 1 - 1 = p by omega, List.getD_eq_getElem?_getD, e4]
        rfl
  have yes : goodW (keysL (x :: m)).reverse m 0 x = true := by
    unfold goodW
    have e : otherL m 0 x = x :: m := by simp [otherL]
    rw [e]
    simp only [Bool.and_eq_true, Bool.or_eq_true, decide_eq_true_eq]
    refine ⟨.inl trivial, by rw [List.length_reverse, ends_keys], ?_⟩
    unfold hasAllF
    rw [List.all_eq_true]
    intro t ht
    obtain ⟨i, hi, rfl⟩ := List.mem_map.mp (List.mem_reverse.mp ht)
    unfold endsL at hi
    rw [lev_del 0 (List.mem_range.mp (List.mem_filter.mp hi).1)]
    decide
  unfold wordsL
  rw [List.range_succ_eq_map, List.flatMap_cons, List.flatMap_map]
  have e0 : wordsAt (keysL (x :: m)).reverse m 0 4 = [x :: m] := by
    unfold wordsAt
    rw [filter_one (x := x) (by decide) (by rw [show signsL.take 4 = signsL from rfl]; exact sg_signs hx) fun c _ => ⟨fun h => (good 0 c (Nat.zero_le _) h).2, fun h => h ▸ yes⟩]
    simp [otherL]
  have e1 : ((List.range m.length).flatMap fun p => wordsAt (keysL (x :: m)).reverse m p.succ 4) = [] := by
    rw [List.flatMap_eq_nil_iff]
    intro p hp
    unfold wordsAt
    rw [List.map_eq_nil_iff, List.filter_eq_nil_iff]
    intro c _ hg
    exact absurd (good (p + 1) c (List.mem_range.mp hp) hg).1 (by omega)
  rw [e0, e1]
  rfl
end
-- part P3
section
open PySem PySem.W PySem.Spec PySem.Calls PyProof.Rows
/-- a book laid from pairs, one after the other -/
def tal (qs : List (List Nat × Int)) : List (List Nat × Int) := qs.foldl (fun b p => addP b [p]) []
theorem tal_snoc (qs : List (List Nat × Int)) (p : List Nat × Int) : tal (qs ++ [p]) = addP (tal qs) [p] := by
  unfold tal; rw [List.foldl_append]; rfl
theorem bookL_tal (ts : List (List Nat)) : bookL ts = tal (ts.map fun t => (t, 1)) := by
  unfold bookL tal; rw [List.foldl_map]
theorem counts_tal (ps : List (List Nat × Int)) (pl : Nat) : countsAt ps pl = tal (ps.map fun p => ([p.1.getD pl 0], p.2)) := by
  unfold countsAt tal; rw [List.foldl_map]
/-- what all pairs with the key k bring -/
def sumK (qs : List (List Nat × Int)) (k : List Nat) : Int := (qs.map fun p => if p.1 = k then p.2 else 0).sum
theorem sumK_snoc (qs : List (List Nat × Int)) (p : List Nat × Int) (k : List Nat) : sumK (qs ++ [p]) k = sumK qs k + if p.1 = k then p.2 else 0 := by
  unfold sumK; rw [List.map_append, List.sum_append]; simp
theorem sumK_none {qs : List (List Nat × Int)} {k : List Nat} (h : k ∉ qs.map (·.1)) : sumK qs k = 0 := by
  induction qs with
  | nil => rfl
  | cons p qs ih =>
    have h1 : p.1 ≠ k := fun e => h (by rw [List.map_cons, e]; exact .head _)
    have h2 := ih fun q => h (by rw [List.map_cons]; exact .tail _ q)
    unfold sumK at h2 ⊢
    rw [List.map_cons, List.sum_cons, h2, if_neg h1]; rfl
theorem put_all : ∀ (b acc : List (List Nat × Int)), ((acc ++ b).map (·.1)).Nodup → b.foldl (fun acc p => putP acc p.1 p.2) acc = acc ++ b
  | [], acc, _ => by simp
  | p :: b, acc, h => by
    rw [List.foldl_cons]
    have hp : putP acc p.1 p.2 = acc ++ [p] := by
      unfold putP
      rw [if_neg]
      intro q
      obtain ⟨r, hr, hq⟩ := List.any_eq_true.mp q
      rw [List.map_append, List.map_cons, List.nodup_append] at h
      exact h.2.2 r.1 (List.mem_map.mpr ⟨r, hr, rfl⟩) p.1 (.head _) (by simpa using hq)
    rw [hp, put_all b _ (by simpa using h)]
    simp
theorem get_map {f : List Nat → Int} {k : List Nat} : ∀ {L : List (List Nat)}, getP (L.map fun t => (t, f t)) k = if k ∈ L then some (f k) else none
  | [] => rfl
  | x :: L => by
    have ih := get_map (f := f) (k := k) (L := L)
    unfold getP at ih ⊢
    rw [List.map_cons, List.find?_cons]
    by_cases h : x = k
    · subst h; simp
    · simp only [h, decide_false, ih, List.mem_cons]
      have : ¬ k = x := fun e => h e.symm
      simp [this]
theorem tal_snoc_eq {L : List (List Nat)} (hn : L.Nodup) (f : List Nat → Int) (k : List Nat) (v : Int) (hf : k ∉ L → f k = 0) :
    addP (L.map fun t => (t, f t)) [(k, v)] = (if k ∈ L then L else L ++ [k]).map fun t => (t, f t + if k = t then v else 0) := by
  unfold addP
  rw [put_all _ [] (by rw [List.nil_append, List.map_map]; simpa [Function.comp_def] using hn), List.nil_append, List.foldl_cons, List.foldl_nil]
  unfold bumpP
  rw [get_map]
  by_cases h : k ∈ L
  · rw [if_pos h, if_pos h]
    simp only [putP]
    rw [if_pos (by simpa using h), List.map_map]
    apply List.map_congr_left
    intro t _
    by_cases e : t = k
    · subst e; simp
    · have e2 : ¬ k = t := fun q => e q.symm
      simp [e, e2]
  · rw [if_neg h, if_neg h]
    simp only [putP]
    rw [if_neg (by simpa using h), List.map_append]
    congr 1
    · apply List.map_congr_left
      intro t ht
      have : ¬ k = t := fun e => h (e ▸ ht)
      simp [this]
    · simp [hf h]
theorem rev_ind {α : Type} {P : List α → Prop} (h0 : P []) (h1 : ∀ l a, P l → P (l ++ [a])) (l : List α) : P l := by
  have : ∀ r : List α, P r.reverse := by
    intro r
    induction r with
    | nil => exact h0
    | cons a r ih => rw [List.reverse_cons]; exact h1 _ _ ih
  have h := this l.reverse
  rwa [List.reverse_reverse] at h
theorem tal_eq (qs : List (List Nat × Int)) : tal qs = (nub (qs.map (·.1))).map fun k => (k, sumK qs k) := by
  induction qs using rev_ind with
  | h0 => rfl
  | h1 qs p ih =>
    rw [tal_snoc, ih, tal_snoc_eq (nodup_nub _) (sumK qs) p.1 p.2 (fun h => sumK_none (fun q => h (mem_nub.mpr q))), List.map_append, List.map_cons, List.map_nil, nub_snoc]
    have e : (p.1 ∈ nub (qs.map (·.1))) ↔ p.1 ∈ qs.map (·.1) := mem_nub
    simp only [e]
    apply List.map_congr_left
    intro t _
    rw [sumK_snoc]
theorem sumK_count (t : List Nat) : ∀ ts : List (List Nat), sumK (ts.map fun t => (t, 1)) t = ((ts.count t : Nat) : Int)
  | [] => rfl
  | x :: ts => by
    have ih := sumK_count t ts
    unfold sumK at ih ⊢
    rw [List.map_cons, List.map_cons, List.sum_cons, ih, List.count_cons]
    by_cases h : x = t
    · subst h; simp; omega
    · simp [h]
theorem book_eq (ts : List (List Nat)) : bookL ts = (nub ts).map fun t => (t, ((ts.count t : Nat) : Int)) := by
  rw [bookL_tal, tal_eq, List.map_map, show ((fun x : List Nat × Int => x.1) ∘ fun t : List Nat => (t, (1 : Int))) = id from rfl, List.map_id]
  exact List.map_congr_left fun t _ => by rw [sumK_count]
/-- a weighing of a book by its keys -/
def wgt (f : List Nat → Bool) (qs : List (List Nat × Int)) : Int := (qs.map fun p => if f p.1 then p.2 else 0).sum
theorem wgt_nodup {f : List Nat → Bool} {g : List Nat → Int} {k : List Nat} {v : Int} : ∀ {L : List (List Nat)}, L.Nodup →
    wgt f (L.map fun t => (t, g t + if k = t then v else 0)) = wgt f (L.map fun t => (t, g t)) + if k ∈ L then (if f k then v else 0) else 0
  | [], _ => by simp [wgt]
  | x :: L, hn => by
    rw [List.nodup_cons] at hn
    have ih := wgt_nodup (f := f) (g := g) (k := k) (v := v) hn.2
    unfold wgt at ih ⊢
    rw [List.map_cons, List.map_cons, List.map_cons, List.map_cons, List.sum_cons, List.sum_cons, ih]
    by_cases h : k = x
    · subst h
      simp only [if_true, List.mem_cons, true_or, if_neg hn.1]
      split <;> omega
    · simp only [h, if_false, List.mem_cons, false_or]
      split <;> split <;> simp <;> omega
theorem wgt_tal (f : List Nat → Bool) (qs : List (List Nat × Int)) : wgt f (tal qs) = wgt f qs := by
  induction qs using rev_ind with
  | h0 => rfl
  | h1 qs p ih =>
    have e : wgt f (qs ++ [p]) = wgt f qs + if f p.1 then p.2 else 0 := by unfold wgt; rw [List.map_append, List.sum_append]; simp
    rw [e, ← ih, tal_snoc, tal_eq, tal_snoc_eq (nodup_nub _) (sumK qs) p.1 p.2 (fun h => sumK_none (fun q => h (mem_nub.mpr q)))]
    have hn := nodup_nub (qs.map (·.1))
    by_cases h : p.1 ∈ nub (qs.map (·.1))
    · rw [if_pos h, wgt_nodup hn, if_pos h]
    · rw [if_neg h, wgt_nodup (by rw [List.nodup_append]; exact ⟨hn, by simp, fun a ha b hb e => h (by rw [List.mem_singleton.mp hb] at e; exact e ▸ ha)⟩)]
      rw [if_pos (by simp)]
      have h0 : sumK qs p.1 = 0 := sumK_none fun q => h (mem_nub.mpr q)
      unfold wgt
      rw [List.map_append, List.map_append, List.sum_append]
      simp [h0]
theorem wgt_true (qs : List (List Nat × Int)) : wgt (fun _ => true) qs = (qs.map (·.2)).sum := by unfold wgt; simp
theorem total_plain (ts : List (List Nat)) : ((bookL ts).map (·.2)).sum = (ts.length : Int) := by
  rw [← wgt_true, bookL_tal, wgt_tal, wgt_true, List.map_map]
  induction ts with
  | nil => rfl
  | cons t ts ih => rw [List.map_cons, List.sum_cons, ih]; simp; omega
end
-- part P4
section
open PySem PySem.W PySem.Spec PySem.Calls PyProof.Rows
def atQ (ps : List (List Nat × Int)) (pl : Nat) : List (List Nat × Int) := ps.map fun p => ([p.1.getD pl 0], p.2)
theorem sum_split (A B : Int) (pl : Nat) : ∀ n : Nat, ((List.range n).map fun i => if i ≤ pl then A else B).sum = ((min n (pl + 1) : Nat) : Int) * A + ((n - (pl + 1) : Nat) : Int) * B
  | 0 => by simp
  | n + 1 => by
    rw [List.range_succ, List.map_append, List.sum_append, sum_split A B pl n, List.map_singleton, List.sum_singleton]
    by_cases h : n ≤ pl
    · rw [if_pos h, show min (n + 1) (pl + 1) = min n (pl + 1) + 1 by omega, show n + 1 - (pl + 1) = n - (pl + 1) by omega, Int.natCast_add, Int.add_mul]
      simp only [Int.cast_ofNat_Int, Int.one_mul]
      omega
    · rw [if_neg h, show min (n + 1) (pl + 1) = min n (pl + 1) by omega, show n + 1 - (pl + 1) = (n - (pl + 1)) + 1 by omega, Int.natCast_add, Int.add_mul]
      simp only [Int.cast_ofNat_Int, Int.one_mul]
      omega
theorem del_getD {l : List Nat} {i pl : Nat} (hp : pl + 1 < l.length) (hi : i < l.length) : (del l i).getD pl 0 = if i ≤ pl then l.getD (pl + 1) 0 else l.getD pl 0 := by
  unfold del
  rw [List.getD_eq_getElem?_getD, List.getElem?_append, List.length_take]
  by_cases h : i ≤ pl
  · rw [if_neg (by omega), if_pos h, List.getElem?_drop, List.getD_eq_getElem?_getD]
    congr 2
    omega
  · rw [if_pos (by omega), if_neg h, List.getElem?_take_of_lt (by omega), List.getD_eq_getElem?_getD]
theorem at_sum {l : List Nat} {pl : Nat} (c : Nat) (hp : pl + 1 < l.length) : sumK (atQ (bookL (cardsL l)) pl) [c] =
    ((pl + 1 : Nat) : Int) * (if l.getD (pl + 1) 0 = c then 1 else 0) + ((l.length - (pl + 1) : Nat) : Int) * (if l.getD pl 0 = c then 1 else 0) := by
  have e1 : sumK (atQ (bookL (cardsL l)) pl) [c] = wgt (fun t => decide (t.getD pl 0 = c)) (bookL (cardsL l)) := by
    unfold sumK atQ wgt
    rw [List.map_map]
    congr 1
    apply List.map_congr_left
    intro p _
    simp
  rw [e1, bookL_tal, wgt_tal]
  unfold wgt cardsL
  rw [List.map_map, List.map_map]
  have e2 : ((List.range l.length).map (((fun p : List Nat × Int => if decide (p.1.getD pl 0 = c) = true then p.2 else 0) ∘ fun t => (t, (1 : Int))) ∘ del l)) =
      (List.range l.length).map fun i => if i ≤ pl then (if l.getD (pl + 1) 0 = c then (1 : Int) else 0) else (if l.getD pl 0 = c then 1 else 0) := by
    apply List.map_congr_left
    intro i hi
    show (if decide ((del l i).getD pl 0 = c) = true then (1 : Int) else 0) = _
    rw [del_getD hp (List.mem_range.mp hi)]
    by_cases h : i ≤ pl <;> simp [h]
  rw [e2, sum_split, show min l.length (pl + 1) = pl + 1 by omega]
theorem tal_filter (qs : List (List Nat × Int)) (P : Int → Bool) : ((tal qs).filter (fun p => P p.2)).map (·.1) = (nub (qs.map (·.1))).filter (fun k => P (sumK qs k)) := by
  rw [tal_eq, List.filter_map, List.map_map, show ((fun x : List Nat × Int => x.1) ∘ fun k : List Nat => (k, sumK qs k)) = id from rfl, List.map_id]
  rfl
theorem tal_one {qs : List (List Nat × Int)} {P : Int → Bool} {c : Nat} (h1 : ∀ k ∈ qs.map (·.1), ∃ c, k = [c]) (h0 : sumK qs [c] ≠ 0) (hP : ∀ d, P (sumK qs [d]) = true ↔ d = c) :
    (((tal qs).filter (fun p => P p.2)).map (·.1)).flatten = [c] := by
  rw [tal_filter, filter_one (x := [c]) (nodup_nub _)]
  · rfl
  · refine mem_nub.mpr ?_
    apply Classical.byContradiction
    intro h
    exact h0 (sumK_none h)
  · intro k hk
    obtain ⟨d, rfl⟩ := h1 k (mem_nub.mp hk)
    rw [hP d]
    simp
theorem atQ_one (ps : List (List Nat × Int)) (pl : Nat) : ∀ k ∈ (atQ ps pl).map (·.1), ∃ c, k = [c] := by
  intro k hk
  obtain ⟨p, hp, rfl⟩ := List.mem_map.mp hk
  unfold atQ at hp
  obtain ⟨q, _, rfl⟩ := List.mem_map.mp hp
  exact ⟨_, rfl⟩
theorem read_step {l : List Nat} {N pl : Nat} {wd : List Nat} (hl : l.length = N + 1) (hN : 2 ≤ N) (hp : pl < N) (hw : (wd = [] ∧ pl + 1 = N) ∨ wd = l.drop (pl + 1)) :
    readStep (bookL (cardsL l)) N wd pl = l.drop pl := by
  have hc : countsAt (bookL (cardsL l)) pl = tal (atQ (bookL (cardsL l)) pl) := counts_tal _ _
  have hs := fun c => at_sum (l := l) (pl := pl) c (by omega)
  have hw1 : (if wd = [] then (((countsAt (bookL (cardsL l)) pl).filter (fun p => decide (p.2 ≥ (N : Int)))).map (·.1)).flatten else wd) = l.drop (pl + 1) := by
    rcases hw with ⟨rfl, hpl⟩ | hw
    · rw [if_pos rfl, hc, tal_one (c := l.getD (pl + 1) 0) (P := fun v => decide (v ≥ (N : Int))) (atQ_one _ _)]
      · rw [List.drop_eq_getElem_cons (by omega), List.drop_eq_nil_of_le (by omega), List.getD_eq_getElem?_getD, List.getElem?_eq_getElem (by omega)]; rfl
      · rw [hs, if_pos rfl]
        split <;> omega
      · intro d
        rw [decide_eq_true_iff, hs]
        constructor
        · intro h
          apply Classical.byContradiction
          intro hd
          rw [if_neg (fun e => hd e.symm)] at h
          split at h <;> omega
        · rintro rfl
          rw [if_pos rfl]
          split <;> omega
    · rw [if_neg]
      · exact hw
      · intro e
        rw [e] at hw
        have := congrArg List.length hw
        rw [List.length_drop] at this
        simp at this
        omega
  unfold readStep
  simp only []
  rw [hw1]
  have ht : (l.drop (pl + 1)).take 1 = [l.getD (pl + 1) 0] := by
    rw [List.drop_eq_getElem_cons (show pl + 1 < l.length by omega), List.take_succ_cons, List.take_zero, List.getD_eq_getElem?_getD, List.getElem?_eq_getElem (by omega)]; rfl
  rw [ht, hc, ← tal_snoc]
  have hs2 : ∀ c, sumK (atQ (bookL (cardsL l)) pl ++ [([l.getD (pl + 1) 0], -(pl : Int) - 1)]) [c] = ((N : Int) - pl) * (if l.getD pl 0 = c then 1 else 0) := by
    intro c
    rw [sumK_snoc, hs]
    by_cases h : l.getD (pl + 1) 0 = c <;> by_cases h2 : l.getD pl 0 = c <;> simp only [h, h2, if_true, if_false, List.cons.injEq, and_true] <;> omega
  rw [tal_one (c := l.getD pl 0) (P := fun v => decide (v = (N : Int) - pl))]
  · rw [List.drop_eq_getElem_cons (show pl < l.length by omega), List.getD_eq_getElem?_getD, List.getElem?_eq_getElem (by omega)]
    rfl
  · intro k hk
    rw [List.map_append] at hk
    rcases List.mem_append.mp hk with hk | hk
    · exact atQ_one _ _ k hk
    · exact ⟨_, List.mem_singleton.mp hk⟩
  · rw [hs2, if_pos rfl]; omega
  · intro d
    rw [decide_eq_true_iff, hs2]
    constructor
    · intro h
      apply Classical.byContradiction
      intro hd
      rw [if_neg (fun e => hd e.symm)] at h
      omega
    · rintro rfl
      rw [if_pos rfl]; omega
theorem read_plain {l : List Nat} {N : Nat} (hl : l.length = N + 1) (hN : 2 ≤ N) : readW (bookL (cardsL l)) N N = l := by
  have go : ∀ i, i < N → readW (bookL (cardsL l)) N (i + 1) = l.drop (N - (i + 1)) := by
    intro i
    induction i with
    | zero =>
      intro _
      show readStep (bookL (cardsL l)) N [] (N - 1 - 0) = _
      rw [read_step hl hN (by omega) (.inl ⟨rfl, by omega⟩)]
      rfl
    | succ i ih =>
      intro hi
      have e : readW (bookL (cardsL l)) N (i + 1 + 1) = readStep (bookL (cardsL l)) N (readW (bookL (cardsL l)) N (i + 1)) (N - 1 - (i + 1)) := by
        unfold readW
        rw [List.range_succ, List.foldl_append]
        rfl
      rw [e, ih (by omega), read_step hl hN (by omega) (.inr (by congr 1; omega))]
      congr 1
      omega
  have := go (N - 1) (by omega)
  rw [show N - 1 + 1 = N by omega] at this
  rw [this, Nat.sub_self, List.drop_zero]
end
-- part P5
section
open PySem PySem.W PySem.Spec PySem.Calls PyProof.Rows
theorem lt_app {x y : Nat} {v w : List Nat} (h : x < y) : ∀ u : List Nat, u ++ x :: v < u ++ y :: w
  | [] => by simpa [List.cons_lt_cons_iff] using .inl h
  | a :: u => by simpa [List.cons_lt_cons_iff] using lt_app h u
theorem del_split {l : List Nat} {i j : Nat} (hij : i < j) (hj : j < l.length) (hne : l.getD i 0 ≠ l.getD (i + 1) 0) :
    ∃ u v w, del l i = u ++ l.getD (i + 1) 0 :: v ∧ del l j = u ++ l.getD i 0 :: w := by
  refine ⟨l.take i, l.drop (i + 2), (l.take j).drop (i + 1) ++ l.drop (j + 1), ?_, ?_⟩
  · unfold del
    rw [List.drop_eq_getElem_cons (show i + 1 < l.length by omega), List.getD_eq_getElem?_getD, List.getElem?_eq_getElem (by omega)]
    rfl
  · unfold del
    have e : l.take j = l.take i ++ l.getD i 0 :: (l.take j).drop (i + 1) := by
      have h1 : (l.take j).take i = l.take i := by rw [List.take_take, Nat.min_eq_left (Nat.le_of_lt hij)]
      have h2 : (l.take j).drop i = l.getD i 0 :: (l.take j).drop (i + 1) := by
        rw [List.drop_eq_getElem_cons (by rw [List.length_take]; omega), List.getElem_take, List.getD_eq_getElem?_getD, List.getElem?_eq_getElem (by omega)]
        rfl
      rw [← h2, ← h1, List.take_append_drop]
    exact (congrArg (· ++ l.drop (j + 1)) e).trans (by rw [List.append_assoc]; rfl)
theorem del_same {l : List Nat} {i : Nat} (hi : i + 1 < l.length) (h : l.getD i 0 = l.getD (i + 1) 0) : del l i = del l (i + 1) := by
  unfold del
  rw [List.drop_eq_getElem_cons hi, List.take_succ_eq_append_getElem (by omega)]
  have e : l[i + 1] = l[i] := by
    rw [List.getD_eq_getElem?_getD, List.getD_eq_getElem?_getD, List.getElem?_eq_getElem hi, List.getElem?_eq_getElem (by omega)] at h
    exact h.symm
  rw [e, List.append_assoc]
  rfl
theorem turns_cons {l : List Nat} {i j : Nat} (h : i < j) : turnsL l i j = if l.getD i 0 ≠ l.getD (i + 1) 0 then i :: turnsL l (i + 1) j else turnsL l (i + 1) j := by
  unfold turnsL
  rw [show j - i = (j - (i + 1)) + 1 by omega, List.range'_succ, List.filter_cons]
  by_cases h : l.getD i 0 = l.getD (i + 1) 0 <;> simp
theorem low_tri {l : List Nat} : ∀ {k i j : Nat}, j - i = k → i ≤ j → j < l.length → (lowF l i j = 0 ∧ del l i = del l j) ∨ (lowF l i j = -1 ∧ del l i < del l j) ∨ (lowF l i j = 1 ∧ del l j < del l i) := by
  intro k
  induction k with
  | zero =>
    intro i j hk hij hj
    have : i = j := by omega
    subst this
    refine .inl ⟨?_, rfl⟩
    unfold lowF turnsL
    rw [Nat.sub_self]; rfl
  | succ k ih =>
    intro i j hk hij hj
    by_cases h : l.getD i 0 = l.getD (i + 1) 0
    · have e : lowF l i j = lowF l (i + 1) j := by
        unfold lowF
        rw [turns_cons (by omega), if_neg (fun q => q h)]
      rw [e, del_same (by omega) h]
      exact ih (by omega) (by omega) hj
    · have e : lowF l i j = if l.getD (i + 1) 0 < l.getD i 0 then -1 else 1 := by
        unfold lowF
        rw [turns_cons (by omega), if_pos h]
      obtain ⟨u, v, w, e1, e2⟩ := del_split (by omega : i < j) hj h
      rw [e, e1, e2]
      by_cases h2 : l.getD (i + 1) 0 < l.getD i 0
      · rw [if_pos h2]
        exact .inr (.inl ⟨rfl, lt_app h2 u⟩)
      · rw [if_neg h2]
        exact .inr (.inr ⟨rfl, lt_app (by omega) u⟩)
theorem strc_plain {l : List Nat} {i j : Nat} (hij : i < j) (hj : j < l.length) :
    b2i (decide ((S (del l j)).cps.toList < (S (del l i)).cps.toList)) - b2i (decide ((S (del l i)).cps.toList < (S (del l j)).cps.toList)) = lowF l i j ∧
    b2i (decide ((S (del l i)).cps.toList < (S (del l j)).cps.toList)) - b2i (decide ((S (del l j)).cps.toList < (S (del l i)).cps.toList)) = - lowF l i j := by
  show b2i (decide (del l j < del l i)) - b2i (decide (del l i < del l j)) = lowF l i j ∧ b2i (decide (del l i < del l j)) - b2i (decide (del l j < del l i)) = - lowF l i j
  rcases low_tri rfl (Nat.le_of_lt hij) hj with ⟨h1, h2⟩ | ⟨h1, h2⟩ | ⟨h1, h2⟩
  · rw [h1, h2]
    have : ¬ del l j < del l j := List.lt_irrefl _
    rw [decide_eq_false this]
    decide
  · have : ¬ del l j < del l i := List.lt_asymm h2
    rw [h1, decide_eq_false this, decide_eq_true h2]
    decide
  · have : ¬ del l i < del l j := List.lt_asymm h2
    rw [h1, decide_eq_false this, decide_eq_true h2]
    decide
theorem perm_eq {R : List Nat → List Nat → Prop} (anti : ∀ a b, R a b → R b a → a = b) : ∀ {x y : List (List Nat)}, x.Perm y → x.Pairwise R → y.Pairwise R → x = y
  | [], y, p, _, _ => (List.Perm.nil_eq p)
  | a :: x, [], p, _, _ => absurd p.length_eq (by simp)
  | a :: x, b :: y, p, hx, hy => by
    have e : a = b := by
      have ha : a ∈ b :: y := p.mem_iff.mp (.head _)
      have hb : b ∈ a :: x := p.mem_iff.mpr (.head _)
      rcases List.mem_cons.mp ha with e | ha
      · exact e
      rcases List.mem_cons.mp hb with e | hb
      · exact e.symm
      exact anti a b ((List.pairwise_cons.mp hx).1 b hb) ((List.pairwise_cons.mp hy).1 a ha)
    subst e
    rw [perm_eq anti (List.Perm.cons_inv p) (List.pairwise_cons.mp hx).2 (List.pairwise_cons.mp hy).2]
theorem ends_init {l : List Nat} (h : 0 < l.length) : endsL l = initE l ++ [l.length - 1] ∧ ∀ e ∈ initE l, e + 1 < l.length ∧ l.getD e 0 ≠ l.getD (e + 1) 0 := by
  have e0 : endP l (l.length - 1) = true := by
    unfold endP
    rw [List.drop_eq_nil_of_le (by rw [List.length_take]; omega)]
    simp
  have e1 : endsL l = (List.range (l.length - 1)).filter (endP l) ++ [l.length - 1] := by
    unfold endsL
    have : l.length = (l.length - 1) + 1 := by omega
    rw [this, List.range_succ, List.filter_append, Nat.add_sub_cancel]
    rw [List.filter_cons_of_pos (by simpa using e0)]
    rfl
  have e2 : initE l = (List.range (l.length - 1)).filter (endP l) := by
    unfold initE
    rw [e1]
    simp
  refine ⟨by rw [e2, e1], fun e he => ?_⟩
  rw [e2] at he
  obtain ⟨h1, h2⟩ := List.mem_filter.mp he
  have h3 := List.mem_range.mp h1
  refine ⟨by omega, fun q => ?_⟩
  unfold endP at h2
  rw [decide_eq_true_iff] at h2
  apply h2
  rw [q, List.drop_take, show e + 2 - (e + 1) = 1 by omega, List.drop_eq_getElem_cons (by omega), List.take_succ_cons, List.take_zero, List.getD_eq_getElem?_getD, List.getElem?_eq_getElem (by omega)]
  rfl
theorem low_first {l : List Nat} {e f : Nat} (hne : l.getD e 0 ≠ l.getD (e + 1) 0) (hf : f < l.length) (h : e < f) : (l.getD (e + 1) 0 < l.getD e 0 → del l e < del l f) ∧ (l.getD e 0 < l.getD (e + 1) 0 → del l f < del l e) := by
  obtain ⟨u, v, w, e1, e2⟩ := del_split h hf hne
  rw [e1, e2]
  exact ⟨fun h => lt_app h u, fun h => lt_app h u⟩
theorem sort_plain {l : List Nat} (h : 0 < l.length) {ts : List (List Nat)} (hp : ts.Perm (keysL l)) (hw : ts.Pairwise (fun a b => ¬ b < a)) : ts = (walkL l).map (del l) := by
  obtain ⟨he, hi⟩ := ends_init h
  have hs : (initE l).Pairwise (· < ·) := by
    have : (endsL l).Pairwise (· < ·) := List.Pairwise.filter _ List.pairwise_lt_range
    rw [he, List.pairwise_append] at this
    exact this.1
  have hperm : (walkL l).Perm (endsL l) := by
    have e : backL l = (initE l).filter (fun e => !lowP l e) := by
      unfold backL
      apply List.filter_congr
      intro e hm
      have := (hi e hm).2
      unfold upP lowP
      by_cases q : l.getD e 0 < l.getD (e + 1) 0
      · have : ¬ l.getD (e + 1) 0 < l.getD e 0 := by omega
        rw [decide_eq_true q, decide_eq_false this]; rfl
      · have : l.getD (e + 1) 0 < l.getD e 0 := by omega
        rw [decide_eq_false q, decide_eq_true this]; rfl
    have h1 : (thereL l ++ backL l).Perm (initE l) := by rw [e]; exact List.filter_append_perm _ _
    rw [he]
    unfold walkL
    refine ((List.Perm.append_left _ (List.reverse_perm _)).trans ?_)
    refine List.Perm.trans ?_ (List.Perm.append_right _ h1)
    rw [List.append_assoc, List.append_assoc]
    exact List.Perm.append_left _ List.perm_append_comm
  have hpw : ((walkL l).map (del l)).Pairwise (fun a b => a < b) := by
    rw [List.pairwise_map]
    unfold walkL
    have ht : ∀ e ∈ thereL l, e ∈ initE l ∧ l.getD (e + 1) 0 < l.getD e 0 := fun e q => by
      unfold thereL lowP at q
      obtain ⟨q1, q2⟩ := List.mem_filter.mp q
      exact ⟨q1, by simpa using q2⟩
    have hb : ∀ e ∈ backL l, e ∈ initE l ∧ l.getD e 0 < l.getD (e + 1) 0 := fun e q => by
      unfold backL upP at q
      obtain ⟨q1, q2⟩ := List.mem_filter.mp q
      exact ⟨q1, by simpa using q2⟩
    have low_t : ∀ e ∈ thereL l, ∀ f, f < l.length → e < f → del l e < del l f := fun e q f hf hef => (low_first (hi e (ht e q).1).2 hf hef).1 (ht e q).2
    have low_b : ∀ e ∈ backL l, ∀ f, f < l.length → e < f → del l f < del l e := fun e q f hf hef => (low_first (hi e (hb e q).1).2 hf hef).2 (hb e q).2
    rw [List.pairwise_append, List.pairwise_append, List.pairwise_reverse]
    refine ⟨⟨?_, by simp, ?_⟩, ?_, ?_⟩
    · refine (hs.filter (lowP l)).imp_of_mem fun {a b} ha hb2 hab => ?_
      exact low_t a ha b (by have := (hi b (ht b hb2).1).1; omega) hab
    · intro a ha b hb2
      rw [List.mem_singleton.mp hb2]
      have := (hi a (ht a ha).1).1
      exact low_t a ha _ (by omega) (by omega)
    · refine (hs.filter (upP l)).imp_of_mem fun {a b} ha hb2 hab => ?_
      exact low_b a ha b (by have := (hi b (hb b hb2).1).1; omega) hab
    · intro a ha b hb2
      have hb2 := List.mem_reverse.mp hb2
      have b1 := (hi b (hb b hb2).1).1
      rcases List.mem_append.mp ha with ha | ha
      · have a1 := (hi a (ht a ha).1).1
        rcases Nat.lt_trichotomy a b with q | q | q
        · exact low_t a ha b (by omega) q
        · have h1 := (ht a ha).2
          have h2 := (hb b hb2).2
          subst q
          omega
        · exact low_b b hb2 a (by omega) q
      · rw [List.mem_singleton.mp ha]
        exact low_b b hb2 _ (by omega) (by omega)
  refine perm_eq (R := fun a b => ¬ b < a) (fun a b h1 h2 => List.le_antisymm (List.not_lt.mp h1) (List.not_lt.mp h2)) (hp.trans (hperm.map (del l)).symm) hw (hpw.imp fun {a b} h => List.lt_asymm h)
theorem steps_plain {c d : Nat} (hc : Sg c) (hd : Sg d) : cost c d = stepF c d := by
  rcases hc with rfl | rfl | rfl | rfl <;> rcases hd with rfl | rfl | rfl | rfl <;> decide +kernel
end
-- part P6
section
open PySem PySem.W PySem.Spec PySem.Calls PyProof.Rows
def costF (c d : Nat) : Nat := bif Nat.beq c d then 0 else bif Nat.beq (c % 32) (d % 32) then 1 else 2
def mnN (a b : Nat) : Nat := bif Nat.ble a b then a else b
def mxN (a b : Nat) : Nat := bif Nat.ble a b then b else a
theorem mn_eq (a b : Nat) : mnN a b = min a b := by
  unfold mnN
  by_cases h : a ≤ b
  · rw [Nat.ble_eq_true_of_le h]; simp; omega
  · rw [Bool.eq_false_iff.mpr (fun q => h (Nat.le_of_ble_eq_true q))]; simp; omega
theorem mx_eq (a b : Nat) : mxN a b = max a b := by
  unfold mxN
  by_cases h : a ≤ b
  · rw [Nat.ble_eq_true_of_le h]; simp; omega
  · rw [Bool.eq_false_iff.mpr (fun q => h (Nat.le_of_ble_eq_true q))]; simp; omega
theorem cost_F {c d : Nat} (hc : Sg c) (hd : Sg d) : cost c d = (costF c d : Nat) := by
  rcases hc with rfl | rfl | rfl | rfl <;> rcases hd with rfl | rfl | rfl | rfl <;> decide +kernel
def MAXN : Nat := 9223372036854775807
def innerN (bc : Nat) : List Nat → List Nat → Nat → Nat → Nat → List Nat × Nat × Nat
  | c :: a, r :: row, dist, res, mn =>
    let y := mnN (mnN res r + 2) (dist + costF bc c)
    let q := innerN bc a row r y (mnN mn y)
    (y :: q.1, q.2)
  | _, _, _, res, mn => ([], res, mn)
def outerN (a : List Nat) : List Nat → Nat → List Nat → Nat → Nat × Nat
  | [], _, _, res => (0, res)
  | c :: b, i, row, _ =>
    let q := innerN c a row (i * 2) (i * 2) MAXN
    let r := outerN a b (i + 1) q.1 q.2.1
    (mxN q.2.2 r.1, r.2)
theorem pmin_N (a b : Nat) : pmin (a : Int) (b : Int) = ((min a b : Nat) : Int) := by
  unfold pmin
  split <;> omega
theorem inner_N {bc : Nat} (hb : Sg bc) : ∀ (a : List Nat) (row : List Nat) (dist res mn : Nat), (∀ c ∈ a, Sg c) →
    inner bc a (row.map fun (k : Nat) => (k : Int)) dist res mn = ((innerN bc a row dist res mn).1.map (fun (k : Nat) => (k : Int)), ((innerN bc a row dist res mn).2.1 : Int), ((innerN bc a row dist res mn).2.2 : Int))
  | [], row, _, _, _, _ => by cases row <;> rfl
  | _ :: _, [], _, _, _, _ => rfl
  | c :: a, r :: row, dist, res, mn, h => by
    have hc := cost_F hb (h c (.head _))
    have e : pmin (pmin (res : Int) (r : Int) + 2) ((dist : Int) + cost bc c) = ((min (min res r + 2) (dist + costF bc c) : Nat) : Int) := by
      rw [hc, pmin_N, show ((min res r : Nat) : Int) + 2 = ((min res r + 2 : Nat) : Int) by omega, show (dist : Int) + ((costF bc c : Nat) : Int) = ((dist + costF bc c : Nat) : Int) by omega, pmin_N]
    have e2 : ∀ y : Nat, (if (y : Int) < (mn : Int) then (y : Int) else (mn : Int)) = ((min mn y : Nat) : Int) := fun y => by split <;> omega
    rw [List.map_cons]
    unfold inner innerN
    simp only [mn_eq]
    rw [e, e2, inner_N hb a row _ _ _ fun c hc => h c (.tail _ hc)]
    rfl
theorem outer_N {a : List Nat} {m : Nat} (ha : ∀ c ∈ a, Sg c) : ∀ (b : List Nat) (i : Nat) (row : List Nat) (res : Nat), (∀ c ∈ b, Sg c) →
    outer a m b i (row.map fun (k : Nat) => (k : Int)) res = if (outerN a b i row res).1 > m then ((m + 1 : Nat) : Int) else ((outerN a b i row res).2 : Int)
  | [], _, _, _, _ => by simp [outer, outerN]
  | c :: b, i, row, res, h => by
    unfold outer outerN
    simp only [mx_eq]
    have e := inner_N (h c (.head _)) a row (i * 2) (i * 2) MAXN ha
    rw [show (((i * 2 : Nat) : Int)) = (i : Int) * 2 by omega] at e
    rw [show MAXI = ((MAXN : Nat) : Int) from rfl, e]
    simp only []
    rw [show (i : Int) + 1 = ((i + 1 : Nat) : Int) by omega, outer_N ha b (i + 1) _ _ fun c hc => h c (.tail _ hc)]
    generalize (innerN c a row (i * 2) (i * 2) MAXN).2.2 = x
    generalize (outerN a b (i + 1) (innerN c a row (i * 2) (i * 2) MAXN).1 (innerN c a row (i * 2) (i * 2) MAXN).2.1).1 = y
    generalize ((outerN a b (i + 1) (innerN c a row (i * 2) (i * 2) MAXN).1 (innerN c a row (i * 2) (i * 2) MAXN).2.1).2 : Int) = z
    by_cases h1 : (x : Int) > m
    · rw [if_pos h1, if_pos (by omega)]; rfl
    · rw [if_neg h1]
      by_cases h2 : y > m
      · rw [if_pos h2, if_pos (by omega)]
      · rw [if_neg h2, if_neg (by omega)]
def initN (n : Nat) : List Nat := (List.range n).map fun i => 2 + i * 2
def levN (a b : List Nat) : Nat × Nat :=
  if a = b then (0, 0) else
  let p := lcp a b
  let a1 := a.drop p
  let b1 := b.drop p
  let q := lcp a1.reverse b1.reverse
  let a2 := a1.take (a1.length - q)
  let b2 := b1.take (b1.length - q)
  if a2 = [] ∨ b2 = [] then (0, 2 * (a2.length + b2.length)) else outerN a2 b2 0 (initN a2.length) 0
theorem lev_N {a b : List Nat} {m : Nat} (hl : a.length = b.length) (ha : ∀ c ∈ a, Sg c) (hb : ∀ c ∈ b, Sg c) : levF a b m = if (levN a b).1 > m then ((m + 1 : Nat) : Int) else ((levN a b).2 : Int) := by
  unfold levF levN
  by_cases h : a = b
  · rw [if_pos h, if_pos h]; simp
  rw [if_neg h, if_neg h]
  simp only []
  have ha2 : ∀ n k, ∀ c ∈ (a.drop n).take k, Sg c := fun n k c hc => ha c (List.mem_of_mem_drop (List.mem_of_mem_take hc))
  have hb2 : ∀ n k, ∀ c ∈ (b.drop n).take k, Sg c := fun n k c hc => hb c (List.mem_of_mem_drop (List.mem_of_mem_take hc))
  have hl1 : (a.drop (lcp a b)).length = (b.drop (lcp a b)).length := by rw [List.length_drop, List.length_drop, hl]
  generalize lcp a b = p at *
  generalize lcp (a.drop p).reverse (b.drop p).reverse = q at *
  have hl2 : ((a.drop p).take ((a.drop p).length - q)).length = ((b.drop p).take ((b.drop p).length - q)).length := by rw [List.length_take, List.length_take, hl1]
  have ha3 := ha2 p ((a.drop p).length - q)
  have hb3 := hb2 p ((b.drop p).length - q)
  generalize (a.drop p).take ((a.drop p).length - q) = x at *
  generalize (b.drop p).take ((b.drop p).length - q) = y at *
  by_cases h1 : x = [] ∨ y = []
  · rw [if_pos h1, if_pos h1]; simp
  · rw [if_neg h1, if_neg h1, if_neg (by omega)]
    unfold levDP
    rw [if_neg (by omega)]
    have e : initRow x.length = (initN x.length).map fun (k : Nat) => (k : Int) := by
      unfold initRow rangeL initN
      rw [List.map_map]
      apply List.map_congr_left
      intro i _
      show (2 : Int) + (i : Int) * 2 = ((2 + i * 2 : Nat) : Int)
      omega
    rw [e]
    exact outer_N ha3 y 0 _ 0 hb3
def sumC : List Nat → Nat
  | c :: d :: r => costF c d + sumC (d :: r)
  | _ => 0
def chkW (w : List Nat) : Bool :=
  let r := levN w.tail w.dropLast
  let s := sumC w
  (if r.1 > 0 then 1 else r.2) == min 1 s && ((if r.1 > 1 then 2 else r.2) == min 2 s && ((if r.1 > 2 then 3 else r.2) == min 4 s && (if r.1 > 3 then 4 else r.2) == min 4 s))
def allB : Nat → List Nat → Bool
  | 0, w => chkW w.reverse
  | k + 1, w => allB k (97 :: w) && (allB k (65 :: w) && (allB k (98 :: w) && allB k (66 :: w)))
theorem allB_spec : ∀ (k : Nat) (acc : List Nat), allB k acc = true → ∀ w : List Nat, w.length = k → (∀ c ∈ w, Sg c) → chkW (acc.reverse ++ w) = true
  | 0, acc, h, w, hw, _ => by
    have : w = [] := List.length_eq_zero_iff.mp hw
    subst this
    rw [List.append_nil]
    exact h
  | k + 1, acc, h, c :: w, hw, hs => by
    unfold allB at h
    simp only [Bool.and_eq_true] at h
    have hc : allB k (c :: acc) = true := by
      rcases hs c (.head _) with rfl | rfl | rfl | rfl
      · exact h.1
      · exact h.2.1
      · exact h.2.2.1
      · exact h.2.2.2
    have := allB_spec k (c :: acc) hc w (by simpa using hw) fun d hd => hs d (.tail _ hd)
    rw [List.reverse_cons, List.append_assoc] at this
    exact this
  | k + 1, acc, h, [], hw, _ => by simp at hw
theorem b65_0 : allB 0 [65, 97] = true := by decide +kernel
theorem b65_1 : allB 1 [65, 97] = true := by decide +kernel
theorem b65_2 : allB 2 [65, 97] = true := by decide +kernel
theorem b65_3 : allB 3 [65, 97] = true := by decide +kernel
theorem b65_4 : allB 4 [65, 97] = true := by decide +kernel
theorem b98_0 : allB 0 [98, 97] = true := by decide +kernel
theorem b98_1 : allB 1 [98, 97] = true := by decide +kernel
theorem b98_2 : allB 2 [98, 97] = true := by decide +kernel
theorem b98_3 : allB 3 [98, 97] = true := by decide +kernel
theorem b98_4 : allB 4 [98, 97] = true := by decide +kernel
theorem b66_0 : allB 0 [66, 97] = true := by decide +kernel
theorem b66_1 : allB 1 [66, 97] = true := by decide +kernel
theorem b66_2 : allB 2 [66, 97] = true := by decide +kernel
theorem b66_3 : allB 3 [66, 97] = true := by decide +kernel
theorem b66_4 : allB 4 [66, 97] = true := by decide +kernel
theorem b65 : ∀ k, k ≤ 4 → allB k [65, 97] = true
  | 0, _ => b65_0
  | 1, _ => b65_1
  | 2, _ => b65_2
  | 3, _ => b65_3
  | 4, _ => b65_4
  | k + 5, h => absurd h (by omega)
theorem b98 : ∀ k, k ≤ 4 → allB k [98, 97] = true
  | 0, _ => b98_0
  | 1, _ => b98_1
  | 2, _ => b98_2
  | 3, _ => b98_3
  | 4, _ => b98_4
  | k + 5, h => absurd h (by omega)
theorem b66 : ∀ k, k ≤ 4 → allB k [66, 97] = true
  | 0, _ => b66_0
  | 1, _ => b66_1
  | 2, _ => b66_2
  | 3, _ => b66_3
  | 4, _ => b66_4
  | k + 5, h => absurd h (by omega)
theorem chk_a {d : Nat} {r : List Nat} (hd : Sg d) (hr : r.length ≤ 4) (hs : ∀ c ∈ r, Sg c) (h : d ≠ 97) : chkW (97 :: d :: r) = true := by
  rcases hd with rfl | rfl | rfl | rfl
  · exact absurd rfl h
  · exact allB_spec _ _ (b65 _ hr) r rfl hs
  · exact allB_spec _ _ (b98 _ hr) r rfl hs
  · exact allB_spec _ _ (b66 _ hr) r rfl hs
/-- a renaming of the signs that keeps the costs -/
structure Ren (f : Nat → Nat) : Prop where
  sg : ∀ c, Sg c → Sg (f c)
  inj : ∀ c d, Sg c → Sg d → f c = f d → c = d
  cost : ∀ c d, Sg c → Sg d → costF (f c) (f d) = costF c d
def ren (x y z u c : Nat) : Nat := if c = 97 then x else if c = 65 then y else if c = 98 then z else u
theorem ren_ok (c : Nat) (h : Sg c) : ∃ f, Ren f ∧ f c = 97 := by
  have mk : ∀ x y z u, (∀ c ∈ signsL, ren x y z u c ∈ signsL ∧ ∀ d ∈ signsL, (ren x y z u c = ren x y z u d → c = d) ∧ costF (ren x y z u c) (ren x y z u d) = costF c d) → Ren (ren x y z u) := fun x y z u q =>
    ⟨fun c hc => by
      have := (q c (sg_signs hc)).1
      simp only [signsL, List.mem_cons, List.not_mem_nil, or_false] at this
      exact this, fun c d hc hd => ((q c (sg_signs hc)).2 d (sg_signs hd)).1, fun c d hc hd => ((q c (sg_signs hc)).2 d (sg_signs hd)).2⟩
  rcases h with rfl | rfl | rfl | rfl
  · exact ⟨ren 97 65 98 66, mk _ _ _ _ (by decide +kernel), rfl⟩
  · exact ⟨ren 65 97 66 98, mk _ _ _ _ (by decide +kernel), rfl⟩
  · exact ⟨ren 98 66 97 65, mk _ _ _ _ (by decide +kernel), rfl⟩
  · exact ⟨ren 66 98 65 97, mk _ _ _ _ (by decide +kernel), rfl⟩
section
variable {f : Nat → Nat} (R : Ren f)
include R
theorem ren_map : ∀ {a b : List Nat}, (∀ c ∈ a, Sg c) → (∀ c ∈ b, Sg c) → (a.map f = b.map f ↔ a = b)
  | [], [], _, _ => by simp
  | [], _ :: _, _, _ => by simp
  | _ :: _, [], _, _ => by simp
  | x :: a, y :: b, ha, hb => by
    have ih := ren_map (a := a) (b := b) (fun c h => ha c (.tail _ h)) fun c h => hb c (.tail _ h)
    have h1 : f x = f y ↔ x = y := ⟨R.inj x y (ha x (.head _)) (hb y (.head _)), fun e => by rw [e]⟩
    simp only [List.map_cons, List.cons.injEq, ih, h1]
theorem ren_lcp : ∀ {a b : List Nat}, (∀ c ∈ a, Sg c) → (∀ c ∈ b, Sg c) → lcp (a.map f) (b.map f) = lcp a b
  | [], _, _, _ => by simp [lcp]
  | _ :: _, [], _, _ => by simp [lcp]
  | x :: a, y :: b, ha, hb => by
    have ih := ren_lcp (a := a) (b := b) (fun c h => ha c (.tail _ h)) fun c h => hb c (.tail _ h)
    have h1 : f x = f y ↔ x = y := ⟨R.inj x y (ha x (.head _)) (hb y (.head _)), fun e => by rw [e]⟩
    simp only [List.map_cons, lcp, ih, h1]
theorem ren_inner {bc : Nat} (hb : Sg bc) : ∀ (a row : List Nat) (dist res mn : Nat), (∀ c ∈ a, Sg c) → innerN (f bc) (a.map f) row dist res mn = innerN bc a row dist res mn
  | [], row, _, _, _, _ => by cases row <;> rfl
  | _ :: _, [], _, _, _, _ => rfl
  | c :: a, r :: row, dist, res, mn, h => by
    rw [List.map_cons]
    unfold innerN
    simp only []
    rw [R.cost bc c hb (h c (.head _)), ren_inner hb a row _ _ _ fun c hc => h c (.tail _ hc)]
theorem ren_outer {a : List Nat} (ha : ∀ c ∈ a, Sg c) : ∀ (b : List Nat) (i : Nat) (row : List Nat) (res : Nat), (∀ c ∈ b, Sg c) → outerN (a.map f) (b.map f) i row res = outerN a b i row res
  | [], _, _, _, _ => rfl
  | c :: b, i, row, res, h => by
    rw [List.map_cons]
    unfold outerN
    simp only []
    rw [ren_inner R (h c (.head _)) a row _ _ _ ha, ren_outer ha b _ _ _ fun c hc => h c (.tail _ hc)]
theorem ren_lev {a b : List Nat} (ha : ∀ c ∈ a, Sg c) (hb : ∀ c ∈ b, Sg c) : levN (a.map f) (b.map f) = levN a b := by
  unfold levN
  have hd : ∀ (x : List Nat) n, (∀ c ∈ x, Sg c) → ∀ c ∈ (x.drop n).reverse, Sg c := fun x n h c hc => h c (List.mem_of_mem_drop (List.mem_reverse.mp hc))
  have ht : ∀ (x : List Nat) n k, (∀ c ∈ x, Sg c) → ∀ c ∈ (x.drop n).take k, Sg c := fun x n k h c hc => h c (List.mem_of_mem_drop (List.mem_of_mem_take hc))
  simp only [ren_map R ha hb, ren_lcp R ha hb, ← List.map_drop, ← List.map_reverse, ren_lcp R (hd a _ ha) (hd b _ hb), List.length_map, ← List.map_take, List.map_eq_nil_iff, ren_outer R (ht a _ _ ha) _ _ _ _ (ht b _ _ hb)]
theorem ren_sum : ∀ w : List Nat, (∀ c ∈ w, Sg c) → sumC (w.map f) = sumC w
  | [], _ => rfl
  | [_], _ => rfl
  | c :: d :: w, h => by
    have ih := ren_sum (d :: w) fun c hc => h c (.tail _ hc)
    simp only [List.map_cons, sumC] at ih ⊢
    rw [ih, R.cost c d (h c (.head _)) (h d (.tail _ (.head _)))]
theorem ren_chk {w : List Nat} (h : ∀ c ∈ w, Sg c) : chkW (w.map f) = chkW w := by
  unfold chkW
  rw [← List.map_tail, ← List.map_dropLast, ren_lev R (fun c hc => h c (List.mem_of_mem_tail hc)) (fun c hc => h c ((List.dropLast_sublist w).subset hc)), ren_sum R w h]
end
theorem chk_diff {c d : Nat} {r : List Nat} (hc : Sg c) (hd : Sg d) (hr : r.length ≤ 4) (hs : ∀ c ∈ r, Sg c) (h : c ≠ d) : chkW (c :: d :: r) = true := by
  obtain ⟨f, R, hf⟩ := ren_ok c hc
  have hall : ∀ x ∈ c :: d :: r, Sg x := fun x hx => by
    rcases List.mem_cons.mp hx with rfl | hx
    · exact hc
    · rcases List.mem_cons.mp hx with rfl | hx
      · exact hd
      · exact hs x hx
  rw [← ren_chk R hall, List.map_cons, List.map_cons, hf]
  refine chk_a (R.sg d hd) (by rw [List.length_map]; exact hr) (fun x hx => ?_) fun e => h (R.inj c d hc hd (hf.trans e.symm))
  obtain ⟨y, hy, rfl⟩ := List.mem_map.mp hx
  exact R.sg y (hs y hy)
end
-- part P7
section
open PySem PySem.W PySem.Spec PySem.Calls PyProof.Rows
theorem lcp_ne (v : List Nat) : ∀ {A B : List Nat}, A.length = B.length → A ≠ B → lcp (A ++ v) (B ++ v) = lcp A B
  | [], [], _, h => absurd rfl h
  | x :: A, y :: B, hl, h => by
    rw [List.cons_append, List.cons_append]
    unfold lcp
    by_cases e : x = y
    · rw [if_pos e, if_pos e, lcp_ne v (by simpa using hl) (fun q => h (by rw [e, q]))]
    · rw [if_neg e, if_neg e]
theorem lev_ctx (u v : List Nat) {A B : List Nat} (m : Int) (hl : A.length = B.length) : levF (u ++ (A ++ v)) (u ++ (B ++ v)) m = levF A B m := by
  by_cases h : A = B
  · subst h
    unfold levF
    rw [if_pos rfl, if_pos rfl]
  have h2 : u ++ (A ++ v) ≠ u ++ (B ++ v) := fun e => h (List.append_cancel_right (List.append_cancel_left e))
  unfold levF
  rw [if_neg h2, if_neg h]
  simp only []
  rw [lcp_app, lcp_ne v hl h]
  have hp1 := lcp_le_left A B
  have hp2 := lcp_le_right A B
  generalize lcp A B = p at *
  have e : ∀ X : List Nat, p ≤ X.length → (u ++ (X ++ v)).drop (u.length + p) = X.drop p ++ v := fun X hX => by
    rw [List.drop_append, List.drop_eq_nil_of_le (by omega), List.nil_append, show u.length + p - u.length = p by omega, List.drop_append_of_le_length hX]
  rw [e A hp1, e B hp2, List.reverse_append, List.reverse_append, lcp_app]
  generalize lcp (A.drop p).reverse (B.drop p).reverse = q
  have e2 : ∀ X : List Nat, (X ++ v).take ((X ++ v).length - (v.reverse.length + q)) = X.take (X.length - q) := fun X => by
    rw [List.length_append, List.length_reverse, show X.length + v.length - (v.length + q) = X.length - q by omega, List.take_append_of_le_length (by omega)]
  rw [e2, e2]
theorem cost_self (c : Nat) : costF c c = 0 := by
  unfold costF
  rw [Nat.beq_refl]
  rfl
theorem seg_lev : ∀ (w : List Nat), (∀ c ∈ w, Sg c) → w.length ≤ 6 → ∀ m, m ≤ 3 → levF w.tail w.dropLast (m : Nat) = ((min ([1, 2, 4, 4].getD m 0) (sumC w) : Nat) : Int)
  | [], _, _, m, _ => by simp [levF, sumC]
  | [c], _, _, m, _ => by simp [levF, sumC]
  | c :: d :: r, hs, hl, m, hm => by
    by_cases h : c = d
    · subst h
      have ih := seg_lev (c :: r) (fun x hx => hs x (.tail _ hx)) (by simp only [List.length_cons] at hl ⊢; omega) m hm
      have e : levF (c :: c :: r).tail (c :: c :: r).dropLast (m : Nat) = levF (c :: r).tail (c :: r).dropLast (m : Nat) := by
        have := lev_ctx [c] [] (A := r) (B := (c :: r).dropLast) (m : Nat) (by simp)
        rw [List.append_nil, List.append_nil] at this
        exact this
      rw [e, ih]
      simp only [sumC, cost_self, Nat.zero_add]
    · have hc := chk_diff (hs c (.head _)) (hs d (.tail _ (.head _))) (r := r) (by simp only [List.length_cons] at hl; omega) (fun x hx => hs x (.tail _ (.tail _ hx))) h
      unfold chkW at hc
      simp only [Bool.and_eq_true, beq_iff_eq] at hc
      obtain ⟨h0, h1, h2, h3⟩ := hc
      rw [lev_N (by simp) (fun x hx => hs x (List.mem_of_mem_tail hx)) (fun x hx => hs x ((List.dropLast_sublist _).subset hx))]
      match m, hm with
      | 0, _ => rw [show [1, 2, 4, 4].getD 0 0 = 1 from rfl, ← h0]; split <;> rfl
      | 1, _ => rw [show [1, 2, 4, 4].getD 1 0 = 2 from rfl, ← h1]; split <;> rfl
      | 2, _ => rw [show [1, 2, 4, 4].getD 2 0 = 4 from rfl, ← h2]; split <;> rfl
      | 3, _ => rw [show [1, 2, 4, 4].getD 3 0 = 4 from rfl, ← h3]; split <;> rfl
theorem sum_seg {l : List Nat} (hs : ∀ c ∈ l, Sg c) : ∀ (k i : Nat), i + k < l.length →
    ((((List.range (l.length - 1)).map (fun k => cost (l.getD k 0) (l.getD (k + 1) 0))).drop i).take k).sum = (sumC ((l.drop i).take (k + 1)) : Nat)
  | 0, i, h => by
    rw [List.take_zero, List.drop_eq_getElem_cons (show i < l.length by omega), List.take_succ_cons, List.take_zero]
    rfl
  | k + 1, i, h => by
    have ih := sum_seg hs k (i + 1) (by omega)
    rw [List.drop_eq_getElem_cons (show i < ((List.range (l.length - 1)).map (fun k => cost (l.getD k 0) (l.getD (k + 1) 0))).length by rw [List.length_map, List.length_range]; omega), List.take_succ_cons, List.sum_cons, ih, List.getElem_map, List.getElem_range]
    have e1 : l.getD i 0 = l[i]'(by omega) := by rw [List.getD_eq_getElem?_getD, List.getElem?_eq_getElem (by omega)]; rfl
    have e2 : l.getD (i + 1) 0 = l[i + 1]'(by omega) := by rw [List.getD_eq_getElem?_getD, List.getElem?_eq_getElem (by omega)]; rfl
    rw [e1, e2, cost_F (hs _ (List.getElem_mem _)) (hs _ (List.getElem_mem _))]
    rw [List.drop_eq_getElem_cons (show i < l.length by omega), List.drop_eq_getElem_cons (show i + 1 < l.length by omega), List.take_succ_cons, List.take_succ_cons, List.take_succ_cons, sumC]
    omega
theorem levc_plain {l : List Nat} (hs : ∀ c ∈ l, Sg c) (h6 : l.length ≤ 6) {i j : Nat} (hij : i < j) (hj : j < l.length) {m : Nat} (hm : m ≤ 3) :
    levF (del l i) (del l j) (m : Nat) = pmin ([1, 2, 4, 4].getD m 0) ((((List.range (l.length - 1)).map (fun k => cost (l.getD k 0) (l.getD (k + 1) 0))).drop i).take (j - i)).sum := by
  rw [sum_seg hs (j - i) i (by omega)]
  have hw : ∀ c ∈ (l.drop i).take (j - i + 1), Sg c := fun c hc => hs c (List.mem_of_mem_drop (List.mem_of_mem_take hc))
  have hwl : ((l.drop i).take (j - i + 1)).length = j - i + 1 := by rw [List.length_take, List.length_drop]; omega
  have e1 : del l i = l.take i ++ (((l.drop i).take (j - i + 1)).tail ++ l.drop (j + 1)) := by
    unfold del
    congr 1
    rw [List.drop_eq_getElem_cons (show i < l.length by omega), List.take_succ_cons, List.tail_cons]
    have := List.take_append_drop (j - i) (l.drop (i + 1))
    rw [List.drop_drop, show i + 1 + (j - i) = j + 1 by omega] at this
    exact this.symm
  have e2 : del l j = l.take i ++ (((l.drop i).take (j - i + 1)).dropLast ++ l.drop (j + 1)) := by
    unfold del
    rw [← List.append_assoc]
    congr 1
    rw [List.dropLast_eq_take, hwl, List.take_take, show min (j - i + 1 - 1) (j - i + 1) = j - i by omega, ← List.take_add, show i + (j - i) = j by omega]
  rw [e1, e2, lev_ctx _ _ _ (by simp), seg_lev _ hw (by omega) m hm]
  match m, hm with
  | 0, _ => exact (pmin_N 1 _).symm
  | 1, _ => exact (pmin_N 2 _).symm
  | 2, _ => exact (pmin_N 4 _).symm
  | 3, _ => exact (pmin_N 4 _).symm
theorem plain {l : List Nat} {b : Int} (h4 : 4 ≤ l.length) (h6 : l.length ≤ 6) (hs : ∀ c ∈ l, Sg c) (b0 : 0 ≤ b) (b3 : b ≤ 3) : Plain l b := by
  have hk : (bookL (cardsL l)).map (·.1) = keysL l := by
    rw [book_eq, List.map_map, show ((fun x : List Nat × Int => x.1) ∘ fun t : List Nat => (t, (((cardsL l).count t : Nat) : Int))) = id from rfl, List.map_id, nub_cards]
  obtain ⟨m, rfl⟩ : ∃ m : Nat, b = (m : Int) := ⟨b.toNat, by omega⟩
  exact {
    keys := hk
    vals := by
      rw [book_eq, List.map_map, List.map_map]
      rfl
    total := by rw [total_plain]; unfold cardsL; rw [List.length_map, List.length_range]
    read := read_plain (by omega) (by omega)
    words := by
      rw [hk]
      match l, h4, hs with
      | x :: m, h4, hs => rw [del_zero]; exact words_plain (hs x (.head _)) (by simp only [List.length_cons] at h4; omega)
    steps := by
      apply List.map_congr_left
      intro k hk
      have hk := List.mem_range.mp hk
      have e : ∀ i, i < l.length → Sg (l.getD i 0) := fun i hi => by
        rw [List.getD_eq_getElem?_getD, List.getElem?_eq_getElem hi]
        exact hs _ (List.getElem_mem _)
      exact steps_plain (e k (by omega)) (e (k + 1) (by omega))
    levw := fun i hi => lev_del _ hi
    strc := fun i j hij hj => (strc_plain hij hj).1
    strc' := fun i j hij hj => (strc_plain hij hj).2
    levc := fun i j hij hj => by
      rw [levc_plain hs h6 hij hj (m := m) (by omega), Int.toNat_natCast]
    sort := fun ts' hp hw => sort_plain (by omega) (hk ▸ hp) hw }
end
-- part Wlaw
section
theorem cardsL_at {l : List Nat} {e : Nat} (h : e < l.length) : (cardsL l).getD e [] = del l e := by
  unfold cardsL
  simp [List.getD_eq_getElem?_getD, h]
theorem endsL_at {l : List Nat} {i : Nat} {k : Int} (h : ((endsL l).map (fun (k : Nat) => (k : Int)))[i]? = some k) : ∃ e : Nat, k = (e : Int) ∧ e < l.length ∧ (endsL l)[i]? = some e := by
  rw [List.getElem?_map] at h
  cases q : (endsL l)[i]? with
  | none => rw [q] at h; simp at h
  | some e =>
    rw [q] at h
    have h1 := List.mem_of_getElem? q
    unfold endsL at h1
    exact ⟨e, (Option.some.inj h).symm, List.mem_range.mp (List.mem_filter.mp h1).1, rfl⟩
theorem initE_mem {l : List Nat} {i e : Nat} (h : (initE l)[i]? = some e) : e + 1 < l.length := by
  unfold initE at h
  have hi : i < (endsL l).length - 1 := by
    have := (List.getElem?_eq_some_iff.mp h).1
    rw [List.length_take] at this
    omega
  rw [List.getElem?_take_of_lt hi] at h
  have hs : (endsL l).Pairwise (· < ·) := List.Pairwise.filter _ List.pairwise_lt_range
  obtain ⟨h1, h2⟩ := List.getElem?_eq_some_iff.mp h
  have h3 := List.pairwise_iff_getElem.mp hs i (i + 1) h1 (by omega) (by omega)
  have h4 : (endsL l)[i + 1]'(by omega) ∈ endsL l := List.getElem_mem _
  have h5 := List.mem_range.mp (List.mem_filter.mp (by unfold endsL at h4; exact h4)).1
  unfold endsL at h2 h3 h5
  omega
theorem initE_at {l : List Nat} {i : Nat} {k : Int} (h : ((initE l).map (fun (k : Nat) => (k : Int)))[i]? = some k) : ∃ e : Nat, k = (e : Int) ∧ e + 1 < l.length ∧ (initE l)[i]? = some e := by
  rw [List.getElem?_map] at h
  cases q : (initE l)[i]? with
  | none => rw [q] at h; simp at h
  | some e =>
    rw [q] at h
    exact ⟨e, (Option.some.inj h).symm, initE_mem q, rfl⟩
theorem lt_S1 {x y : Nat} : (S [x]).cps.toList < (S [y]).cps.toList ↔ x < y := by
  simp [S, List.cons_lt_cons_iff]
theorem initE_lt {l : List Nat} {e : Nat} (h : e ∈ initE l) : e + 1 < l.length := by
  obtain ⟨i, hi⟩ := List.getElem?_of_mem h
  exact initE_mem hi
theorem walkL_lt {l : List Nat} (h0 : 0 < l.length) {e : Nat} (h : e ∈ walkL l) : e < l.length := by
  unfold walkL thereL backL at h
  simp only [List.mem_append, List.mem_reverse, List.mem_filter, List.mem_singleton] at h
  rcases h with (h | h) | h
  · have := initE_lt h.1; omega
  · omega
  · have := initE_lt h.1; omega
theorem walkL_at {l : List Nat} (h0 : 0 < l.length) {i : Nat} {k : Int} (h : ((walkL l).map (fun (k : Nat) => (k : Int)))[i]? = some k) : ∃ e : Nat, k = (e : Int) ∧ e < l.length ∧ (walkL l)[i]? = some e := by
  rw [List.getElem?_map] at h
  cases q : (walkL l)[i]? with
  | none => rw [q] at h; simp at h
  | some e =>
    rw [q] at h
    exact ⟨e, (Option.some.inj h).symm, walkL_lt h0 (List.mem_of_getElem? q), rfl⟩
theorem anyE {α : Type} {M : Model} {A : Around} {t : Sem α} {Q : α → Shared → Prop} {E : Value → Shared → Prop} {s : Shared} (h : wpAny M A t Q (fun _ _ => False) s) : wpAny M A t Q E s :=
  wpAny_mono h (fun _ _ h => h) (fun _ _ h => h.elim)
theorem rsize_from {i n : Nat} (h : i < n) : Builtin.Range.rangeSize ((i : Int) + 1) (n : Int) 1 = ((n - (i + 1) : Nat) : Int) := by
  unfold Builtin.Range.rangeSize
  simp only [show (1 : Int) > 0 by decide, if_true, Int.ediv_one]
  split <;> omega
theorem take_step {α : Type} {l : List α} {i : Nat} {a : α} (h : l[i]? = some a) : l.take (i + 1) = l.take i ++ [a] := by
  rw [List.take_add_one, h]; rfl
theorem endsL_len (l : List Nat) : (endsL l).length ≤ l.length := by
  unfold endsL
  exact Nat.le_trans (List.length_filter_le _ _) (by rw [List.length_range]; exact Nat.le_refl _)
theorem cardsL_len (l : List Nat) : (cardsL l).length = l.length := by unfold cardsL; rw [List.length_map, List.length_range]
local macro_rules | `(tactic| walk_at "exec If") => `(tactic| refine Mine.stop_in ?_)
local macro_rules | `(tactic| walk_at "compareOp NotEq ref ref") => `(tactic| refine Mine.stop_in ?_)
local macro_rules | `(tactic| walk_at "call type:list") => `(tactic| refine Mine.stop_in ?_)
local macro_rules | `(tactic| walk_at "call builtin:list.count") => `(tactic| refine Mine.stop_in ?_)
local macro_rules | `(tactic| walk_at "subscriptTail Name Name ref int") => `(tactic| refine Mine.stop_in ?_)
local macro_rules | `(tactic| walk_at "subscriptTail Name Slice ref ref") => `(tactic| ((with_reducible show wpAny _ _ (subscriptTail _ (PySem.Expr.Slice none none (some _) _) (Value.ref _) (Value.ref _)) _ _ _); refine Mine.stop_in ?_))
local macro_rules | `(tactic| walk_at "subscriptTail Name Constant ref int") => `(tactic| refine Mine.stop_in ?_)
local macro_rules | `(tactic| walk_at "exec Assign cons ListComp") => `(tactic| refine Mine.stop_in ?_)
local macro_rules | `(tactic| walk_at "CompSrcT") => `(tactic| refine Mine.stop_in ?_)
local macro_rules | `(tactic| walk_at "call builtin:sorted") => `(tactic| refine Mine.stop_in ?_)
local macro_rules | `(tactic| walk_at "binaryOp Add ref ref") => `(tactic| refine Mine.stop_in ?_)
local macro_rules | `(tactic| walk_at "subscriptTail Name Slice ref ref") => `(tactic| ((with_reducible show wpAny _ _ (subscriptTail _ (PySem.Expr.Slice (some _) (some _) none _) (Value.ref _) (Value.ref _)) _ _ _); refine Mine.stop_in ?_))
local macro_rules | `(tactic| walk_at "CompSrc") => `(tactic| refine Mine.stop_in ?_)
section
variable {w : World} {dp un : Nat} {fr : Option (List Env)} {gd : Option (List Code)} {s : Shared} {mean : ExcName → Option Value} {mg mb : Str → Option Value} {R : Result → Shared → Prop}
theorem sg_ok {x : List Nat} (h : ∀ c ∈ x, Sg c) : PyData.strOk (S x) = true := by
  unfold PyData.strOk
  rw [S_cps, List.all_toArray, List.all_eq_true]
  intro c hc
  rcases h c hc with rfl | rfl | rfl | rfl <;> rfl
theorem key_len {l x : List Nat} (h : x ∈ (endsL l).map (del l)) : x.length = l.length - 1 := by
  obtain ⟨i, hi, rfl⟩ := List.mem_map.mp h
  unfold endsL at hi
  have := List.mem_range.mp (List.mem_filter.mp hi).1
  unfold del
  rw [List.length_append, List.length_take, List.length_drop]
  omega
theorem ends_mem {l x : List Nat} (h : x ∈ (endsL l).map (del l)) : ∀ c ∈ x, c ∈ l := by
  obtain ⟨i, _, rfl⟩ := List.mem_map.mp h
  intro c hc
  rcases List.mem_append.mp hc with h | h
  · exact List.mem_of_mem_take h
  · exact List.mem_of_mem_drop h
theorem walk_mem {l x : List Nat} (h : x ∈ (walkL l).map (del l)) : ∀ c ∈ x, c ∈ l := by
  obtain ⟨i, _, rfl⟩ := List.mem_map.mp h
  intro c hc
  rcases List.mem_append.mp hc with h | h
  · exact List.mem_of_mem_take h
  · exact List.mem_of_mem_drop h
theorem del_mem {l x : List Nat} (h : x ∈ (List.range l.length).map (del l)) : ∀ c ∈ x, c ∈ l := by
  obtain ⟨i, _, rfl⟩ := List.mem_map.mp h
  intro c hc
  rcases List.mem_append.mp hc with h | h
  · exact List.mem_of_mem_take h
  · exact List.mem_of_mem_drop h
set_option maxHeartbeats 40000000 in
theorem law_spec {a : Addr} {xs : List Value} {ns : List Int} (hS : s.heap.IsList a xs.toArray) (hi : IntsAre xs ns) (hz : ns.length ≤ 63) (PL : ∀ (l : List Nat) (b : Int), 4 ≤ l.length → l.length ≤ 6 → (∀ c ∈ l, Sg c) → 0 ≤ b → b ≤ 3 → Plain l b)
    (X : (hd.heap_39 w.params).In s.heap) (T : Top hd.view_39 LS mean mg mb s.heap) (hr : dp + 15 < recursionLimit) (hu : un + 600 < cLine)
    (hR : ∀ h' tk', Grows s.heap h' → R (.ok (.ret (.bool true))) { s with heap := h', toks := tk' }) :
    codeAny (model PG w) (Ar dp fr gd un) (.call (.ref 145) ⟨[.ref a], []⟩) R s := by
  refine enterCode (binds := [(Str.ofString "script", .ref a)]) X T (by rfl) (by k_is) (by show dp < _; omega) (by rfl) (kindsX rfl) (by decide) (by rfl) (by rfl) (by rfl) ?_
  intro L h₁ tk₁ cells F N Y
  k_cells Y
  k_steps
  refine ⟨law_word_spec (hS.at fun o e => F.keep _ o e) hi hz (by k_in) (Top.keeps T F.keep) (by dsimp only [Around.deeper, Ar]; omega) (by dsimp only [Around.deeper, Ar]; omega) ?_⟩
  intro D h2 tk2 l b t1 t2 g hD l4 l6 hs b0 b3
  have F1 := Mine.Fr.grows F g
  have N1 := Mine.News.grows N g
  clear F N g
  try dsimp only
  k_steps
  rename_i oC _ _ oW dW _ _ _ F N
  have sgok : ∀ x : List Nat, (∀ c ∈ x, c ∈ l) → PyData.strOk (S x) = true := fun x hx => sg_ok fun c hc => hs c (hx c hc)
  refine ⟨law_cards_spec (by omega) hs (by k_in) (Top.keeps T F.keep) (by dsimp only [Around.deeper, Ar]; omega) (by dsimp only [Around.deeper, Ar]; omega) ?_⟩
  intro C h3 tk3 cvs cc g hn hC hCv
  obtain ⟨N1, offC⟩ := ls_new F N g hn hC
  have F1 := Mine.Fr.grows F g
  clear F N g
  have hC2 : L + 1 + 1 ≠ C := offC _ (.head _)
  have hC1 : L + 1 ≠ C := offC _ (.tail _ (.head _))
  clear offC
  try dsimp only
  k_steps
  refine storeX_C F1 N1 (by rfl) (UpdF.tail hC2.symm (UpdF.head (off_cons (Nat.ne_of_lt (Nat.lt_succ_self _)) (fun _ hp => nomatch hp)))) (by assumption) ?_
  intro h4 oC4 F4 N4 qC4
  clear F1 N1
  try dsimp only
  k_steps
  refine ⟨after (fun f s' => Stop (f = Flow.next ∧ ∃ h' tk' m₁ ts, s' = { s with heap := h', toks := tk' } ∧ Fr s.heap L h' m₁ ∧ News s.heap L h' [(C, listOf cvs.toArray cc), (L + 1 + 1, oC4), (L + 1, oW)] ∧
    m₁ (Str.ofString "size") = some (.int (l.length : Int) ts) ∧ m₁ (Str.ofString "bound") = some (.int b t2))) ?_ ?_⟩
  · skip
    refine postV fun Q' hq => ?_
    refine wpAny_If ?_
    try dsimp only
    k_steps
    refine ⟨LCg.ListComp_U (F₀ := by k_asm) (by with_unfolding_all rfl) (by decide) (by rfl) (by decide) (by rfl) ?_⟩
    try dsimp only
    k_steps
    have l6' : Stop (l.length ≤ 6) := ⟨l6⟩
    have l4' : Stop (4 ≤ l.length) := ⟨l4⟩
    have l1 : l.length ≤ 1000 := by omega
    refine ⟨LCg.CompSrc.range (n := l.length) (by rfl) (by k_asm) (by k_asm) (by assumption) (small_of (by omega) (by omega) (by omega) (by omega) (.inl rfl)) rsize_one (by rw [sizeLine_eq]; omega) ?_⟩
    clear l4 l6 hz
    intro g
    refine compU_ind (fun i ys => TextsAre ys ((List.range i).map (del l))) .nil ?_ ?_
    · rintro i3 ys v I3 oI3 C3 oC3 D3 m₃ h5 tk3 E3 hi3 hJ ⟨tq, rfl⟩ hNs hx F N off ne
      rw [Int.zero_add] at hx
      try dsimp only
      k_steps
      rename_i F N _ _
      refine LCg.CompEnd.intro F N _ (fun _ hp => hp) off trivial ⟨rfl, ?_⟩
      rw [List.range_succ, List.map_append]
      exact hJ.snoc
    · intro ys hJ
      unfold LCg.FinE
      intro D3 h5 tk3 F N o1
      try dsimp only
      k_steps
      refine ⟨neT (N.isList (.tail _ (.head _))) hCv (N.isList (.head _)) hJ (fun x hx => sgok x (del_mem hx)) (fun x hx => sgok x (del_mem hx)) (by dsimp only [Around.deeper, Ar]; omega) ?_⟩
      rw [show decide (cardsL l = (List.range l.length).map (del l)) = true from decide_eq_true rfl]
      try dsimp only
      k_steps
      exact hq _ _ ⟨rfl, _, _, _, _, rfl, F, fun p hp => N p (.tail _ hp), rfl, rfl⟩
  · clear F4 N4
    rintro f s' ⟨rfl, h4, tk4, m1, ts, rfl, F, N, pS, pB⟩
    try dsimp only
    k_steps
    refine ⟨law_book_spec hCv (by rw [cardsL_len]; omega) (N _ (.head _)).1 (by k_in) (Top.keeps T F.keep) (by dsimp only [Around.deeper, Ar]; omega) (by dsimp only [Around.deeper, Ar]; omega) ?_⟩
    intro B h5 tk5 g hn hB
    obtain ⟨oB, kvs, hdB, hP, N1, offB⟩ := bk_new F N g hn hB
    have F1 := Mine.Fr.grows F g
    have hBl := hB.low
    clear F N g hn hB
    try dsimp only
    k_steps
    refine ⟨law_ends_spec (by omega) (by k_in) (Top.keeps T (Fr.keep (by k_asm))) (by dsimp only [Around.deeper, Ar]; omega) (by dsimp only [Around.deeper, Ar]; omega) ?_⟩
    intro E h6 tk6 evs ce g hn hE hEv
    rename_i F1 N1
    obtain ⟨N, offE⟩ := ls_new F1 N1 g hn hE
    have F := Mine.Fr.grows F1 g
    clear F1 N1 g hn hE
    try dsimp only
    k_steps
    rename_i F N
    refine ⟨after (fun f s' => Stop (f = Flow.next ∧ ∃ h' tk' m₁ ts, s' = { s with heap := h', toks := tk' } ∧ Fr s.heap L h' m₁ ∧ News s.heap L h' [(E, listOf evs.toArray ce), (B, oB), (C, listOf cvs.toArray cc), (L + 1 + 1, oC4), (L + 1, oW)] ∧
      m₁ (Str.ofString "size") = some (.int (l.length : Int) ts) ∧ m₁ (Str.ofString "bound") = some (.int b t2) ∧ m₁ (Str.ofString "book") = some (.ref B) ∧ m₁ (Str.ofString "ends") = some (.ref E))) ?_ ?_⟩
    · skip
      refine postV fun Q' hq => ?_
      refine wpAny_If ?_
      try dsimp only
      k_steps
      refine ⟨list_book (by rfl) (by k_asm) (by k_asm) (.tail _ (.head _)) hdB hBl hP (by have := bookL_len (cardsL l); rw [cardsL_len] at this; omega) ?_⟩
      intro LB c h7 tk7 lvs F N l1 hLv
      try dsimp only
      k_steps
      refine ⟨LCg.ListComp_U (F₀ := by k_asm) (by with_unfolding_all rfl) (by decide) (by rfl) (by decide) (by rfl) ?_⟩
      try dsimp only
      k_steps
      have l6' : Stop (l.length ≤ 6) := ⟨l6⟩
      have l4' : Stop (4 ≤ l.length) := ⟨l4⟩
      have l9 : l.length ≤ 1000 := by omega
      have hel := endsL_len l
      have hez : evs.length = (endsL l).length := by rw [hEv.length, List.length_map]
      clear l4 l6 hz
      refine ⟨LCg.CompSrc.ledger (ax := E) (by rfl) (by k_asm) (by k_asm) (.tail _ (.head _)) (by rw [List.size_toArray, sizeLine_eq]; omega) ?_⟩
      intro g
      refine compU_ind (fun i ys => TextsAre ys (((endsL l).take i).map (del l))) .nil ?_ ?_
      · rintro i3 ys v I3 oI3 C3 oC3 D3 m₃ h8 tk8 E3 hi3 hJ hv hNs hx F N off ne
        rw [List.getElem?_toArray] at hv
        obtain ⟨k, tq, rfl, hk⟩ := ints_at hEv hv
        obtain ⟨e, rfl, hel2, hk⟩ := endsL_at hk
        try dsimp only
        k_steps
        refine ⟨item_T (N.isList (.tail _ (.tail _ (.tail _ (.tail _ (.tail _ (.tail _ (.head _)))))))) hCv (by omega) (by rw [cardsL_len]; omega) (by rw [cardsL_len]; omega) ?_ ?_⟩
        rotate_left
        · with_unfolding_all rfl
        intro t'
        rw [Int.toNat_natCast, cardsL_at hel2]
        try dsimp only
        k_steps
        refine LCg.CompEnd.intro F N _ (fun _ hp => hp) off (.inr ⟨_, .tail _ (.head _), rfl, _, rfl⟩) ⟨rfl, ?_⟩
        rw [take_step hk, List.map_append]
        exact hJ.snoc
      · intro ys hJ
        rw [List.size_toArray, hez, List.take_length] at hJ
        unfold LCg.FinE
        intro D3 h9 tk9 F N o1
        try dsimp only
        k_steps
        refine ⟨neT (N.isList (.tail _ (.head _))) hLv (N.isList (.head _)) hJ (fun x hx => sgok x (ends_mem ((PL l b l4'.out l6'.out hs b0 b3).keys ▸ hx))) (fun x hx => sgok x (ends_mem hx)) (by dsimp only [Around.deeper, Ar]; omega) ?_⟩
        rw [show decide ((bookL (cardsL l)).map (·.1) = (endsL l).map (del l)) = true from decide_eq_true (PL l b l4'.out l6'.out hs b0 b3).keys]
        try dsimp only
        k_steps
        have hbl := bookL_len (cardsL l)
        rw [cardsL_len] at hbl
        refine ⟨list_vals (by rfl) (by k_asm) (by k_asm) (.head _) (.tail _ (.tail _ (.tail _ (.tail _ (.head _))))) hdB hP (by omega) ?_⟩
        intro LV c2 h10 tk10 uvs F3 N3 l3 hUv
        clear F N
        try dsimp only
        k_steps
        refine ⟨listComp_KU (knd := PySem.strKind PG w) (F₀ := F3) (by with_unfolding_all rfl) (by decide) (by rfl) (by decide) (by rfl) ?_⟩
        try dsimp only
        k_steps
        refine ⟨B, oB, kvs, _, rfl, rfl, hBl, F3, N3, (.tail _ (.tail _ (.tail _ (.tail _ (.tail _ (.head _)))))), hdB, (by rw [hP.length, sizeLine_eq]; omega), ?_⟩
        rintro _ ⟨g, rfl⟩
        refine compU_ind (fun i ys => IntsAre ys (((bookL (cardsL l)).take i).map (fun p => (((cardsL l).count p.1 : Nat) : Int)))) .nil ?_ ?_
        · rintro i3 ys v I3 oI3 C3 oC3 D3 m₃ h3 tk3 E3 hi3 hJ ⟨k, x, hk3, hkey⟩ hNs hx F N off ne
          obtain ⟨a, c, t', rfl, rfl, hk4⟩ := hP.at hk3
          obtain ⟨t, rfl⟩ := Value.isStrOf_shape hkey
          try dsimp only
          k_steps
          refine ⟨count_tx (N.isList (.tail _ (.tail _ (.tail _ (.tail _ (.tail _ (.tail _ (.tail _ (.tail _ (.tail _ (.head _)))))))))))  hCv ?_⟩
          try dsimp only
          k_steps
          refine LCg.CompEnd.intro F N _ (fun _ hp => hp) off (.tail _ (.tail _ (.tail _ (.tail _ (.tail _ (.head _)))))) ⟨rfl, ?_⟩
          rw [take_step hk4, List.map_append]
          exact ksk_snoc hJ
        · intro ys hJ
          rw [hP.length, List.take_length] at hJ
          unfold LCg.FinE
          intro D3 h9 tk9 F N o1
          try dsimp only
          k_steps
          refine ⟨ne_intsK (N.isList (.tail _ (.head _))) hUv (N.isList (.head _)) hJ (by dsimp only [Around.deeper, Ar]; omega) ?_⟩
          rw [show decide ((bookL (cardsL l)).map (·.2) = (bookL (cardsL l)).map (fun p => (((cardsL l).count p.1 : Nat) : Int))) = true from decide_eq_true (PL l b l4'.out l6'.out hs b0 b3).vals]
          try dsimp only
          k_steps
          exact hq _ _ ⟨rfl, _, _, _, _, rfl, F, fun p hp => N p (.tail _ (.tail _ (.tail _ (.tail _ (.tail _ hp))))), (by exact pS), (by exact pB), rfl, rfl⟩
    · clear F N
      have pl := PL l b l4 l6 hs b0 b3
      rintro f s' ⟨rfl, h5, tk5, m2, ts, rfl, F, N, pS, pB, pK, pE⟩
      try dsimp only
      k_steps
      refine ⟨after (fun f s' => Stop (f = Flow.next ∧ ∃ h' tk' m₁ ts, s' = { s with heap := h', toks := tk' } ∧ Fr s.heap L h' m₁ ∧ News s.heap L h' [(E, listOf evs.toArray ce), (B, oB), (C, listOf cvs.toArray cc), (L + 1 + 1, oC4), (L + 1, oW)] ∧
        m₁ (Str.ofString "size") = some (.int (l.length : Int) ts) ∧ m₁ (Str.ofString "bound") = some (.int b t2) ∧ m₁ (Str.ofString "book") = some (.ref B) ∧ m₁ (Str.ofString "ends") = some (.ref E))) ?_ ?_⟩
      · skip
        have hbl := bookL_len (cardsL l)
        rw [cardsL_len] at hbl
        have htot := pl.total
        have hkl : ∀ p ∈ bookL (cardsL l), p.1.length = l.length - 1 := fun p hp => key_len (pl.keys ▸ List.mem_map.mpr ⟨p, hp, rfl⟩)
        refine postV fun Q' hq => ?_
        refine wpAny_If ?_
        try dsimp only
        k_steps
        refine ⟨count_calls_spec (IsBook.ofNews N (.tail _ (.head _)) hdB hBl hP) (by k_in) (Top.keeps T F.keep) (by dsimp only [Around.deeper, Ar]; omega) (by dsimp only [Around.deeper, Ar]; omega) ?_⟩
        intro tt h6 tk6 g
        have F1 := Mine.Fr.grows F g
        have N1 := Mine.News.grows N g
        clear F N g
        rw [pl.total]
        try dsimp only
        k_steps
        · omega
        refine ⟨law_read_spec (n := l.length - 1) (IsBook.ofNews N1 (.tail _ (.head _)) hdB hBl hP) (by omega) (by omega) (by omega) hkl (by k_in) (Top.keeps T F1.keep) (by dsimp only [Around.deeper, Ar]; omega) (by dsimp only [Around.deeper, Ar]; omega) ?_⟩
        intro tt2 h7 tk7 g
        have F := Mine.Fr.grows F1 g
        have N := Mine.News.grows N1 g
        clear F1 N1 g
        rw [pl.read]
        try dsimp only
        k_steps
        · exact absurd rfl ‹l ≠ l›
        refine ⟨list_book (by rfl) F N (.tail _ (.head _)) hdB hBl hP (by omega) ?_⟩
        intro LB c h7 tk7 lvs F N l1 hLv
        try dsimp only
        k_steps
        refine ⟨rev_T F N (N.isList (.head _)) hLv (IsPart.int _ _) (by rw [List.length_map]; omega) ?_ (by with_unfolding_all rfl) (by intro _; with_unfolding_all rfl)⟩
        intro RB rvs h8 F N l2 hRv
        try dsimp only
        k_steps
        refine ⟨item_T (N.isList (.tail _ (.tail _ (.tail _ (.tail _ (.head _)))))) hCv (by omega) (by rw [cardsL_len]; omega) (by rw [cardsL_len]; omega) ?_ (by with_unfolding_all rfl)⟩
        intro t'
        rw [show (0 : Int).toNat = 0 from rfl, cardsL_at (by omega)]
        have hd0 : (del l 0).length = l.length - 1 := by unfold del; rw [List.length_append, List.length_take, List.length_drop]; omega
        try dsimp only
        k_steps
        refine ⟨law_words_spec hRv (by rw [List.length_reverse, List.length_map]; omega) ⟨by omega⟩ (by omega) (fun t ht => ?_) (N _ (.head _)).1 (by k_in) (Top.keeps T F.keep) (by dsimp only [Around.deeper, Ar]; omega) (by dsimp only [Around.deeper, Ar]; omega) ?_⟩
        · obtain ⟨p, hp, rfl⟩ := List.mem_map.mp (List.mem_reverse.mp ht)
          have := hkl p hp
          omega
        intro WD h9 tk9 us cu g hn hWD hUv
        obtain ⟨N1, offW⟩ := ls_new F N g hn hWD
        have F1 := Mine.Fr.grows F g
        clear F N g hn hWD
        rw [pl.words] at hUv
        try dsimp only
        k_steps
        rename_i F N _
        refine ⟨neT (us := [.str (S l) t1]) (N.isList (.tail _ (.head _))) hUv (N.isList (.head _)) (.cons l t1 .nil) (fun x hx => sgok x (by rw [List.mem_singleton.mp hx]; exact fun _ h => h)) (fun x hx => sgok x (by rw [List.mem_singleton.mp hx]; exact fun _ h => h)) (by dsimp only [Around.deeper, Ar]; omega) ?_⟩
        rw [show decide ([l] = [l]) = true from decide_eq_true rfl]
        try dsimp only
        k_steps
        exact hq _ _ ⟨rfl, _, _, _, _, rfl, F, fun p hp => N p (.tail _ (.tail _ (.tail _ (.tail _ hp)))), pS, pB, pK, pE⟩
      · clear F N
        rintro f s' ⟨rfl, h6, tk6, m3, ts, rfl, F, N, pS, pB, pK, pE⟩
        have l6' : Stop (l.length ≤ 6) := ⟨l6⟩
        have l4' : Stop (4 ≤ l.length) := ⟨l4⟩
        have l9 : l.length ≤ 1000 := by omega
        have l0 : 0 < l.length := by omega
        have hel := endsL_len l
        have hez : evs.length = (endsL l).length := by rw [hEv.length, List.length_map]
        clear l4 l6 hz
        try dsimp only
        k_steps
        refine ⟨LCt.Assign_ListComp_T (F₀ := by k_asm) (by rfl) (by with_unfolding_all rfl) (by with_unfolding_all rfl) (by decide) (by rfl) (by decide) (by rfl) (by rfl) (by rfl) ?_⟩
        try dsimp only
        k_steps
        rename_i TD ws hT F N hI _ _ _
        have hI : IntsAre ws ((initE l).map (fun (k : Nat) => (k : Int))) := by rw [List.length_map, ← List.map_take] at hI; exact hI
        have hwz : ws.length = (initE l).length := by rw [hI.length, List.length_map]
        have hwz2 : (initE l).length ≤ (endsL l).length := by unfold initE; rw [List.length_take]; omega
        refine ⟨LCt.CompSrcT.ledger (ax := TD) (by rfl) F N (.head _) (by rw [List.size_toArray, sizeLine_eq]; omega) ?_⟩
        intro g
        refine compT_ind (fun i ys => IntsAre ys ((((initE l).take i).filter (lowP l)).map (fun (k : Nat) => (k : Int)))) .nil ?_ ?_
        · rintro i3 ys v I3 oI3 C3 oC3 D3 m₃ h8 tk8 E3 hi3 hJ hv hNs hx F N off ne
          rw [List.getElem?_toArray] at hv
          obtain ⟨k, tq, rfl, hk⟩ := ints_at hI hv
          obtain ⟨e, rfl, hel2, hk⟩ := initE_at hk
          have hel3 : e < l.length := by omega
          have hT : ((initE l).take (i3 + 1)).filter (lowP l) = ((initE l).take i3).filter (lowP l) ++ [e].filter (lowP l) := by
            rw [take_step hk, List.filter_append]
          try dsimp only
          k_steps
          · rename_i hc
            rw [show ((e : Int) + 1).toNat = e + 1 by omega, Int.toNat_natCast, lt_S1] at hc
            refine LCg.CompEnd.intro F N _ (fun _ hp => hp) off (.inr ⟨_, .head _, rfl, _, rfl⟩) ⟨rfl, ?_⟩
            rw [hT, List.filter_cons_of_pos (p := lowP l) (decide_eq_true hc), List.map_append]
            exact ksk_snoc hJ
          · rename_i hc
            rw [show ((e : Int) + 1).toNat = e + 1 by omega, Int.toNat_natCast, lt_S1] at hc
            refine LCg.CompEnd.intro F N _ (fun _ hp => hp) off (.inr ⟨_, .head _, rfl, _, rfl⟩) ⟨rfl, ?_⟩
            rw [hT, List.filter_cons_of_neg (p := lowP l) (by rw [lowP, decide_eq_true_iff]; exact hc), List.filter_nil, List.append_nil]
            exact hJ
        intro ys hThere
        rw [List.size_toArray, hwz, List.take_length] at hThere
        unfold LCg.FinA
        clear F N
        intro TH h9 tk9 F N o1
        try dsimp only
        k_steps
        refine ⟨LCt.Assign_ListComp_T (F₀ := by k_asm) (by rfl) (by with_unfolding_all rfl) (by with_unfolding_all rfl) (by decide) (by rfl) (by decide) (by rfl) (by rfl) (by rfl) ?_⟩
        try dsimp only
        k_steps
        clear hI
        rename_i TD2 ws2 hT2 F N hI _ _ _
        have hI : IntsAre ws2 ((initE l).map (fun (k : Nat) => (k : Int))) := by rw [List.length_map, ← List.map_take] at hI; exact hI
        have hwz3 : ws2.length = (initE l).length := by rw [hI.length, List.length_map]
        refine ⟨LCt.CompSrcT.ledger (ax := TD2) (by rfl) F N (.head _) (by rw [List.size_toArray, sizeLine_eq]; omega) ?_⟩
        intro g
        refine compT_ind (fun i ys => IntsAre ys ((((initE l).take i).filter (upP l)).map (fun (k : Nat) => (k : Int)))) .nil ?_ ?_
        · rintro i3 ys v I3 oI3 C3 oC3 D3 m₃ h8 tk8 E3 hi3 hJ hv hNs hx F N off ne
          rw [List.getElem?_toArray] at hv
          obtain ⟨k, tq, rfl, hk⟩ := ints_at hI hv
          obtain ⟨e, rfl, hel2, hk⟩ := initE_at hk
          have hel3 : e < l.length := by omega
          have hT : ((initE l).take (i3 + 1)).filter (upP l) = ((initE l).take i3).filter (upP l) ++ [e].filter (upP l) := by
            rw [take_step hk, List.filter_append]
          try dsimp only
          k_steps
          · rename_i hc
            rw [show ((e : Int) + 1).toNat = e + 1 by omega, Int.toNat_natCast, lt_S1] at hc
            refine LCg.CompEnd.intro F N _ (fun _ hp => hp) off (.inr ⟨_, .head _, rfl, _, rfl⟩) ⟨rfl, ?_⟩
            rw [hT, List.filter_cons_of_pos (p := upP l) (decide_eq_true hc), List.map_append]
            exact ksk_snoc hJ
          · rename_i hc
            rw [show ((e : Int) + 1).toNat = e + 1 by omega, Int.toNat_natCast, lt_S1] at hc
            refine LCg.CompEnd.intro F N _ (fun _ hp => hp) off (.inr ⟨_, .head _, rfl, _, rfl⟩) ⟨rfl, ?_⟩
            rw [hT, List.filter_cons_of_neg (p := upP l) (by rw [upP, decide_eq_true_iff]; exact hc), List.filter_nil, List.append_nil]
            exact hJ
        intro ys2 hBack
        rw [List.size_toArray, hwz3, List.take_length] at hBack
        unfold LCg.FinA
        clear F N
        intro BK h10 tk10 F N o2
        try dsimp only
        k_steps
        refine ⟨after (fun f s' => Stop (f = Flow.next ∧ ∃ h' tk' m₁ ts, s' = { s with heap := h', toks := tk' } ∧ Fr s.heap L h' m₁ ∧ News s.heap L h' [(E, listOf evs.toArray ce), (B, oB), (C, listOf cvs.toArray cc), (L + 1 + 1, oC4), (L + 1, oW)] ∧
          m₁ (Str.ofString "size") = some (.int (l.length : Int) ts) ∧ m₁ (Str.ofString "bound") = some (.int b t2))) ?_ ?_⟩
        · skip
          refine postV fun Q' hq => ?_
          refine wpAny_If ?_
          try dsimp only
          k_steps
          have hbl := bookL_len (cardsL l)
          rw [cardsL_len] at hbl
          refine ⟨sorted_book (by rfl) F N (.tail _ (.tail _ (.tail _ (.tail _ (.tail _ (.head _)))))) hdB hBl hP (by have := l6'.out; omega) (fun x t h tk Fh => strxfrm_spec (X.keeps Fh.keep) (Top.keeps T Fh.keep) (by dsimp only [Around.deeper, Ar, Around.in1]; omega) (by dsimp only [Around.deeper, Ar, Around.in1]; omega) fun h' tk' g => ⟨rfl, h', tk', rfl, g⟩) ?_⟩
          intro SD h11 tk11 cs us ts' F3 N3 hUs hPerm hPw
          clear F N
          try dsimp only
          k_steps
          refine ⟨LCg.ListComp_U (F₀ := by k_asm) (by with_unfolding_all rfl) (by decide) (by rfl) (by decide) (by rfl) ?_⟩
          try dsimp only
          k_steps
          rename_i SL _ F N _
          have htl : (thereL l).length ≤ (endsL l).length := Nat.le_trans (List.length_filter_le _ _) hwz2
          have hbl2 : (backL l).length ≤ (endsL l).length := Nat.le_trans (List.length_filter_le _ _) hwz2
          refine ⟨kmk_add_ints (ws := [.int ((l.length : Int) - 1) _]) F N (N.isList (.tail _ (.tail _ (.tail _ (.tail _ (.head _)))))) (N.isList (.head _)) hThere (.cons _ _ .nil) ?_ (by rw [List.length_map, sizeLine_eq]; simp only [List.length_cons, List.length_nil]; show (thereL l).length + _ ≤ _; omega)⟩
          intro A1 as1 h12 F4 N4 _ hA1
          clear F N
          try dsimp only
          k_steps
          refine ⟨krv_ints F4 N4 (N4.isList (.tail _ (.tail _ (.tail _ (.head _))))) (IsPart.int _ _) hBack ?_ (by with_unfolding_all rfl) (by intro _; with_unfolding_all rfl) (by rw [List.size_toArray, hBack.length, List.length_map, sizeLine_eq]; show (backL l).length ≤ _; omega)⟩
          intro A2 as2 h13 F5 N5 _ hA2 _
          clear F4 N4
          try dsimp only
          k_steps
          refine ⟨kmk_add_ints F5 N5 (N5.isList (.tail _ (.head _))) (N5.isList (.head _)) hA1 hA2 ?_ (by simp only [List.length_append, List.length_map, List.length_reverse, List.length_cons, List.length_nil]; rw [sizeLine_eq]; show (thereL l).length + _ + (backL l).length ≤ _; omega)⟩
          intro A3 as3 h14 F N _ hA3
          have hA3 : IntsAre as3 ((walkL l).map (fun (k : Nat) => (k : Int))) := by
            have e : (walkL l).map (fun (k : Nat) => (k : Int)) = (thereL l).map (fun (k : Nat) => (k : Int)) ++ [(l.length : Int) - 1] ++ ((backL l).map (fun (k : Nat) => (k : Int))).reverse := by
              unfold walkL
              rw [List.map_append, List.map_append, List.map_reverse, List.map_singleton, show ((l.length - 1 : Nat) : Int) = (l.length : Int) - 1 by omega]
            rw [e]; exact hA3
          have haz : as3.length = (walkL l).length := by rw [hA3.length, List.length_map]
          have haz2 : (walkL l).length ≤ 1000 := by
            unfold walkL
            simp only [List.length_append, List.length_reverse, List.length_cons, List.length_nil]
            have := l6'.out
            omega
          clear F5 N5 hA1 hA2
          try dsimp only
          k_steps
          refine ⟨LCg.CompSrc.ledger (ax := A3) (by rfl) (by k_asm) (by k_asm) (.head _) (by rw [List.size_toArray, sizeLine_eq]; omega) ?_⟩
          intro g
          refine compU_ind (fun i ys => TextsAre ys (((walkL l).take i).map (del l))) .nil ?_ ?_
          · rintro i3 ys v I3 oI3 C3 oC3 D3 m₃ h8 tk8 E3 hi3 hJ hv hNs hx F N off ne
            rw [List.getElem?_toArray] at hv
            obtain ⟨k, tq, rfl, hk⟩ := ints_at hA3 hv
            obtain ⟨e, rfl, hel2, hk⟩ := walkL_at l0 hk
            try dsimp only
            k_steps
            refine ⟨item_T (N.isList (.tail _ (.tail _ (.tail _ (.tail _ (.tail _ (.tail _ (.tail _ (.tail _ (.tail _ (.tail _ (.tail _ (.tail _ (.tail _ (.tail _ (.head _)))))))))))))))) hCv (by omega) (by rw [cardsL_len]; omega) (by rw [cardsL_len]; omega) ?_ (by with_unfolding_all rfl)⟩
            intro t'
            rw [Int.toNat_natCast, cardsL_at hel2]
            try dsimp only
            k_steps
            refine LCg.CompEnd.intro F N _ (fun _ hp => hp) off (.inr ⟨_, .head _, rfl, _, rfl⟩) ⟨rfl, ?_⟩
            rw [take_step hk, List.map_append]
            exact hJ.snoc
          · intro ys hJ
            rw [List.size_toArray, haz, List.take_length] at hJ
            unfold LCg.FinE
            clear F N
            intro D3 h9 tk9 F N o1
            try dsimp only
            k_steps
            refine ⟨neT (N.isList (.tail _ (.tail _ (.tail _ (.tail _ (.tail _ (.head _))))))) hUs (N.isList (.head _)) hJ (fun x hx => sgok x (ends_mem (pl.keys ▸ hPerm.mem_iff.mp hx))) (fun x hx => sgok x (walk_mem hx)) (by dsimp only [Around.deeper, Ar]; omega) ?_⟩
            rw [show decide (ts' = (walkL l).map (del l)) = true from decide_eq_true (pl.sort ts' hPerm hPw)]
            try dsimp only
            k_steps
            exact hq _ _ ⟨rfl, _, _, _, _, rfl, F, fun p hp => N p (.tail _ (.tail _ (.tail _ (.tail _ (.tail _ (.tail _ (.tail _ (.tail _ (.tail _ (.tail _ hp)))))))))), (by exact pS), (by exact pB)⟩
        · clear F N
          rintro f s' ⟨rfl, h7, tk7, m4, ts4, rfl, F, N, pS, pB⟩
          try dsimp only
          k_steps
          refine ⟨LCg.Assign_ListComp_U (F₀ := by k_asm) (by rfl) (by with_unfolding_all rfl) (by with_unfolding_all rfl) (by decide) (by rfl) (by decide) (by rfl) (by rfl) (by rfl) ?_⟩
          try dsimp only
          k_steps
          refine ⟨LCg.CompSrc.range (n := l.length - 1) (by rfl) (by k_asm) (by k_asm) (by assumption) (small_of (by omega) (by omega) (by omega) (by omega) (.inl rfl)) (by rw [show (l.length : Int) - 1 = ((l.length - 1 : Nat) : Int) by omega]; exact rsize_one) (by rw [sizeLine_eq]; omega) ?_⟩
          intro g
          refine compU_ind (fun i ys => IntsAre ys ((List.range i).map fun k => cost (l.getD k 0) (l.getD (k + 1) 0))) .nil ?_ ?_
          · rintro i3 ys v I3 oI3 C3 oC3 D3 m₃ h5 tk3 E3 hi3 hJ ⟨tq, rfl⟩ hNs hx F N off ne
            rw [Int.zero_add] at hx
            try dsimp only
            k_steps
            refine ⟨anyE (subcost_spec (by k_in) (Top.keeps T F.keep) (by dsimp only [Around.deeper, Ar]; omega) (by dsimp only [Around.deeper, Ar]; omega) ?_)⟩
            intro tc h6 tk6 g
            have F1 := Mine.Fr.grows F g
            have N1 := Mine.News.grows N g
            clear F N g
            try dsimp only
            k_steps
            refine LCg.CompEnd.intro F1 N1 _ (fun _ hp => hp) off trivial ⟨rfl, ?_⟩
            rw [List.range_succ, List.map_append]
            exact ksk_snoc hJ
          · intro ys hSt
            unfold LCg.FinA
            intro ST h9 tk9 F N o1
            try dsimp only
            k_steps
            refine ⟨after (fun f s' => Stop (f = Flow.next ∧ ∃ h' tk' m₁ ts, s' = { s with heap := h', toks := tk' } ∧ Fr s.heap L h' m₁ ∧ News s.heap L h' [(ST, LCg.lst ys), (E, listOf evs.toArray ce), (B, oB), (C, listOf cvs.toArray cc), (L + 1 + 1, oC4), (L + 1, oW)] ∧
              m₁ (Str.ofString "size") = some (.int (l.length : Int) ts) ∧ m₁ (Str.ofString "bound") = some (.int b t2) ∧ m₁ (Str.ofString "steps") = some (.ref ST))) ?_ ?_⟩
            · refine postV fun Q' hq => ?_
              refine wpAny_If ?_
              try dsimp only
              k_steps
              refine ⟨LCg.ListComp_U (F₀ := by k_asm) (by with_unfolding_all rfl) (by decide) (by rfl) (by decide) (by rfl) ?_⟩
              try dsimp only
              k_steps
              refine ⟨LCg.CompSrc.range (n := l.length - 1) (by rfl) (by k_asm) (by k_asm) (by assumption) (small_of (by omega) (by omega) (by omega) (by omega) (.inl rfl)) (by rw [show (l.length : Int) - 1 = ((l.length - 1 : Nat) : Int) by omega]; exact rsize_one) (by rw [sizeLine_eq]; omega) ?_⟩
              intro g
              refine compU_ind (fun i ys => IntsAre ys ((List.range i).map fun k => stepF (l.getD k 0) (l.getD (k + 1) 0))) .nil ?_ ?_
              · rintro i3 ys v I3 oI3 C3 oC3 D3 m₃ h5 tk3 E3 hi3 hJ ⟨tq, rfl⟩ hNs hx F N off ne
                rw [Int.zero_add] at hx
                try dsimp only
                k_steps
                refine ⟨anyE (law_step_spec (by k_in) (Top.keeps T F.keep) (by dsimp only [Around.deeper, Ar]; omega) (by dsimp only [Around.deeper, Ar]; omega) ?_)⟩
                intro tc h6 tk6 g
                have F1 := Mine.Fr.grows F g
                have N1 := Mine.News.grows N g
                clear F N g
                try dsimp only
                k_steps
                refine LCg.CompEnd.intro F1 N1 _ (fun _ hp => hp) off trivial ⟨rfl, ?_⟩
                rw [List.range_succ, List.map_append]
                exact ksk_snoc hJ
              · intro ys2 hSt2
                unfold LCg.FinE
                intro D3 h9 tk9 F N o1
                try dsimp only
                k_steps
                refine ⟨ne_intsK (N.isList (.tail _ (.head _))) hSt (N.isList (.head _)) hSt2 (by dsimp only [Around.deeper, Ar]; omega) ?_⟩
                rw [show decide ((List.range (l.length - 1)).map (fun k => cost (l.getD k 0) (l.getD (k + 1) 0)) = (List.range (l.length - 1)).map (fun k => stepF (l.getD k 0) (l.getD (k + 1) 0))) = true from decide_eq_true pl.steps]
                try dsimp only
                k_steps
                exact hq _ _ ⟨rfl, _, _, _, _, rfl, F, fun p hp => N p (.tail _ hp), (by exact pS), (by exact pB), rfl⟩
            · clear F N pS pB
              rintro f s' ⟨rfl, h8, tk8, m5, ts5, rfl, F, N, pS, pB, pT⟩
              try dsimp only
              k_steps
              rename_i F N
              refine ⟨For_invV s.heap (by rfl) (by rfl) ?_⟩
              try dsimp only
              k_steps
              rename_i hIR F N hkk
              refine ⟨iter_range (n := l.length) (fun i m₁ nx => nx = [(ST, LCg.lst ys), (C, listOf cvs.toArray cc), (L + 1 + 1, oC4), (L + 1, oW)] ∧ ∃ tm ts6, 
                m₁ (Str.ofString "size") = some (.int (l.length : Int) ts6) ∧ m₁ (Str.ofString "bound") = some (.int b t2) ∧ m₁ (Str.ofString "steps") = some (.ref ST) ∧ m₁ (Str.ofString "most") = some (.int ([1, 2, 4, 4].getD b.toNat 0) tm))
                (by rfl) (by assumption) (small_of (by omega) (by omega) (by omega) (by omega) (.inl rfl)) rsize_one (by assumption) (fun p hp => ?_) ⟨rfl, _, _, (by exact pS), (by exact pB), (by exact pT), rfl⟩ ?_ ?_⟩
              · refine N p ?_
                simp only [List.mem_cons] at hp ⊢
                rcases hp with h | h | h | h | h <;> simp [h]
              · rintro I i t m₁ nx h tk own hi ⟨rfl, tm, ts6, p1, p2, p3, p4⟩ hne hI hoff F N
                simp only [List.cons_append, List.nil_append, Int.zero_add, Int.mul_one] at F N
                refine postV fun Q' hq => ?_
                try dsimp only
                k_steps
                refine ⟨wpAny_If ?_⟩
                try dsimp only
                k_steps
                refine ⟨item_T (N.isList (.tail _ (.head _))) hCv (by omega) (by rw [cardsL_len]; omega) (by rw [cardsL_len]; omega) ?_ (by with_unfolding_all rfl)⟩
                intro t'
                rw [Int.toNat_natCast, cardsL_at hi]
                try dsimp only
                k_steps
                have hdl : ∀ k, k < l.length → (del l k).length ≤ 6 := fun k hk => by unfold del; rw [List.length_append, List.length_take, List.length_drop]; have := l6'.out; omega
                refine ⟨lev_spec ⟨b0, b3⟩ (Nat.le_succ_of_le l6'.out) (Nat.le_succ_of_le (hdl i hi)) (by k_in) (Top.keeps T F.keep) (by dsimp only [Around.deeper, Ar]; omega) (by dsimp only [Around.deeper, Ar]; omega) ?_⟩
                intro tl h10 tk10 g
                have F1 := Mine.Fr.grows F g
                have N1 := Mine.News.grows N g
                clear F N g
                rw [pl.levw i hi]
                try dsimp only
                k_steps
                refine ⟨For_invV s.heap (by rfl) (by rfl) ?_⟩
                try dsimp only
                k_steps
                rename_i hIR2 F N hkk2
                refine ⟨iter_range (n := l.length - (i + 1)) (fun k m₁ nx => nx = (ST, LCg.lst ys) :: (C, listOf cvs.toArray cc) :: (L + 1 + 1, oC4) :: (L + 1, oW) :: own ∧ ∃ tm ts6 ti, 
                  m₁ (Str.ofString "size") = some (.int (l.length : Int) ts6) ∧ m₁ (Str.ofString "bound") = some (.int b t2) ∧ m₁ (Str.ofString "steps") = some (.ref ST) ∧ m₁ (Str.ofString "most") = some (.int ([1, 2, 4, 4].getD b.toNat 0) tm) ∧ m₁ (Str.ofString "i") = some (.int (i : Int) ti))
                  (by rfl) hIR2 (small_of (by omega) (by omega) (by omega) (by omega) (.inl rfl)) (rsize_from hi) F N ⟨rfl, _, _, _, (by exact p1), (by exact p2), (by exact p3), (by exact p4), rfl⟩ ?_ ?_⟩
                · clear F N p1 p2 p3 p4 hIR2 hkk2
                  rintro I2 k t m₁ nx h tk own2 hk ⟨rfl, tm, ts6, ti, p1, p2, p3, p4, p5⟩ hne2 hI2 hoff2 F N
                  have hj : i + 1 + k < l.length := by omega
                  have ej : (i : Int) + 1 + (k : Int) * 1 = ((i + 1 + k : Nat) : Int) := by omega
                  simp only [List.cons_append, List.nil_append] at F N
                  rw [ej] at F
                  generalize hjj : i + 1 + k = j at hj F
                  have hij : i < j := by omega
                  clear ej hjj hk
                  refine postV fun Q2 hq2 => ?_
                  try dsimp only
                  k_steps
                  refine ⟨law_lower_spec (Nat.le_trans l6'.out (by decide)) (Nat.le_of_lt hij) hj (by k_in) (Top.keeps T F.keep) (by dsimp only [Around.deeper, Ar]; omega) (by dsimp only [Around.deeper, Ar]; omega) ?_⟩
                  intro tl2 h11 tk11 g
                  have F1 := Mine.Fr.grows F g
                  have N1 := Mine.News.grows N g
                  clear F N g
                  try dsimp only
                  k_steps
                  rename_i F1 N1
                  refine ⟨wpAny_If ?_⟩
                  try dsimp only
                  k_steps
                  refine ⟨item_T (N1.isList (.tail _ (.head _))) hCv (by omega) (by rw [cardsL_len]; omega) (by rw [cardsL_len]; omega) ?_ (by with_unfolding_all rfl)⟩
                  intro t'
                  rw [Int.toNat_natCast, cardsL_at hi]
                  try dsimp only
                  k_steps
                  refine ⟨item_T (N1.isList (.tail _ (.head _))) hCv (by omega) (by rw [cardsL_len]; omega) (by rw [cardsL_len]; omega) ?_ (by with_unfolding_all rfl)⟩
                  intro t'
                  rw [Int.toNat_natCast, cardsL_at hj]
                  try dsimp only
                  k_steps
                  refine ⟨strcoll_spec (by k_in) (Top.keeps T F1.keep) (by dsimp only [Around.deeper, Ar]; omega) (by dsimp only [Around.deeper, Ar]; omega) ?_⟩
                  intro tl3 h12 tk12 g
                  have F := Mine.Fr.grows F1 g
                  have N := Mine.News.grows N1 g
                  clear F1 N1 g
                  rw [pl.strc i j hij hj]
                  try dsimp only
                  k_steps
                  · omega
                  refine ⟨item_T (N.isList (.tail _ (.head _))) hCv (by omega) (by rw [cardsL_len]; omega) (by rw [cardsL_len]; omega) ?_ (by with_unfolding_all rfl)⟩
                  intro t'
                  rw [Int.toNat_natCast, cardsL_at hj]
                  try dsimp only
                  k_steps
                  refine ⟨item_T (N.isList (.tail _ (.head _))) hCv (by omega) (by rw [cardsL_len]; omega) (by rw [cardsL_len]; omega) ?_ (by with_unfolding_all rfl)⟩
                  intro t'
                  rw [Int.toNat_natCast, cardsL_at hi]
                  try dsimp only
                  k_steps
                  refine ⟨strcoll_spec (by k_in) (Top.keeps T F.keep) (by dsimp only [Around.deeper, Ar]; omega) (by dsimp only [Around.deeper, Ar]; omega) ?_⟩
                  intro tl4 h13 tk13 g
                  have F1 := Mine.Fr.grows F g
                  have N1 := Mine.News.grows N g
                  clear F N g
                  rw [pl.strc' i j hij hj]
                  try dsimp only
                  k_steps
                  · omega
                  refine ⟨wpAny_If ?_⟩
                  try dsimp only
                  k_steps
                  refine ⟨item_T (N1.isList (.tail _ (.head _))) hCv (by omega) (by rw [cardsL_len]; omega) (by rw [cardsL_len]; omega) ?_ (by with_unfolding_all rfl)⟩
                  intro t'
                  rw [Int.toNat_natCast, cardsL_at hi]
                  try dsimp only
                  k_steps
                  refine ⟨item_T (N1.isList (.tail _ (.head _))) hCv (by omega) (by rw [cardsL_len]; omega) (by rw [cardsL_len]; omega) ?_ (by with_unfolding_all rfl)⟩
                  intro t'
                  rw [Int.toNat_natCast, cardsL_at hj]
                  try dsimp only
                  k_steps
                  refine ⟨lev_spec ⟨b0, b3⟩ (Nat.le_succ_of_le (hdl i hi)) (Nat.le_succ_of_le (hdl j hj)) (by k_in) (Top.keeps T F1.keep) (by dsimp only [Around.deeper, Ar]; omega) (by dsimp only [Around.deeper, Ar]; omega) ?_⟩
                  intro tl5 h14 tk14 g
                  have F := Mine.Fr.grows F1 g
                  have N := Mine.News.grows N1 g
                  clear F1 N1 g
                  rw [pl.levc i j hij hj]
                  try dsimp only
                  k_steps
                  have hsz : ys.length = l.length - 1 := by rw [hSt.length, List.length_map, List.length_range]
                  refine ⟨kmk_slice_ints F N (N.isList (.head _)) (IsPart.int _ _) (IsPart.int _ _) hSt (kmk_run hSt (by omega) (by omega)) rfl ?_ (by with_unfolding_all rfl) (by intro _; with_unfolding_all rfl) (by rw [List.size_toArray, sizeLine_eq]; omega)⟩
                  intro SD sd h15 F1 N1 _ hSd _ _
                  rw [List.length_map, List.length_range, Int.toNat_natCast, Int.toNat_natCast, show min j (l.length - 1) - i = j - i by omega] at hSd
                  clear F N
                  try dsimp only
                  k_steps
                  · rename_i hq
                    exact (hq rfl).elim
                  rename_i F N _
                  exact hq2 _ _ <| TurnEnd.next F (nx := (ST, LCg.lst ys) :: (C, listOf cvs.toArray cc) :: (L + 1 + 1, oC4) :: (L + 1, oW) :: own) (fun p hp => N p (.tail _ hp)) hne2 ⟨rfl, tm, ts6, ti, (by exact p1), (by exact p2), (by exact p3), (by exact p4), (by exact p5)⟩
                · rintro m₁ nx h tk ⟨rfl, tm, ts6, ti, p1, p2, p3, p4, p5⟩ F N
                  try dsimp only
                  k_steps
                  exact hq _ _ <| TurnEnd.next F (nx := [(ST, LCg.lst ys), (C, listOf cvs.toArray cc), (L + 1 + 1, oC4), (L + 1, oW)]) N hne ⟨rfl, tm, ts6, p1, p2, p3, p4⟩
              · rintro m₁ nx h tk ⟨rfl, tm, ts6, p1, p2, p3, p4⟩ F N
                try dsimp only
                k_steps
                exact hR _ _ F.keep
end
end
end Mine
end
open PySem PySem.W PySem.Spec PySem.Calls PyProof.Rows
set_option maxRecDepth 100000
namespace Mine
theorem law_at {p : Params} : nsIn (hd.heap_39 p) mainGlobals (Str.ofString "law") = some (some (.ref 145)) := by
  first | rfl | decide +kernel
theorem post_true (args : List WData) : PySem.Challenge.rw_xp0009_01.row.claim.post args (.bool true) args = true := by
  refine postW_of (X := true) (by first | decide +kernel | rfl | wrow_shape) ?_ rfl
  first | rfl | wtm_val
end Mine
set_option maxHeartbeats 8000000 in
theorem PySem.Challenge.cw_xp0009_01_holds : PySem.Challenge.rw_xp0009_01.Holds := by
  refine Mine.hd ?_
  intro w s₀ s₁ mg mb G Y fa o pm cd doc dV kV ho hdat hcd hD hmg hg args vals as hpre hlay hrd hwl hlo
  have KX := kIn_of Y
  refine Ground.open G ?_
  intro T B D TE TW
  wrow_args hpre hlay hrd hwl hlo
  all_goals
    refine enter_call ?_
    w_top on
    refine codeAny_mono ?_ (fun _ _ g => GoodW.toG g)
    have hfa := hmg.symm.trans (mg_of KX T.g Mine.law_at)
    cases hfa
    rename_i hL ra w1 r0 hI hr hlen _
    refine Mine.law_spec hL hI (by omega) (fun l b h4 h6 hs b0 b3 => Mine.plain h4 h6 hs b0 b3) KX T (by decide) (by decide) (fun h' tk' g => ?_)
    exact ⟨.inl ⟨.bool true, .bool true, [], rfl, raisesW_false (by intro ct hct; exact nomatch hct), .bool true, Mine.post_true _, unshared_nil⟩, g, rfl, hg⟩
