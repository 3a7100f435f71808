import PyProof.Rows.All
import Wide.All
import OpenK.AllK
import Wide.FinOn
import PySem.Challenge.RW_sn0042_01
open PySem PySem.W PyProof.Rows PySem.Calls
set_option Elab.async false
namespace Mine
set_option maxRecDepth 100000 in
set_option maxHeartbeats 8000000 in
open_top hd for PySem.Challenge.rw_sn0042_01
theorem at1 {a b : Prop} (h : a ∧ b) : a := h.1
theorem at2 {a b : Prop} (h : a ∧ b) : b := h.2
local macro_rules | `(tactic| walk_at $s:str) => `(tactic| k_extra $s)
local macro_rules | `(tactic| omega) => `(tactic| first | omega -splitDisjunctions | (k_extra "noNe"; omega +splitDisjunctions) | omega +splitDisjunctions)
local macro_rules | `(tactic| k_ne) => `(tactic| (refine neN ?_; (try dsimp only); first | k_extra "conj" | (refine Ne.symm ?_; k_extra "conj") | (refine Nat.ne_of_lt ?_; k_extra "conj") | (refine Nat.ne_of_gt ?_; k_extra "conj") | omega))
theorem fresh1 : True := by
  (try walk1)
  w_top off
  k_with_none
  k_with "conj" => (first | with_reducible assumption | exact (at1 (by with_reducible assumption)) | exact (at1 (at2 (by with_reducible assumption))) | exact (at2 (by with_reducible assumption)) | exact (at1 (at2 (at2 (by with_reducible assumption)))) | exact (at2 (at2 (by with_reducible assumption))) | exact (at1 (at2 (at2 (at2 (by with_reducible assumption))))) | exact (at2 (at2 (at2 (by with_reducible assumption)))) | exact (at1 (at2 (at2 (at2 (at2 (by with_reducible assumption)))))) | exact (at2 (at2 (at2 (at2 (by with_reducible assumption))))) | exact (at1 (at2 (at2 (at2 (at2 (at2 (by with_reducible assumption))))))) | exact (at2 (at2 (at2 (at2 (at2 (by with_reducible assumption)))))) | exact (at1 (at2 (at2 (at2 (at2 (at2 (at2 (by with_reducible assumption)))))))) | exact (at2 (at2 (at2 (at2 (at2 (at2 (by with_reducible assumption))))))) | exact (at1 (at2 (at2 (at2 (at2 (at2 (at2 (at2 (by with_reducible assumption))))))))) | exact (at2 (at2 (at2 (at2 (at2 (at2 (at2 (by with_reducible assumption)))))))) | exact (at1 (at2 (at2 (at2 (at2 (at2 (at2 (at2 (at2 (by with_reducible assumption)))))))))) | exact (at2 (at2 (at2 (at2 (at2 (at2 (at2 (at2 (by with_reducible assumption))))))))) | exact (at1 (at2 (at2 (at2 (at2 (at2 (at2 (at2 (at2 (at2 (by with_reducible assumption))))))))))) | exact (at2 (at2 (at2 (at2 (at2 (at2 (at2 (at2 (at2 (by with_reducible assumption)))))))))) | exact (at1 (at1 (by with_reducible assumption))) | exact (at1 (at2 (at1 (by with_reducible assumption)))) | exact (at2 (at2 (at1 (by with_reducible assumption)))) | exact (at1 (at1 (at2 (by with_reducible assumption)))) | exact (at1 (at2 (at1 (at2 (by with_reducible assumption))))) | exact (at2 (at2 (at1 (at2 (by with_reducible assumption))))) | exact (at1 (at1 (at2 (at2 (by with_reducible assumption))))) | exact (at1 (at2 (at1 (at2 (at2 (by with_reducible assumption)))))) | exact (at2 (at2 (at1 (at2 (at2 (by with_reducible assumption)))))) | exact (at1 (at1 (at2 (at2 (at2 (by with_reducible assumption)))))) | exact (at1 (at2 (at1 (at2 (at2 (at2 (by with_reducible assumption))))))) | exact (at2 (at2 (at1 (at2 (at2 (at2 (by with_reducible assumption))))))) | exact (at1 (at1 (at2 (at2 (at2 (at2 (by with_reducible assumption))))))) | exact (at1 (at2 (at1 (at2 (at2 (at2 (at2 (by with_reducible assumption)))))))) | exact (at2 (at2 (at1 (at2 (at2 (at2 (at2 (by with_reducible assumption)))))))) | exact (at1 (at1 (at2 (at2 (at2 (at2 (at2 (by with_reducible assumption)))))))) | exact (at1 (at2 (at1 (at2 (at2 (at2 (at2 (at2 (by with_reducible assumption))))))))) | exact (at2 (at2 (at1 (at2 (at2 (at2 (at2 (at2 (by with_reducible assumption))))))))) | exact (at1 (at1 (at2 (at2 (at2 (at2 (at2 (at2 (by with_reducible assumption))))))))) | exact (at1 (at2 (at1 (at2 (at2 (at2 (at2 (at2 (at2 (by with_reducible assumption)))))))))) | exact (at2 (at2 (at1 (at2 (at2 (at2 (at2 (at2 (at2 (by with_reducible assumption)))))))))) | fail)
  k_with "noNe" => ((repeat (rename (@Ne Nat _ _) => hx9; clear hx9)); (repeat (rename (@Ne Nat _ _ ∧ _) => hx9; clear hx9)); (repeat (rename ((@Ne Nat _ _ ∧ _) ∧ _) => hx9; clear hx9)))
  trivial
section
noncomputable abbrev PP : Program := PySem.Challenge.rw_sn0042_01.row.prog

/-- all that stood, but for the ledger's own, stands in the callee's ground -/
noncomputable def Stays (news : List (Addr × Obj)) (h g : Heap) : Prop := ∀ b o, h.get? b = some o → b ∉ news.map (·.1) → g.get? b = some o

theorem Stays.trans {news : List (Addr × Obj)} {h g h' : Heap} {L : Addr} {m : Str → Option Value} (S : Stays news h g) (F : Fr g L h' m) : Stays news h h' := fun b o e hb => F.keep b o (S b o e hb)
theorem Stays.news {h₀ h h' : Heap} {L : Addr} {news : List (Addr × Obj)} (S : Stays [] h h') (N : News h₀ L h news) : News h₀ L h' news := fun p hp => ⟨S _ _ (N p hp).1 List.not_mem_nil, (N p hp).2⟩
theorem Stays.newsOf {h₀ h h' : Heap} {L : Addr} {nl nl' rest : List (Addr × Obj)} (S : Stays nl h h') (N : News h₀ L h rest) (N' : News h₀ L h' nl') (hd : ∀ q ∈ rest, q.1 ∉ nl.map (·.1)) : News h₀ L h' (nl' ++ rest) := fun p hp =>
  (List.mem_append.mp hp).elim (fun e => N' p e) fun e => ⟨S _ _ (N p e).1 (hd p e), (N p e).2⟩
theorem news_isList {h₀ h : Heap} {L l : Addr} {vs : Array Value} {n : Nat} {news : List (Addr × Obj)} (N : News h₀ L h news) (hm : (l, listOf vs n) ∈ news) : h.IsList l vs := ⟨_, (N _ hm).1, rfl, _, rfl⟩
theorem new_off {h₀ h g : Heap} {L r : Addr} {news : List (Addr × Obj)} (S : Stays [] h g) (N : News h₀ L h news) (hn : g.get? r = none) : ∀ q ∈ news, q.1 ≠ r := fun q hq e => by
  have := S _ _ (N q hq).1 List.not_mem_nil
  rw [e, hn] at this
  cases this
theorem news_drop2 {h₀ h : Heap} {L : Addr} {a b c d e f : Addr × Obj} (N : News h₀ L h [a, b, c, d, e, f]) : News h₀ L h [a, b, e, f] := fun p hp => N p (by
  simp only [List.mem_cons, List.not_mem_nil, or_false] at hp ⊢
  rcases hp with h | h | h | h <;> simp [h])
theorem news_cons {h₀ h : Heap} {L : Addr} {q : Addr × Obj} {nl news : List (Addr × Obj)} (N : News h₀ L h nl) (hm : q ∈ nl) (N' : News h₀ L h news) : News h₀ L h (q :: news) := fun p hp => by
  rcases List.mem_cons.mp hp with rfl | hp
  · exact N _ hm
  · exact N' _ hp
theorem ret_int {Q : Value → Shared → Prop} {v b : Int} {t : Tok} {s : Shared} (h : Q (.int b t) s) (e : v = b) : Q (.int v t) s := e ▸ h
theorem ret_bytes {Q : Value → Shared → Prop} {v b : Array UInt8} {t : Tok} {s : Shared} (h : Q (.bytes b t) s) (e : v = b) : Q (.bytes v t) s := e ▸ h
theorem stays_isList {news : List (Addr × Obj)} {h g : Heap} {l : Addr} {vs : Array Value} (S : Stays news h g) (hn : l ∉ news.map (·.1)) (H : h.IsList l vs) : g.IsList l vs := by
  obtain ⟨o, ho, r⟩ := H
  exact ⟨o, S l o ho hn, r⟩

section
variable {prog : Program} {w : World} {A A₀ : Around} {s : Shared} {K : Frag} {L : Addr} {h₀ base : Heap} {m mg mb : Str → Option Value} {news : List (Addr × Obj)} {p : Program} {loose : List Str} {mean : ExcName → Option Value}
theorem enter {env : Env} {outer : List Env} {R : Result → Shared → Prop} {name qual : Str} {params : Arguments} {body : List Stmt} {scope : Scope} {dV kV doc pm cdv ct oc : Value} {an od : Option Addr} {osl : Array (Option Value)} {f : Addr} {args : Args} {binds : List (Str × Value)}
    (B : Below A₀ base outer h₀) (F : Fr h₀ L s.heap m) (X₀ : K.In h₀) (N : News h₀ L s.heap news) (T : Top p loose mean mg mb h₀) (hA : A.frames = some (env :: outer)) (hf : env.frame = some L) (hke : env.scope.kind = .function)
    (ho : K.lookup f = some ⟨oc, od, .func (fnOf name qual params body scope dV kV doc pm an cdv ct), osl⟩) (hcd : codeIn K cdv qual = true) (hroom : A.depth < recursionLimit)
    (hbind : BindsTo s (fnOf name qual params body scope dV kV doc pm an cdv ct) args binds) (hloc : ∀ y ∈ binds, scope.names.lookup y.1 = some .local)
    (h : ∀ g L' h₁, Fr h₀ L g m → Fr g L' h₁ (fun y => binds.reverse.lookup y) → News g L' h₁ news → Below A base (env :: outer) g → K.In g → Top p loose mean mg mb g → Stays news s.heap g →
      wpAny (model prog w) (A.deeper (envOf qual scope L' f cdv)) (execs body (envOf qual scope L' f cdv))
        (fun fl s' => LeaveK h₀ L m g R (match fl with | .ret v => v | _ => .none) s')
        (fun e s' => wpAny (model prog w) (A.deeper (envOf qual scope L' f cdv)) (leaving (envOf qual scope L' f cdv) e) (fun _ s'' => R (.error e) s'') (fun e' s'' => R (.error e') s'') s')
        { s with heap := h₁, toks := s.toks + binds.length })
    (hco : scope.isCoroutine = false) (hgen : scope.isGenerator = false) (hk : scope.kind = .function)
    (hcell : ∀ x ∈ scope.names, x.2 ≠ .cell) : codeAny (model prog w) A (.call (.ref f) args) R s := by
  obtain ⟨FG, BG, st, lv⟩ := groundX (R := R) B F N hA hf hke
  refine codeAny_call_def (fd := fnOf name qual params body scope dV kV doc pm an cdv ct) (body := body) (binds := binds) hroom ((X₀.keeps F.keep) _ _ ho) rfl (T.nolimit.keeps F.keep) (codeRec_of (X₀.keeps F.keep) hcd) rfl hbind hcell hloc (fun h₁ hns hk₁ => ?_) hco hgen hk
  exact wpAny_mono (h _ s.heap.objs.size h₁ FG ⟨hns, fun b o e => hk₁ b o (of_hideAll _ e), Nat.le_of_eq (hideAll_size _ _)⟩
    (fun q hq => ⟨hk₁ _ _ (N q hq).1, Nat.ne_of_lt (Heap.lt_size (N q hq).1), hideAll_none _ (List.mem_map_of_mem hq)⟩) BG (X₀.keeps st) (T.keeps st) (fun b o e hb => hideAll_get _ e hb)) (fun fl s' hl => lv _ _ hl) fun _ _ y => y
theorem enterC {env : Env} {outer : List Env} {R : Result → Shared → Prop} {name qual : Str} {params : Arguments} {body : List Stmt} {scope : Scope} {dV kV doc pm cdv ct oc : Value} {an od : Option Addr} {osl : Array (Option Value)} {f : Addr} {args : Args} {binds : List (Str × Value)}
    (B : Below A₀ base outer h₀) (F : Fr h₀ L s.heap m) (X₀ : K.In h₀) (N : News h₀ L s.heap news) (T : Top p loose mean mg mb h₀) (hA : A.frames = some (env :: outer)) (hf : env.frame = some L) (hke : env.scope.kind = .function)
    (ho : K.lookup f = some ⟨oc, od, .func (fnOf name qual params body scope dV kV doc pm an cdv ct), osl⟩) (hcd : codeIn K cdv qual = true) (hroom : A.depth < recursionLimit)
    (hbind : BindsTo s (fnOf name qual params body scope dV kV doc pm an cdv ct) args binds) (hkind : (binds.all fun y => scope.names.lookup y.1 == some .local || scope.names.lookup y.1 == some .cell) = true)
    (hnd : ((cellsFrom 0 scope.names []).map (·.1)).Nodup)
    (h : ∀ g L' h₁ tk cells, Fr h₀ L g m → Fr g L' h₁ (bindL (envOfC qual scope L' f cdv).kindOf binds fun _ => none) → News g L' h₁ (cells ++ news) →
      CellsAre (bindC (envOfC qual scope L' f cdv).kindOf binds fun _ => none) (cellsFrom (L' + 1) scope.names []) cells → Below A base (env :: outer) g → K.In g → Top p loose mean mg mb g → Stays news s.heap g → (∀ q ∈ news, q.1 < L') →
      wpAny (model prog w) (A.deeper (envOfC qual scope L' f cdv)) (execs body (envOfC qual scope L' f cdv))
        (fun fl s' => LeaveK h₀ L m g R (match fl with | .ret v => v | _ => .none) s')
        (fun e s' => wpAny (model prog w) (A.deeper (envOfC qual scope L' f cdv)) (leaving (envOfC qual scope L' f cdv) e) (fun _ s'' => R (.error e) s'') (fun e' s'' => R (.error e') s'') s')
        { s with heap := h₁, toks := tk })
    (hco : scope.isCoroutine = false) (hgen : scope.isGenerator = false) (hk : scope.kind = .function) : codeAny (model prog w) A (.call (.ref f) args) R s := by
  obtain ⟨FG, BG, st, lv⟩ := groundX (R := R) B F N hA hf hke
  have XH := X₀.keeps F.keep
  refine codeAny_call_function hroom (XH _ _ ho) rfl hco hgen rfl (codeRec_of XH hcd) (hbind _ _ _ _ ?_)
  refine wpAny_newFunctionEnv_cells hk (kindsX hkind _) fun env' he s' x => ?_
  subst he
  have hk₁ := x.toInCall.keep
  refine ⟨(T.nolimit.keeps F.keep).keeps hk₁, codeAny_func ?_⟩
  obtain ⟨h₁, tk, rfl, _⟩ := x.done
  obtain ⟨cells, NC, Y⟩ := Cl.news (h₀ := s.heap) (Nat.le_refl _) fun n c hm => ⟨x.cell n c (lookup_of_mem_nodup (cellsFrom_names scope.names 0 (s.heap.objs.size + 1) [] [] rfl ▸ hnd) hm), x.above n c hm⟩
  have hN : News (hideAll s.heap (news.map (·.1))) s.heap.objs.size h₁ (cells ++ news) := fun q hq => by
    rcases List.mem_append.mp hq with hq | hq
    · refine ⟨(NC q hq).1, (NC q hq).2.1, ?_⟩
      cases e : (hideAll s.heap (news.map (·.1))).get? q.1 with
      | none => rfl
      | some o =>
        have := of_hideAll _ e
        rw [(NC q hq).2.2] at this
        cases this
    · exact ⟨hk₁ _ _ (N q hq).1, Nat.ne_of_lt (Heap.lt_size (N q hq).1), hideAll_none _ (List.mem_map_of_mem hq)⟩
  exact wpAny_mono (h _ s.heap.objs.size h₁ tk cells FG ⟨x.toInCall.ns, fun b o e => hk₁ b o (of_hideAll _ e), Nat.le_of_eq (hideAll_size _ _)⟩ hN Y BG (X₀.keeps st) (T.keeps st) (fun b o e hb => hideAll_get _ e hb) (fun q hq => Heap.lt_size (N q hq).1)) (fun fl s' hl => lv _ _ hl) fun _ _ y => y
end

theorem ns_one {h : Heap} {d : Addr} {o : Obj} {hsh : Int} {kn : Str} {tk : Tok} {v : Value} {n : Nat} (ho : h.get? d = some o) (hd : o.data = .dict #[⟨hsh, .str kn tk, v⟩] n) : h.Ns d (fun x => if kn == x then some v else none) := by
  refine ⟨o, _, _, ho, hd, ?_, fun x => ?_⟩
  · intro e he
    simp only [List.mem_toArray, List.mem_singleton] at he
    exact ⟨kn, tk, by rw [he]⟩
  · unfold nsFind findBy
    simp only [List.find?_toArray, List.find?_cons, List.find?_nil, Value.isStr]
    cases kn == x <;> rfl

theorem binds_kw {s : Shared} {K : Frag} {fd : FuncData} {args : Args} {binds : List (Str × Value)} {T d : Addr} {o od : Obj} {items : Array Value} {n nd : Nat} {hsh : Int} {kn : Str} {tk : Tok} {v : Value}
    {k : Option (Array Value) → Sem (List (Str × Value))} {α β : Type} {k2 : Option Value → Sem α} {k3 : α → Sem β} {k4 : β → Sem (List (Str × Value))} (X : K.In s.heap) (hd : fd.defaults = .ref T) (ho : K.lookup T = some o) (hs : o.data = .seq items n)
    (_hkd : fd.kwdefaults = .ref d) (hod : K.lookup d = some od) (hdd : od.data = .dict #[⟨hsh, .str kn tk, v⟩] nd)
    (h₁ : bindArgs fd args = seqItems? fd.defaults >>= k) (h₂ : k (some items) = ((nsGet d kn >>= k2) >>= k3) >>= k4) (h₃ : (k2 (some v) >>= k3) >>= k4 = pure binds) : BindsTo s fd args binds :=
  fun _ _ _ _ hq => by
    rw [h₁, hd]
    refine wpAny_bind (wpAny_seqItems (X _ _ ho) hs ?_)
    rw [h₂]
    have e : (((nsGet d kn >>= k2) >>= k3) >>= k4) = nsGet d kn >>= fun r => (k2 r >>= k3) >>= k4 := by simp only [bind_assoc]
    rw [e]
    refine wpAny_bind (wpAny_nsGet (ns_one (X _ _ hod) hdd) ?_)
    simp only [beq_self_eq_true, if_true]
    rw [h₃]
    exact wpAny_pure hq
end
theorem fresh2 : True := by
  (try walk1)
  w_top off
  k_with_none
  k_with "conj" => (first | with_reducible assumption | exact (at1 (by with_reducible assumption)) | exact (at1 (at2 (by with_reducible assumption))) | exact (at2 (by with_reducible assumption)) | exact (at1 (at2 (at2 (by with_reducible assumption)))) | exact (at2 (at2 (by with_reducible assumption))) | exact (at1 (at2 (at2 (at2 (by with_reducible assumption))))) | exact (at2 (at2 (at2 (by with_reducible assumption)))) | exact (at1 (at2 (at2 (at2 (at2 (by with_reducible assumption)))))) | exact (at2 (at2 (at2 (at2 (by with_reducible assumption))))) | exact (at1 (at2 (at2 (at2 (at2 (at2 (by with_reducible assumption))))))) | exact (at2 (at2 (at2 (at2 (at2 (by with_reducible assumption)))))) | exact (at1 (at2 (at2 (at2 (at2 (at2 (at2 (by with_reducible assumption)))))))) | exact (at2 (at2 (at2 (at2 (at2 (at2 (by with_reducible assumption))))))) | exact (at1 (at2 (at2 (at2 (at2 (at2 (at2 (at2 (by with_reducible assumption))))))))) | exact (at2 (at2 (at2 (at2 (at2 (at2 (at2 (by with_reducible assumption)))))))) | exact (at1 (at2 (at2 (at2 (at2 (at2 (at2 (at2 (at2 (by with_reducible assumption)))))))))) | exact (at2 (at2 (at2 (at2 (at2 (at2 (at2 (at2 (by with_reducible assumption))))))))) | exact (at1 (at2 (at2 (at2 (at2 (at2 (at2 (at2 (at2 (at2 (by with_reducible assumption))))))))))) | exact (at2 (at2 (at2 (at2 (at2 (at2 (at2 (at2 (at2 (by with_reducible assumption)))))))))) | exact (at1 (at1 (by with_reducible assumption))) | exact (at1 (at2 (at1 (by with_reducible assumption)))) | exact (at2 (at2 (at1 (by with_reducible assumption)))) | exact (at1 (at1 (at2 (by with_reducible assumption)))) | exact (at1 (at2 (at1 (at2 (by with_reducible assumption))))) | exact (at2 (at2 (at1 (at2 (by with_reducible assumption))))) | exact (at1 (at1 (at2 (at2 (by with_reducible assumption))))) | exact (at1 (at2 (at1 (at2 (at2 (by with_reducible assumption)))))) | exact (at2 (at2 (at1 (at2 (at2 (by with_reducible assumption)))))) | exact (at1 (at1 (at2 (at2 (at2 (by with_reducible assumption)))))) | exact (at1 (at2 (at1 (at2 (at2 (at2 (by with_reducible assumption))))))) | exact (at2 (at2 (at1 (at2 (at2 (at2 (by with_reducible assumption))))))) | exact (at1 (at1 (at2 (at2 (at2 (at2 (by with_reducible assumption))))))) | exact (at1 (at2 (at1 (at2 (at2 (at2 (at2 (by with_reducible assumption)))))))) | exact (at2 (at2 (at1 (at2 (at2 (at2 (at2 (by with_reducible assumption)))))))) | exact (at1 (at1 (at2 (at2 (at2 (at2 (at2 (by with_reducible assumption)))))))) | exact (at1 (at2 (at1 (at2 (at2 (at2 (at2 (at2 (by with_reducible assumption))))))))) | exact (at2 (at2 (at1 (at2 (at2 (at2 (at2 (at2 (by with_reducible assumption))))))))) | exact (at1 (at1 (at2 (at2 (at2 (at2 (at2 (at2 (by with_reducible assumption))))))))) | exact (at1 (at2 (at1 (at2 (at2 (at2 (at2 (at2 (at2 (by with_reducible assumption)))))))))) | exact (at2 (at2 (at1 (at2 (at2 (at2 (at2 (at2 (at2 (by with_reducible assumption)))))))))) | fail)
  k_with "noNe" => ((repeat (rename (@Ne Nat _ _) => hx9; clear hx9)); (repeat (rename (@Ne Nat _ _ ∧ _) => hx9; clear hx9)); (repeat (rename ((@Ne Nat _ _ ∧ _) ∧ _) => hx9; clear hx9)))
  trivial
section
theorem mid_facts {lo hi : Int} (h : lo < hi) : lo ≤ (lo + hi).fdiv 2 ∧ (lo + hi).fdiv 2 < hi := by
  rw [Int.fdiv_eq_ediv_of_nonneg _ (by omega)]
  omega
theorem mid_m1 {lo hi : Int} (h : lo < hi) : (hi - ((lo + hi).fdiv 2 + 1)).toNat < (hi - lo).toNat := by
  have := mid_facts h
  omega
theorem mid_m2 {lo hi : Int} (h : lo < hi) : ((lo + hi).fdiv 2 - lo).toNat < (hi - lo).toNat := by
  have := mid_facts h
  omega
theorem bl_lo {ns : List Int} {x b lo hi : Int} (hb : ∀ i : Int, 0 ≤ i → i < ns.length → (ns.getD i.toNat 0 < x ↔ i < b)) (h1 : 0 ≤ lo) (h2 : b ≤ hi) (h3 : hi ≤ ns.length) (h4 : lo < hi)
    (h5 : ns.getD ((lo + hi).fdiv 2).toNat 0 < x) : 0 ≤ (lo + hi).fdiv 2 + 1 ∧ (lo + hi).fdiv 2 + 1 ≤ b ∧ b ≤ hi ∧ hi ≤ ns.length := by
  have := mid_facts h4
  have := (hb ((lo + hi).fdiv 2) (by omega) (by omega)).mp h5
  omega
theorem bl_hi {ns : List Int} {x b lo hi : Int} (hb : ∀ i : Int, 0 ≤ i → i < ns.length → (ns.getD i.toNat 0 < x ↔ i < b)) (h1 : 0 ≤ lo) (h2 : lo ≤ b) (h3 : hi ≤ ns.length) (h4 : lo < hi)
    (h5 : ¬ ns.getD ((lo + hi).fdiv 2).toNat 0 < x) : 0 ≤ lo ∧ lo ≤ b ∧ b ≤ (lo + hi).fdiv 2 ∧ (lo + hi).fdiv 2 ≤ ns.length := by
  have := mid_facts h4
  have : ¬ (lo + hi).fdiv 2 < b := fun h => h5 ((hb ((lo + hi).fdiv 2) (by omega) (by omega)).mpr h)
  omega
set_option maxRecDepth 100000 in
set_option maxHeartbeats 8000000 in
theorem bl_spec {w : World} {p : Program} {loose : List Str} {mean : ExcName → Option Value} {mg mb : Str → Option Value}
    {dp un : Nat} {gd : Option (List Code)} {cn : Str} {cs : Scope} {a : Addr} {ccd : Value} {cl : List (Str × Addr)} {outer : List Env} {A₀ : Around} {base h₀ : Heap} {L : Addr} {m : Str → Option Value} {s : Shared} {Q E : Value → Shared → Prop} {l : Addr} {vs : List Value} {ns : List Int} {x : Int} {t t0 : Tok} {args : List Value}
    (B : Below A₀ base outer h₀) (F : Fr h₀ L s.heap m) (X : (hd.heap_39 w.params).In h₀) (T : Top p loose mean mg mb h₀) (hk : cs.kind = .function) (hd : dp + 1 < recursionLimit) (hu : un + 8 < cLine)
    (hargs : args = [.ref l, .int x t] ∨ args = [.ref l, .int x t, .int 0 t0, .none])
    {news : List (Addr × Obj)} (N0 : News h₀ L s.heap news) (hl : s.heap.IsList l vs.toArray) (hi : IntsAre vs ns) (hfit : ns.length < 1000) {b : Int} (hb0 : 0 ≤ b) (hb1 : b ≤ ns.length) (hb : ∀ i : Int, 0 ≤ i → i < ns.length → (ns.getD i.toNat 0 < x ↔ i < b))
    (ret : ∀ (t' : Tok) (h' : Heap) (tk' : Nat), Fr h₀ L h' m → News h₀ L h' news → Q (.int b t') { s with heap := h', toks := tk' }) :
    wpAny (model PP w) (ktrTop dp un gd cn cs L a ccd cl outer) (call (.ref 57) args) Q E s := by
  have N : News h₀ L s.heap [] := News.nil
  clear hu
  refine wpAny_call ?_
  rcases hargs with rfl | rfl
  · k_dflt (refine' enter (binds := [(Str.ofString "a", .ref l), (Str.ofString "x", .int x t), (Str.ofString "lo", .int 0 236), (Str.ofString "hi", .none), (Str.ofString "key", .none)]) ?k1 ?k2 ?k3 ?k4 ?k5 ?kA ?kF ?kK ?k6 ?k7 ?k8 ?k9 ?kB ?_ ?c2 ?c3 ?c4 ?c5; (case kA => exact rfl); (case kF => exact rfl); (case kK => assumption); (case k1 => k_asm); (case k2 => k_asm); (case k3 => k_asm); (case k4 => k_asm); (case k5 => k_asm); (case k6 => k_is); (case k7 => k_is); (case k8 => ktr_room); (case k9 => exact binds_kw (by k_in) rfl (by k_is) rfl rfl (by k_is) rfl rfl rfl rfl); (case kB => exact locs rfl); (case c5 => decide); (case c2 => exact rfl); (case c3 => exact rfl); (case c4 => exact rfl); k_whole)
    intro g L' h1 FG F' N' B' X' T' S'
    have hlg := stays_isList S' (by exact List.not_mem_nil) hl
    (try dsimp only)
    clear hl B F X T N FG
    k_with "exec While Compare cons nil" => k_while (fun _ lo hi => 0 ≤ lo ∧ lo ≤ b ∧ b ≤ hi ∧ hi ≤ (ns.length : Int)) (fun _ lo hi => (hi - lo).toNat) "lo" "hi"
    k_with "state" => first | omega | exact bl_lo hb (by assumption) (by assumption) (by assumption) (by assumption) (by assumption) | exact bl_hi hb (by assumption) (by assumption) (by assumption) (by assumption) (by assumption)
    k_with "measure" => first | exact mid_m1 (by assumption) | exact mid_m2 (by assumption)
    k_steps
    all_goals (try dsimp only)
    all_goals (refine' leaveK_ ?k1 ?k2 ?_; (case k1 => k_asm); (case k2 => k_asm); intro kF kN)
    all_goals exact ret_int (ret _ _ _ kF ((S'.trans (by assumption)).news N0)) (by omega)
  · k_dflt (refine' enter (binds := [(Str.ofString "a", .ref l), (Str.ofString "x", .int x t), (Str.ofString "lo", .int 0 t0), (Str.ofString "hi", .none), (Str.ofString "key", .none)]) ?k1 ?k2 ?k3 ?k4 ?k5 ?kA ?kF ?kK ?k6 ?k7 ?k8 ?k9 ?kB ?_ ?c2 ?c3 ?c4 ?c5; (case kA => exact rfl); (case kF => exact rfl); (case kK => assumption); (case k1 => k_asm); (case k2 => k_asm); (case k3 => k_asm); (case k4 => k_asm); (case k5 => k_asm); (case k6 => k_is); (case k7 => k_is); (case k8 => ktr_room); (case k9 => exact binds_kw (by k_in) rfl (by k_is) rfl rfl (by k_is) rfl rfl rfl rfl); (case kB => exact locs rfl); (case c5 => decide); (case c2 => exact rfl); (case c3 => exact rfl); (case c4 => exact rfl); k_whole)
    intro g L' h1 FG F' N' B' X' T' S'
    have hlg := stays_isList S' (by exact List.not_mem_nil) hl
    (try dsimp only)
    clear hl B F X T N FG
    k_with "exec While Compare cons nil" => k_while (fun _ lo hi => 0 ≤ lo ∧ lo ≤ b ∧ b ≤ hi ∧ hi ≤ (ns.length : Int)) (fun _ lo hi => (hi - lo).toNat) "lo" "hi"
    k_with "state" => first | omega | exact bl_lo hb (by assumption) (by assumption) (by assumption) (by assumption) (by assumption) | exact bl_hi hb (by assumption) (by assumption) (by assumption) (by assumption) (by assumption)
    k_with "measure" => first | exact mid_m1 (by assumption) | exact mid_m2 (by assumption)
    k_steps
    all_goals (try dsimp only)
    all_goals (refine' leaveK_ ?k1 ?k2 ?_; (case k1 => k_asm); (case k2 => k_asm); intro kF kN)
    all_goals exact ret_int (ret _ _ _ kF ((S'.trans (by assumption)).news N0)) (by omega)
end
theorem fresh3 : True := by
  (try walk1)
  w_top off
  k_with_none
  k_with "conj" => (first | with_reducible assumption | exact (at1 (by with_reducible assumption)) | exact (at1 (at2 (by with_reducible assumption))) | exact (at2 (by with_reducible assumption)) | exact (at1 (at2 (at2 (by with_reducible assumption)))) | exact (at2 (at2 (by with_reducible assumption))) | exact (at1 (at2 (at2 (at2 (by with_reducible assumption))))) | exact (at2 (at2 (at2 (by with_reducible assumption)))) | exact (at1 (at2 (at2 (at2 (at2 (by with_reducible assumption)))))) | exact (at2 (at2 (at2 (at2 (by with_reducible assumption))))) | exact (at1 (at2 (at2 (at2 (at2 (at2 (by with_reducible assumption))))))) | exact (at2 (at2 (at2 (at2 (at2 (by with_reducible assumption)))))) | exact (at1 (at2 (at2 (at2 (at2 (at2 (at2 (by with_reducible assumption)))))))) | exact (at2 (at2 (at2 (at2 (at2 (at2 (by with_reducible assumption))))))) | exact (at1 (at2 (at2 (at2 (at2 (at2 (at2 (at2 (by with_reducible assumption))))))))) | exact (at2 (at2 (at2 (at2 (at2 (at2 (at2 (by with_reducible assumption)))))))) | exact (at1 (at2 (at2 (at2 (at2 (at2 (at2 (at2 (at2 (by with_reducible assumption)))))))))) | exact (at2 (at2 (at2 (at2 (at2 (at2 (at2 (at2 (by with_reducible assumption))))))))) | exact (at1 (at2 (at2 (at2 (at2 (at2 (at2 (at2 (at2 (at2 (by with_reducible assumption))))))))))) | exact (at2 (at2 (at2 (at2 (at2 (at2 (at2 (at2 (at2 (by with_reducible assumption)))))))))) | exact (at1 (at1 (by with_reducible assumption))) | exact (at1 (at2 (at1 (by with_reducible assumption)))) | exact (at2 (at2 (at1 (by with_reducible assumption)))) | exact (at1 (at1 (at2 (by with_reducible assumption)))) | exact (at1 (at2 (at1 (at2 (by with_reducible assumption))))) | exact (at2 (at2 (at1 (at2 (by with_reducible assumption))))) | exact (at1 (at1 (at2 (at2 (by with_reducible assumption))))) | exact (at1 (at2 (at1 (at2 (at2 (by with_reducible assumption)))))) | exact (at2 (at2 (at1 (at2 (at2 (by with_reducible assumption)))))) | exact (at1 (at1 (at2 (at2 (at2 (by with_reducible assumption)))))) | exact (at1 (at2 (at1 (at2 (at2 (at2 (by with_reducible assumption))))))) | exact (at2 (at2 (at1 (at2 (at2 (at2 (by with_reducible assumption))))))) | exact (at1 (at1 (at2 (at2 (at2 (at2 (by with_reducible assumption))))))) | exact (at1 (at2 (at1 (at2 (at2 (at2 (at2 (by with_reducible assumption)))))))) | exact (at2 (at2 (at1 (at2 (at2 (at2 (at2 (by with_reducible assumption)))))))) | exact (at1 (at1 (at2 (at2 (at2 (at2 (at2 (by with_reducible assumption)))))))) | exact (at1 (at2 (at1 (at2 (at2 (at2 (at2 (at2 (by with_reducible assumption))))))))) | exact (at2 (at2 (at1 (at2 (at2 (at2 (at2 (at2 (by with_reducible assumption))))))))) | exact (at1 (at1 (at2 (at2 (at2 (at2 (at2 (at2 (by with_reducible assumption))))))))) | exact (at1 (at2 (at1 (at2 (at2 (at2 (at2 (at2 (at2 (by with_reducible assumption)))))))))) | exact (at2 (at2 (at1 (at2 (at2 (at2 (at2 (at2 (at2 (by with_reducible assumption)))))))))) | fail)
  k_with "noNe" => ((repeat (rename (@Ne Nat _ _) => hx9; clear hx9)); (repeat (rename (@Ne Nat _ _ ∧ _) => hx9; clear hx9)); (repeat (rename ((@Ne Nat _ _ ∧ _) ∧ _) => hx9; clear hx9)))
  trivial
section
theorem br_lo {ns : List Int} {x b lo hi : Int} (hb : ∀ i : Int, 0 ≤ i → i < ns.length → (ns.getD i.toNat 0 ≤ x ↔ i < b)) (h1 : 0 ≤ lo) (h2 : b ≤ hi) (h3 : hi ≤ ns.length) (h4 : lo < hi)
    (h5 : ¬ x < ns.getD ((lo + hi).fdiv 2).toNat 0) : 0 ≤ (lo + hi).fdiv 2 + 1 ∧ (lo + hi).fdiv 2 + 1 ≤ b ∧ b ≤ hi ∧ hi ≤ ns.length := by
  have := mid_facts h4
  have := (hb ((lo + hi).fdiv 2) (by omega) (by omega)).mp (Int.not_lt.mp h5)
  omega
theorem br_hi {ns : List Int} {x b lo hi : Int} (hb : ∀ i : Int, 0 ≤ i → i < ns.length → (ns.getD i.toNat 0 ≤ x ↔ i < b)) (h1 : 0 ≤ lo) (h2 : lo ≤ b) (h3 : hi ≤ ns.length) (h4 : lo < hi)
    (h5 : x < ns.getD ((lo + hi).fdiv 2).toNat 0) : 0 ≤ lo ∧ lo ≤ b ∧ b ≤ (lo + hi).fdiv 2 ∧ (lo + hi).fdiv 2 ≤ ns.length := by
  have := mid_facts h4
  have : ¬ (lo + hi).fdiv 2 < b := fun h => absurd h5 (Int.not_lt.mpr ((hb ((lo + hi).fdiv 2) (by omega) (by omega)).mpr h))
  omega
set_option maxRecDepth 100000 in
set_option maxHeartbeats 8000000 in
theorem br_spec {w : World} {p : Program} {loose : List Str} {mean : ExcName → Option Value} {mg mb : Str → Option Value}
    {dp un : Nat} {gd : Option (List Code)} {cn : Str} {cs : Scope} {a : Addr} {ccd : Value} {cl : List (Str × Addr)} {outer : List Env} {A₀ : Around} {base h₀ : Heap} {L : Addr} {m : Str → Option Value} {s : Shared} {Q E : Value → Shared → Prop} {l : Addr} {vs : List Value} {ns : List Int} {x : Int} {t t0 : Tok}
    (B : Below A₀ base outer h₀) (F : Fr h₀ L s.heap m) (X : (hd.heap_39 w.params).In h₀) (T : Top p loose mean mg mb h₀) (hk : cs.kind = .function) (hd : dp + 1 < recursionLimit) (hu : un + 8 < cLine)
    {news : List (Addr × Obj)} (N0 : News h₀ L s.heap news) (hl : s.heap.IsList l vs.toArray) (hi : IntsAre vs ns) (hfit : ns.length < 1000) {b : Int} (hb0 : 0 ≤ b) (hb1 : b ≤ ns.length) (hb : ∀ i : Int, 0 ≤ i → i < ns.length → (ns.getD i.toNat 0 ≤ x ↔ i < b))
    (ret : ∀ (t' : Tok) (h' : Heap) (tk' : Nat), Fr h₀ L h' m → News h₀ L h' news → Q (.int b t') { s with heap := h', toks := tk' }) :
    wpAny (model PP w) (ktrTop dp un gd cn cs L a ccd cl outer) (call (.ref 39) [.ref l, .int x t, .int 0 t0, .none]) Q E s := by
  have N : News h₀ L s.heap [] := News.nil
  clear hu
  refine wpAny_call ?_
  k_dflt (refine' enter (binds := [(Str.ofString "a", .ref l), (Str.ofString "x", .int x t), (Str.ofString "lo", .int 0 t0), (Str.ofString "hi", .none), (Str.ofString "key", .none)]) ?k1 ?k2 ?k3 ?k4 ?k5 ?kA ?kF ?kK ?k6 ?k7 ?k8 ?k9 ?kB ?_ ?c2 ?c3 ?c4 ?c5; (case kA => exact rfl); (case kF => exact rfl); (case kK => assumption); (case k1 => k_asm); (case k2 => k_asm); (case k3 => k_asm); (case k4 => k_asm); (case k5 => k_asm); (case k6 => k_is); (case k7 => k_is); (case k8 => ktr_room); (case k9 => exact binds_kw (by k_in) rfl (by k_is) rfl rfl (by k_is) rfl rfl rfl rfl); (case kB => exact locs rfl); (case c5 => decide); (case c2 => exact rfl); (case c3 => exact rfl); (case c4 => exact rfl); k_whole)
  intro g L' h1 FG F' N' B' X' T' S'
  have hlg := stays_isList S' (by exact List.not_mem_nil) hl
  (try dsimp only)
  clear hl B F X T N FG
  k_with "exec While Compare cons nil" => k_while (fun _ lo hi => 0 ≤ lo ∧ lo ≤ b ∧ b ≤ hi ∧ hi ≤ (ns.length : Int)) (fun _ lo hi => (hi - lo).toNat) "lo" "hi"
  k_with "state" => first | omega | exact br_lo hb (by assumption) (by assumption) (by assumption) (by assumption) (by assumption) | exact br_hi hb (by assumption) (by assumption) (by assumption) (by assumption) (by assumption)
  k_with "measure" => first | exact mid_m1 (by assumption) | exact mid_m2 (by assumption)
  k_steps
  all_goals (try dsimp only)
  all_goals (refine' leaveK_ ?k1 ?k2 ?_; (case k1 => k_asm); (case k2 => k_asm); intro kF kN)
  all_goals exact ret_int (ret _ _ _ kF ((S'.trans (by assumption)).news N0)) (by omega)
end
theorem fresh4 : True := by
  (try walk1)
  w_top off
  k_with_none
  k_with "conj" => (first | with_reducible assumption | exact (at1 (by with_reducible assumption)) | exact (at1 (at2 (by with_reducible assumption))) | exact (at2 (by with_reducible assumption)) | exact (at1 (at2 (at2 (by with_reducible assumption)))) | exact (at2 (at2 (by with_reducible assumption))) | exact (at1 (at2 (at2 (at2 (by with_reducible assumption))))) | exact (at2 (at2 (at2 (by with_reducible assumption)))) | exact (at1 (at2 (at2 (at2 (at2 (by with_reducible assumption)))))) | exact (at2 (at2 (at2 (at2 (by with_reducible assumption))))) | exact (at1 (at2 (at2 (at2 (at2 (at2 (by with_reducible assumption))))))) | exact (at2 (at2 (at2 (at2 (at2 (by with_reducible assumption)))))) | exact (at1 (at2 (at2 (at2 (at2 (at2 (at2 (by with_reducible assumption)))))))) | exact (at2 (at2 (at2 (at2 (at2 (at2 (by with_reducible assumption))))))) | exact (at1 (at2 (at2 (at2 (at2 (at2 (at2 (at2 (by with_reducible assumption))))))))) | exact (at2 (at2 (at2 (at2 (at2 (at2 (at2 (by with_reducible assumption)))))))) | exact (at1 (at2 (at2 (at2 (at2 (at2 (at2 (at2 (at2 (by with_reducible assumption)))))))))) | exact (at2 (at2 (at2 (at2 (at2 (at2 (at2 (at2 (by with_reducible assumption))))))))) | exact (at1 (at2 (at2 (at2 (at2 (at2 (at2 (at2 (at2 (at2 (by with_reducible assumption))))))))))) | exact (at2 (at2 (at2 (at2 (at2 (at2 (at2 (at2 (at2 (by with_reducible assumption)))))))))) | exact (at1 (at1 (by with_reducible assumption))) | exact (at1 (at2 (at1 (by with_reducible assumption)))) | exact (at2 (at2 (at1 (by with_reducible assumption)))) | exact (at1 (at1 (at2 (by with_reducible assumption)))) | exact (at1 (at2 (at1 (at2 (by with_reducible assumption))))) | exact (at2 (at2 (at1 (at2 (by with_reducible assumption))))) | exact (at1 (at1 (at2 (at2 (by with_reducible assumption))))) | exact (at1 (at2 (at1 (at2 (at2 (by with_reducible assumption)))))) | exact (at2 (at2 (at1 (at2 (at2 (by with_reducible assumption)))))) | exact (at1 (at1 (at2 (at2 (at2 (by with_reducible assumption)))))) | exact (at1 (at2 (at1 (at2 (at2 (at2 (by with_reducible assumption))))))) | exact (at2 (at2 (at1 (at2 (at2 (at2 (by with_reducible assumption))))))) | exact (at1 (at1 (at2 (at2 (at2 (at2 (by with_reducible assumption))))))) | exact (at1 (at2 (at1 (at2 (at2 (at2 (at2 (by with_reducible assumption)))))))) | exact (at2 (at2 (at1 (at2 (at2 (at2 (at2 (by with_reducible assumption)))))))) | exact (at1 (at1 (at2 (at2 (at2 (at2 (at2 (by with_reducible assumption)))))))) | exact (at1 (at2 (at1 (at2 (at2 (at2 (at2 (at2 (by with_reducible assumption))))))))) | exact (at2 (at2 (at1 (at2 (at2 (at2 (at2 (at2 (by with_reducible assumption))))))))) | exact (at1 (at1 (at2 (at2 (at2 (at2 (at2 (at2 (by with_reducible assumption))))))))) | exact (at1 (at2 (at1 (at2 (at2 (at2 (at2 (at2 (at2 (by with_reducible assumption)))))))))) | exact (at2 (at2 (at1 (at2 (at2 (at2 (at2 (at2 (at2 (by with_reducible assumption)))))))))) | fail)
  k_with "noNe" => ((repeat (rename (@Ne Nat _ _) => hx9; clear hx9)); (repeat (rename (@Ne Nat _ _ ∧ _) => hx9; clear hx9)); (repeat (rename ((@Ne Nat _ _ ∧ _) ∧ _) => hx9; clear hx9)))
  trivial
section
theorem ints_ins {vs : List Value} {ns : List Int} (hi : IntsAre vs ns) (x : Int) (t : Tok) : ∀ k : Nat, IntsAre (vs.take k ++ Value.int x t :: vs.drop k) (ns.take k ++ x :: ns.drop k) := by
  induction hi with
  | nil => intro k; simp; exact .cons x t .nil
  | cons n u h ih =>
    intro k
    cases k with
    | zero => simp only [List.take_zero, List.drop_zero, List.nil_append]; exact .cons x t (.cons n u h)
    | succ k => simp only [List.take_succ_cons, List.drop_succ_cons, List.cons_append]; exact .cons n u (ih k)
section
variable {prog : Program} {w : World} {A : Around} {E : Value → Shared → Prop} {s : Shared} {h₀ : Heap} {L D : Addr} {m : Str → Option Value}
theorem insert_rule {b : Int} {u : Tok} {y : Value} {vs : List Value} {n : Nat} {news news' : List (Addr × Obj)} {Q : Value → Shared → Prop} (F : Fr h₀ L s.heap m) (N : News h₀ L s.heap news) (h0 : 0 ≤ b) (h1 : b ≤ vs.length) (hz : vs.length ≤ 1000)
    (U : Upd D (listOf vs.toArray n) (listOf (vs.take b.toNat ++ y :: vs.drop b.toNat).toArray (n + 1)) news news')
    (h : ∀ h', Fr h₀ L h' m → News h₀ L h' news' → Q .none { s with heap := h' }) :
    wpAny (model prog w) A (call (.builtin "list.insert") [.ref D, .int b u, y]) Q E s := by
  refine kl_insert F N ?_ (l := vs.take b.toNat ++ y :: vs.drop b.toNat) ?_ U ?_ h
  · unfold Builtin.List.listFitsIndex
    rw [Bool.and_eq_true, decide_eq_true_eq, decide_eq_true_eq]
    omega
  · unfold kl_ins
    have e : (if b < 0 then (b + ((vs.toArray.toList.length : Nat) : Int)).toNat else min b.toNat vs.toArray.toList.length) = b.toNat := by
      rw [if_neg (by omega), List.toList_toArray]
      omega
    rw [e]
  · rw [List.toList_toArray, sizeLine_eq]
    omega
end
theorem lines_Ins1 : True := by
  k_with "call builtin:list.insert" => (k_here; (with_reducible show wpAny _ _ (call (Value.builtin _) [Value.ref _, Value.int _ _, _]) _ _ _); k_dflt (refine' insert_rule ?F ?N ?a ?b ?z ?U ?_; (case F => k_asm); (case N => k_asm); (case U => k_upd); (case a => omega); (case b => omega); (case z => omega)); intro h' F' N')
  k_with "call ref" => (k_here; k_dflt (first   | (refine' bl_spec ?u1 ?u2 ?u3 ?u4 ?u5 ?u6 ?u7 ?hargs ?hn ?hl ?hi ?hf ?b0 ?b1 ?hb ?_; (case u1 => k_asm); (case u2 => k_asm); (case u3 => k_asm); (case u4 => k_asm); (case u5 => first | exact rfl | assumption); (case u6 => ktr_room); (case u7 => ktr_units); (case hargs => exact Or.inr rfl); (case hn => k_asm); (case hl => exact news_isList (by k_asm) (by k_mem)); (case hi => assumption); (case hf => assumption); (case hb => assumption); (case b0 => assumption); (case b1 => assumption))   | (refine' br_spec ?u1 ?u2 ?u3 ?u4 ?u5 ?u6 ?u7 ?hn ?hl ?hi ?hf ?b0 ?b1 ?hb ?_; (case u1 => k_asm); (case u2 => k_asm); (case u3 => k_asm); (case u4 => k_asm); (case u5 => first | exact rfl | assumption); (case u6 => ktr_room); (case u7 => ktr_units); (case hn => k_asm); (case hl => exact news_isList (by k_asm) (by k_mem)); (case hi => assumption); (case hf => assumption); (case hb => assumption); (case b0 => assumption); (case b1 => assumption))); intro t9 h9 tk9 F9 N9; (try dsimp only))
  trivial
set_option maxRecDepth 100000 in
set_option maxHeartbeats 8000000 in
theorem il_spec {w : World} {p : Program} {loose : List Str} {mean : ExcName → Option Value} {mg mb : Str → Option Value}
    {dp un : Nat} {gd : Option (List Code)} {cn : Str} {cs : Scope} {a : Addr} {ccd : Value} {cl : List (Str × Addr)} {outer : List Env} {A₀ : Around} {base h₀ : Heap} {L : Addr} {m : Str → Option Value} {s : Shared} {Q E : Value → Shared → Prop} {l : Addr} {vs : List Value} {ns : List Int} {x : Int} {t : Tok} {n : Nat}
    (B : Below A₀ base outer h₀) (F : Fr h₀ L s.heap m) (X : (hd.heap_39 w.params).In h₀) (T : Top p loose mean mg mb h₀) (hk : cs.kind = .function) (hd : dp + 2 < recursionLimit) (hu : un + 16 < cLine)
    {rest : List (Addr × Obj)} (N0 : News h₀ L s.heap ((l, listOf vs.toArray n) :: rest)) (hoff : ∀ q ∈ rest, q.1 ≠ l) (hi : IntsAre vs ns) (hfit : ns.length < 1000) {b : Int} (hb0 : 0 ≤ b) (hb1 : b ≤ ns.length) (hb : ∀ i : Int, 0 ≤ i → i < ns.length → (ns.getD i.toNat 0 < x ↔ i < b))
    (ret : ∀ (vs' : List Value) (h' : Heap) (tk' : Nat), Fr h₀ L h' m → News h₀ L h' ((l, listOf vs'.toArray (n + 1)) :: rest) → IntsAre vs' (ns.take b.toNat ++ x :: ns.drop b.toNat) → Q .none { s with heap := h', toks := tk' }) :
    wpAny (model PP w) (ktrTop dp un gd cn cs L a ccd cl outer) (call (.ref 48) [.ref l, .int x t]) Q E s := by
  have N : News h₀ L s.heap [(l, listOf vs.toArray n)] := fun p hp => N0 p (by rw [List.mem_singleton.mp hp]; exact .head _)
  have hlen : vs.length = ns.length := hi.length
  refine wpAny_call ?_
  k_dflt (refine' enter (binds := [(Str.ofString "a", .ref l), (Str.ofString "x", .int x t), (Str.ofString "lo", .int 0 223), (Str.ofString "hi", .none), (Str.ofString "key", .none)]) ?k1 ?k2 ?k3 ?k4 ?k5 ?kA ?kF ?kK ?k6 ?k7 ?k8 ?k9 ?kB ?_ ?c2 ?c3 ?c4 ?c5; (case kA => exact rfl); (case kF => exact rfl); (case kK => assumption); (case k1 => k_asm); (case k2 => k_asm); (case k3 => k_asm); (case k4 => k_asm); (case k5 => k_asm); (case k6 => k_is); (case k7 => k_is); (case k8 => ktr_room); (case k9 => exact binds_kw (by k_in) rfl (by k_is) rfl rfl (by k_is) rfl rfl rfl rfl); (case kB => exact locs rfl); (case c5 => decide); (case c2 => exact rfl); (case c3 => exact rfl); (case c4 => exact rfl); k_whole)
  intro g L' h1 FG F' N' B' X' T' S'
  (try dsimp only)
  clear B F X T N FG
  k_steps
  all_goals (refine' leaveK_ ?k1 ?k2 ?_; (case k1 => k_asm); (case k2 => k_asm); intro kF kN)
  all_goals exact ret _ _ _ kF ((S'.trans (by assumption)).newsOf (fun q hq => N0 q (.tail _ hq)) kN (fun q hq e => hoff q hq (List.mem_singleton.mp e))) (ints_ins hi x t _)
set_option maxRecDepth 100000 in
set_option maxHeartbeats 8000000 in
theorem ir_spec {w : World} {p : Program} {loose : List Str} {mean : ExcName → Option Value} {mg mb : Str → Option Value}
    {dp un : Nat} {gd : Option (List Code)} {cn : Str} {cs : Scope} {a : Addr} {ccd : Value} {cl : List (Str × Addr)} {outer : List Env} {A₀ : Around} {base h₀ : Heap} {L : Addr} {m : Str → Option Value} {s : Shared} {Q E : Value → Shared → Prop} {l : Addr} {vs : List Value} {ns : List Int} {x : Int} {t : Tok} {n : Nat}
    (B : Below A₀ base outer h₀) (F : Fr h₀ L s.heap m) (X : (hd.heap_39 w.params).In h₀) (T : Top p loose mean mg mb h₀) (hk : cs.kind = .function) (hd : dp + 2 < recursionLimit) (hu : un + 16 < cLine)
    {rest : List (Addr × Obj)} (N0 : News h₀ L s.heap ((l, listOf vs.toArray n) :: rest)) (hoff : ∀ q ∈ rest, q.1 ≠ l) (hi : IntsAre vs ns) (hfit : ns.length < 1000) {b : Int} (hb0 : 0 ≤ b) (hb1 : b ≤ ns.length) (hb : ∀ i : Int, 0 ≤ i → i < ns.length → (ns.getD i.toNat 0 ≤ x ↔ i < b))
    (ret : ∀ (vs' : List Value) (h' : Heap) (tk' : Nat), Fr h₀ L h' m → News h₀ L h' ((l, listOf vs'.toArray (n + 1)) :: rest) → IntsAre vs' (ns.take b.toNat ++ x :: ns.drop b.toNat) → Q .none { s with heap := h', toks := tk' }) :
    wpAny (model PP w) (ktrTop dp un gd cn cs L a ccd cl outer) (call (.ref 30) [.ref l, .int x t]) Q E s := by
  have N : News h₀ L s.heap [(l, listOf vs.toArray n)] := fun p hp => N0 p (by rw [List.mem_singleton.mp hp]; exact .head _)
  have hlen : vs.length = ns.length := hi.length
  refine wpAny_call ?_
  k_dflt (refine' enter (binds := [(Str.ofString "a", .ref l), (Str.ofString "x", .int x t), (Str.ofString "lo", .int 0 196), (Str.ofString "hi", .none), (Str.ofString "key", .none)]) ?k1 ?k2 ?k3 ?k4 ?k5 ?kA ?kF ?kK ?k6 ?k7 ?k8 ?k9 ?kB ?_ ?c2 ?c3 ?c4 ?c5; (case kA => exact rfl); (case kF => exact rfl); (case kK => assumption); (case k1 => k_asm); (case k2 => k_asm); (case k3 => k_asm); (case k4 => k_asm); (case k5 => k_asm); (case k6 => k_is); (case k7 => k_is); (case k8 => ktr_room); (case k9 => exact binds_kw (by k_in) rfl (by k_is) rfl rfl (by k_is) rfl rfl rfl rfl); (case kB => exact locs rfl); (case c5 => decide); (case c2 => exact rfl); (case c3 => exact rfl); (case c4 => exact rfl); k_whole)
  intro g L' h1 FG F' N' B' X' T' S'
  (try dsimp only)
  clear B F X T N FG
  k_steps
  all_goals (refine' leaveK_ ?k1 ?k2 ?_; (case k1 => k_asm); (case k2 => k_asm); intro kF kN)
  all_goals exact ret _ _ _ kF ((S'.trans (by assumption)).newsOf (fun q hq => N0 q (.tail _ hq)) kN (fun q hq e => hoff q hq (List.mem_singleton.mp e))) (ints_ins hi x t _)
end
theorem fresh5 : True := by
  (try walk1)
  w_top off
  k_with_none
  k_with "conj" => (first | with_reducible assumption | exact (at1 (by with_reducible assumption)) | exact (at1 (at2 (by with_reducible assumption))) | exact (at2 (by with_reducible assumption)) | exact (at1 (at2 (at2 (by with_reducible assumption)))) | exact (at2 (at2 (by with_reducible assumption))) | exact (at1 (at2 (at2 (at2 (by with_reducible assumption))))) | exact (at2 (at2 (at2 (by with_reducible assumption)))) | exact (at1 (at2 (at2 (at2 (at2 (by with_reducible assumption)))))) | exact (at2 (at2 (at2 (at2 (by with_reducible assumption))))) | exact (at1 (at2 (at2 (at2 (at2 (at2 (by with_reducible assumption))))))) | exact (at2 (at2 (at2 (at2 (at2 (by with_reducible assumption)))))) | exact (at1 (at2 (at2 (at2 (at2 (at2 (at2 (by with_reducible assumption)))))))) | exact (at2 (at2 (at2 (at2 (at2 (at2 (by with_reducible assumption))))))) | exact (at1 (at2 (at2 (at2 (at2 (at2 (at2 (at2 (by with_reducible assumption))))))))) | exact (at2 (at2 (at2 (at2 (at2 (at2 (at2 (by with_reducible assumption)))))))) | exact (at1 (at2 (at2 (at2 (at2 (at2 (at2 (at2 (at2 (by with_reducible assumption)))))))))) | exact (at2 (at2 (at2 (at2 (at2 (at2 (at2 (at2 (by with_reducible assumption))))))))) | exact (at1 (at2 (at2 (at2 (at2 (at2 (at2 (at2 (at2 (at2 (by with_reducible assumption))))))))))) | exact (at2 (at2 (at2 (at2 (at2 (at2 (at2 (at2 (at2 (by with_reducible assumption)))))))))) | exact (at1 (at1 (by with_reducible assumption))) | exact (at1 (at2 (at1 (by with_reducible assumption)))) | exact (at2 (at2 (at1 (by with_reducible assumption)))) | exact (at1 (at1 (at2 (by with_reducible assumption)))) | exact (at1 (at2 (at1 (at2 (by with_reducible assumption))))) | exact (at2 (at2 (at1 (at2 (by with_reducible assumption))))) | exact (at1 (at1 (at2 (at2 (by with_reducible assumption))))) | exact (at1 (at2 (at1 (at2 (at2 (by with_reducible assumption)))))) | exact (at2 (at2 (at1 (at2 (at2 (by with_reducible assumption)))))) | exact (at1 (at1 (at2 (at2 (at2 (by with_reducible assumption)))))) | exact (at1 (at2 (at1 (at2 (at2 (at2 (by with_reducible assumption))))))) | exact (at2 (at2 (at1 (at2 (at2 (at2 (by with_reducible assumption))))))) | exact (at1 (at1 (at2 (at2 (at2 (at2 (by with_reducible assumption))))))) | exact (at1 (at2 (at1 (at2 (at2 (at2 (at2 (by with_reducible assumption)))))))) | exact (at2 (at2 (at1 (at2 (at2 (at2 (at2 (by with_reducible assumption)))))))) | exact (at1 (at1 (at2 (at2 (at2 (at2 (at2 (by with_reducible assumption)))))))) | exact (at1 (at2 (at1 (at2 (at2 (at2 (at2 (at2 (by with_reducible assumption))))))))) | exact (at2 (at2 (at1 (at2 (at2 (at2 (at2 (at2 (by with_reducible assumption))))))))) | exact (at1 (at1 (at2 (at2 (at2 (at2 (at2 (at2 (by with_reducible assumption))))))))) | exact (at1 (at2 (at1 (at2 (at2 (at2 (at2 (at2 (at2 (by with_reducible assumption)))))))))) | exact (at2 (at2 (at1 (at2 (at2 (at2 (at2 (at2 (at2 (by with_reducible assumption)))))))))) | fail)
  k_with "noNe" => ((repeat (rename (@Ne Nat _ _) => hx9; clear hx9)); (repeat (rename (@Ne Nat _ _ ∧ _) => hx9; clear hx9)); (repeat (rename ((@Ne Nat _ _ ∧ _) ∧ _) => hx9; clear hx9)))
  trivial
section
/-- Int2AP's letters of a number below 256 -/
noncomputable def ap (n : Nat) : Array UInt8 := if n = 0 then #[] else if n < 16 then #[UInt8.ofNat (65 + n)] else #[UInt8.ofNat (65 + n / 16), UInt8.ofNat (65 + n % 16)]
theorem picked_ap {i : Int} (h0 : 0 ≤ i) (h1 : i < 16) : KBy.picked #[65, 66, 67, 68, 69, 70, 71, 72, 73, 74, 75, 76, 77, 78, 79, 80] (some i) (some (i + 1)) = #[UInt8.ofNat (65 + i.toNat)] := by
  obtain ⟨k, rfl⟩ : ∃ k : Nat, i = (k : Int) := ⟨i.toNat, by omega⟩
  have hk : k < 16 := by omega
  clear h0 h1
  have all : ∀ k : Fin 16, KBy.picked #[65, 66, 67, 68, 69, 70, 71, 72, 73, 74, 75, 76, 77, 78, 79, 80] (some ((k.val : Nat) : Int)) (some (((k.val : Nat) : Int) + 1)) = #[UInt8.ofNat (65 + ((k.val : Nat) : Int).toNat)] := by decide +kernel
  exact all ⟨k, hk⟩
section
variable {prog : Program} {w : World} {A : Around} {E : Value → Shared → Prop} {s : Shared} {value slice : PySem.Expr} {t : Tok} {h₀ : Heap} {L : Addr} {m : PySem.Str → Option Value} {news : List (Addr × Obj)} {Q : Value → Shared → Prop} {i : Int} {u u' : Tok}
theorem cut_ap (hF : Fr h₀ L s.heap m) (hN : News h₀ L s.heap news) (h0 : 0 ≤ i) (h1 : i < 16)
    (h : ∀ h' t' k, Fr h₀ L h' m → News h₀ L h' news → Q (.bytes #[UInt8.ofNat (65 + i.toNat)] t') { s with heap := h', toks := k })
    (hs : subscripted slice false (.bytes #[65, 66, 67, 68, 69, 70, 71, 72, 73, 74, 75, 76, 77, 78, 79, 80] t) (.ref s.heap.objs.size) = operate [.ref s.heap.objs.size, .bytes #[65, 66, 67, 68, 69, 70, 71, 72, 73, 74, 75, 76, 77, 78, 79, 80] t] (getItem (.bytes #[65, 66, 67, 68, 69, 70, 71, 72, 73, 74, 75, 76, 77, 78, 79, 80] t) (.ref s.heap.objs.size)) := by with_unfolding_all rfl)
    (ht : ∀ r, letTemporaryGo value (.bytes #[65, 66, 67, 68, 69, 70, 71, 72, 73, 74, 75, 76, 77, 78, 79, 80] t) r = pure () := by intro _; with_unfolding_all rfl) :
    wpAny (model prog w) A (subscriptTail value slice (.bytes #[65, 66, 67, 68, 69, 70, 71, 72, 73, 74, 75, 76, 77, 78, 79, 80] t) (.ref s.heap.objs.size)) Q E { s with heap := s.heap.push { cls := .type "slice", data := .fields #[.int i u, .int (i + 1) u', .none] } } :=
  KBc.slice_K hF hN rfl (.int i u) (.int (i + 1) u') (by decide) (fun h' t' k F N _ => picked_ap h0 h1 ▸ h h' t' k F N) hs ht
end
theorem fmod16 {x : Int} : 0 ≤ x.fmod 16 ∧ x.fmod 16 < 16 := ⟨Int.fmod_nonneg_of_pos _ (by decide), Int.fmod_lt_of_pos _ (by decide)⟩
theorem lines_Ap1 : True := by
  k_with "subscriptTail" => (k_here; (with_reducible show wpAny _ _ (subscriptTail _ (Expr.Slice _ _ none _) (Value.bytes _ _) (Value.ref _)) _ _ _); (with_reducible rename Fr _ _ _ _ => F'); (with_reducible rename News _ _ _ _ => N'); (refine cut_ap (s := ⟨_, _, _, _, _⟩) F' N' fmod16.1 fmod16.2 ?_); intro _ _ _ F' N')
  trivial
noncomputable def ApSt (n : Nat) (k : Int) (v : Array UInt8) : Prop :=
  (k = n ∧ v = #[]) ∨ (1 ≤ n ∧ k = ((n / 16 : Nat) : Int) ∧ v = #[UInt8.ofNat (65 + n % 16)]) ∨ (16 ≤ n ∧ k = 0 ∧ v = #[UInt8.ofNat (65 + n / 16), UInt8.ofNat (65 + n % 16)])
theorem ap_start {x : Int} {n : Nat} (hx : x = -(n : Int)) (hn : n < 48) : 0 ≤ (if x < 0 then -x else x) ∧ (if x < 0 then -x else x) < 48 ∧ (#[] : Array UInt8).size ≤ 2 ∧ ApSt n (if x < 0 then -x else x) #[] := by
  have e : (if x < 0 then -x else x) = (n : Int) := by split <;> omega
  rw [e]
  exact ⟨by omega, by omega, by decide, .inl ⟨rfl, rfl⟩⟩
theorem ap_turn {n : Nat} {k : Int} {v : Array UInt8} (hn : n < 48) (h0 : 0 ≤ k) (h1 : k < 48) (h : ApSt n k v) (hk : k ≠ 0) :
    0 ≤ k.fdiv 16 ∧ k.fdiv 16 < 48 ∧ (#[UInt8.ofNat (65 + (k.fmod 16).toNat)] ++ v).size ≤ 2 ∧ ApSt n (k.fdiv 16) (#[UInt8.ofNat (65 + (k.fmod 16).toNat)] ++ v) := by
  obtain ⟨j, rfl⟩ : ∃ j : Nat, k = (j : Int) := ⟨k.toNat, by omega⟩
  have e1 : (j : Int).fdiv 16 = ((j / 16 : Nat) : Int) := by rw [Int.fdiv_eq_ediv_of_nonneg _ (by omega)]; rfl
  have e2 : ((j : Int).fmod 16).toNat = j % 16 := by rw [Int.fmod_eq_emod_of_nonneg _ (by omega)]; omega
  rw [e1, e2]
  rcases h with ⟨ha, rfl⟩ | ⟨ha, hb, rfl⟩ | ⟨_, hb, _⟩
  · have : j = n := by omega
    subst this
    exact ⟨by omega, by omega, by simp, .inr (.inl ⟨by omega, rfl, by simp⟩)⟩
  · have : j = n / 16 := by omega
    subst this
    have e3 : n / 16 % 16 = n / 16 := by omega
    have e4 : n / 16 / 16 = 0 := by omega
    rw [e3, e4]
    exact ⟨by omega, by omega, by simp, .inr (.inr ⟨by omega, rfl, by simp⟩)⟩
  · omega
theorem ap_end {n : Nat} {k : Int} {v : Array UInt8} (hn : n < 48) (h : ApSt n k v) (hk : k = 0) : v = ap n := by
  unfold ap
  rcases h with ⟨ha, rfl⟩ | ⟨ha, hb, rfl⟩ | ⟨h16, hb, rfl⟩
  · rw [if_pos (by omega)]
  · have e : n % 16 = n := by omega
    rw [if_neg (by omega), if_pos (by omega), e]
  · rw [if_neg (by omega), if_neg (by omega)]
theorem ap_meas {k : Int} (h0 : 0 ≤ k) (hk : k ≠ 0) : (k.fdiv 16).toNat < k.toNat := by
  rw [Int.fdiv_eq_ediv_of_nonneg _ (by omega)]
  omega
set_option maxRecDepth 100000 in
set_option maxHeartbeats 8000000 in
theorem ap_spec {w : World} {p : Program} {loose : List Str} {mean : ExcName → Option Value} {mg mb : Str → Option Value}
    {dp un : Nat} {gd : Option (List Code)} {cn : Str} {cs : Scope} {a : Addr} {ccd : Value} {cl : List (Str × Addr)} {outer : List Env} {A₀ : Around} {base h₀ : Heap} {L : Addr} {m : Str → Option Value} {s : Shared} {Q E : Value → Shared → Prop} {x : Int} {n : Nat} {t : Tok}
    (B : Below A₀ base outer h₀) (F : Fr h₀ L s.heap m) (X : (hd.heap_39 w.params).In h₀) (T : Top p loose mean mg mb h₀) (hk : cs.kind = .function) (hd : dp + 1 < recursionLimit) (hu : un + 8 < cLine)
    {news : List (Addr × Obj)} (N0 : News h₀ L s.heap news) (hx : x = -(n : Int)) (hn : n < 48)
    (ret : ∀ (t' : Tok) (h' : Heap) (tk' : Nat), Fr h₀ L h' m → News h₀ L h' news → Q (.bytes (ap n) t') { s with heap := h', toks := tk' }) :
    wpAny (model PP w) (ktrTop dp un gd cn cs L a ccd cl outer) (call (.ref 64) [.int x t]) Q E s := by
  have N : News h₀ L s.heap [] := News.nil
  clear hu
  refine wpAny_call ?_
  k_dflt (refine' enter (binds := [(Str.ofString "num", .int x t)]) ?k1 ?k2 ?k3 ?k4 ?k5 ?kA ?kF ?kK ?k6 ?k7 ?k8 ?k9 ?kB ?_ ?c2 ?c3 ?c4 ?c5; (case kA => exact rfl); (case kF => exact rfl); (case kK => assumption); (case k1 => k_asm); (case k2 => k_asm); (case k3 => k_asm); (case k4 => k_asm); (case k5 => k_asm); (case k6 => k_is); (case k7 => k_is); (case k8 => ktr_room); (case k9 => exact BindsTo.of_eq rfl); (case kB => exact locs rfl); (case c5 => decide); (case c2 => exact rfl); (case c3 => exact rfl); (case c4 => exact rfl); k_whole)
  intro g L' h1 FG F' N' B' X' T' S'
  (try dsimp only)
  clear B F X T N FG
  k_with "exec While Name cons nil" => k_while (fun _ k v => 0 ≤ k ∧ k < 48 ∧ v.size ≤ 2 ∧ ApSt n k v) (fun _ k v => k.toNat) "num" "val"
  k_with "state" => first | exact ap_start hx hn | exact ap_turn hn (by assumption) (by assumption) (by assumption) (by assumption)
  k_with "measure" => exact ap_meas (by assumption) (by assumption)
  k_steps
  all_goals (try dsimp only)
  all_goals (refine' leaveK_ ?k1 ?k2 ?_; (case k1 => k_asm); (case k2 => k_asm); intro kF kN)
  all_goals exact ret_bytes (ret _ _ _ kF ((S'.trans (by assumption)).news N0)) (ap_end hn (by assumption) (by assumption))
end
theorem fresh6 : True := by
  (try walk1)
  w_top off
  k_with_none
  k_with "conj" => (first | with_reducible assumption | exact (at1 (by with_reducible assumption)) | exact (at1 (at2 (by with_reducible assumption))) | exact (at2 (by with_reducible assumption)) | exact (at1 (at2 (at2 (by with_reducible assumption)))) | exact (at2 (at2 (by with_reducible assumption))) | exact (at1 (at2 (at2 (at2 (by with_reducible assumption))))) | exact (at2 (at2 (at2 (by with_reducible assumption)))) | exact (at1 (at2 (at2 (at2 (at2 (by with_reducible assumption)))))) | exact (at2 (at2 (at2 (at2 (by with_reducible assumption))))) | exact (at1 (at2 (at2 (at2 (at2 (at2 (by with_reducible assumption))))))) | exact (at2 (at2 (at2 (at2 (at2 (by with_reducible assumption)))))) | exact (at1 (at2 (at2 (at2 (at2 (at2 (at2 (by with_reducible assumption)))))))) | exact (at2 (at2 (at2 (at2 (at2 (at2 (by with_reducible assumption))))))) | exact (at1 (at2 (at2 (at2 (at2 (at2 (at2 (at2 (by with_reducible assumption))))))))) | exact (at2 (at2 (at2 (at2 (at2 (at2 (at2 (by with_reducible assumption)))))))) | exact (at1 (at2 (at2 (at2 (at2 (at2 (at2 (at2 (at2 (by with_reducible assumption)))))))))) | exact (at2 (at2 (at2 (at2 (at2 (at2 (at2 (at2 (by with_reducible assumption))))))))) | exact (at1 (at2 (at2 (at2 (at2 (at2 (at2 (at2 (at2 (at2 (by with_reducible assumption))))))))))) | exact (at2 (at2 (at2 (at2 (at2 (at2 (at2 (at2 (at2 (by with_reducible assumption)))))))))) | exact (at1 (at1 (by with_reducible assumption))) | exact (at1 (at2 (at1 (by with_reducible assumption)))) | exact (at2 (at2 (at1 (by with_reducible assumption)))) | exact (at1 (at1 (at2 (by with_reducible assumption)))) | exact (at1 (at2 (at1 (at2 (by with_reducible assumption))))) | exact (at2 (at2 (at1 (at2 (by with_reducible assumption))))) | exact (at1 (at1 (at2 (at2 (by with_reducible assumption))))) | exact (at1 (at2 (at1 (at2 (at2 (by with_reducible assumption)))))) | exact (at2 (at2 (at1 (at2 (at2 (by with_reducible assumption)))))) | exact (at1 (at1 (at2 (at2 (at2 (by with_reducible assumption)))))) | exact (at1 (at2 (at1 (at2 (at2 (at2 (by with_reducible assumption))))))) | exact (at2 (at2 (at1 (at2 (at2 (at2 (by with_reducible assumption))))))) | exact (at1 (at1 (at2 (at2 (at2 (at2 (by with_reducible assumption))))))) | exact (at1 (at2 (at1 (at2 (at2 (at2 (at2 (by with_reducible assumption)))))))) | exact (at2 (at2 (at1 (at2 (at2 (at2 (at2 (by with_reducible assumption)))))))) | exact (at1 (at1 (at2 (at2 (at2 (at2 (at2 (by with_reducible assumption)))))))) | exact (at1 (at2 (at1 (at2 (at2 (at2 (at2 (at2 (by with_reducible assumption))))))))) | exact (at2 (at2 (at1 (at2 (at2 (at2 (at2 (at2 (by with_reducible assumption))))))))) | exact (at1 (at1 (at2 (at2 (at2 (at2 (at2 (at2 (by with_reducible assumption))))))))) | exact (at1 (at2 (at1 (at2 (at2 (at2 (at2 (at2 (at2 (by with_reducible assumption)))))))))) | exact (at2 (at2 (at1 (at2 (at2 (at2 (at2 (at2 (at2 (by with_reducible assumption)))))))))) | fail)
  k_with "noNe" => ((repeat (rename (@Ne Nat _ _) => hx9; clear hx9)); (repeat (rename (@Ne Nat _ _ ∧ _) => hx9; clear hx9)); (repeat (rename ((@Ne Nat _ _ ∧ _) ∧ _) => hx9; clear hx9)))
  trivial
section
theorem ints_cut {vs : List Value} {ns : List Int} (hi : IntsAre vs ns) : ∀ k, k < vs.length → ∃ t, kl_cut vs k = some (vs.take k, .int (ns.getD k 0) t, vs.drop (k + 1)) ∧ IntsAre (vs.take k ++ vs.drop (k + 1)) (ns.take k ++ ns.drop (k + 1)) := by
  induction hi with
  | nil => intro k hk; exact absurd hk (Nat.not_lt_zero _)
  | cons n u h ih =>
    intro k hk
    cases k with
    | zero => exact ⟨u, rfl, h⟩
    | succ k =>
      obtain ⟨t, h1, h2⟩ := ih k (Nat.lt_of_succ_lt_succ hk)
      refine ⟨t, ?_, .cons n u h2⟩
      unfold kl_cut
      rw [h1]
      rfl
section
variable {prog : Program} {w : World} {A : Around} {E : Value → Shared → Prop} {s : Shared} {h₀ : Heap} {L D : Addr} {m : Str → Option Value}
theorem pop_rule {i : Int} {u : Tok} {vs : List Value} {ns : List Int} {n : Nat} {news news' : List (Addr × Obj)} {Q : Value → Shared → Prop} (F : Fr h₀ L s.heap m) (N : News h₀ L s.heap news) (hi : IntsAre vs ns) (h0 : 0 ≤ i) (h1 : i < ns.length) (hz : ns.length ≤ 1000)
    (U : Upd D (listOf vs.toArray n) (listOf (vs.take i.toNat ++ vs.drop (i.toNat + 1)).toArray (n + 1)) news news')
    (h : ∀ h' t, Fr h₀ L h' m → News h₀ L h' news' → IntsAre (vs.take i.toNat ++ vs.drop (i.toNat + 1)) (ns.take i.toNat ++ ns.drop (i.toNat + 1)) → Q (.int (ns.getD i.toNat 0) t) { s with heap := h' }) :
    wpAny (model prog w) A (call (.builtin "list.pop") [.ref D, .int i u]) Q E s := by
  have hlen := hi.length
  obtain ⟨t, hc, hI⟩ := ints_cut hi i.toNat (by omega)
  refine kl_popAt F N (k := i.toNat) (p := vs.take i.toNat) (q := vs.drop (i.toNat + 1)) (y := .int (ns.getD i.toNat 0) t) ?_ ?_ (by rw [List.toList_toArray]; exact hc) U ?_ fun h' F' N' => h h' t F' N' hI
  · unfold Builtin.List.listFitsIndex
    rw [Bool.and_eq_true, decide_eq_true_eq, decide_eq_true_eq]
    omega
  · unfold seqIndex?
    rw [List.size_toArray]
    simp only [show ¬ i < 0 by omega, if_false, h0, show i < (vs.length : Int) by omega, decide_true, Bool.and_self, if_true]
  · rw [List.toList_toArray, sizeLine_eq]
    omega
end
theorem lines_Exch1 : True := by
  k_with "call type:list" => (k_here; (with_reducible show wpAny _ _ (call (Value.type _) [Value.ref _]) _ _ _); (rename IsRange _ _ _ _ _ _ _ _ => rgX); (with_unfolding_all refine' kll_range (n := 16) ?k0 ?k1 ?k2 ?k3 ?k4 ?k5 ?k6 ?_; (case k0 => rfl); (case k1 => k_asm); (case k2 => k_asm); (case k3 => first | exact rgX | assumption); (case k4 => decide); (case k5 => rfl); (case k6 => decide); k_whole); intro D' vs' c' h' tk' F' N' l1 hI'; (try k_lt l1); (try k_sweep))
  trivial
/-- what the exchange's loop keeps -/
noncomputable def R16 : List Int := [0, 1, 2, 3, 4, 5, 6, 7, 8, 9, 10, 11, 12, 13, 14, 15]
noncomputable def ExSt (pre left letters : List Int) : Prop := letters.length = pre.length ∧ left.length + pre.length = 16 ∧ (letters ++ left).Perm R16
theorem ex_start : ExSt [] (rangeKs 0 16) [] := ⟨rfl, by decide, by decide⟩
theorem ex_turn {pre left letters : List Int} {k i : Int} (h : letters.length = pre.length ∧ left.length + pre.length = 16 ∧ ExSt pre left letters) (h0 : 0 ≤ i) (h1 : i < left.length) :
    (letters ++ [left.getD i.toNat 0]).length = (pre ++ [k]).length ∧ (left.take i.toNat ++ left.drop (i.toNat + 1)).length + (pre ++ [k]).length = 16 ∧ ExSt (pre ++ [k]) (left.take i.toNat ++ left.drop (i.toNat + 1)) (letters ++ [left.getD i.toNat 0]) := by
  obtain ⟨ha, hb, _, _, hp⟩ := h
  have hlt : i.toNat < left.length := by omega
  have e : left = left.take i.toNat ++ left.getD i.toNat 0 :: left.drop (i.toNat + 1) := by
    have hd := List.getElem_cons_drop hlt
    have : left.getD i.toNat 0 = left[i.toNat] := by rw [List.getD_eq_getElem?_getD, List.getElem?_eq_getElem hlt]; rfl
    rw [this, hd, List.take_append_drop]
  have l1 : (letters ++ [left.getD i.toNat 0]).length = (pre ++ [k]).length := by simp [ha]
  have l2 : (left.take i.toNat ++ left.drop (i.toNat + 1)).length + (pre ++ [k]).length = 16 := by
    simp only [List.length_append, List.length_take, List.length_drop, List.length_cons, List.length_nil]
    omega
  refine ⟨l1, l2, l1, l2, ?_⟩
  refine List.Perm.trans ?_ hp
  conv => rhs; rw [e]
  rw [List.append_assoc]
  refine List.Perm.append_left _ ?_
  rw [List.singleton_append]
  exact List.perm_middle.symm
theorem ex_end {left letters : List Int} (h : ExSt (rangeKs 0 (16 - 0 : Int).toNat) left letters) : letters.length = 16 ∧ letters.Perm R16 := by
  obtain ⟨h1, h2, h3⟩ := h
  have e : (rangeKs 0 (16 - 0 : Int).toNat).length = 16 := by rw [rangeKs_length]; rfl
  have : left = [] := List.eq_nil_of_length_eq_zero (by omega)
  subst this
  rw [List.append_nil] at h3
  exact ⟨by omega, h3⟩
theorem ex_mod {x : Int} {n : Nat} (h : 0 < n) : 0 ≤ x.fmod (n : Int) ∧ x.fmod (n : Int) < n := ⟨Int.fmod_nonneg_of_pos _ (by omega), Int.fmod_lt_of_pos _ (by omega)⟩
theorem lines_Exch2 : True := by
  k_with "call builtin:list.pop" => (k_here; (with_reducible show wpAny _ _ (call (Value.builtin _) [Value.ref _, Value.int _ _]) _ _ _); k_dflt (refine' pop_rule ?F ?N ?hi ?a ?b ?z ?U ?_; (case F => k_asm); (case N => k_asm); (case U => k_upd); (case hi => assumption); (case a => exact (ex_mod (by omega)).1); (case b => exact (ex_mod (by omega)).2); (case z => omega)); intro h' t9 F' N' hI')
  trivial
set_option maxRecDepth 100000 in
set_option maxHeartbeats 8000000 in
theorem ex_spec {w : World} {p : Program} {loose : List Str} {mean : ExcName → Option Value} {mg mb : Str → Option Value}
    {dp un : Nat} {gd : Option (List Code)} {cn : Str} {cs : Scope} {a : Addr} {ccd : Value} {cl : List (Str × Addr)} {outer : List Env} {A₀ : Around} {base h₀ : Heap} {L : Addr} {m : Str → Option Value} {s : Shared} {Q E : Value → Shared → Prop} {l : Addr} {vs : List Value} {ns : List Int}
    (B : Below A₀ base outer h₀) (F : Fr h₀ L s.heap m) (X : (hd.heap_39 w.params).In h₀) (T : Top p loose mean mg mb h₀) (hk : cs.kind = .function) (hd : dp + 1 < recursionLimit) (hu : un + 8 < cLine)
    {news : List (Addr × Obj)} (N0 : News h₀ L s.heap news) (hl : s.heap.IsList l vs.toArray) (hi : IntsAre vs ns) (hfit : ns.length ≤ 63)
    (ret : ∀ (r : Addr) (us : List Value) (ls : List Int) (n : Nat) (h' : Heap) (tk' : Nat), Fr h₀ L h' m → News h₀ L h' ((r, listOf us.toArray n) :: news) → (∀ q ∈ news, q.1 ≠ r) → IntsAre us ls → ls.length = 16 → ls.Perm R16 → Q (.ref r) { s with heap := h', toks := tk' }) :
    wpAny (model PP w) (ktrTop dp un gd cn cs L a ccd cl outer) (call (.ref 137) [.ref l]) Q E s := by
  have N : News h₀ L s.heap [] := News.nil
  clear hu
  refine wpAny_call ?_
  k_dflt (refine' enter (binds := [(Str.ofString "script", .ref l)]) ?k1 ?k2 ?k3 ?k4 ?k5 ?kA ?kF ?kK ?k6 ?k7 ?k8 ?k9 ?kB ?_ ?c2 ?c3 ?c4 ?c5; (case kA => exact rfl); (case kF => exact rfl); (case kK => assumption); (case k1 => k_asm); (case k2 => k_asm); (case k3 => k_asm); (case k4 => k_asm); (case k5 => k_asm); (case k6 => k_is); (case k7 => k_is); (case k8 => ktr_room); (case k9 => exact BindsTo.of_eq rfl); (case kB => exact locs rfl); (case c5 => decide); (case c2 => exact rfl); (case c3 => exact rfl); (case c4 => exact rfl); k_whole)
  intro g L' h1 FG F' N' B' X' T' S'
  have hlg := stays_isList S' (by exact List.not_mem_nil) hl
  (try dsimp only)
  clear hl B F X T N FG
  k_with "pyIter ref" => k_state (fun pre left letters => letters.length = pre.length ∧ left.length + pre.length = 16 ∧ ExSt pre left letters) "left" "letters"
  k_with "state" => first | exact ⟨rfl, by decide, ex_start⟩ | exact ex_turn (by refine ⟨?_, ?_, ?_⟩ <;> assumption) (ex_mod (by omega)).1 (ex_mod (by omega)).2
  k_steps
  all_goals (try dsimp only)
  all_goals (refine' leaveK_ ?k1 ?k2 ?_; (case k1 => k_asm); (case k2 => k_asm); intro kF kN)
  all_goals (rename News g _ _ _ => kG)
  all_goals (rename ExSt _ _ _ => kE)
  all_goals exact ret _ _ _ _ _ _ kF (news_cons kN (.head _) ((S'.trans (by assumption)).news N0)) (new_off S' N0 (kG _ (.head _)).2.2) (by assumption) (ex_end kE).1 (ex_end kE).2
end
theorem fresh7 : True := by
  (try walk1)
  w_top off
  k_with_none
  k_with "conj" => (first | with_reducible assumption | exact (at1 (by with_reducible assumption)) | exact (at1 (at2 (by with_reducible assumption))) | exact (at2 (by with_reducible assumption)) | exact (at1 (at2 (at2 (by with_reducible assumption)))) | exact (at2 (at2 (by with_reducible assumption))) | exact (at1 (at2 (at2 (at2 (by with_reducible assumption))))) | exact (at2 (at2 (at2 (by with_reducible assumption)))) | exact (at1 (at2 (at2 (at2 (at2 (by with_reducible assumption)))))) | exact (at2 (at2 (at2 (at2 (by with_reducible assumption))))) | exact (at1 (at2 (at2 (at2 (at2 (at2 (by with_reducible assumption))))))) | exact (at2 (at2 (at2 (at2 (at2 (by with_reducible assumption)))))) | exact (at1 (at2 (at2 (at2 (at2 (at2 (at2 (by with_reducible assumption)))))))) | exact (at2 (at2 (at2 (at2 (at2 (at2 (by with_reducible assumption))))))) | exact (at1 (at2 (at2 (at2 (at2 (at2 (at2 (at2 (by with_reducible assumption))))))))) | exact (at2 (at2 (at2 (at2 (at2 (at2 (at2 (by with_reducible assumption)))))))) | exact (at1 (at2 (at2 (at2 (at2 (at2 (at2 (at2 (at2 (by with_reducible assumption)))))))))) | exact (at2 (at2 (at2 (at2 (at2 (at2 (at2 (at2 (by with_reducible assumption))))))))) | exact (at1 (at2 (at2 (at2 (at2 (at2 (at2 (at2 (at2 (at2 (by with_reducible assumption))))))))))) | exact (at2 (at2 (at2 (at2 (at2 (at2 (at2 (at2 (at2 (by with_reducible assumption)))))))))) | exact (at1 (at1 (by with_reducible assumption))) | exact (at1 (at2 (at1 (by with_reducible assumption)))) | exact (at2 (at2 (at1 (by with_reducible assumption)))) | exact (at1 (at1 (at2 (by with_reducible assumption)))) | exact (at1 (at2 (at1 (at2 (by with_reducible assumption))))) | exact (at2 (at2 (at1 (at2 (by with_reducible assumption))))) | exact (at1 (at1 (at2 (at2 (by with_reducible assumption))))) | exact (at1 (at2 (at1 (at2 (at2 (by with_reducible assumption)))))) | exact (at2 (at2 (at1 (at2 (at2 (by with_reducible assumption)))))) | exact (at1 (at1 (at2 (at2 (at2 (by with_reducible assumption)))))) | exact (at1 (at2 (at1 (at2 (at2 (at2 (by with_reducible assumption))))))) | exact (at2 (at2 (at1 (at2 (at2 (at2 (by with_reducible assumption))))))) | exact (at1 (at1 (at2 (at2 (at2 (at2 (by with_reducible assumption))))))) | exact (at1 (at2 (at1 (at2 (at2 (at2 (at2 (by with_reducible assumption)))))))) | exact (at2 (at2 (at1 (at2 (at2 (at2 (at2 (by with_reducible assumption)))))))) | exact (at1 (at1 (at2 (at2 (at2 (at2 (at2 (by with_reducible assumption)))))))) | exact (at1 (at2 (at1 (at2 (at2 (at2 (at2 (at2 (by with_reducible assumption))))))))) | exact (at2 (at2 (at1 (at2 (at2 (at2 (at2 (at2 (by with_reducible assumption))))))))) | exact (at1 (at1 (at2 (at2 (at2 (at2 (at2 (at2 (by with_reducible assumption))))))))) | exact (at1 (at2 (at1 (at2 (at2 (at2 (at2 (at2 (at2 (by with_reducible assumption)))))))))) | exact (at2 (at2 (at1 (at2 (at2 (at2 (at2 (at2 (at2 (by with_reducible assumption)))))))))) | fail)
  k_with "noNe" => ((repeat (rename (@Ne Nat _ _) => hx9; clear hx9)); (repeat (rename (@Ne Nat _ _ ∧ _) => hx9; clear hx9)); (repeat (rename ((@Ne Nat _ _ ∧ _) ∧ _) => hx9; clear hx9)))
  trivial
section
noncomputable def apLen (n : Nat) : Int := ((ap n).size : Int)
noncomputable def apPad (n : Nat) : List UInt8 := (List.replicate (2 - apLen n).toNat [(65 : UInt8)]).flatten
noncomputable def apWord (n : Nat) : List UInt8 := [UInt8.ofNat (65 + n / 16), UInt8.ofNat (65 + n % 16)]
theorem ap_three {n : Nat} (_hn : n < 48) : (n = 0 ∧ ap n = #[]) ∨ (1 ≤ n ∧ n < 16 ∧ ap n = #[UInt8.ofNat (65 + n)]) ∨ (16 ≤ n ∧ ap n = #[UInt8.ofNat (65 + n / 16), UInt8.ofNat (65 + n % 16)]) := by
  unfold ap
  by_cases h : n = 0
  · exact .inl ⟨h, by rw [if_pos h]⟩
  · by_cases h2 : n < 16
    · exact .inr (.inl ⟨by omega, h2, by rw [if_neg h, if_pos h2]⟩)
    · exact .inr (.inr ⟨by omega, by rw [if_neg h, if_neg h2]⟩)
theorem apLen_le {n : Nat} (hn : n < 48) : 0 ≤ apLen n ∧ apLen n ≤ 2 := by
  unfold apLen
  rcases ap_three hn with ⟨_, e⟩ | ⟨_, _, e⟩ | ⟨_, e⟩ <;> rw [e] <;> simp
theorem ap_word {n : Nat} (hn : n < 48) : apPad n ++ (ap n).toList = apWord n := by
  unfold apPad apWord apLen
  rcases ap_three hn with ⟨h, e⟩ | ⟨h, h2, e⟩ | ⟨h, e⟩
  · subst h; rw [e]; rfl
  · rw [e]
    have e1 : n / 16 = 0 := by omega
    have e2 : n % 16 = n := by omega
    rw [e1, e2]; rfl
  · rw [e]; rfl
theorem ap_ofNat {k : Nat} (h : k < 191) : (((UInt8.ofNat (65 + k)).toNat : Nat) : Int) = 65 + (k : Int) := by
  rw [UInt8.toNat_ofNat']
  omega
section
variable {prog : Program} {w : World} {A : Around} {E : Value → Shared → Prop} {s : Shared} {n : Nat} {t u : Tok} {Q : Value → Shared → Prop}
theorem len_ap (hn : n < 48) (h : Q (.int (apLen n) (s.toks + 1)) { s with toks := s.toks + 1 + 1 }) : wpAny (model prog w) A (call (.builtin "len") [.bytes (ap n) t]) Q E s := by
  refine len_bytes ?_ h
  have := apLen_le hn
  unfold apLen at this
  omega
theorem mul_ap (hn : n < 48) (h : ∀ t' k, Q (.bytes (apPad n).toArray t') { s with toks := k }) : wpAny (model prog w) A (binaryOp .Mult (.bytes (List.toArray [65]) t) (.int (2 - apLen n) u)) Q E s := by
  have := apLen_le hn
  exact bytes_mul_any (by decide) (by omega) (by omega) (by decide) h
theorem add_ap (hn : n < 48) (h : ∀ t' k, Q (.bytes (apWord n).toArray t') { s with toks := k }) : wpAny (model prog w) A (binaryOp .Add (.bytes (apPad n).toArray t) (.bytes (ap n) u)) Q E s := by
  have e := ap_word hn
  have hl : (apPad n).length + (ap n).toList.length = 2 := by rw [← List.length_append, e]; rfl
  have h' := bytes_add_K (prog := prog) (w := w) (A := A) (E := E) (s := s) (t := t) (u := u) (b := apPad n) (c := (ap n).toList) (Q := Q) (by rw [List.size_toArray, List.size_toArray, hl]; decide) e h
  rwa [Array.toArray_toList] at h'
theorem item_ap {value slice : PySem.Expr} {i k : Int} (e : (i = 0 ∧ k = 65 + ((n / 16 : Nat) : Int)) ∨ (i = 1 ∧ k = 65 + ((n % 16 : Nat) : Int))) (hn : n < 48) (h : Q (.int k s.toks) { s with toks := s.toks + 1 })
    (hs : subscripted slice false (.bytes (apWord n).toArray t) (.int i u) = operate [.bytes (apWord n).toArray t, .int i u] (getItem (.bytes (apWord n).toArray t) (.int i u)) := by with_unfolding_all rfl)
    (ht : ∀ r, letTemporaryGo value (.bytes (apWord n).toArray t) r = pure () := by intro _; with_unfolding_all rfl) : wpAny (model prog w) A (subscriptTail value slice (.bytes (apWord n).toArray t) (.int i u)) Q E s := by
  refine bytes_item_K (k := k) (show (2 : Nat) ≤ 1099511627776 by decide) ?_ ?_ ?_ h hs ht
  · omega
  · show i < ((2 : Nat) : Int); omega
  · rcases e with ⟨rfl, rfl⟩ | ⟨rfl, rfl⟩
    · exact ap_ofNat (k := n / 16) (by omega)
    · exact ap_ofNat (k := n % 16) (by omega)
end
theorem ap_neg {k : Int} (h : 0 ≤ k) : -k = -((k.toNat : Nat) : Int) := by omega
/-- the point of a number: its letters exchanged, the last one first -/
noncomputable def pt (ls : List Int) (k : Int) : Int := 16 * ls.getD (k.toNat % 16) 0 + ls.getD (k.toNat / 16) 0
theorem pts_turn {ls pre points : List Int} {k : Int} (h : points.length = pre.length ∧ points = pre.map (pt ls)) :
    (points ++ [16 * ls.getD (65 + ((k.toNat % 16 : Nat) : Int) - 65).toNat 0 + ls.getD (65 + ((k.toNat / 16 : Nat) : Int) - 65).toNat 0]).length = (pre ++ [k]).length ∧ points ++ [16 * ls.getD (65 + ((k.toNat % 16 : Nat) : Int) - 65).toNat 0 + ls.getD (65 + ((k.toNat / 16 : Nat) : Int) - 65).toNat 0] = (pre ++ [k]).map (pt ls) := by
  obtain ⟨h1, h2⟩ := h
  have e1 : (65 + ((k.toNat % 16 : Nat) : Int) - 65).toNat = k.toNat % 16 := by omega
  have e2 : (65 + ((k.toNat / 16 : Nat) : Int) - 65).toNat = k.toNat / 16 := by omega
  rw [e1, e2]
  refine ⟨by simp [h1], ?_⟩
  rw [List.map_append, ← h2]
  rfl
theorem toNat_sub0 (N : Nat) : ((N : Int) - 0).toNat = N := by omega
theorem ints_as {vs : List Value} {f g : List Int} (h : IntsAre vs f) (e : f = g) : IntsAre vs g := e ▸ h
theorem lines_Pts1 : True := by
  k_with "call builtin:len" => (k_here; (with_reducible show wpAny _ _ (call (Value.builtin "len") [Value.bytes (ap _) _]) _ _ _); refine len_ap (by omega) ?_)
  k_with "binaryOp Mult bytes int" => (k_here; (with_reducible show wpAny _ _ (binaryOp _ (Value.bytes _ _) (Value.int (_ - apLen _) _)) _ _ _); refine mul_ap (by omega) ?_; intro _ _)
  k_with "binaryOp Add bytes bytes" => (k_here; (with_reducible show wpAny _ _ (binaryOp _ (Value.bytes (List.toArray (apPad _)) _) (Value.bytes (ap _) _)) _ _ _); refine add_ap (by omega) ?_; intro _ _)
  k_with "subscriptTail" => (k_here; (with_reducible show wpAny _ _ (subscriptTail _ _ (Value.bytes (List.toArray (apWord _)) _) (Value.int _ _)) _ _ _); (first | refine item_ap (.inl ⟨rfl, rfl⟩) (by omega) ?_ | refine item_ap (.inr ⟨rfl, rfl⟩) (by omega) ?_))
  k_with "call ref" => (k_here; k_dflt (refine' ap_spec ?u1 ?u2 ?u3 ?u4 ?u5 ?u6 ?u7 ?hn ?hx ?h48 ?_; (case u1 => k_asm); (case u2 => k_asm); (case u3 => k_asm); (case u4 => k_asm); (case u5 => first | exact rfl | assumption); (case u6 => ktr_room); (case u7 => ktr_units); (case hn => k_asm); (case hx => exact ap_neg (by omega)); (case h48 => omega)); intro t9 h9 tk9 F9 N9; (try dsimp only))
  trivial
set_option maxRecDepth 100000 in
set_option maxHeartbeats 8000000 in
theorem pts_spec {w : World} {p : Program} {loose : List Str} {mean : ExcName → Option Value} {mg mb : Str → Option Value}
    {dp un : Nat} {gd : Option (List Code)} {cn : Str} {cs : Scope} {a : Addr} {ccd : Value} {cl : List (Str × Addr)} {outer : List Env} {A₀ : Around} {base h₀ : Heap} {L : Addr} {m : Str → Option Value} {s : Shared} {Q E : Value → Shared → Prop} {l : Addr} {us : List Value} {ls : List Int} {N : Nat} {t : Tok}
    (B : Below A₀ base outer h₀) (F : Fr h₀ L s.heap m) (X : (hd.heap_39 w.params).In h₀) (T : Top p loose mean mg mb h₀) (hk : cs.kind = .function) (hd : dp + 2 < recursionLimit) (hu : un + 16 < cLine)
    {news : List (Addr × Obj)} (N0 : News h₀ L s.heap news) (hl : s.heap.IsList l us.toArray) (hi : IntsAre us ls) (hlen : ls.length = 16) (hN : N ≤ 48)
    (ret : ∀ (r : Addr) (vs : List Value) (n : Nat) (h' : Heap) (tk' : Nat), Fr h₀ L h' m → News h₀ L h' ((r, listOf vs.toArray n) :: news) → (∀ q ∈ news, q.1 ≠ r) → IntsAre vs ((rangeKs 0 N).map (pt ls)) → Q (.ref r) { s with heap := h', toks := tk' }) :
    wpAny (model PP w) (ktrTop dp un gd cn cs L a ccd cl outer) (call (.ref 144) [.ref l, .int N t]) Q E s := by
  have N1 : News h₀ L s.heap [] := News.nil
  refine wpAny_call ?_
  k_dflt (refine' enter (binds := [(Str.ofString "letters", .ref l), (Str.ofString "total", .int N t)]) ?k1 ?k2 ?k3 ?k4 ?k5 ?kA ?kF ?kK ?k6 ?k7 ?k8 ?k9 ?kB ?_ ?c2 ?c3 ?c4 ?c5; (case kA => exact rfl); (case kF => exact rfl); (case kK => assumption); (case k1 => k_asm); (case k2 => k_asm); (case k3 => k_asm); (case k4 => k_asm); (case k5 => k_asm); (case k6 => k_is); (case k7 => k_is); (case k8 => ktr_room); (case k9 => exact BindsTo.of_eq rfl); (case kB => exact locs rfl); (case c5 => decide); (case c2 => exact rfl); (case c3 => exact rfl); (case c4 => exact rfl); k_whole)
  intro g L' h1 FG F' N' B' X' T' S'
  have hlg := stays_isList S' (by exact List.not_mem_nil) hl
  (try dsimp only)
  clear hl B F X T N1 FG
  k_with "pyIter ref" => k_state (fun pre points => points.length = pre.length ∧ points = pre.map (pt ls)) "points"
  k_with "state" => first | exact ⟨rfl, rfl⟩ | exact pts_turn (by refine ⟨?_, ?_⟩ <;> assumption)
  k_steps
  all_goals (try dsimp only)
  all_goals (refine' leaveK_ ?k1 ?k2 ?_; (case k1 => k_asm); (case k2 => k_asm); intro kF kN)
  all_goals (rename News g _ _ _ => kG)
  all_goals (rename (_ : List Int) = List.map _ _ => kE)
  all_goals exact ret _ _ _ _ _ kF (news_cons kN (.head _) ((S'.trans (by assumption)).news N0)) (new_off S' N0 (kG _ (.head _)).2.2) (ints_as (by assumption) (kE.trans (by rw [toNat_sub0])))
end
theorem fresh8 : True := by
  (try walk1)
  w_top off
  k_with_none
  k_with "conj" => (first | with_reducible assumption | exact (at1 (by with_reducible assumption)) | exact (at1 (at2 (by with_reducible assumption))) | exact (at2 (by with_reducible assumption)) | exact (at1 (at2 (at2 (by with_reducible assumption)))) | exact (at2 (at2 (by with_reducible assumption))) | exact (at1 (at2 (at2 (at2 (by with_reducible assumption))))) | exact (at2 (at2 (at2 (by with_reducible assumption)))) | exact (at1 (at2 (at2 (at2 (at2 (by with_reducible assumption)))))) | exact (at2 (at2 (at2 (at2 (by with_reducible assumption))))) | exact (at1 (at2 (at2 (at2 (at2 (at2 (by with_reducible assumption))))))) | exact (at2 (at2 (at2 (at2 (at2 (by with_reducible assumption)))))) | exact (at1 (at2 (at2 (at2 (at2 (at2 (at2 (by with_reducible assumption)))))))) | exact (at2 (at2 (at2 (at2 (at2 (at2 (by with_reducible assumption))))))) | exact (at1 (at2 (at2 (at2 (at2 (at2 (at2 (at2 (by with_reducible assumption))))))))) | exact (at2 (at2 (at2 (at2 (at2 (at2 (at2 (by with_reducible assumption)))))))) | exact (at1 (at2 (at2 (at2 (at2 (at2 (at2 (at2 (at2 (by with_reducible assumption)))))))))) | exact (at2 (at2 (at2 (at2 (at2 (at2 (at2 (at2 (by with_reducible assumption))))))))) | exact (at1 (at2 (at2 (at2 (at2 (at2 (at2 (at2 (at2 (at2 (by with_reducible assumption))))))))))) | exact (at2 (at2 (at2 (at2 (at2 (at2 (at2 (at2 (at2 (by with_reducible assumption)))))))))) | exact (at1 (at1 (by with_reducible assumption))) | exact (at1 (at2 (at1 (by with_reducible assumption)))) | exact (at2 (at2 (at1 (by with_reducible assumption)))) | exact (at1 (at1 (at2 (by with_reducible assumption)))) | exact (at1 (at2 (at1 (at2 (by with_reducible assumption))))) | exact (at2 (at2 (at1 (at2 (by with_reducible assumption))))) | exact (at1 (at1 (at2 (at2 (by with_reducible assumption))))) | exact (at1 (at2 (at1 (at2 (at2 (by with_reducible assumption)))))) | exact (at2 (at2 (at1 (at2 (at2 (by with_reducible assumption)))))) | exact (at1 (at1 (at2 (at2 (at2 (by with_reducible assumption)))))) | exact (at1 (at2 (at1 (at2 (at2 (at2 (by with_reducible assumption))))))) | exact (at2 (at2 (at1 (at2 (at2 (at2 (by with_reducible assumption))))))) | exact (at1 (at1 (at2 (at2 (at2 (at2 (by with_reducible assumption))))))) | exact (at1 (at2 (at1 (at2 (at2 (at2 (at2 (by with_reducible assumption)))))))) | exact (at2 (at2 (at1 (at2 (at2 (at2 (at2 (by with_reducible assumption)))))))) | exact (at1 (at1 (at2 (at2 (at2 (at2 (at2 (by with_reducible assumption)))))))) | exact (at1 (at2 (at1 (at2 (at2 (at2 (at2 (at2 (by with_reducible assumption))))))))) | exact (at2 (at2 (at1 (at2 (at2 (at2 (at2 (at2 (by with_reducible assumption))))))))) | exact (at1 (at1 (at2 (at2 (at2 (at2 (at2 (at2 (by with_reducible assumption))))))))) | exact (at1 (at2 (at1 (at2 (at2 (at2 (at2 (at2 (at2 (by with_reducible assumption)))))))))) | exact (at2 (at2 (at1 (at2 (at2 (at2 (at2 (at2 (at2 (by with_reducible assumption)))))))))) | fail)
  k_with "noNe" => ((repeat (rename (@Ne Nat _ _) => hx9; clear hx9)); (repeat (rename (@Ne Nat _ _ ∧ _) => hx9; clear hx9)); (repeat (rename ((@Ne Nat _ _ ∧ _) ∧ _) => hx9; clear hx9)))
  trivial
section
/-- in a sorted list the items below the count are those that lie below x -/
theorem count_sorted (q : Int → Bool) {ns : List Int} (hs : ns.Pairwise (· ≤ ·)) (hq : ∀ a b, a ≤ b → q b = true → q a = true) : ∀ i : Nat, i < ns.length → (q (ns.getD i 0) = true ↔ i < ns.countP q) := by
  induction ns with
  | nil => intro i hi; exact absurd hi (Nat.not_lt_zero _)
  | cons a r ih =>
    rw [List.pairwise_cons] at hs
    intro i hi
    cases i with
    | zero =>
      rw [List.getD_cons_zero, List.countP_cons]
      cases h : q a with
      | true => simp
      | false =>
        have : r.countP q = 0 := by
          rw [List.countP_eq_zero]
          intro b hb hqb
          rw [hq a b (hs.1 b hb) hqb] at h
          cases h
        simp [this]
    | succ i =>
      rw [List.getD_cons_succ, List.countP_cons, ih hs.2 i (Nat.lt_of_succ_lt_succ hi)]
      cases h : q a with
      | true => simp
      | false =>
        have : r.countP q = 0 := by
          rw [List.countP_eq_zero]
          intro b hb hqb
          rw [hq a b (hs.1 b hb) hqb] at h
          cases h
        simp [this]
theorem count_sortedI (q : Int → Bool) {ns : List Int} (hs : ns.Pairwise (· ≤ ·)) (hq : ∀ a b, a ≤ b → q b = true → q a = true) : ∀ i : Int, 0 ≤ i → i < ns.length → (q (ns.getD i.toNat 0) = true ↔ i < (ns.countP q : Int)) := by
  intro i h0 h1
  rw [count_sorted q hs hq i.toNat (by omega)]
  omega
theorem ins_perm (ns : List Int) (x : Int) (k : Nat) : (ns.take k ++ x :: ns.drop k).Perm (x :: ns) := by
  refine List.perm_middle.trans ?_
  rw [List.take_append_drop]
theorem ins_sorted (q : Int → Bool) {ns : List Int} {x : Int} (hs : ns.Pairwise (· ≤ ·)) (hq : ∀ a b, a ≤ b → q b = true → q a = true) (h1 : ∀ a, q a = true → a ≤ x) (h2 : ∀ a, q a = false → x ≤ a) :
    (ns.take (ns.countP q) ++ x :: ns.drop (ns.countP q)).Pairwise (· ≤ ·) := by
  induction ns with
  | nil => simp
  | cons a r ih =>
    have hs' := List.pairwise_cons.mp hs
    rw [List.countP_cons]
    cases h : q a with
    | true =>
      simp only [if_true, List.take_succ_cons, List.drop_succ_cons, List.cons_append]
      rw [List.pairwise_cons]
      refine ⟨fun b hb => ?_, ih hs'.2⟩
      have hb' := (ins_perm r x _).mem_iff.mp hb
      rcases List.mem_cons.mp hb' with rfl | hb'
      · exact h1 a h
      · exact hs'.1 b hb'
    | false =>
      have : r.countP q = 0 := by
        rw [List.countP_eq_zero]
        intro b hb hqb
        rw [hq a b (hs'.1 b hb) hqb] at h
        cases h
      simp only [Bool.false_eq_true, if_false, this, Nat.add_zero, List.take_zero, List.drop_zero, List.nil_append]
      rw [List.pairwise_cons]
      refine ⟨fun b hb => ?_, hs⟩
      rcases List.mem_cons.mp hb with rfl | hb
      · exact h2 b h
      · exact Int.le_trans (h2 a h) (hs'.1 b hb)
theorem il_sorted {w : World} {p : Program} {loose : List Str} {mean : ExcName → Option Value} {mg mb : Str → Option Value}
    {dp un : Nat} {gd : Option (List Code)} {cn : Str} {cs : Scope} {a : Addr} {ccd : Value} {cl : List (Str × Addr)} {outer : List Env} {A₀ : Around} {base h₀ : Heap} {L : Addr} {m : Str → Option Value} {s : Shared} {Q E : Value → Shared → Prop} {l : Addr} {vs : List Value} {ns : List Int} {x : Int} {t : Tok} {n : Nat}
    (B : Below A₀ base outer h₀) (F : Fr h₀ L s.heap m) (X : (hd.heap_39 w.params).In h₀) (T : Top p loose mean mg mb h₀) (hk : cs.kind = .function) (hd : dp + 2 < recursionLimit) (hu : un + 16 < cLine)
    {rest : List (Addr × Obj)} (N0 : News h₀ L s.heap ((l, listOf vs.toArray n) :: rest)) (hoff : ∀ q ∈ rest, q.1 ≠ l) (hi : IntsAre vs ns) (hfit : ns.length < 1000) (hs : ns.Pairwise (· ≤ ·))
    (ret : ∀ (vs' : List Value) (ns' : List Int) (h' : Heap) (tk' : Nat), Fr h₀ L h' m → News h₀ L h' ((l, listOf vs'.toArray (n + 1)) :: rest) → IntsAre vs' ns' → ns'.Pairwise (· ≤ ·) → ns'.Perm (x :: ns) → Q .none { s with heap := h', toks := tk' }) :
    wpAny (model PP w) (ktrTop dp un gd cn cs L a ccd cl outer) (call (.ref 48) [.ref l, .int x t]) Q E s := by
  have hq : ∀ a b : Int, a ≤ b → decide (b < x) = true → decide (a < x) = true := by
    intro a b h1 h2
    rw [decide_eq_true_eq] at h2 ⊢
    omega
  have hb := count_sortedI (fun a => decide (a < x)) hs hq
  simp only [decide_eq_true_eq] at hb
  have hc := List.countP_le_length (p := fun a => decide (a < x)) (l := ns)
  refine il_spec B F X T hk hd hu N0 hoff hi hfit (b := (ns.countP (fun a => decide (a < x)) : Int)) (by omega) (by omega) hb fun vs' h' tk' F' N' hI => ?_
  rw [Int.toNat_natCast] at hI
  exact ret _ _ _ _ F' N' hI (ins_sorted _ hs hq (fun a h => by rw [decide_eq_true_eq] at h; omega) (fun a h => by rw [decide_eq_false_iff_not] at h; omega)) (ins_perm _ _ _)
theorem ir_sorted {w : World} {p : Program} {loose : List Str} {mean : ExcName → Option Value} {mg mb : Str → Option Value}
    {dp un : Nat} {gd : Option (List Code)} {cn : Str} {cs : Scope} {a : Addr} {ccd : Value} {cl : List (Str × Addr)} {outer : List Env} {A₀ : Around} {base h₀ : Heap} {L : Addr} {m : Str → Option Value} {s : Shared} {Q E : Value → Shared → Prop} {l : Addr} {vs : List Value} {ns : List Int} {x : Int} {t : Tok} {n : Nat}
    (B : Below A₀ base outer h₀) (F : Fr h₀ L s.heap m) (X : (hd.heap_39 w.params).In h₀) (T : Top p loose mean mg mb h₀) (hk : cs.kind = .function) (hd : dp + 2 < recursionLimit) (hu : un + 16 < cLine)
    {rest : List (Addr × Obj)} (N0 : News h₀ L s.heap ((l, listOf vs.toArray n) :: rest)) (hoff : ∀ q ∈ rest, q.1 ≠ l) (hi : IntsAre vs ns) (hfit : ns.length < 1000) (hs : ns.Pairwise (· ≤ ·))
    (ret : ∀ (vs' : List Value) (ns' : List Int) (h' : Heap) (tk' : Nat), Fr h₀ L h' m → News h₀ L h' ((l, listOf vs'.toArray (n + 1)) :: rest) → IntsAre vs' ns' → ns'.Pairwise (· ≤ ·) → ns'.Perm (x :: ns) → Q .none { s with heap := h', toks := tk' }) :
    wpAny (model PP w) (ktrTop dp un gd cn cs L a ccd cl outer) (call (.ref 30) [.ref l, .int x t]) Q E s := by
  have hq : ∀ a b : Int, a ≤ b → decide (b ≤ x) = true → decide (a ≤ x) = true := by
    intro a b h1 h2
    rw [decide_eq_true_eq] at h2 ⊢
    omega
  have hb := count_sortedI (fun a => decide (a ≤ x)) hs hq
  simp only [decide_eq_true_eq] at hb
  have hc := List.countP_le_length (p := fun a => decide (a ≤ x)) (l := ns)
  refine ir_spec B F X T hk hd hu N0 hoff hi hfit (b := (ns.countP (fun a => decide (a ≤ x)) : Int)) (by omega) (by omega) hb fun vs' h' tk' F' N' hI => ?_
  rw [Int.toNat_natCast] at hI
  exact ret _ _ _ _ F' N' hI (ins_sorted _ hs hq (fun a h => by rw [decide_eq_true_eq] at h; omega) (fun a h => by rw [decide_eq_false_iff_not] at h; omega)) (ins_perm _ _ _)
noncomputable def RowSt (ps pre row : List Int) : Prop := row.Pairwise (· ≤ ·) ∧ row.Perm (ps.take pre.length)
theorem RowSt.sorted {ps pre row : List Int} (h : RowSt ps pre row) : row.Pairwise (· ≤ ·) := h.1
theorem row_start (ps : List Int) : ([] : List Int).length = ([] : List Int).length ∧ RowSt ps [] [] := ⟨rfl, List.Pairwise.nil, List.Perm.refl _⟩
theorem row_turn {ps pre row row' : List Int} {k : Int} (hk : k = 0 + (pre.length : Int)) (hlt : pre.length < ps.length) (h : row.length = pre.length ∧ RowSt ps pre row) (hs : row'.Pairwise (· ≤ ·)) (hp : row'.Perm (ps.getD k.toNat 0 :: row)) :
    row'.length = (pre ++ [k]).length ∧ RowSt ps (pre ++ [k]) row' := by
  have e : k.toNat = pre.length := by omega
  rw [e] at hp
  refine ⟨by rw [hp.length_eq]; simp [h.1], hs, hp.trans ?_⟩
  rw [List.length_append, List.length_singleton, List.take_add_one, List.getElem?_eq_getElem hlt]
  have e2 : ps.getD pre.length 0 = ps[pre.length] := by rw [List.getD_eq_getElem?_getD, List.getElem?_eq_getElem hlt]; rfl
  rw [e2]
  refine ((h.2.2).cons _).trans ?_
  exact (List.perm_append_singleton _ _).symm
theorem row_end {ps row : List Int} (h : RowSt ps (rangeKs 0 ((ps.length : Int) - 0).toNat) row) : row.Pairwise (· ≤ ·) ∧ row.Perm ps := by
  obtain ⟨h1, h2⟩ := h
  rw [rangeKs_length, toNat_sub0, List.take_length] at h2
  exact ⟨h1, h2⟩
theorem lines_Row1 : True := by
  k_with "call ref" => (k_here; k_dflt (first   | (refine' il_sorted ?u1 ?u2 ?u3 ?u4 ?u5 ?u6 ?u7 ?hn ?hoff ?hi ?hf ?hs ?_; (case u1 => k_asm); (case u2 => k_asm); (case u3 => k_asm); (case u4 => k_asm); (case u5 => first | exact rfl | assumption); (case u6 => ktr_room); (case u7 => ktr_units); (case hn => k_asm); (case hoff => exact OwnOff.ne (by assumption) (by exact .head _)); (case hi => assumption); (case hf => omega); (case hs => exact RowSt.sorted (by assumption)))   | (refine' ir_sorted ?u1 ?u2 ?u3 ?u4 ?u5 ?u6 ?u7 ?hn ?hoff ?hi ?hf ?hs ?_; (case u1 => k_asm); (case u2 => k_asm); (case u3 => k_asm); (case u4 => k_asm); (case u5 => first | exact rfl | assumption); (case u6 => ktr_room); (case u7 => ktr_units); (case hn => k_asm); (case hoff => exact OwnOff.ne (by assumption) (by exact .head _)); (case hi => assumption); (case hf => omega); (case hs => exact RowSt.sorted (by assumption)))); intro v9 w9 h9 tk9 F9 N9 hI9 hS9 hP9; (try dsimp only))
  trivial
set_option maxRecDepth 100000 in
set_option maxHeartbeats 8000000 in
theorem row_spec {w : World} {p : Program} {loose : List Str} {mean : ExcName → Option Value} {mg mb : Str → Option Value}
    {dp un : Nat} {gd : Option (List Code)} {cn : Str} {cs : Scope} {a : Addr} {ccd : Value} {cl : List (Str × Addr)} {outer : List Env} {A₀ : Around} {base h₀ : Heap} {L : Addr} {m : Str → Option Value} {s : Shared} {Q E : Value → Shared → Prop} {l : Addr} {us : List Value} {ps : List Int}
    (B : Below A₀ base outer h₀) (F : Fr h₀ L s.heap m) (X : (hd.heap_39 w.params).In h₀) (T : Top p loose mean mg mb h₀) (hk : cs.kind = .function) (hd : dp + 3 < recursionLimit) (hu : un + 24 < cLine)
    {news : List (Addr × Obj)} (N0 : News h₀ L s.heap news) (hl : s.heap.IsList l us.toArray) (hi : IntsAre us ps) (hfit : ps.length ≤ 48)
    (ret : ∀ (r : Addr) (vs : List Value) (rs : List Int) (n : Nat) (h' : Heap) (tk' : Nat), Fr h₀ L h' m → News h₀ L h' ((r, listOf vs.toArray n) :: news) → (∀ q ∈ news, q.1 ≠ r) → IntsAre vs rs → rs.Pairwise (· ≤ ·) → rs.Perm ps → Q (.ref r) { s with heap := h', toks := tk' }) :
    wpAny (model PP w) (ktrTop dp un gd cn cs L a ccd cl outer) (call (.ref 151) [.ref l]) Q E s := by
  have N1 : News h₀ L s.heap [] := News.nil
  refine wpAny_call ?_
  k_dflt (refine' enter (binds := [(Str.ofString "points", .ref l)]) ?k1 ?k2 ?k3 ?k4 ?k5 ?kA ?kF ?kK ?k6 ?k7 ?k8 ?k9 ?kB ?_ ?c2 ?c3 ?c4 ?c5; (case kA => exact rfl); (case kF => exact rfl); (case kK => assumption); (case k1 => k_asm); (case k2 => k_asm); (case k3 => k_asm); (case k4 => k_asm); (case k5 => k_asm); (case k6 => k_is); (case k7 => k_is); (case k8 => ktr_room); (case k9 => exact BindsTo.of_eq rfl); (case kB => exact locs rfl); (case c5 => decide); (case c2 => exact rfl); (case c3 => exact rfl); (case c4 => exact rfl); k_whole)
  intro g L' h1 FG F' N' B' X' T' S'
  have hlg := stays_isList S' (by exact List.not_mem_nil) hl
  (try dsimp only)
  clear hl B F X T N1 FG
  k_with "pyIter ref" => k_state (fun pre row => row.length = pre.length ∧ RowSt ps pre row) "row"
  k_with "state" => first | exact row_start ps | exact row_turn (by assumption) (by omega) (by refine ⟨?_, ?_⟩ <;> assumption) (by assumption) (by assumption)
  k_steps
  all_goals (try dsimp only)
  all_goals (refine' leaveK_ ?k1 ?k2 ?_; (case k1 => k_asm); (case k2 => k_asm); intro kF kN)
  all_goals (rename News g _ _ _ => kG)
  all_goals (rename RowSt _ _ _ => kE)
  all_goals exact ret _ _ _ _ _ _ kF (news_cons kN (.head _) ((S'.trans (by assumption)).news N0)) (new_off S' N0 (kG _ (.head _)).2.2) (by assumption) (row_end kE).1 (row_end kE).2
end
theorem fresh9 : True := by
  (try walk1)
  w_top off
  k_with_none
  k_with "conj" => (first | with_reducible assumption | exact (at1 (by with_reducible assumption)) | exact (at1 (at2 (by with_reducible assumption))) | exact (at2 (by with_reducible assumption)) | exact (at1 (at2 (at2 (by with_reducible assumption)))) | exact (at2 (at2 (by with_reducible assumption))) | exact (at1 (at2 (at2 (at2 (by with_reducible assumption))))) | exact (at2 (at2 (at2 (by with_reducible assumption)))) | exact (at1 (at2 (at2 (at2 (at2 (by with_reducible assumption)))))) | exact (at2 (at2 (at2 (at2 (by with_reducible assumption))))) | exact (at1 (at2 (at2 (at2 (at2 (at2 (by with_reducible assumption))))))) | exact (at2 (at2 (at2 (at2 (at2 (by with_reducible assumption)))))) | exact (at1 (at2 (at2 (at2 (at2 (at2 (at2 (by with_reducible assumption)))))))) | exact (at2 (at2 (at2 (at2 (at2 (at2 (by with_reducible assumption))))))) | exact (at1 (at2 (at2 (at2 (at2 (at2 (at2 (at2 (by with_reducible assumption))))))))) | exact (at2 (at2 (at2 (at2 (at2 (at2 (at2 (by with_reducible assumption)))))))) | exact (at1 (at2 (at2 (at2 (at2 (at2 (at2 (at2 (at2 (by with_reducible assumption)))))))))) | exact (at2 (at2 (at2 (at2 (at2 (at2 (at2 (at2 (by with_reducible assumption))))))))) | exact (at1 (at2 (at2 (at2 (at2 (at2 (at2 (at2 (at2 (at2 (by with_reducible assumption))))))))))) | exact (at2 (at2 (at2 (at2 (at2 (at2 (at2 (at2 (at2 (by with_reducible assumption)))))))))) | exact (at1 (at1 (by with_reducible assumption))) | exact (at1 (at2 (at1 (by with_reducible assumption)))) | exact (at2 (at2 (at1 (by with_reducible assumption)))) | exact (at1 (at1 (at2 (by with_reducible assumption)))) | exact (at1 (at2 (at1 (at2 (by with_reducible assumption))))) | exact (at2 (at2 (at1 (at2 (by with_reducible assumption))))) | exact (at1 (at1 (at2 (at2 (by with_reducible assumption))))) | exact (at1 (at2 (at1 (at2 (at2 (by with_reducible assumption)))))) | exact (at2 (at2 (at1 (at2 (at2 (by with_reducible assumption)))))) | exact (at1 (at1 (at2 (at2 (at2 (by with_reducible assumption)))))) | exact (at1 (at2 (at1 (at2 (at2 (at2 (by with_reducible assumption))))))) | exact (at2 (at2 (at1 (at2 (at2 (at2 (by with_reducible assumption))))))) | exact (at1 (at1 (at2 (at2 (at2 (at2 (by with_reducible assumption))))))) | exact (at1 (at2 (at1 (at2 (at2 (at2 (at2 (by with_reducible assumption)))))))) | exact (at2 (at2 (at1 (at2 (at2 (at2 (at2 (by with_reducible assumption)))))))) | exact (at1 (at1 (at2 (at2 (at2 (at2 (at2 (by with_reducible assumption)))))))) | exact (at1 (at2 (at1 (at2 (at2 (at2 (at2 (at2 (by with_reducible assumption))))))))) | exact (at2 (at2 (at1 (at2 (at2 (at2 (at2 (at2 (by with_reducible assumption))))))))) | exact (at1 (at1 (at2 (at2 (at2 (at2 (at2 (at2 (by with_reducible assumption))))))))) | exact (at1 (at2 (at1 (at2 (at2 (at2 (at2 (at2 (at2 (by with_reducible assumption)))))))))) | exact (at2 (at2 (at1 (at2 (at2 (at2 (at2 (at2 (at2 (by with_reducible assumption)))))))))) | fail)
  k_with "noNe" => ((repeat (rename (@Ne Nat _ _) => hx9; clear hx9)); (repeat (rename (@Ne Nat _ _ ∧ _) => hx9; clear hx9)); (repeat (rename ((@Ne Nat _ _ ∧ _) ∧ _) => hx9; clear hx9)))
  trivial
section
/-- the tokens of a lead's parts -/
structure LeadTok where
  k1 : Tok
  k2 : Tok
  k3 : Tok
  k4 : Tok
  k5 : Tok
  tx : Tok
  tn : Tok
  tnt : Tok
  tb : Tok
/-- a Whitespace as the ledger bears it: norm's tuple, count's tuple, the object, its dict -/
noncomputable abbrev leadObjs (w : World) (x1 dx1 tp ct : Addr) (vs : List Value) (x : Str) (n nt b : Int) (simple : Bool) (T : LeadTok) : List (Addr × Obj) :=
  [(tp, { cls := .type "tuple", data := .seq (List.toArray [Value.ref ct, Value.int b T.tb]) }), (ct, { cls := .type "tuple", data := .seq vs.toArray }), (x1, instObj 126 dx1),
   (dx1, dictOf [⟨PyData.keyHash w.params (Str.ofString "raw"), .str (Str.ofString "raw") T.k1, .str x T.tx⟩, ⟨PyData.keyHash w.params (Str.ofString "n"), .str (Str.ofString "n") T.k2, .int n T.tn⟩,
     ⟨PyData.keyHash w.params (Str.ofString "nt"), .str (Str.ofString "nt") T.k3, .int nt T.tnt⟩, ⟨PyData.keyHash w.params (Str.ofString "norm"), .str (Str.ofString "norm") T.k4, .ref tp⟩,
     ⟨PyData.keyHash w.params (Str.ofString "is_simple"), .str (Str.ofString "is_simple") T.k5, .bool simple⟩] 5)]
/-- a tab behind b blanks: count[b] goes up by one, count being made long enough -/
noncomputable def bump (cs : List Int) (b : Int) : List Int :=
  let cs' := if b ≥ (cs.length : Int) then cs ++ List.replicate (b - cs.length + 1).toNat 0 else cs
  cs'.set b.toNat (cs'.getD b.toNat 0 + 1)
noncomputable def wsGo : List Int → List Int → Int → Int → Int → List Int × Int × Int × Int
  | [], cs, b, n, nt => (cs, b, n, nt)
  | c :: r, cs, b, n, nt => if c = 32 then wsGo r cs (b + 1) (n + 1) nt else if c = 9 then wsGo r (bump cs b) 0 (n + 1) (nt + 1) else (cs, b, n, nt)
theorem bump_len {cs : List Int} {b : Int} (h : 0 ≤ b) : cs.length ≤ (bump cs b).length ∧ b < (bump cs b).length := by
  unfold bump
  simp only [List.length_set]
  split
  · rw [List.length_append, List.length_replicate]
    omega
  · omega
theorem wsGo_len : ∀ (r cs : List Int) (b n nt : Int), 0 ≤ b → cs.length ≤ (wsGo r cs b n nt).1.length
  | [], _, _, _, _, _ => Nat.le_refl _
  | c :: r, cs, b, n, nt, hb => by
    unfold wsGo
    split
    · exact wsGo_len r _ _ _ _ (by omega)
    · split
      · exact Nat.le_trans (bump_len hb).1 (wsGo_len r _ _ _ _ (Int.le_refl _))
      · exact Nat.le_refl _
/-- what holds between the turns: what is read so far can be left out -/
noncomputable def WsInv (pre cs : List Int) (b n nt : Int) : Prop := (∀ rest, wsGo (pre ++ rest) [] 0 0 0 = wsGo rest cs b n nt) ∧ 0 ≤ b
theorem ws_start : WsInv [] [] 0 0 0 := ⟨fun _ => rfl, Int.le_refl _⟩
theorem ws_blank {pre cs : List Int} {b n nt c : Int} (h : WsInv pre cs b n nt) (hc : c = 32) : WsInv (pre ++ [c]) cs (b + 1) (n + 1) nt := by
  refine ⟨fun rest => ?_, by have := h.2; omega⟩
  rw [List.append_assoc, List.singleton_append, h.1, wsGo, if_pos hc]
theorem ws_tab {pre cs : List Int} {b n nt c : Int} (h : WsInv pre cs b n nt) (hc : c = 9) : WsInv (pre ++ [c]) (bump cs b) 0 (n + 1) (nt + 1) := by
  refine ⟨fun rest => ?_, Int.le_refl _⟩
  rw [List.append_assoc, List.singleton_append, h.1, wsGo, if_neg (by omega), if_pos hc]
theorem ws_other {pre cs post xs : List Int} {b n nt c : Int} (h : WsInv pre cs b n nt) (e : xs = pre ++ c :: post) (h1 : ¬ c = 32) (h2 : ¬ c = 9) : wsGo xs [] 0 0 0 = (cs, b, n, nt) := by
  rw [e, h.1, wsGo, if_neg h1, if_neg h2]
theorem ws_all {xs cs : List Int} {b n nt : Int} (h : WsInv xs cs b n nt) : wsGo xs [] 0 0 0 = (cs, b, n, nt) := by
  have := h.1 []
  rwa [List.append_nil] at this
theorem ws_short {pre cs post xs csF : List Int} {b n nt c : Int} {r : Int × Int × Int} (h : WsInv pre cs b n nt) (e : xs = pre ++ c :: post) (hc : c = 9) (hgo : wsGo xs [] 0 0 0 = (csF, r)) (hl : csF.length ≤ 16) : b < 16 := by
  rw [e, h.1, wsGo, if_neg (by omega), if_pos hc] at hgo
  have := wsGo_len post (bump cs b) 0 (n + 1) (nt + 1) (Int.le_refl _)
  rw [hgo] at this
  have := (bump_len (cs := cs) h.2).2
  simp only at *
  omega
noncomputable def wsMap (c : Addr) (b n nt : Int) (tb tn tnt : Tok) (m₀ : Str → Option Value) : Str → Option Value := fun y =>
  if y = Str.ofString "count" then some (.ref c) else if y = Str.ofString "b" then some (.int b tb) else if y = Str.ofString "n" then some (.int n tn) else if y = Str.ofString "nt" then some (.int nt tnt) else m₀ y
noncomputable def WsAt (h₀ : Heap) (L : Addr) (m₀ : Str → Option Value) (rest : List (Addr × Obj)) (I : List Int → Int → Int → Int → Prop) (s s₂ : Shared) : Prop :=
  ∃ (h' : Heap) (tk : Nat) (m' : Str → Option Value) (news' : List (Addr × Obj)) (c : Addr) (vs : List Value) (cs : List Int) (nn : Nat) (b n nt : Int) (tb tn tnt : Tok),
    s₂ = { s with heap := h', toks := tk } ∧ Fr h₀ L h' m' ∧ News h₀ L h' news' ∧ (c, listOf vs.toArray nn) ∈ news' ∧ (∀ p ∈ rest, p ∈ news') ∧ (∀ p ∈ rest, p.1 ≠ c) ∧ IntsAre vs cs ∧
      (∀ z, z ≠ Str.ofString "ch" → m' z = wsMap c b n nt tb tn tnt m₀ z) ∧ I cs b n nt
noncomputable def WsPost (h₀ : Heap) (L : Addr) (m₀ : Str → Option Value) (rest : List (Addr × Obj)) (pre xs : List Int) (Q : Flow → Shared → Prop) (s : Shared) (f : Flow) (s₂ : Shared) : Prop :=
  match f with
  | .ret v => Q (.ret v) s₂
  | .brk => WsAt h₀ L m₀ rest (fun cs b n nt => wsGo xs [] 0 0 0 = (cs, b, n, nt)) s s₂
  | _ => WsAt h₀ L m₀ rest (WsInv pre) s s₂
theorem wsAt_of {h₀ h' : Heap} {L c : Addr} {m₀ m' : Str → Option Value} {rest news' : List (Addr × Obj)} {I : List Int → Int → Int → Int → Prop} {s : Shared} {tk nn : Nat} {vs : List Value} {cs : List Int} {b n nt : Int} {tb tn tnt : Tok}
    (F : Fr h₀ L h' m') (N : News h₀ L h' news') (hc : m' (Str.ofString "count") = some (.ref c)) (hb : m' (Str.ofString "b") = some (.int b tb)) (hn : m' (Str.ofString "n") = some (.int n tn)) (hnt : m' (Str.ofString "nt") = some (.int nt tnt))
    (hr : ∀ z, z ≠ Str.ofString "ch" → z ≠ Str.ofString "count" → z ≠ Str.ofString "b" → z ≠ Str.ofString "n" → z ≠ Str.ofString "nt" → m' z = m₀ z) (hm : (c, listOf vs.toArray nn) ∈ news') (hsub : ∀ p ∈ rest, p ∈ news') (hoff : ∀ p ∈ rest, p.1 ≠ c)
    (hI : IntsAre vs cs) (hinv : I cs b n nt) : WsAt h₀ L m₀ rest I s { s with heap := h', toks := tk } := by
  refine ⟨h', tk, m', news', c, vs, cs, nn, b, n, nt, tb, tn, tnt, rfl, F, N, hm, hsub, hoff, hI, fun z hz => ?_, hinv⟩
  unfold wsMap
  by_cases e1 : z = Str.ofString "count"
  · rw [if_pos e1, e1, hc]
  rw [if_neg e1]
  by_cases e2 : z = Str.ofString "b"
  · rw [if_pos e2, e2, hb]
  rw [if_neg e2]
  by_cases e3 : z = Str.ofString "n"
  · rw [if_pos e3, e3, hn]
  rw [if_neg e3]
  by_cases e4 : z = Str.ofString "nt"
  · rw [if_pos e4, e4, hnt]
  rw [if_neg e4]
  exact hr z hz e1 e2 e3 e4
theorem pyIter_strL {prog : Program} {w : World} {A : Around} {E : Value → Shared → Prop} {s : Shared} {x : Str} {t : Tok} {Q : Value → Shared → Prop}
    (hQ : ∀ (o : Obj) (St : Nat → Heap → Prop), (∀ A' : Around, A'.handled = none → Walks prog w A' s.heap.objs.size [s.heap.objs.size] [s.heap.objs.size] x.cps.size (SignAt x) St) → (∀ i h, St i h → ∃ o', h.get? s.heap.objs.size = some o') → St 0 (s.heap.push o) →
      Q (.ref s.heap.objs.size) { s with heap := s.heap.push o }) : wpAny (model prog w) A (pyIter (.str x t)) Q E s := by
  cases ha : x.cps.all (· < 128)
  · exact wpAny_pyIter_wide ha (hQ _ _ (fun A' hA => Walks.strWide hA _ x t) (fun _ _ ⟨o, ho, _⟩ => ⟨o, ho⟩) ⟨_, Heap.get?_push_size _ rfl, rfl, rfl⟩)
  · exact wpAny_pyIter_ascii ha (hQ _ _ (fun A' hA => Walks.strAscii hA _ x t) (fun _ _ ⟨o, ho, _⟩ => ⟨o, ho⟩) ⟨_, Heap.get?_push_size _ rfl, rfl, rfl⟩)
section
variable {prog : Program} {w : World} {A : Around} {E : Value → Shared → Prop} {s : Shared} {env : Env} {h₀ : Heap} {body : List Stmt} {Q : Flow → Shared → Prop}
theorem ws_loop {xt : Str} {tx : Tok} {m₀ : Str → Option Value} {fixed : List (Addr × Obj)} {c₀ : Addr} {n₀ : Nat} {tb₀ tn₀ tnt₀ : Tok}
    (hh : A.handled = none) (F : Fr h₀ env.locals s.heap m₀) (N : News h₀ env.locals s.heap ((c₀, listOf (List.toArray []) n₀) :: fixed)) (hoff : ∀ p ∈ fixed, p.1 ≠ c₀)
    (hm1 : m₀ (Str.ofString "count") = some (.ref c₀)) (hm2 : m₀ (Str.ofString "b") = some (.int 0 tb₀)) (hm3 : m₀ (Str.ofString "n") = some (.int 0 tn₀)) (hm4 : m₀ (Str.ofString "nt") = some (.int 0 tnt₀))
    (turn : ∀ (pre post : List Int) (ch : Nat) (t : Tok) (c : Addr) (vs : List Value) (cs : List Int) (nn : Nat) (b n nt : Int) (tb tn tnt : Tok) (h : Heap) (tk : Nat) (rest : List (Addr × Obj)),
      KStt.codes xt = pre ++ (ch : Int) :: post → WsInv pre cs b n nt → IntsAre vs cs → (∀ p ∈ rest, p.1 ≠ c) →
      Fr h₀ env.locals h (fun y => if y = Str.ofString "ch" then some (.str ⟨#[ch]⟩ t) else wsMap c b n nt tb tn tnt m₀ y) → News h₀ env.locals h ((c, listOf vs.toArray nn) :: rest) →
      wpAny (model prog w) A (execs body env) (WsPost h₀ env.locals m₀ rest (pre ++ [(ch : Int)]) (KStt.codes xt) Q { s with heap := h, toks := tk }) E { s with heap := h, toks := tk })
    (after : ∀ (h' : Heap) (tk : Nat) (u : Option Value) (c : Addr) (vs : List Value) (cs : List Int) (nn : Nat) (b n nt : Int) (tb tn tnt : Tok), wsGo (KStt.codes xt) [] 0 0 0 = (cs, b, n, nt) → IntsAre vs cs → (∀ p ∈ fixed, p.1 ≠ c) →
      Fr h₀ env.locals h' (fun y => if y = Str.ofString "ch" then u else wsMap c b n nt tb tn tnt m₀ y) → News h₀ env.locals h' ((c, listOf vs.toArray nn) :: fixed) → Q .next { s with heap := h', toks := tk }) :
    wpAny (model prog w) A (pyIter (.str xt tx)) (fun it s₂ => LoopAtV prog w A h₀ env (Str.ofString "ch") body Q E it s₂) E s := by
  have hm : ∀ z, m₀ z = wsMap c₀ 0 0 0 tb₀ tn₀ tnt₀ m₀ z := by
    intro z
    unfold wsMap
    by_cases e1 : z = Str.ofString "count"
    · rw [if_pos e1, e1, hm1]
    rw [if_neg e1]
    by_cases e2 : z = Str.ofString "b"
    · rw [if_pos e2, e2, hm2]
    rw [if_neg e2]
    by_cases e3 : z = Str.ofString "n"
    · rw [if_pos e3, e3, hm3]
    rw [if_neg e3]
    by_cases e4 : z = Str.ofString "nt"
    · rw [if_pos e4, e4, hm4]
    rw [if_neg e4]
  have mapEq : ∀ {m' : Str → Option Value} {c : Addr} {b n nt : Int} {tb tn tnt : Tok} {v : Option Value}, (∀ z, z ≠ Str.ofString "ch" → m' z = wsMap c b n nt tb tn tnt m₀ z) →
      (fun y => if y = Str.ofString "ch" then v else m' y) = fun y => if y = Str.ofString "ch" then v else wsMap c b n nt tb tn tnt m₀ y := by
    intro m' c b n nt tb tn tnt v h
    funext y
    by_cases hy : y = Str.ofString "ch"
    · simp [hy]
    · simp only [if_neg hy]; exact h y hy
  have fin : ∀ {h' : Heap} {tk : Nat} {m' : Str → Option Value} {news' : List (Addr × Obj)} {c : Addr} {vs : List Value} {cs : List Int} {nn : Nat} {b n nt : Int} {tb tn tnt : Tok}, Fr h₀ env.locals h' m' → News h₀ env.locals h' news' → (c, listOf vs.toArray nn) ∈ news' → (∀ p ∈ fixed, p ∈ news') → (∀ p ∈ fixed, p.1 ≠ c) → IntsAre vs cs →
      (∀ z, z ≠ Str.ofString "ch" → m' z = wsMap c b n nt tb tn tnt m₀ z) → wsGo (KStt.codes xt) [] 0 0 0 = (cs, b, n, nt) → Q .next { s with heap := h', toks := tk } := by
    intro h' tk m' news' c vs cs nn b n nt tb tn tnt F' N' h1 h2 h3 hi hm' hg
    refine after h' tk (m' (Str.ofString "ch")) c vs cs nn b n nt tb tn tnt hg hi h3 ?_ fun p hp => ?_
    · rw [← mapEq hm']
      have e : (fun y => if y = Str.ofString "ch" then m' (Str.ofString "ch") else m' y) = m' := by
        funext y
        by_cases hy : y = Str.ofString "ch" <;> simp [hy]
      rw [e]; exact F'
    · rcases List.mem_cons.mp hp with rfl | hp
      · exact N' _ h1
      · exact N' _ (h2 _ hp)
  refine pyIter_strL fun o St hW hal hst => ?_
  have W := hW A hh
  refine ⟨_, _, _, _, _, _, m₀, _, fun i m' nx => ∃ (c : Addr) (vs : List Value) (cs : List Int) (nn : Nat) (b n nt : Int) (tb tn tnt : Tok), nx = (c, listOf vs.toArray nn) :: fixed ∧ (∀ p ∈ fixed, p.1 ≠ c) ∧ IntsAre vs cs ∧ (∀ z, z ≠ Str.ofString "ch" → m' z = wsMap c b n nt tb tn tnt m₀ z) ∧ WsInv ((KStt.codes xt).take i) cs b n nt,
    rfl, W, ?_, ?_, ?_, hst, F.push _, (fun p hp => ⟨Heap.get?_push_of_some _ (N p hp).1, (N p hp).2⟩), ?_, ?_, ?_⟩
  · intro hm
    exact absurd F.ns.lt ((List.mem_singleton.mp hm) ▸ Nat.lt_irrefl _)
  · intro b' hb
    rw [List.mem_singleton.mp hb]
    exact next_is_new F
  · intro p hp hI
    exact absurd (Heap.lt_size (N p hp).1) ((List.mem_singleton.mp hI) ▸ Nat.lt_irrefl _)
  · exact ⟨c₀, [], [], n₀, 0, 0, 0, tb₀, tn₀, tnt₀, rfl, hoff, .nil, fun z _ => hm z, by rw [List.take_zero]; exact ws_start⟩
  · rintro i v m₁ nx s₁ own ⟨h, tk, rfl⟩ hi ⟨ch, u, hn, rfl⟩ ⟨c, vs, cs, nn, b, n, nt, tb, tn, tnt, rfl, hoff', hI, hm', hinv⟩ hwr hown _ hall hst₁ F₁ N₁
    have hn' := KStt.code_at hn
    have hs : (KStt.codes xt).take (i + 1) = (KStt.codes xt).take i ++ [(ch : Int)] := by simp [List.take_add_one, hn']
    have e : KStt.codes xt = (KStt.codes xt).take i ++ (ch : Int) :: (KStt.codes xt).drop (i + 1) := by
      have ht := List.take_append_drop (i + 1) (KStt.codes xt)
      rw [hs, List.append_assoc] at ht
      exact ht.symm
    have hoff2 : ∀ p ∈ own ++ fixed, p.1 ≠ c := by
      intro p hp
      rcases List.mem_append.mp hp with hp | hp
      · intro hq
        exact hwr _ (.head _) (by rw [← hq]; exact hown p hp)
      · exact hoff' p hp
    rw [mapEq hm'] at F₁
    refine wpAny_mono (turn _ _ ch u c vs cs nn b n nt tb tn tnt h tk (own ++ fixed) e hinv hI hoff2 F₁ ?_) (fun f s₂ q => ?_) fun _ _ e => e
    · intro p hp
      rcases List.mem_cons.mp hp with rfl | hp
      · exact N₁ _ (List.mem_append_right _ (.head _))
      · rcases List.mem_append.mp hp with hp | hp
        · exact N₁ _ (List.mem_append_left _ hp)
        · exact N₁ _ (List.mem_append_right _ (.tail _ hp))
    · have nxt : WsAt h₀ env.locals m₀ (own ++ fixed) (WsInv ((KStt.codes xt).take i ++ [(ch : Int)])) { s with heap := h, toks := tk } s₂ →
          LoopStepU h₀ env.locals [s.heap.objs.size] own (fun m' nx => ∃ (c : Addr) (vs : List Value) (cs : List Int) (nn : Nat) (b n nt : Int) (tb tn tnt : Tok), nx = (c, listOf vs.toArray nn) :: fixed ∧ (∀ p ∈ fixed, p.1 ≠ c) ∧ IntsAre vs cs ∧ (∀ z, z ≠ Str.ofString "ch" → m' z = wsMap c b n nt tb tn tnt m₀ z) ∧ WsInv ((KStt.codes xt).take (i + 1)) cs b n nt) { s with heap := h, toks := tk } .next s₂ := by
        rintro ⟨h', tk', m', news', c', vs', cs', nn', b', n', nt', tb', tn', tnt', rfl, F', N', q1, q2, q3, q4, q5, q6⟩
        refine ⟨rfl, h', tk', m', (c', listOf vs'.toArray nn') :: fixed, rfl, F', fun p hp => ?_, fun p hp hq => ?_, c', vs', cs', nn', b', n', nt', tb', tn', tnt', rfl, fun p hp => q3 p (List.mem_append_right _ hp), q4, q5, by rw [hs]; exact q6⟩
        · rcases List.mem_append.mp hp with hp | hp
          · exact N' _ (q2 _ (List.mem_append_left _ hp))
          · rcases List.mem_cons.mp hp with rfl | hp
            · exact N' _ q1
            · exact N' _ (q2 _ (List.mem_append_right _ hp))
        · rcases List.mem_cons.mp hp with rfl | hp
          · obtain ⟨o', ho'⟩ := hal _ _ hst₁
            have hin := hall _ (.head _) (next_is_new F) o' ho'
            exact q3 _ (List.mem_append_left _ hin) (List.mem_singleton.mp hq).symm
          · exact hwr p (.tail _ hp) hq
      cases f with
      | ret v => exact .ret q
      | brk =>
        obtain ⟨h', tk', m', news', c', vs', cs', nn', b', n', nt', tb', tn', tnt', rfl, F', N', q1, q2, q3, q4, q5, q6⟩ := q
        exact .brk (fin F' N' q1 (fun p hp => q2 _ (List.mem_append_right _ hp)) (fun p hp => q3 _ (List.mem_append_right _ hp)) q4 q5 q6)
      | next => exact .next (nxt q)
      | cont => exact .cont (nxt q)
  · rintro h' tk m' nx F' N' _ ⟨c, vs, cs, nn, b, n, nt, tb, tn, tnt, rfl, hoff', hI, hm', hinv⟩
    have hl : xt.cps.size = (KStt.codes xt).length := (KStt.codes_length xt).symm
    rw [hl, List.take_length] at hinv
    exact fin F' N' (.head _) (fun p hp => .tail _ hp) hoff' hI hm' (ws_all hinv)
end
end
theorem fresh10 : True := by
  (try walk1)
  w_top off
  k_with_none
  k_with "conj" => (first | with_reducible assumption | exact (at1 (by with_reducible assumption)) | exact (at1 (at2 (by with_reducible assumption))) | exact (at2 (by with_reducible assumption)) | exact (at1 (at2 (at2 (by with_reducible assumption)))) | exact (at2 (at2 (by with_reducible assumption))) | exact (at1 (at2 (at2 (at2 (by with_reducible assumption))))) | exact (at2 (at2 (at2 (by with_reducible assumption)))) | exact (at1 (at2 (at2 (at2 (at2 (by with_reducible assumption)))))) | exact (at2 (at2 (at2 (at2 (by with_reducible assumption))))) | exact (at1 (at2 (at2 (at2 (at2 (at2 (by with_reducible assumption))))))) | exact (at2 (at2 (at2 (at2 (at2 (by with_reducible assumption)))))) | exact (at1 (at2 (at2 (at2 (at2 (at2 (at2 (by with_reducible assumption)))))))) | exact (at2 (at2 (at2 (at2 (at2 (at2 (by with_reducible assumption))))))) | exact (at1 (at2 (at2 (at2 (at2 (at2 (at2 (at2 (by with_reducible assumption))))))))) | exact (at2 (at2 (at2 (at2 (at2 (at2 (at2 (by with_reducible assumption)))))))) | exact (at1 (at2 (at2 (at2 (at2 (at2 (at2 (at2 (at2 (by with_reducible assumption)))))))))) | exact (at2 (at2 (at2 (at2 (at2 (at2 (at2 (at2 (by with_reducible assumption))))))))) | exact (at1 (at2 (at2 (at2 (at2 (at2 (at2 (at2 (at2 (at2 (by with_reducible assumption))))))))))) | exact (at2 (at2 (at2 (at2 (at2 (at2 (at2 (at2 (at2 (by with_reducible assumption)))))))))) | exact (at1 (at1 (by with_reducible assumption))) | exact (at1 (at2 (at1 (by with_reducible assumption)))) | exact (at2 (at2 (at1 (by with_reducible assumption)))) | exact (at1 (at1 (at2 (by with_reducible assumption)))) | exact (at1 (at2 (at1 (at2 (by with_reducible assumption))))) | exact (at2 (at2 (at1 (at2 (by with_reducible assumption))))) | exact (at1 (at1 (at2 (at2 (by with_reducible assumption))))) | exact (at1 (at2 (at1 (at2 (at2 (by with_reducible assumption)))))) | exact (at2 (at2 (at1 (at2 (at2 (by with_reducible assumption)))))) | exact (at1 (at1 (at2 (at2 (at2 (by with_reducible assumption)))))) | exact (at1 (at2 (at1 (at2 (at2 (at2 (by with_reducible assumption))))))) | exact (at2 (at2 (at1 (at2 (at2 (at2 (by with_reducible assumption))))))) | exact (at1 (at1 (at2 (at2 (at2 (at2 (by with_reducible assumption))))))) | exact (at1 (at2 (at1 (at2 (at2 (at2 (at2 (by with_reducible assumption)))))))) | exact (at2 (at2 (at1 (at2 (at2 (at2 (at2 (by with_reducible assumption)))))))) | exact (at1 (at1 (at2 (at2 (at2 (at2 (at2 (by with_reducible assumption)))))))) | exact (at1 (at2 (at1 (at2 (at2 (at2 (at2 (at2 (by with_reducible assumption))))))))) | exact (at2 (at2 (at1 (at2 (at2 (at2 (at2 (at2 (by with_reducible assumption))))))))) | exact (at1 (at1 (at2 (at2 (at2 (at2 (at2 (at2 (by with_reducible assumption))))))))) | exact (at1 (at2 (at1 (at2 (at2 (at2 (at2 (at2 (at2 (by with_reducible assumption)))))))))) | exact (at2 (at2 (at1 (at2 (at2 (at2 (at2 (at2 (at2 (by with_reducible assumption)))))))))) | fail)
  k_with "noNe" => ((repeat (rename (@Ne Nat _ _) => hx9; clear hx9)); (repeat (rename (@Ne Nat _ _ ∧ _) => hx9; clear hx9)); (repeat (rename ((@Ne Nat _ _ ∧ _) ∧ _) => hx9; clear hx9)))
  trivial
section
theorem str_sign (n k : Nat) : ((⟨#[n]⟩ : Str) == (⟨#[k]⟩ : Str)) = decide (n = k) := by
  by_cases h : n = k
  · subst h; simp
  · rw [decide_eq_false h]
    rw [beq_eq_false_iff_ne]
    intro e
    injection e with e
    simp at e
    exact h e
section
variable {prog : Program} {w : World} {A : Around} {E : Value → Shared → Prop} {s : Shared} {h₀ : Heap} {L l : Addr} {m : Str → Option Value} {news : List (Addr × Obj)}
theorem eq_blank {n : Nat} {t u : Tok} {Q : Value → Shared → Prop} (h : Q (.bool (decide (n = 32))) s) : wpAny (model prog w) A (compareOp .Eq (.str ⟨#[n]⟩ t) (.str (Str.ofString " ") u)) Q E s := by
  refine PyProof.Rows.eq_str ?_
  have e : Str.ofString " " = ⟨#[32]⟩ := by decide +kernel
  rw [e, str_sign]
  exact h
theorem eq_tab {n : Nat} {t u : Tok} {Q : Value → Shared → Prop} (h : Q (.bool (decide (n = 9))) s) : wpAny (model prog w) A (compareOp .Eq (.str ⟨#[n]⟩ t) (.str (Str.ofString "\t") u)) Q E s := by
  refine PyProof.Rows.eq_str ?_
  have e : Str.ofString "\t" = ⟨#[9]⟩ := by decide +kernel
  rw [e, str_sign]
  exact h
theorem zeros_ints (t : Tok) : ∀ k : Nat, IntsAre (List.replicate k [Value.int 0 t]).flatten (List.replicate k 0)
  | 0 => .nil
  | k + 1 => .cons 0 t (zeros_ints t k)
theorem zeros_mul {x : Int} {t u : Tok} {n : Nat} {Q : Value → Shared → Prop} (F : Fr h₀ L s.heap m) (N : News h₀ L s.heap news) (hm : (l, listOf (List.toArray [Value.int 0 t]) n) ∈ news) (h0 : 0 ≤ x) (h1 : x ≤ 200)
    (h : ∀ D us h', Fr h₀ L h' m → News h₀ L h' ((D, listOf (List.toArray us) 0) :: news) → (∀ p ∈ news, p.1 < D) → IntsAre us (List.replicate x.toNat 0) → Q (.ref D) { s with heap := h' }) :
    wpAny (model prog w) A (binaryOp .Mult (.ref l) (.int x u)) Q E s :=
  KMa.mul F N (news_isList N hm) (by omega) (by omega) (by simp only [List.length_cons, List.length_nil]; omega) rfl fun D h' F' N' l1 => h D _ h' F' N' l1 (zeros_ints t _)
end
theorem ws_cs {pre cs post xs csF : List Int} {b n nt : Int} {r : Int × Int × Int} (h : WsInv pre cs b n nt) (e : xs = pre ++ post) (hgo : wsGo xs [] 0 0 0 = (csF, r)) (hl : csF.length ≤ 16) : cs.length ≤ 16 := by
  rw [e, h.1] at hgo
  have := wsGo_len post cs b n nt h.2
  rw [hgo] at this
  simp only at this
  omega
theorem lines_Ws1 : True := by
  k_with "compareOp Eq str str" => (k_here; (first | refine eq_blank ?_ | refine eq_tab ?_))
  k_with "binaryOp Mult ref int" => (k_here; (with_reducible show wpAny _ _ (binaryOp Operator.Mult (Value.ref _) (Value.int _ _)) _ _ _); k_dflt (refine' zeros_mul ?F ?N ?m ?a ?b ?_; (case F => k_asm); (case N => k_asm); (case m => k_mem); (case a => omega); (case b => omega)); intro D' us' h' F' N' l1 hI'; (try k_lt l1))
  trivial
theorem allLt_ne {d : Addr} {l : List (Addr × Obj)} (h : AllLt d l) : ∀ p ∈ l, p.1 ≠ d := fun p hp => Nat.ne_of_lt (ktn_ltOf h p hp)
theorem lead_off {news : List (Addr × Obj)} {x1 dx1 : Addr} {o1 o2 : Obj} (l1 : ∀ q ∈ news, q.1 < dx1) (l2 : @LT.lt Nat _ dx1 x1) : ∀ q ∈ news, q.1 ∉ [(x1, o1), (dx1, o2)].map (·.1) := fun q hq hm => by
  have h9 := ltN (l1 q hq)
  rcases List.mem_cons.mp hm with e | hm
  · have e' : @Eq Nat q.1 x1 := e
    omega
  · have e' : @Eq Nat q.1 dx1 := List.mem_singleton.mp hm
    omega
theorem bump_ext {cs : List Int} {b : Int} (h : (cs.length : Int) ≤ b) : (cs ++ List.replicate (b - cs.length + 1).toNat 0).set b.toNat ((cs ++ List.replicate (b - cs.length + 1).toNat 0).getD b.toNat 0 + 1) = bump cs b := by
  unfold bump
  rw [if_pos h]
theorem bump_in {cs : List Int} {b : Int} (h : ¬ (cs.length : Int) ≤ b) : cs.set b.toNat (cs.getD b.toNat 0 + 1) = bump cs b := by
  unfold bump
  rw [if_neg h]
theorem inv_as {pre f g : List Int} {b n nt : Int} (h : WsInv pre g b n nt) (e : f = g) : WsInv pre f b n nt := e ▸ h
local macro_rules | `(tactic| k_all) => `(tactic| first | assumption | exact allLt_ne (by first | assumption | exact (by assumption : _ ∧ AllLt _ _).2 | exact (by assumption : _ ∧ _ ∧ AllLt _ _).2.2 | exact (by assumption : _ ∧ _ ∧ _ ∧ AllLt _ _).2.2.2) | fail "k_all")
theorem lines_Ws2 : True := by
  k_with "setItem ref int" => (k_here; (with_reducible show wpAny _ _ (setItem (Value.ref _) (Value.int _ _) (Value.int _ _)) _ _ _); k_dflt (refine' ksa_set ?k1 ?k2 ?k3 ?k4 ?k5 ?k6 ?k7 ?_; (case k1 => k_asm); (case k2 => k_asm); (case k3 => k_upd); (case k4 => with_reducible assumption); (case k5 => omega); (case k6 => ((try simp only [List.length_append, List.length_replicate]); omega)); (case k7 => omega)); intro h' F' N' hi' hl' hs')
  k_with "call type:tuple" => (k_here; (with_reducible show wpAny _ _ (call (Value.type _) [Value.ref _]) _ _ _); k_dflt (refine' kde_tupleOf ?k1 ?k2 ?k3 ?k4 ?k5 ?_; (case k1 => k_asm); (case k2 => k_asm); (case k3 => exact news_isList (by k_asm) (by k_mem)); (case k4 => (rw [List.size_toArray]; omega)); (case k5 => exact rfl); k_whole); intro D' h' F' N' l1; (try k_lt l1))
  trivial
set_option maxRecDepth 100000 in
set_option maxHeartbeats 8000000 in
theorem ws_spec {w : World} {p : Program} {loose : List Str} {mean : ExcName → Option Value} {mg mb : Str → Option Value}
    {dp un : Nat} {gd : Option (List Code)} {cn : Str} {cs : Scope} {a : Addr} {ccd : Value} {cl : List (Str × Addr)} {outer : List Env} {A₀ : Around} {base h₀ : Heap} {L : Addr} {m : Str → Option Value} {s : Shared} {Q E : Value → Shared → Prop} {x : Str} {t : Tok}
    (B : Below A₀ base outer h₀) (F : Fr h₀ L s.heap m) (X : (hd.heap_39 w.params).In h₀) (T : Top p loose mean mg mb h₀) (hk : cs.kind = .function) (hd : dp + 3 < recursionLimit) (hu : un + 24 < cLine)
    {news : List (Addr × Obj)} (N0 : News h₀ L s.heap news) {csF : List Int} {bF nF ntF : Int} (hgo : wsGo (KStt.codes x) [] 0 0 0 = (csF, bF, nF, ntF)) (hlF : csF.length ≤ 16)
    (ret : ∀ (x1 dx1 tp ct : Addr) (vs : List Value) (sm : Bool) (T : LeadTok) (h' : Heap) (tk' : Nat), Fr h₀ L h' m → News h₀ L h' (leadObjs w x1 dx1 tp ct vs x nF ntF bF sm T ++ news) → IntsAre vs csF → (∀ q ∈ news, q.1 < dx1) → @LT.lt Nat _ dx1 x1 ∧ @LT.lt Nat _ x1 ct ∧ @LT.lt Nat _ ct tp → Q (.ref x1) { s with heap := h', toks := tk' }) :
    wpAny (model PP w) (ktrTop dp un gd cn cs L a ccd cl outer) (call (.ref 126) [.str x t]) Q E s := by
  k_dflt (refine' call_cls ?k1 ?k2 ?k3 ?k4 ?k5 ?k6 ?_; (case k1 => k_asm); (case k2 => k_asm); (case k3 => k_asm); (case k4 => k_is); (case k5 => k_is); (case k6 => k_is); k_whole)
  intro x1 dx1 ha F1 N1 lA lB
  (try k_lt2 lB)
  have N3 : News h₀ L ha news := fun q hq => N1 q (.tail _ (.tail _ hq))
  have N2 : News h₀ L ha [(x1, instObj 126 dx1), (dx1, dictOf [] 0)] := fun q hq => N1 q (by
    rcases List.mem_cons.mp hq with rfl | hq
    · exact .head _
    · rw [List.mem_singleton.mp hq]; exact .tail _ (.head _))
  k_dflt (refine' enter (binds := [(Str.ofString "self", .ref x1), (Str.ofString "ws", .str x t)]) ?k1 ?k2 ?k3 ?k4 ?k5 ?kA ?kF ?kK ?k6 ?k7 ?k8 ?k9 ?kB ?_ ?c2 ?c3 ?c4 ?c5; (case kA => exact rfl); (case kF => exact rfl); (case kK => assumption); (case k1 => k_asm); (case k2 => k_asm); (case k3 => k_asm); (case k4 => k_asm); (case k5 => k_asm); (case k6 => k_is); (case k7 => k_is); (case k8 => (show dp + 1 < recursionLimit; omega)); (case k9 => exact BindsTo.of_eq rfl); (case kB => exact locs rfl); (case c5 => decide); (case c2 => exact rfl); (case c3 => exact rfl); (case c4 => exact rfl); k_whole)
  intro g L' h1 FG F' N' B' X' T' S'
  (try dsimp only)
  clear B F X T N1 N2 FG F1
  repeat' (first | ((fail_if_success (with_reducible show wpAny _ _ (pyIter _) _ _ _)); walk1) | ((fail_if_success (with_reducible show wpAny _ _ (pyIter _) _ _ _)); dsimp only; walk1))
  (rename Fr _ _ _ _ => F8); (rename News _ _ _ _ => N8)
  with_unfolding_all (refine ws_loop (by rfl) F8 N8 ?hoff (by rfl) (by rfl) (by rfl) (by rfl) ?turn ?after)
  case hoff => k_all
  case turn =>
    clear F8 N8
    intro pre post ch tc c vs cs nn b n nt tb tn tnt hh tk rest hpre hinv hI hoff F' N'
    have hcs : cs.length ≤ 16 := ws_cs hinv hpre hgo hlF
    have hb0 : 0 ≤ b := hinv.2
    have hb16 : ch = 9 → b < 16 := fun e => ws_short hinv hpre (by omega) hgo hlF
    unfold wsMap at F'
    k_steps
    all_goals (try dsimp only [WsPost])
    all_goals (refine' wsAt_of ?F ?N ?hc ?hb ?hn ?hnt ?hr ?hm ?hsub ?hoff ?hI ?hinv; (case F => assumption); (case N => assumption); (case hc => exact rfl); (case hb => exact rfl); (case hn => exact rfl); (case hnt => exact rfl); (case hr => (intro z h1 h2 h3 h4 h5; simp only [h1, h2, h3, h4, h5, if_false])); (case hm => k_mem); (case hsub => (intro p hp; repeat' (first | exact hp | refine List.Mem.tail _ ?_))); (case hoff => k_all); (case hI => assumption); (case hinv => first | exact ws_blank hinv (by omega) | exact inv_as (ws_tab hinv (by omega)) (bump_ext (by assumption)) | exact inv_as (ws_tab hinv (by omega)) (bump_in (by assumption)) | exact ws_other hinv hpre (by omega) (by omega)))
  case after =>
    clear F8 N8
    intro h8 tk8 u8 c vs cs nn b n nt tb tn tnt hg hI hoff F' N'
    have hoff' := And.intro (neN (hoff _ (.head _))) (And.intro (neN (hoff _ (.tail _ (.head _)))) (neN (hoff _ (.tail _ (.tail _ (.head _))))))
    dsimp only at hoff'
    have hvl := hI.length
    rw [hgo] at hg
    obtain ⟨rfl, rfl, rfl, rfl⟩ := hg
    unfold wsMap at F'
    k_steps
    all_goals (refine' leaveK_ ?k1 ?k2 ?_; (case k1 => k_asm); (case k2 => k_asm); intro kF kN)
    all_goals (refine ⟨rfl, ?_⟩)
    all_goals (refine ret x1 dx1 _ _ vs _ ⟨_, _, _, _, _, _, _, _, _⟩ _ _ kF ((S'.trans (by assumption)).newsOf N3 (news_drop2 kN) (lead_off lA lB)) hI lA ?_)
    all_goals (refine ⟨?_, ?_, ?_⟩ <;> omega)
end
theorem fresh11 : True := by
  (try walk1)
  w_top off
  k_with_none
  k_with "conj" => (first | with_reducible assumption | exact (at1 (by with_reducible assumption)) | exact (at1 (at2 (by with_reducible assumption))) | exact (at2 (by with_reducible assumption)) | exact (at1 (at2 (at2 (by with_reducible assumption)))) | exact (at2 (at2 (by with_reducible assumption))) | exact (at1 (at2 (at2 (at2 (by with_reducible assumption))))) | exact (at2 (at2 (at2 (by with_reducible assumption)))) | exact (at1 (at2 (at2 (at2 (at2 (by with_reducible assumption)))))) | exact (at2 (at2 (at2 (at2 (by with_reducible assumption))))) | exact (at1 (at2 (at2 (at2 (at2 (at2 (by with_reducible assumption))))))) | exact (at2 (at2 (at2 (at2 (at2 (by with_reducible assumption)))))) | exact (at1 (at2 (at2 (at2 (at2 (at2 (at2 (by with_reducible assumption)))))))) | exact (at2 (at2 (at2 (at2 (at2 (at2 (by with_reducible assumption))))))) | exact (at1 (at2 (at2 (at2 (at2 (at2 (at2 (at2 (by with_reducible assumption))))))))) | exact (at2 (at2 (at2 (at2 (at2 (at2 (at2 (by with_reducible assumption)))))))) | exact (at1 (at2 (at2 (at2 (at2 (at2 (at2 (at2 (at2 (by with_reducible assumption)))))))))) | exact (at2 (at2 (at2 (at2 (at2 (at2 (at2 (at2 (by with_reducible assumption))))))))) | exact (at1 (at2 (at2 (at2 (at2 (at2 (at2 (at2 (at2 (at2 (by with_reducible assumption))))))))))) | exact (at2 (at2 (at2 (at2 (at2 (at2 (at2 (at2 (at2 (by with_reducible assumption)))))))))) | exact (at1 (at1 (by with_reducible assumption))) | exact (at1 (at2 (at1 (by with_reducible assumption)))) | exact (at2 (at2 (at1 (by with_reducible assumption)))) | exact (at1 (at1 (at2 (by with_reducible assumption)))) | exact (at1 (at2 (at1 (at2 (by with_reducible assumption))))) | exact (at2 (at2 (at1 (at2 (by with_reducible assumption))))) | exact (at1 (at1 (at2 (at2 (by with_reducible assumption))))) | exact (at1 (at2 (at1 (at2 (at2 (by with_reducible assumption)))))) | exact (at2 (at2 (at1 (at2 (at2 (by with_reducible assumption)))))) | exact (at1 (at1 (at2 (at2 (at2 (by with_reducible assumption)))))) | exact (at1 (at2 (at1 (at2 (at2 (at2 (by with_reducible assumption))))))) | exact (at2 (at2 (at1 (at2 (at2 (at2 (by with_reducible assumption))))))) | exact (at1 (at1 (at2 (at2 (at2 (at2 (by with_reducible assumption))))))) | exact (at1 (at2 (at1 (at2 (at2 (at2 (at2 (by with_reducible assumption)))))))) | exact (at2 (at2 (at1 (at2 (at2 (at2 (at2 (by with_reducible assumption)))))))) | exact (at1 (at1 (at2 (at2 (at2 (at2 (at2 (by with_reducible assumption)))))))) | exact (at1 (at2 (at1 (at2 (at2 (at2 (at2 (at2 (by with_reducible assumption))))))))) | exact (at2 (at2 (at1 (at2 (at2 (at2 (at2 (at2 (by with_reducible assumption))))))))) | exact (at1 (at1 (at2 (at2 (at2 (at2 (at2 (at2 (by with_reducible assumption))))))))) | exact (at1 (at2 (at1 (at2 (at2 (at2 (at2 (at2 (at2 (by with_reducible assumption)))))))))) | exact (at2 (at2 (at1 (at2 (at2 (at2 (at2 (at2 (at2 (by with_reducible assumption)))))))))) | fail)
  k_with "noNe" => ((repeat (rename (@Ne Nat _ _) => hx9; clear hx9)); (repeat (rename (@Ne Nat _ _ ∧ _) => hx9; clear hx9)); (repeat (rename ((@Ne Nat _ _ ∧ _) ∧ _) => hx9; clear hx9)))
  trivial
section
noncomputable def LBound (ls : List Int) : Prop := ∀ i : Nat, 0 ≤ ls.getD i 0 ∧ ls.getD i 0 < 16
theorem LBound.lo {ls : List Int} (h : LBound ls) (i : Nat) : 0 ≤ ls.getD i 0 := (h i).1
theorem LBound.hi {ls : List Int} (h : LBound ls) (i : Nat) : ls.getD i 0 < 16 := (h i).2
/-- a run of v blanks and a tab -/
noncomputable def runT (v : Int) : Str := Txt.mul (Str.ofString " ") v ++ Str.ofString "\t"
section
variable {prog : Program} {w : World} {A : Around} {E : Value → Shared → Prop} {s : Shared} {t u : Tok} {Q : Value → Shared → Prop}
theorem mul_blank {v : Int} (h0 : 0 ≤ v) (h1 : v < 16) (h : ∀ t' k, Q (.str (Txt.mul (Str.ofString " ") v) t') { s with toks := k }) : wpAny (model prog w) A (binaryOp .Mult (.str (Str.ofString " ") t) (.int v u)) Q E s :=
  SB.mul (mulOk_of 16 1048576 (by decide +kernel) (by omega) (by omega) (by decide) (by decide)) h
theorem len_blank {v : Int} (h0 : 0 ≤ v) (h1 : v < 16) : (Txt.mul (Str.ofString " ") v).length ≤ 16 := by
  have := len_mul (Str.ofString " ") v
  rw [decide_eq_false (by omega), show (Str.ofString " ").length = 1 by decide +kernel] at this
  simp only [Bool.false_eq_true, if_false] at this
  omega
theorem add_tab {v : Int} (h0 : 0 ≤ v) (h1 : v < 16) (h : ∀ t' k, Q (.str (runT v) t') { s with toks := k }) : wpAny (model prog w) A (binaryOp .Add (.str (Txt.mul (Str.ofString " ") v) t) (.str (Str.ofString "\t") u)) Q E s :=
  PyProof.Rows.add_str h (by have := len_blank h0 h1; rw [show (Str.ofString "\t").length = 1 by decide +kernel, sizeLine_eq]; omega)
end
noncomputable def jn (bs : List Int) : Str := Txt.join (Str.ofString "") (bs.map runT)
theorem codes_append (a b : Str) : KStt.codes (a ++ b) = KStt.codes a ++ KStt.codes b := by
  unfold KStt.codes
  rw [PySem.Str.cps_append, Array.toList_append, List.map_append]
theorem codes_blank {v : Int} (h0 : 0 ≤ v) (h1 : v < 16) : KStt.codes (Txt.mul (Str.ofString " ") v) = List.replicate v.toNat 32 := by
  have all : ∀ k : Fin 16, KStt.codes (Txt.mul (Str.ofString " ") ((k.val : Nat) : Int)) = List.replicate k.val 32 := by decide +kernel
  have h := all ⟨v.toNat, by omega⟩
  rwa [show (((⟨v.toNat, by omega⟩ : Fin 16).val : Nat) : Int) = v from by show ((v.toNat : Nat) : Int) = v; omega] at h
theorem codes_run {v : Int} (h0 : 0 ≤ v) (h1 : v < 16) : KStt.codes (runT v) = List.replicate v.toNat 32 ++ [9] := by
  unfold runT
  rw [codes_append, codes_blank h0 h1]
  rfl
noncomputable def LetB (bs : List Int) : Prop := ∀ v ∈ bs, 0 ≤ v ∧ v < 16
theorem jn_nil : KStt.codes (jn []) = [] := by
  unfold jn Txt.join
  rw [StrLaws.glued_eq_join]
  rfl
theorem join_empty : ∀ ys : List Str, KStt.codes (Str.join (Str.ofString "") ys) = (ys.map KStt.codes).flatten
  | [] => rfl
  | [x] => by simp [Str.join]
  | x :: y :: r => by
    have h := join_empty (y :: r)
    show KStt.codes (x ++ Str.ofString "" ++ Str.join (Str.ofString "") (y :: r)) = _
    rw [codes_append, codes_append, h]
    have e : KStt.codes (Str.ofString "") = [] := by decide +kernel
    rw [e, List.append_nil]
    simp only [List.map_cons, List.flatten_cons]
theorem codes_jn (bs : List Int) : KStt.codes (jn bs) = (bs.map fun v => KStt.codes (runT v)).flatten := by
  unfold jn Txt.join
  rw [StrLaws.glued_eq_join, join_empty, List.map_map]
  rfl
theorem wsGo_blanks : ∀ (k : Nat) (r cs : List Int) (b n nt : Int), wsGo (List.replicate k 32 ++ r) cs b n nt = wsGo r cs (b + k) (n + k) nt
  | 0, r, cs, b, n, nt => by simp
  | k + 1, r, cs, b, n, nt => by
    rw [List.replicate_succ, List.cons_append, wsGo, if_pos rfl, wsGo_blanks k]
    congr 1 <;> omega
theorem wsGo_run {v : Int} (h0 : 0 ≤ v) (h1 : v < 16) (r cs : List Int) (n nt : Int) : wsGo (KStt.codes (runT v) ++ r) cs 0 n nt = wsGo r (bump cs v) 0 (n + v + 1) (nt + 1) := by
  rw [codes_run h0 h1, List.append_assoc, wsGo_blanks, List.singleton_append, wsGo, if_neg (by decide), if_pos rfl]
  have e : (0 : Int) + (v.toNat : Int) = v := by omega
  have e2 : n + (v.toNat : Int) = n + v := by omega
  rw [e, e2]
theorem wsGo_runs : ∀ (bs : List Int), LetB bs → ∀ (r cs : List Int) (n nt : Int), ∃ n', wsGo (KStt.codes (jn bs) ++ r) cs 0 n nt = wsGo r (bs.foldl bump cs) 0 n' (nt + bs.length)
  | [], _, r, cs, n, nt => ⟨n, by rw [jn_nil]; simp⟩
  | v :: bs, hb, r, cs, n, nt => by
    obtain ⟨n', h⟩ := wsGo_runs bs (fun x hx => hb x (.tail _ hx)) r (bump cs v) (n + v + 1) (nt + 1)
    refine ⟨n', ?_⟩
    have hv := hb v (.head _)
    rw [codes_jn, List.map_cons, List.flatten_cons, List.append_assoc, wsGo_run hv.1 hv.2, ← codes_jn, h, List.foldl_cons]
    congr 1
    rw [List.length_cons]
    omega
noncomputable def nOf (x : Str) : Int := (wsGo (KStt.codes x) [] 0 0 0).2.2.1
theorem x_codes : KStt.codes (Str.ofString "x\t ") = [120, 9, 32] := by decide +kernel
noncomputable def text1 (bs : List Int) : Str := jn bs ++ Str.ofString "x\t "
noncomputable def text2 (bs : List Int) (v : Int) : Str := jn bs ++ Txt.mul (Str.ofString " ") v ++ Str.ofString "x\t "
theorem go1 {bs : List Int} (hb : LetB bs) : wsGo (KStt.codes (text1 bs)) [] 0 0 0 = (bs.foldl bump [], 0, nOf (text1 bs), (bs.length : Int)) := by
  unfold nOf text1
  rw [codes_append, x_codes]
  obtain ⟨n', h⟩ := wsGo_runs bs hb [120, 9, 32] [] 0 0
  rw [h, wsGo, if_neg (by decide), if_neg (by decide)]
  simp
theorem go2 {bs : List Int} {v : Int} (hb : LetB bs) (h0 : 0 ≤ v) (h1 : v < 16) :
    wsGo (KStt.codes (text2 bs v)) [] 0 0 0 = (bs.foldl bump [], v, nOf (text2 bs v), (bs.length : Int)) := by
  unfold nOf text2
  rw [codes_append, codes_append, x_codes, codes_blank h0 h1, List.append_assoc]
  obtain ⟨n', h⟩ := wsGo_runs bs hb (List.replicate v.toNat 32 ++ [120, 9, 32]) [] 0 0
  rw [h, wsGo_blanks, wsGo, if_neg (by decide), if_neg (by decide)]
  have e : (0 : Int) + (v.toNat : Int) = v := by omega
  simp only [e, Int.zero_add]
theorem bump_len16 {cs : List Int} {v : Int} (h : cs.length ≤ 16) (h0 : 0 ≤ v) (h1 : v < 16) : (bump cs v).length ≤ 16 := by
  unfold bump
  simp only [List.length_set]
  split
  · rw [List.length_append, List.length_replicate]
    omega
  · exact h
theorem fold_len16 : ∀ (bs : List Int), LetB bs → ∀ cs : List Int, cs.length ≤ 16 → (bs.foldl bump cs).length ≤ 16
  | [], _, _, h => h
  | v :: bs, hb, cs, h => by
    rw [List.foldl_cons]
    exact fold_len16 bs (fun x hx => hb x (.tail _ hx)) _ (bump_len16 h (hb v (.head _)).1 (hb v (.head _)).2)
theorem len_run {v : Int} (h0 : 0 ≤ v) (h1 : v < 16) : (runT v).length ≤ 17 := by
  unfold runT
  rw [Str.length_append]
  have := len_blank h0 h1
  have e : (Str.ofString "\t").length = 1 := by decide +kernel
  omega
theorem len_runs : ∀ (bs : List Int), LetB bs → ((bs.map runT).map (·.length)).sum ≤ 17 * bs.length
  | [], _ => Nat.le_refl _
  | v :: bs, hb => by
    have h := len_runs bs fun x hx => hb x (.tail _ hx)
    have h1 := len_run (hb v (.head _)).1 (hb v (.head _)).2
    rw [List.map_cons, List.map_cons, List.sum_cons, List.length_cons]
    omega
theorem len_jn {bs : List Int} (hb : LetB bs) : (jn bs).length ≤ 17 * bs.length := by
  unfold jn Txt.join
  rw [StrLaws.glued_eq_join]
  refine Nat.le_trans (StrLaws.join_length_le _ _) ?_
  have := len_runs bs hb
  have e : (Str.ofString "").length = 0 := by decide +kernel
  rw [e]
  omega
end
theorem fresh12 : True := by
  (try walk1)
  w_top off
  k_with_none
  k_with "conj" => (first | with_reducible assumption | exact (at1 (by with_reducible assumption)) | exact (at1 (at2 (by with_reducible assumption))) | exact (at2 (by with_reducible assumption)) | exact (at1 (at2 (at2 (by with_reducible assumption)))) | exact (at2 (at2 (by with_reducible assumption))) | exact (at1 (at2 (at2 (at2 (by with_reducible assumption))))) | exact (at2 (at2 (at2 (by with_reducible assumption)))) | exact (at1 (at2 (at2 (at2 (at2 (by with_reducible assumption)))))) | exact (at2 (at2 (at2 (at2 (by with_reducible assumption))))) | exact (at1 (at2 (at2 (at2 (at2 (at2 (by with_reducible assumption))))))) | exact (at2 (at2 (at2 (at2 (at2 (by with_reducible assumption)))))) | exact (at1 (at2 (at2 (at2 (at2 (at2 (at2 (by with_reducible assumption)))))))) | exact (at2 (at2 (at2 (at2 (at2 (at2 (by with_reducible assumption))))))) | exact (at1 (at2 (at2 (at2 (at2 (at2 (at2 (at2 (by with_reducible assumption))))))))) | exact (at2 (at2 (at2 (at2 (at2 (at2 (at2 (by with_reducible assumption)))))))) | exact (at1 (at2 (at2 (at2 (at2 (at2 (at2 (at2 (at2 (by with_reducible assumption)))))))))) | exact (at2 (at2 (at2 (at2 (at2 (at2 (at2 (at2 (by with_reducible assumption))))))))) | exact (at1 (at2 (at2 (at2 (at2 (at2 (at2 (at2 (at2 (at2 (by with_reducible assumption))))))))))) | exact (at2 (at2 (at2 (at2 (at2 (at2 (at2 (at2 (at2 (by with_reducible assumption)))))))))) | exact (at1 (at1 (by with_reducible assumption))) | exact (at1 (at2 (at1 (by with_reducible assumption)))) | exact (at2 (at2 (at1 (by with_reducible assumption)))) | exact (at1 (at1 (at2 (by with_reducible assumption)))) | exact (at1 (at2 (at1 (at2 (by with_reducible assumption))))) | exact (at2 (at2 (at1 (at2 (by with_reducible assumption))))) | exact (at1 (at1 (at2 (at2 (by with_reducible assumption))))) | exact (at1 (at2 (at1 (at2 (at2 (by with_reducible assumption)))))) | exact (at2 (at2 (at1 (at2 (at2 (by with_reducible assumption)))))) | exact (at1 (at1 (at2 (at2 (at2 (by with_reducible assumption)))))) | exact (at1 (at2 (at1 (at2 (at2 (at2 (by with_reducible assumption))))))) | exact (at2 (at2 (at1 (at2 (at2 (at2 (by with_reducible assumption))))))) | exact (at1 (at1 (at2 (at2 (at2 (at2 (by with_reducible assumption))))))) | exact (at1 (at2 (at1 (at2 (at2 (at2 (at2 (by with_reducible assumption)))))))) | exact (at2 (at2 (at1 (at2 (at2 (at2 (at2 (by with_reducible assumption)))))))) | exact (at1 (at1 (at2 (at2 (at2 (at2 (at2 (by with_reducible assumption)))))))) | exact (at1 (at2 (at1 (at2 (at2 (at2 (at2 (at2 (by with_reducible assumption))))))))) | exact (at2 (at2 (at1 (at2 (at2 (at2 (at2 (at2 (by with_reducible assumption))))))))) | exact (at1 (at1 (at2 (at2 (at2 (at2 (at2 (at2 (by with_reducible assumption))))))))) | exact (at1 (at2 (at1 (at2 (at2 (at2 (at2 (at2 (at2 (by with_reducible assumption)))))))))) | exact (at2 (at2 (at1 (at2 (at2 (at2 (at2 (at2 (at2 (by with_reducible assumption)))))))))) | fail)
  k_with "noNe" => ((repeat (rename (@Ne Nat _ _) => hx9; clear hx9)); (repeat (rename (@Ne Nat _ _ ∧ _) => hx9; clear hx9)); (repeat (rename ((@Ne Nat _ _ ∧ _) ∧ _) => hx9; clear hx9)))
  trivial
section
noncomputable def bs1 (ls : List Int) (N : Nat) : List Int := (List.range N).map fun i => ls.getD (i % 16) 0
noncomputable def bs2 (ls : List Int) (N : Nat) : List Int := (List.range (N / 16)).map fun i => ls.getD i 0
theorem bs1_eq (ls : List Int) (N : Nat) : ((rangeKs 0 ((N : Int) - 0).toNat).map fun k => ls.getD (k.fmod 16).toNat 0) = bs1 ls N := by
  unfold bs1 rangeKs
  rw [toNat_sub0, List.map_map]
  refine List.map_congr_left fun i _ => ?_
  have e : ((0 + (i : Int)).fmod 16).toNat = i % 16 := by rw [Int.fmod_eq_emod_of_nonneg _ (by decide)]; omega
  simp only [Function.comp, e]
theorem bs2_eq (ls : List Int) (N : Nat) : ((rangeKs 0 ((N : Int).fdiv 16 - 0).toNat).map fun k => ls.getD k.toNat 0) = bs2 ls N := by
  unfold bs2 rangeKs
  have e0 : ((N : Int).fdiv 16 - 0).toNat = N / 16 := by rw [Int.fdiv_eq_ediv_of_nonneg _ (by decide)]; omega
  rw [e0, List.map_map]
  refine List.map_congr_left fun i _ => ?_
  have e : (0 + (i : Int)).toNat = i := by omega
  simp only [Function.comp, e]
theorem news_leads {h₀ h : Heap} {L : Addr} {q : Addr × Obj} {A B C news : List (Addr × Obj)} (N : News h₀ L h (q :: (A ++ (B ++ C)))) (N0 : News h₀ L h news) : News h₀ L h (q :: (A ++ (B ++ news))) := fun p hp => by
  rcases List.mem_cons.mp hp with rfl | hp
  · exact N _ (.head _)
  rcases List.mem_append.mp hp with hp | hp
  · exact N _ (.tail _ (List.mem_append_left _ hp))
  rcases List.mem_append.mp hp with hp | hp
  · exact N _ (.tail _ (List.mem_append_right _ (List.mem_append_left _ hp)))
  · exact N0 _ hp
theorem off_leads {h₀ h g h' : Heap} {L L' : Addr} {q : Addr × Obj} {A B C news : List (Addr × Obj)} (S : Stays [] h g) (N0 : News h₀ L h news) (N : News g L' h' (q :: (A ++ (B ++ C)))) : ∀ p ∈ news, ∀ r ∈ q :: (A ++ B), r.1 ≠ p.1 := fun p hp r hr e => by
  refine new_off S N0 (N r ?_).2.2 p hp e.symm
  rcases List.mem_cons.mp hr with rfl | hr
  · exact .head _
  rcases List.mem_append.mp hr with hr | hr
  · exact .tail _ (List.mem_append_left _ hr)
  · exact .tail _ (List.mem_append_right _ (List.mem_append_left _ hr))
theorem lbound_map {ls : List Int} (hb : LBound ls) (f : Int → Nat) (ks : List Int) : LetB (ks.map fun k => ls.getD (f k) 0) := fun v hv => by
  obtain ⟨k, _, rfl⟩ := List.mem_map.mp hv
  exact hb _
section
variable {prog : Program} {w : World} {A : Around} {E : Value → Shared → Prop} {s : Shared} {t u : Tok} {Q : Value → Shared → Prop} {h₀ : Heap} {L D : Addr} {news : List (Addr × Obj)}
theorem join_jn {ys : List Value} {ls ks : List Int} {f : Int → Nat} (N : News h₀ L s.heap news) (hm : (D, LCg.lst ys) ∈ news) (hb : LBound ls) (hc : CarriedAll ys (ks.map fun k => PyData.str (runT (ls.getD (f k) 0)))) (hl : ks.length ≤ 48)
    (h : ∀ t' k, Q (.str (jn (ks.map fun k => ls.getD (f k) 0)) t') { s with toks := k }) : wpAny (model prog w) A (call (.builtin "str.join") [.str (Str.ofString "") t, .ref D]) Q E s := by
  have e : (ks.map fun k => runT (ls.getD (f k) 0)) = (ks.map fun k => ls.getD (f k) 0).map runT := by rw [List.map_map]; rfl
  have hs : StrsAre ys ((ks.map fun k => ls.getD (f k) 0).map runT) := e ▸ CarriedAll.strsOf hc
  have hn := len_runs _ (lbound_map hb f ks)
  rw [List.length_map] at hn
  refine PyProof.Rows.join_list (news_isList N hm) (by rw [List.toList_toArray]; exact hs) ?_ h
  have e0 : (Str.ofString "").length = 0 := by decide +kernel
  rw [e0]
  omega
theorem add_x1 {bs : List Int} (hb : LetB bs) (hl : bs.length ≤ 48) (h : ∀ t' k, Q (.str (text1 bs) t') { s with toks := k }) : wpAny (model prog w) A (binaryOp .Add (.str (jn bs) t) (.str (Str.ofString "x\t ") u)) Q E s :=
  PyProof.Rows.add_str h (by have := len_jn hb; rw [show (Str.ofString "x\t ").length = 3 by decide +kernel, sizeLine_eq]; omega)
theorem add_b2 {bs : List Int} {v : Int} (hb : LetB bs) (hl : bs.length ≤ 48) (h0 : 0 ≤ v) (h1 : v < 16) (h : ∀ t' k, Q (.str (jn bs ++ Txt.mul (Str.ofString " ") v) t') { s with toks := k }) : wpAny (model prog w) A (binaryOp .Add (.str (jn bs) t) (.str (Txt.mul (Str.ofString " ") v) u)) Q E s :=
  PyProof.Rows.add_str h (by have := len_jn hb; have := len_blank h0 h1; rw [sizeLine_eq]; omega)
theorem add_x2 {bs : List Int} {v : Int} (hb : LetB bs) (hl : bs.length ≤ 48) (h0 : 0 ≤ v) (h1 : v < 16) (h : ∀ t' k, Q (.str (text2 bs v) t') { s with toks := k }) : wpAny (model prog w) A (binaryOp .Add (.str (jn bs ++ Txt.mul (Str.ofString " ") v) t) (.str (Str.ofString "x\t ") u)) Q E s :=
  PyProof.Rows.add_str h (by have := len_jn hb; have := len_blank h0 h1; rw [show (Str.ofString "x\t ").length = 3 by decide +kernel, Str.length_append, sizeLine_eq]; omega)
end
theorem lines_Leads1 : True := by
  k_with "subscriptTail" => (k_here; (with_reducible show wpAny _ _ (subscriptTail _ _ (Value.ref _) (Value.int (Int.fmod _ 16) _)) _ _ _); (with_unfolding_all refine' item_anyK ?k1 ?k2 ?k3 ?k4 ?k5 ?_ ?k6; (case k1 => is_list); (case k2 => assumption); (case k3 => exact fmod16.1); (case k4 => (have h9 := @fmod16; omega)); (case k5 => exact Int.lt_trans fmod16.2 (by decide)); (case k6 => with_unfolding_all rfl); k_whole); intro _)
  k_with "binaryOp Mult str int" => (k_here; refine mul_blank (LBound.lo (by assumption) _) (LBound.hi (by assumption) _) ?_; intro _ _)
  k_with "CompSrc" => (k_here; k_dflt (refine LCg.CompSrc.range (by rfl) (by k_asm) (by k_asm) (by assumption) (by exact small_one (by omega) (by omega) (by omega) (by omega)) (by exact rangeSize_nat _ _) (by (rw [sizeLine_eq]; omega)) ?_; intro g'; (refine' kct_range _ (fun k' t' I' oI' C' oC' D' m' ys' h' tk' E' hlo' hhi' hC' hx' F' N' off' ne' hMark' => ?_) ?_); (all_goals (try (simp only [LCg.Off3, and_true] at off'))); kcf_last))
  k_with "call builtin:str.join" => (k_here; (with_reducible show wpAny _ _ (call (Value.builtin "str.join") [Value.str _ _, Value.ref _]) _ _ _); (refine' join_jn ?N ?m ?b ?c ?l ?_; (case N => k_asm); (case m => k_mem); (case b => assumption); (case c => assumption); (case l => (rw [rangeKs_length]; omega))); intro _ _)
  k_with "binaryOp Add str str" => (k_here; (with_reducible show wpAny _ _ (binaryOp _ (Value.str (Txt.mul _ _) _) (Value.str (Str.ofString "\t") _)) _ _ _); refine add_tab (LBound.lo (by assumption) _) (LBound.hi (by assumption) _) ?_; intro _ _)
  k_with "binaryOp Add str str" => (k_here; (with_reducible show wpAny _ _ (binaryOp _ (Value.str (jn _) _) (Value.str (Str.ofString "x\t ") _)) _ _ _); refine add_x1 (lbound_map (by assumption) _ _) (by rw [List.length_map, rangeKs_length]; omega) ?_; intro _ _)
  k_with "binaryOp Add str str" => (k_here; (with_reducible show wpAny _ _ (binaryOp _ (Value.str (jn _) _) (Value.str (Txt.mul _ _) _)) _ _ _); refine add_b2 (lbound_map (by assumption) _ _) (by rw [List.length_map, rangeKs_length]; omega) (LBound.lo (by assumption) _) (LBound.hi (by assumption) _) ?_; intro _ _)
  k_with "binaryOp Add str str" => (k_here; (with_reducible show wpAny _ _ (binaryOp _ (Value.str (jn _ ++ Txt.mul _ _) _) (Value.str (Str.ofString "x\t ") _)) _ _ _); refine add_x2 (lbound_map (by assumption) _ _) (by rw [List.length_map, rangeKs_length]; omega) (LBound.lo (by assumption) _) (LBound.hi (by assumption) _) ?_; intro _ _)
  k_with "call ref" => (k_here; (with_reducible show wpAny _ _ (call (Value.ref _) [Value.str (text1 _) _] _) _ _ _); k_dflt (refine' ws_spec ?u1 ?u2 ?u3 ?u4 ?u5 ?u6 ?u7 ?hn ?hg ?hl ?_; (case u1 => k_asm); (case u2 => k_asm); (case u3 => k_asm); (case u4 => k_asm); (case u5 => first | exact rfl | assumption); (case u6 => ktr_room); (case u7 => ktr_units); (case hn => k_asm); (case hg => exact go1 (lbound_map (by assumption) _ _)); (case hl => exact fold_len16 _ (lbound_map (by assumption) _ _) [] (by decide))); intro x9 dx9 tp9 ct9 vs9 sm9 T9 h9 tk9 F9 N9 hI9 l9 o9; (try dsimp only))
  k_with "call ref" => (k_here; (with_reducible show wpAny _ _ (call (Value.ref _) [Value.str (text2 _ _) _] _) _ _ _); k_dflt (refine' ws_spec ?u1 ?u2 ?u3 ?u4 ?u5 ?u6 ?u7 ?hn ?hg ?hl ?_; (case u1 => k_asm); (case u2 => k_asm); (case u3 => k_asm); (case u4 => k_asm); (case u5 => first | exact rfl | assumption); (case u6 => ktr_room); (case u7 => ktr_units); (case hn => k_asm); (case hg => exact go2 (lbound_map (by assumption) _ _) (LBound.lo (by assumption) _) (LBound.hi (by assumption) _)); (case hl => exact fold_len16 _ (lbound_map (by assumption) _ _) [] (by decide))); intro x9 dx9 tp9 ct9 vs9 sm9 T9 h9 tk9 F9 N9 hI9 l9 o9; (try dsimp only))
  trivial
set_option maxRecDepth 100000 in
set_option maxHeartbeats 8000000 in
theorem leads_spec {w : World} {p : Program} {loose : List Str} {mean : ExcName → Option Value} {mg mb : Str → Option Value}
    {dp un : Nat} {gd : Option (List Code)} {cn : Str} {cs : Scope} {a : Addr} {ccd : Value} {cl : List (Str × Addr)} {outer : List Env} {A₀ : Around} {base h₀ : Heap} {L : Addr} {m : Str → Option Value} {s : Shared} {Q E : Value → Shared → Prop} {l : Addr} {us : List Value} {ls : List Int} {N : Nat} {t : Tok}
    (B : Below A₀ base outer h₀) (F : Fr h₀ L s.heap m) (X : (hd.heap_39 w.params).In h₀) (T : Top p loose mean mg mb h₀) (hk : cs.kind = .function) (hd : dp + 5 < recursionLimit) (hu : un + 40 < cLine)
    {news : List (Addr × Obj)} (N0 : News h₀ L s.heap news) (hl : s.heap.IsList l us.toArray) (hi : IntsAre us ls) (hlen : ls.length = 16) (hb : LBound ls) (hN : N ≤ 48) (hN1 : 1 ≤ N)
    (ret : ∀ (tp x1 dx1 tp1 ct1 x2 dx2 tp2 ct2 : Addr) (vs1 vs2 : List Value) (X1 X2 : Str) (n1 n2 : Int) (sm1 sm2 : Bool) (T1 T2 : LeadTok) (c1 c2 : List Int) (m1 m2 v2 : Int) (h' : Heap) (tk' : Nat),
      c1 = bs1 ls N → c2 = bs2 ls N → m1 = (c1.length : Int) → m2 = (c2.length : Int) → v2 = ls.getD ((N : Int).fdiv 16).toNat 0 → Fr h₀ L h' m →
      News h₀ L h' ((tp, { cls := .type "tuple", data := .seq (List.toArray [Value.ref x1, Value.ref x2]) }) :: (leadObjs w x2 dx2 tp2 ct2 vs2 X2 n2 m2 v2 sm2 T2 ++ (leadObjs w x1 dx1 tp1 ct1 vs1 X1 n1 m1 0 sm1 T1 ++ news))) →
      (∀ q ∈ news, ∀ p ∈ (tp, ({ cls := .type "tuple", data := .seq (List.toArray [Value.ref x1, Value.ref x2]) } : Obj)) :: (leadObjs w x2 dx2 tp2 ct2 vs2 X2 n2 m2 v2 sm2 T2 ++ leadObjs w x1 dx1 tp1 ct1 vs1 X1 n1 m1 0 sm1 T1), p.1 ≠ q.1) →
      IntsAre vs1 (c1.foldl bump []) → IntsAre vs2 (c2.foldl bump []) → Q (.ref tp) { s with heap := h', toks := tk' }) :
    wpAny (model PP w) (ktrTop dp un gd cn cs L a ccd cl outer) (call (.ref 156) [.ref l, .int N t]) Q E s := by
  have N1 : News h₀ L s.heap [] := News.nil
  have hfd : (N : Int).fdiv 16 = ((N / 16 : Nat) : Int) := by rw [Int.fdiv_eq_ediv_of_nonneg _ (by decide)]; rfl
  refine wpAny_call ?_
  k_dflt (refine' enterC (binds := [(Str.ofString "letters", .ref l), (Str.ofString "total", .int N t)]) ?k1 ?k2 ?k3 ?k4 ?k5 ?kA ?kF ?kK ?k6 ?k7 ?k8 ?k9 ?kB ?kD ?_ ?c2 ?c3 ?c4; (case kA => exact rfl); (case kF => exact rfl); (case kK => assumption); (case k1 => k_asm); (case k2 => k_asm); (case k3 => k_asm); (case k4 => k_asm); (case k5 => k_asm); (case k6 => k_is); (case k7 => k_is); (case k8 => (show dp < recursionLimit; omega)); (case k9 => exact BindsTo.of_eq rfl); (case kB => exact rfl); (case kD => decide +kernel); (case c2 => exact rfl); (case c3 => exact rfl); (case c4 => exact rfl); k_whole); intro g L' h1 tk1 cells1 FG F' N' Y' B' X' T' S' l1; (try k_lt l1); k_cells Y'; (try simp only [List.cons_append, List.nil_append] at N')
  have hlg := stays_isList S' (by exact List.not_mem_nil) hl
  (try dsimp only)
  clear hl B F X T N1 FG
  k_steps
  all_goals (try dsimp only)
  all_goals (refine' leaveK_ ?k1 ?k2 ?_; (case k1 => k_asm); (case k2 => k_asm); intro kF kN)
  all_goals (rename News g _ _ _ => kG)
  all_goals exact ret _ _ _ _ _ _ _ _ _ _ _ _ _ _ _ _ _ _ _ _ _ _ _ _ _ _ (bs1_eq ls N) (bs2_eq ls N) rfl rfl rfl kF (news_leads kN ((S'.trans (by assumption)).news N0)) (off_leads S' N0 kG) (by assumption) (by assumption)
end
theorem fresh13 : True := by
  (try walk1)
  w_top off
  k_with_none
  k_with "conj" => (first | with_reducible assumption | exact (at1 (by with_reducible assumption)) | exact (at1 (at2 (by with_reducible assumption))) | exact (at2 (by with_reducible assumption)) | exact (at1 (at2 (at2 (by with_reducible assumption)))) | exact (at2 (at2 (by with_reducible assumption))) | exact (at1 (at2 (at2 (at2 (by with_reducible assumption))))) | exact (at2 (at2 (at2 (by with_reducible assumption)))) | exact (at1 (at2 (at2 (at2 (at2 (by with_reducible assumption)))))) | exact (at2 (at2 (at2 (at2 (by with_reducible assumption))))) | exact (at1 (at2 (at2 (at2 (at2 (at2 (by with_reducible assumption))))))) | exact (at2 (at2 (at2 (at2 (at2 (by with_reducible assumption)))))) | exact (at1 (at2 (at2 (at2 (at2 (at2 (at2 (by with_reducible assumption)))))))) | exact (at2 (at2 (at2 (at2 (at2 (at2 (by with_reducible assumption))))))) | exact (at1 (at2 (at2 (at2 (at2 (at2 (at2 (at2 (by with_reducible assumption))))))))) | exact (at2 (at2 (at2 (at2 (at2 (at2 (at2 (by with_reducible assumption)))))))) | exact (at1 (at2 (at2 (at2 (at2 (at2 (at2 (at2 (at2 (by with_reducible assumption)))))))))) | exact (at2 (at2 (at2 (at2 (at2 (at2 (at2 (at2 (by with_reducible assumption))))))))) | exact (at1 (at2 (at2 (at2 (at2 (at2 (at2 (at2 (at2 (at2 (by with_reducible assumption))))))))))) | exact (at2 (at2 (at2 (at2 (at2 (at2 (at2 (at2 (at2 (by with_reducible assumption)))))))))) | exact (at1 (at1 (by with_reducible assumption))) | exact (at1 (at2 (at1 (by with_reducible assumption)))) | exact (at2 (at2 (at1 (by with_reducible assumption)))) | exact (at1 (at1 (at2 (by with_reducible assumption)))) | exact (at1 (at2 (at1 (at2 (by with_reducible assumption))))) | exact (at2 (at2 (at1 (at2 (by with_reducible assumption))))) | exact (at1 (at1 (at2 (at2 (by with_reducible assumption))))) | exact (at1 (at2 (at1 (at2 (at2 (by with_reducible assumption)))))) | exact (at2 (at2 (at1 (at2 (at2 (by with_reducible assumption)))))) | exact (at1 (at1 (at2 (at2 (at2 (by with_reducible assumption)))))) | exact (at1 (at2 (at1 (at2 (at2 (at2 (by with_reducible assumption))))))) | exact (at2 (at2 (at1 (at2 (at2 (at2 (by with_reducible assumption))))))) | exact (at1 (at1 (at2 (at2 (at2 (at2 (by with_reducible assumption))))))) | exact (at1 (at2 (at1 (at2 (at2 (at2 (at2 (by with_reducible assumption)))))))) | exact (at2 (at2 (at1 (at2 (at2 (at2 (at2 (by with_reducible assumption)))))))) | exact (at1 (at1 (at2 (at2 (at2 (at2 (at2 (by with_reducible assumption)))))))) | exact (at1 (at2 (at1 (at2 (at2 (at2 (at2 (at2 (by with_reducible assumption))))))))) | exact (at2 (at2 (at1 (at2 (at2 (at2 (at2 (at2 (by with_reducible assumption))))))))) | exact (at1 (at1 (at2 (at2 (at2 (at2 (at2 (at2 (by with_reducible assumption))))))))) | exact (at1 (at2 (at1 (at2 (at2 (at2 (at2 (at2 (at2 (by with_reducible assumption)))))))))) | exact (at2 (at2 (at1 (at2 (at2 (at2 (at2 (at2 (at2 (by with_reducible assumption)))))))))) | fail)
  k_with "noNe" => ((repeat (rename (@Ne Nat _ _) => hx9; clear hx9)); (repeat (rename (@Ne Nat _ _ ∧ _) => hx9; clear hx9)); (repeat (rename ((@Ne Nat _ _ ∧ _) ∧ _) => hx9; clear hx9)))
  trivial
section
section
variable {prog : Program} {w : World} {A : Around} {E : Value → Shared → Prop} {s : Shared} {h₀ : Heap} {L : Addr} {m : Str → Option Value} {env : Env}
noncomputable def SrcStep (prog : Program) (w : World) (A : Around) (h₀ : Heap) (L : Addr) (m : Str → Option Value) (env : Env) (elt : Expr) (x : Str) (scope : Scope) (cl : List (Str × Addr)) (Fin : Shared → List Value → List (Addr × Obj) → Prop) (xv : Value) (s₁ : Shared) : Prop :=
  ∃ r a b c t u v n news, xv = .ref r ∧ A.handled = none ∧ Fr h₀ L s₁.heap m ∧ News h₀ L s₁.heap news ∧ IsRange s₁.heap r a b c t u v ∧ Builtin.Range.small a b c = true ∧ Builtin.Range.rangeSize a b c = ((n : Nat) : Int) ∧ n ≤ sizeLine ∧
    ∀ g : Heap, LCg.CompRest prog w A h₀ L m env elt x scope cl { s₁ with heap := g } (fun _ => True) (fun i v => i < n ∧ ∃ t, v = .int (a + (i : Int) * c) t) (Fin { s₁ with heap := g }) n 0 [] news
theorem SrcStep.mk {elt : Expr} {x : Str} {scope : Scope} {cl : List (Str × Addr)} {Fin : Shared → List Value → List (Addr × Obj) → Prop} {r : Addr} {a b c : Int} {t u v : Tok} {n : Nat} {news : List (Addr × Obj)} {s₁ : Shared}
    (hh : A.handled = none) (F : Fr h₀ L s₁.heap m) (N : News h₀ L s₁.heap news) (hr : IsRange s₁.heap r a b c t u v) (hsm : Builtin.Range.small a b c = true) (hn : Builtin.Range.rangeSize a b c = ((n : Nat) : Int)) (hsz : n ≤ sizeLine)
    (h : ∀ g, LCg.CompRest prog w A h₀ L m env elt x scope cl { s₁ with heap := g } (fun _ => True) (fun i v => i < n ∧ ∃ t, v = .int (a + (i : Int) * c) t) (Fin { s₁ with heap := g }) n 0 [] news) :
    SrcStep prog w A h₀ L m env elt x scope cl Fin (.ref r) s₁ := ⟨r, a, b, c, t, u, v, n, news, rfl, hh, F, N, hr, hsm, hn, hsz, h⟩
/-- a list comprehension over a range of any step -/
theorem comp_step {elt iter : Expr} {x : Str} {px : Pos} {scope : Scope} {cl : List (Str × Addr)} {pos : Pos} {Q : Value → Shared → Prop} (F₀ : Fr h₀ L s.heap m)
    (hclos : closureFor scope env = pure cl) (hcell : ∀ y ∈ scope.names, y.2 ≠ .cell) (hkind : scope.kind = .function)
    (hnames : ∀ y ∈ scope.names, y.2 = .local → scope.names.lookup y.1 = some .local) (hx : scope.names.lookup x = some .local)
    (h : wpAny (model prog w) A (eval iter env) (SrcStep prog w A h₀ L m env elt x scope cl (fun s₂ => LCg.FinE h₀ L m s₂ Q)) E s)
    (hs : ∀ x, foldedSetIterable iter env x = pure x := by intro _; rfl) :
    wpAny (model prog w) A (eval (.ListComp elt [⟨.Name x px, iter, [], 0⟩] scope pos) env) Q E s := by
  rw [eval_ListComp]
  refine wpAny_comprehension_free (use := none) rfl hs hclos hkind hnames (wpAny_mono h (fun xv s₁ h₁ => ?_) fun _ _ e => e)
  obtain ⟨r, a, b, c, t, u, v, n, news, rfl, hh, F, N, hr, hsm, hn, hsz, R⟩ := h₁
  refine wpAny_pyIter_range hr hsm ?_
  have up : ∀ (o : Obj) (b : Addr) (o' : Obj), s₁.heap.get? b = some o' → (s₁.heap.push o).get? b = some o' := fun o _ _ e => Heap.get?_push_of_some _ e
  refine LCg.block_U ((Walks.range hh s₁.heap.objs.size a c n).bound) hsz (fun i h st => ⟨_, st⟩) (fun i h h' o nw st e e' _ _ _ => ?_) hcell hkind hx (by show IsRangeIter _ _ _ _ _; rw [hn]; simpa using Heap.get?_push_size _ rfl) (fun b hb => ?_)
    (F.keeps (up _)) (N.grown (up _)) (Nat.ne_of_lt F.ns.lt) (next_is_new F) (fun p hp => Nat.ne_of_lt (Heap.lt_size (N p hp).1)) trivial (R _) ?_
  · have st' : h.get? s₁.heap.objs.size = some _ := st
    show h'.get? s₁.heap.objs.size = some _
    rw [e', ← e]; exact st'
  · rw [List.mem_singleton.mp hb]
    show s₁.heap.objs.size < (s₁.heap.push _).objs.size
    rw [Heap.size_push]; exact Nat.lt_succ_self _
  · intro D C h tk m' ys news' F' N' o1 hn' hC₀ hD₀ hCL hDL hCD offC fin
    refine ⟨m', hn', fun h'' hs'' => fin D h'' tk (F'.change hs'' hCL hC₀) (fun p hp => ?_) o1⟩
    refine ⟨hs''.extBut _ _ ?_ (N' p hp).1, (N' p hp).2⟩
    rcases List.mem_cons.mp hp with rfl | hp
    · exact Ne.symm hCD
    · exact offC p hp
end
/-- the multiples of tab below sixteen -/
noncomputable def steps (tab : Int) : List Int := (List.range (15 / tab.toNat)).map fun (i : Nat) => tab + (i : Int) * tab
theorem steps_size {tab : Int} (h1 : 1 ≤ tab) (h2 : tab ≤ 16) : Builtin.Range.rangeSize tab 16 tab = ((15 / tab.toNat : Nat) : Int) ∧ Builtin.Range.small tab 16 tab = true := by
  have all : ∀ k : Fin 16, Builtin.Range.rangeSize ((k.val : Int) + 1) 16 ((k.val : Int) + 1) = ((15 / ((k.val : Int) + 1).toNat : Nat) : Int) ∧ Builtin.Range.small ((k.val : Int) + 1) 16 ((k.val : Int) + 1) = true := by decide +kernel
  have h := all ⟨tab.toNat - 1, by omega⟩
  rwa [show ((((⟨tab.toNat - 1, by omega⟩ : Fin 16).val : Nat) : Int) + 1) = tab from by show ((tab.toNat - 1 : Nat) : Int) + 1 = tab; omega] at h
theorem steps_mem {tab k : Int} (h1 : 1 ≤ tab) (h2 : tab ≤ 16) (hk : k ∈ steps tab) : 1 ≤ k ∧ k ≤ 15 := by
  have all : ∀ k : Fin 16, ∀ x ∈ steps ((k.val : Int) + 1), 1 ≤ x ∧ x ≤ 15 := by decide +kernel
  have h := all ⟨tab.toNat - 1, by omega⟩
  rw [show ((((⟨tab.toNat - 1, by omega⟩ : Fin 16).val : Nat) : Int) + 1) = tab from by show ((tab.toNat - 1 : Nat) : Int) + 1 = tab; omega] at h
  exact h k hk
theorem steps_at {tab : Int} {n : Nat} (hn : n = 15 / tab.toNat) : (steps tab).length = n ∧ ∀ (i : Nat) (v : Value), i < n → (i < n ∧ ∃ t, v = .int (tab + (i : Int) * tab) t) → ∃ k t, (steps tab)[i]? = some k ∧ v = .int k t := by
  subst hn
  refine ⟨by simp [steps], fun i v hi hv => ?_⟩
  obtain ⟨_, t, e⟩ := hv
  exact ⟨_, t, by simp [steps, hi], e⟩
noncomputable def col (ps : List Int) (N : Nat) (tab : Int) : Int := tab * (N + ((steps tab).map fun k => N - ps.getD k.toNat 0).sum)
theorem col_turn {ps pre told : List Int} {N : Nat} {tab : Int} (h : told.length = pre.length ∧ told = pre.map (col ps N)) :
    (told ++ [tab * (N + ((steps tab).map fun k => N - ps.getD k.toNat 0).sum)]).length = (pre ++ [tab]).length ∧ told ++ [tab * (N + ((steps tab).map fun k => N - ps.getD k.toNat 0).sum)] = (pre ++ [tab]).map (col ps N) := by
  refine ⟨by simp [h.1], ?_⟩
  rw [List.map_append, ← h.2]
  rfl
theorem lines_Cols1 : True := by
  k_with "eval ListComp" => (k_here; k_dflt (refine comp_step (F₀ := by k_asm) (by with_unfolding_all rfl) (by decide) (by rfl) (by decide) (by rfl) ?_))
  trivial
set_option maxRecDepth 100000 in
set_option maxHeartbeats 8000000 in
theorem cols_spec {w : World} {p : Program} {loose : List Str} {mean : ExcName → Option Value} {mg mb : Str → Option Value}
    {dp un : Nat} {gd : Option (List Code)} {cn : Str} {cs : Scope} {a : Addr} {ccd : Value} {cl : List (Str × Addr)} {outer : List Env} {A₀ : Around} {base h₀ : Heap} {L : Addr} {m : Str → Option Value} {s : Shared} {Q E : Value → Shared → Prop} {l : Addr} {us : List Value} {ps : List Int} {N : Nat} {t : Tok}
    (B : Below A₀ base outer h₀) (F : Fr h₀ L s.heap m) (X : (hd.heap_39 w.params).In h₀) (T : Top p loose mean mg mb h₀) (hk : cs.kind = .function) (hd : dp + 1 < recursionLimit) (hu : un + 8 < cLine)
    {news : List (Addr × Obj)} (N0 : News h₀ L s.heap news) (hl : s.heap.IsList l us.toArray) (hi : IntsAre us ps) (hlen : ps.length = 17) (hN : N ≤ 48)
    (ret : ∀ (r : Addr) (vs : List Value) (n : Nat) (h' : Heap) (tk' : Nat), Fr h₀ L h' m → News h₀ L h' ((r, listOf vs.toArray n) :: news) → IntsAre vs ((rangeKs 1 16).map (col ps N)) → Q (.ref r) { s with heap := h', toks := tk' }) :
    wpAny (model PP w) (ktrTop dp un gd cn cs L a ccd cl outer) (call (.ref 161) [.ref l, .int N t]) Q E s := by
  have N1 : News h₀ L s.heap [] := News.nil
  refine wpAny_call ?_
  k_dflt (refine' enterC (binds := [(Str.ofString "places", .ref l), (Str.ofString "total", .int N t)]) ?k1 ?k2 ?k3 ?k4 ?k5 ?kA ?kF ?kK ?k6 ?k7 ?k8 ?k9 ?kB ?kD ?_ ?c2 ?c3 ?c4; (case kA => exact rfl); (case kF => exact rfl); (case kK => assumption); (case k1 => k_asm); (case k2 => k_asm); (case k3 => k_asm); (case k4 => k_asm); (case k5 => k_asm); (case k6 => k_is); (case k7 => k_is); (case k8 => (show dp < recursionLimit; omega)); (case k9 => exact BindsTo.of_eq rfl); (case kB => exact rfl); (case kD => decide +kernel); (case c2 => exact rfl); (case c3 => exact rfl); (case c4 => exact rfl); k_whole); intro g L' h1 tk1 cells1 FG F' N' Y' B' X' T' S' l1; (try k_lt l1); k_cells Y'; (try simp only [List.cons_append, List.nil_append] at N')
  have hlg := stays_isList S' (by exact List.not_mem_nil) hl
  (try dsimp only)
  clear hl B F X T N1 FG
  k_with "pyIter ref" => k_state (fun pre told => told.length = pre.length ∧ told = pre.map (col ps N)) "told"
  k_with "state" => first | exact ⟨rfl, rfl⟩ | exact col_turn (by refine ⟨?_, ?_⟩ <;> assumption)
  k_steps
  · k_dflt (refine SrcStep.mk (by rfl) (by k_asm) (by k_asm) (by assumption) (steps_size (by omega) (by omega)).2 (steps_size (by omega) (by omega)).1 (by (rw [sizeLine_eq]; exact Nat.le_trans (Nat.div_le_self _ _) (by decide))) ?_)
    intro g'
    refine' kcf_rest (ks := steps _) (fun k => (N : Int) - ps.getD k.toNat 0) (steps_at rfl).1 (steps_at rfl).2 (fun k' t' I' oI' C' oC' D' m' ys' h' tk' E' hk9 hC' hx' F' N' off' ne' hMark' => ?_) ?_
    all_goals (try (simp only [LCg.Off3, and_true] at off'))
    all_goals (try k_fold)
    · have hk8 := steps_mem (by omega) (by omega) hk9
      k_steps
    · k_steps
  · (try dsimp only)
    refine' leaveK_ ?k1 ?k2 ?_
    case k1 => k_asm
    case k2 => k_asm
    intro kF kN
    rename News g _ _ _ => kG
    rename (_ : List Int) = List.map _ _ => kE
    exact ret _ _ _ _ _ kF (news_cons kN (.head _) ((S'.trans (by assumption)).news N0)) (ints_as (by assumption) kE)
end
theorem fresh14 : True := by
  (try walk1)
  w_top off
  k_with_none
  k_with "conj" => (first | with_reducible assumption | exact (at1 (by with_reducible assumption)) | exact (at1 (at2 (by with_reducible assumption))) | exact (at2 (by with_reducible assumption)) | exact (at1 (at2 (at2 (by with_reducible assumption)))) | exact (at2 (at2 (by with_reducible assumption))) | exact (at1 (at2 (at2 (at2 (by with_reducible assumption))))) | exact (at2 (at2 (at2 (by with_reducible assumption)))) | exact (at1 (at2 (at2 (at2 (at2 (by with_reducible assumption)))))) | exact (at2 (at2 (at2 (at2 (by with_reducible assumption))))) | exact (at1 (at2 (at2 (at2 (at2 (at2 (by with_reducible assumption))))))) | exact (at2 (at2 (at2 (at2 (at2 (by with_reducible assumption)))))) | exact (at1 (at2 (at2 (at2 (at2 (at2 (at2 (by with_reducible assumption)))))))) | exact (at2 (at2 (at2 (at2 (at2 (at2 (by with_reducible assumption))))))) | exact (at1 (at2 (at2 (at2 (at2 (at2 (at2 (at2 (by with_reducible assumption))))))))) | exact (at2 (at2 (at2 (at2 (at2 (at2 (at2 (by with_reducible assumption)))))))) | exact (at1 (at2 (at2 (at2 (at2 (at2 (at2 (at2 (at2 (by with_reducible assumption)))))))))) | exact (at2 (at2 (at2 (at2 (at2 (at2 (at2 (at2 (by with_reducible assumption))))))))) | exact (at1 (at2 (at2 (at2 (at2 (at2 (at2 (at2 (at2 (at2 (by with_reducible assumption))))))))))) | exact (at2 (at2 (at2 (at2 (at2 (at2 (at2 (at2 (at2 (by with_reducible assumption)))))))))) | exact (at1 (at1 (by with_reducible assumption))) | exact (at1 (at2 (at1 (by with_reducible assumption)))) | exact (at2 (at2 (at1 (by with_reducible assumption)))) | exact (at1 (at1 (at2 (by with_reducible assumption)))) | exact (at1 (at2 (at1 (at2 (by with_reducible assumption))))) | exact (at2 (at2 (at1 (at2 (by with_reducible assumption))))) | exact (at1 (at1 (at2 (at2 (by with_reducible assumption))))) | exact (at1 (at2 (at1 (at2 (at2 (by with_reducible assumption)))))) | exact (at2 (at2 (at1 (at2 (at2 (by with_reducible assumption)))))) | exact (at1 (at1 (at2 (at2 (at2 (by with_reducible assumption)))))) | exact (at1 (at2 (at1 (at2 (at2 (at2 (by with_reducible assumption))))))) | exact (at2 (at2 (at1 (at2 (at2 (at2 (by with_reducible assumption))))))) | exact (at1 (at1 (at2 (at2 (at2 (at2 (by with_reducible assumption))))))) | exact (at1 (at2 (at1 (at2 (at2 (at2 (at2 (by with_reducible assumption)))))))) | exact (at2 (at2 (at1 (at2 (at2 (at2 (at2 (by with_reducible assumption)))))))) | exact (at1 (at1 (at2 (at2 (at2 (at2 (at2 (by with_reducible assumption)))))))) | exact (at1 (at2 (at1 (at2 (at2 (at2 (at2 (at2 (by with_reducible assumption))))))))) | exact (at2 (at2 (at1 (at2 (at2 (at2 (at2 (at2 (by with_reducible assumption))))))))) | exact (at1 (at1 (at2 (at2 (at2 (at2 (at2 (at2 (by with_reducible assumption))))))))) | exact (at1 (at2 (at1 (at2 (at2 (at2 (at2 (at2 (at2 (by with_reducible assumption)))))))))) | exact (at2 (at2 (at1 (at2 (at2 (at2 (at2 (at2 (at2 (by with_reducible assumption)))))))))) | fail)
  k_with "noNe" => ((repeat (rename (@Ne Nat _ _) => hx9; clear hx9)); (repeat (rename (@Ne Nat _ _ ∧ _) => hx9; clear hx9)); (repeat (rename ((@Ne Nat _ _ ∧ _) ∧ _) => hx9; clear hx9)))
  trivial
section
section
variable {prog : Program} {w : World} {A : Around} {E : Value → Shared → Prop} {s : Shared} {h₀ : Heap} {L : Addr} {m : Str → Option Value} {news : List (Addr × Obj)}
theorem adjust_to (b n : Nat) : Builtin.Slice.sliceAdjust none (some (b : Int)) 1 (n : Int) = (0, ((min b n : Nat) : Int)) := by
  unfold Builtin.Slice.sliceAdjust
  have h1 : ¬ ((1 : Int) < 0) := by omega
  have h2 : ¬ ((b : Int) < 0) := by omega
  simp only [h1, h2, if_false]
  congr 1
  omega
theorem places_to (k : Nat) : Builtin.Slice.slicePlaces 0 (k : Int) 1 = k := by
  unfold Builtin.Slice.slicePlaces
  have h1 : (1 : Int) > 0 := by omega
  simp only [h1, if_true, Int.ediv_one]
  split <;> omega
theorem sliceApplied_to {sl : Addr} {b n : Nat} {u : Tok} {Q : Int × Int × Nat → Shared → Prop} (hs : s.heap.IsSliceOf sl .none (.int b u) .none) (h : Q (0, 1, min b n) s) :
    wpAny (model prog w) A (Builtin.Slice.sliceApplied (.ref sl) (pure (n : Int))) Q E s := by
  obtain ⟨os, hos, hcs, hds⟩ := id hs
  unfold Builtin.Slice.sliceApplied Builtin.Slice.sliceFields
  refine wpAny_bind (wpAny_bind (wpAny_field hos hds (x := .none) rfl (wpAny_bind (wpAny_field hos hds (x := .int b u) rfl (wpAny_bind (wpAny_field hos hds (x := .none) rfl (wpAny_pure ?_)))))))
  refine wpAny_bind (slicePart_none ?_)
  show wpAny _ _ (if ((1 : Int) == 0) = true then _ else _) _ _ s
  rw [if_neg (by decide)]
  refine wpAny_bind (slicePart_none (wpAny_bind (slicePart_int (wpAny_bind (wpAny_pure ?_)))))
  show wpAny _ _ (match Builtin.Slice.sliceAdjust none (some (b : Int)) 1 (n : Int) with | (lo, hi) => pure (lo, (1 : Int), Builtin.Slice.slicePlaces lo hi 1)) _ _ s
  rw [adjust_to b n]
  show wpAny _ _ (pure ((0 : Int), (1 : Int), Builtin.Slice.slicePlaces 0 ((min b n : Nat) : Int) 1)) _ _ s
  rw [places_to]
  exact wpAny_pure h
theorem pick_to (xs : Array Value) (k : Nat) : ((List.range k).filterMap fun (i : Nat) => xs[((0 : Int) + (i : Int) * 1).toNat]?).toArray = (xs.toList.take k).toArray := by
  have e : (fun (i : Nat) => xs[((0 : Int) + (i : Int) * 1).toNat]?) = fun i => xs[0 + i]? := by
    funext i
    have : ((0 : Int) + (i : Int) * 1).toNat = 0 + i := by omega
    rw [this]
  rw [e]
  have := pick_run xs 0 k
  rw [List.filterMap_map] at this
  have e2 : ((fun x => xs[x]?) ∘ fun x => 0 + x) = fun i => xs[0 + i]? := rfl
  rw [e2] at this
  rw [this, List.drop_zero]
theorem getItem_tuple_to {t sl : Addr} {items : Array Value} {b : Nat} {u : Tok} {Q : Value → Shared → Prop} (ht : IsTup s.heap t items) (hs : s.heap.IsSliceOf sl .none (.int b u) .none) (hz : items.size ≤ 1000)
    (h1 : items.size ≤ b → Q (.ref t) s) (h2 : b < items.size → Q (.ref s.heap.objs.size) { s with heap := s.heap.push { cls := .type "tuple", data := .seq (items.toList.take b).toArray } }) : wpAny (model prog w) A (getItem (.ref t) (.ref sl)) Q E s := by
  have hcut : sizeOk (.seq (items.toList.take b).toArray) := by
    show (items.toList.take b).toArray.size ≤ sizeLine
    rw [List.size_toArray, List.length_take, Array.length_toList, sizeLine_eq]
    omega
  obtain ⟨os, hos, hcs, hds⟩ := id hs
  have hTs : s.TypeIs (.ref sl) "slice" := ⟨os, hos, hcs⟩
  unfold getItem
  try with_reducible refine wpAny_holding ?_
  first | refine wpAny_bind (wpAny_pure ?_) | skip
  refine wpAny_bind (wpAny_sequenceKey ht.typeIs (by decide) ?_)
  refine wpAny_bind (wpAny_callSpecial?_slot (name := Str.ofString "__getitem__") ht.typeIs PyProof.Rows.slot_tuple_getitem
    (wpAny_call_entry PyProof.Rows.slot_tuple_getitem ht.typeIs PyProof.Rows.entry_tuple_getitem ?_ (PyProof.Rows.args_tuple_getitem _ _)))
  show wpAny _ _ (Builtin.Tuple.tupleItemsOf (.ref t) >>= _) _ _ s
  refine wpAny_bind (tupleItemsOf_ ht ?_)
  refine wpAny_bind (wpAny_typeOf hTs ?_)
  rw [if_pos (by decide)]
  refine wpAny_bind (sliceApplied_to hs ?_)
  show wpAny _ _ (if ((0 : Int) == 0 && (1 : Int) == 1 && (min b items.size) == items.size) = true then _ else _) _ _ s
  by_cases hb : items.size ≤ b
  · have e : (min b items.size) = items.size := by omega
    rw [e, if_pos (by simp)]
    unfold Builtin.Tuple.tupleIsExact
    refine wpAny_bind (wpAny_bind (wpAny_typeOf ht.typeIs (wpAny_pure ?_)))
    rw [if_pos (by rfl)]
    refine wpAny_bind (wpAny_rule ?_)
    first
      | exact wpAny_pure ⟨_, rfl, wpAny_pure (h1 hb)⟩
      | exact wpAny_bind (wpAny_pure ⟨_, rfl, wpAny_pure (h1 hb)⟩)
      | exact wpAny_bind (wpAny_pure (wpAny_pure ⟨_, rfl, wpAny_pure (h1 hb)⟩))
  · have e : (min b items.size) = b := by omega
    have hno : ¬ (((0 : Int) == 0 && (1 : Int) == 1 && b == items.size) = true) := by
      have : (b == items.size) = false := by rw [beq_eq_false_iff_ne]; omega
      rw [this]; simp
    rw [e, if_neg hno, pick_to items b]
    have h := h2 (by omega)
    first
      | exact wpAny_bind (m := Builtin.Tuple.tupleExact _) (wpAny_newObj_type (wpAny_pure ⟨_, rfl, wpAny_pure h⟩) hcut)
      | exact wpAny_bind (m := Builtin.Tuple.tupleExact _) (wpAny_newObj_type (wpAny_bind (wpAny_pure (wpAny_pure ⟨_, rfl, wpAny_pure h⟩))) hcut)
      | exact wpAny_bind (wpAny_bind (m := Builtin.Tuple.tupleExact _) (wpAny_newObj_type (wpAny_pure (wpAny_pure ⟨_, rfl, wpAny_pure h⟩)) hcut))
      | exact wpAny_bind (wpAny_bind (m := Builtin.Tuple.tupleExact _) (wpAny_newObj_type (wpAny_pure ⟨_, rfl, wpAny_pure h⟩) hcut))
/-- t[:b], b nought or more: a tuple of the first b items -/
theorem slice_tup {value slice : Expr} {t : Addr} {vs : List Value} {b : Int} {u : Tok} {Q : Value → Shared → Prop}
    (F : Fr h₀ L s.heap m) (N : News h₀ L s.heap news) (ht : IsTup s.heap t vs.toArray) (hb : 0 ≤ b) (hz : vs.length ≤ 1000)
    (h : ∀ r h', Fr h₀ L h' m → News h₀ L h' news → IsTup h' r (vs.take b.toNat).toArray → Q (.ref r) { s with heap := h' })
    (hs : subscripted slice false (.ref t) (.ref s.heap.objs.size) = operate [.ref s.heap.objs.size, .ref t] (getItem (.ref t) (.ref s.heap.objs.size)) := by with_unfolding_all rfl)
    (hg : ∀ r, letTemporaryGo value (.ref t) r = pure () := by intro _; with_unfolding_all rfl) :
    wpAny (model prog w) A (subscriptTail value slice (.ref t) (.ref s.heap.objs.size)) Q E { s with heap := s.heap.push { cls := .type "slice", data := .fields #[.none, .int b u, .none] } } := by
  obtain ⟨k, rfl⟩ : ∃ k : Nat, b = (k : Int) := ⟨b.toNat, by omega⟩
  rw [Int.toNat_natCast] at h
  have ht' : IsTup (s.heap.push { cls := .type "slice", data := .fields #[.none, .int k u, .none] }) t vs.toArray := ht.keeps fun _ _ e => Heap.get?_push_of_some _ e
  have N' : News h₀ L (s.heap.push { cls := .type "slice", data := .fields #[.none, .int k u, .none] }) news := N.grown fun _ _ e => Heap.get?_push_of_some _ e
  refine subscriptTail_ops (s := { s with heap := s.heap.push { cls := .type "slice", data := .fields #[.none, .int k u, .none] } }) ht'.typeIs PyProof.Rows.slot_tuple_getitem.lookup
    (getItem_tuple_to ht' (Heap.IsSliceOf.new ..) (by rw [List.size_toArray]; exact hz) (fun hb' => ?_) fun hb' => ?_) hs hg
  · refine h t _ (F.push _) N' ?_
    rw [List.size_toArray] at hb'
    rw [List.take_of_length_le hb']
    exact ht'
  · exact h _ _ ((F.push _).push _) (N'.grown fun _ _ e => Heap.get?_push_of_some _ e) ⟨_, Heap.get?_push_size _ rfl, rfl, _, rfl⟩
theorem ints_take {vs : List Value} {ns : List Int} (hi : IntsAre vs ns) : ∀ k : Nat, IntsAre (vs.take k) (ns.take k) := by
  induction hi with
  | nil => intro k; simp; exact .nil
  | cons n t h ih =>
    intro k
    cases k with
    | zero => exact .nil
    | succ k => exact .cons n t (ih k)
theorem sum_tup {t : Addr} {vs : List Value} {ns : List Int} {Q : Value → Shared → Prop} (hh : A.handled = none) (F : Fr h₀ L s.heap m) (N : News h₀ L s.heap news) (ht : IsTup s.heap t vs.toArray) (hi : IntsAre vs ns)
    (h : ∀ h' tk t', Fr h₀ L h' m → News h₀ L h' news → Q (.int ns.sum t') { s with heap := h', toks := tk }) : wpAny (model prog w) A (call (.builtin "sum") [.ref t]) Q E s := by
  have hl : s.heap.IsTuple t vs.toArray := ht
  obtain ⟨xs, hx⟩ := hi.allInts.items
  have hn : numsOf vs.toArray.toList = ns := by rw [show vs.toArray.toList = vs from rfl, hi.numsOf]
  rw [hx] at hl hn
  rw [nums_intItems] at hn
  refine ktm_sumG hh hl fun h' tk t' hk => ?_
  have := h h' tk t' (F.keeps hk) (N.grown hk)
  rw [preSum_eq, List.take_of_length_le (by simp), hn]
  exact this
end
end
theorem fresh15 : True := by
  (try walk1)
  w_top off
  k_with_none
  k_with "conj" => (first | with_reducible assumption | exact (at1 (by with_reducible assumption)) | exact (at1 (at2 (by with_reducible assumption))) | exact (at2 (by with_reducible assumption)) | exact (at1 (at2 (at2 (by with_reducible assumption)))) | exact (at2 (at2 (by with_reducible assumption))) | exact (at1 (at2 (at2 (at2 (by with_reducible assumption))))) | exact (at2 (at2 (at2 (by with_reducible assumption)))) | exact (at1 (at2 (at2 (at2 (at2 (by with_reducible assumption)))))) | exact (at2 (at2 (at2 (at2 (by with_reducible assumption))))) | exact (at1 (at2 (at2 (at2 (at2 (at2 (by with_reducible assumption))))))) | exact (at2 (at2 (at2 (at2 (at2 (by with_reducible assumption)))))) | exact (at1 (at2 (at2 (at2 (at2 (at2 (at2 (by with_reducible assumption)))))))) | exact (at2 (at2 (at2 (at2 (at2 (at2 (by with_reducible assumption))))))) | exact (at1 (at2 (at2 (at2 (at2 (at2 (at2 (at2 (by with_reducible assumption))))))))) | exact (at2 (at2 (at2 (at2 (at2 (at2 (at2 (by with_reducible assumption)))))))) | exact (at1 (at2 (at2 (at2 (at2 (at2 (at2 (at2 (at2 (by with_reducible assumption)))))))))) | exact (at2 (at2 (at2 (at2 (at2 (at2 (at2 (at2 (by with_reducible assumption))))))))) | exact (at1 (at2 (at2 (at2 (at2 (at2 (at2 (at2 (at2 (at2 (by with_reducible assumption))))))))))) | exact (at2 (at2 (at2 (at2 (at2 (at2 (at2 (at2 (at2 (by with_reducible assumption)))))))))) | exact (at1 (at1 (by with_reducible assumption))) | exact (at1 (at2 (at1 (by with_reducible assumption)))) | exact (at2 (at2 (at1 (by with_reducible assumption)))) | exact (at1 (at1 (at2 (by with_reducible assumption)))) | exact (at1 (at2 (at1 (at2 (by with_reducible assumption))))) | exact (at2 (at2 (at1 (at2 (by with_reducible assumption))))) | exact (at1 (at1 (at2 (at2 (by with_reducible assumption))))) | exact (at1 (at2 (at1 (at2 (at2 (by with_reducible assumption)))))) | exact (at2 (at2 (at1 (at2 (at2 (by with_reducible assumption)))))) | exact (at1 (at1 (at2 (at2 (at2 (by with_reducible assumption)))))) | exact (at1 (at2 (at1 (at2 (at2 (at2 (by with_reducible assumption))))))) | exact (at2 (at2 (at1 (at2 (at2 (at2 (by with_reducible assumption))))))) | exact (at1 (at1 (at2 (at2 (at2 (at2 (by with_reducible assumption))))))) | exact (at1 (at2 (at1 (at2 (at2 (at2 (at2 (by with_reducible assumption)))))))) | exact (at2 (at2 (at1 (at2 (at2 (at2 (at2 (by with_reducible assumption)))))))) | exact (at1 (at1 (at2 (at2 (at2 (at2 (at2 (by with_reducible assumption)))))))) | exact (at1 (at2 (at1 (at2 (at2 (at2 (at2 (at2 (by with_reducible assumption))))))))) | exact (at2 (at2 (at1 (at2 (at2 (at2 (at2 (at2 (by with_reducible assumption))))))))) | exact (at1 (at1 (at2 (at2 (at2 (at2 (at2 (at2 (by with_reducible assumption))))))))) | exact (at1 (at2 (at1 (at2 (at2 (at2 (at2 (at2 (at2 (by with_reducible assumption)))))))))) | exact (at2 (at2 (at1 (at2 (at2 (at2 (at2 (at2 (at2 (by with_reducible assumption)))))))))) | fail)
  k_with "noNe" => ((repeat (rename (@Ne Nat _ _) => hx9; clear hx9)); (repeat (rename (@Ne Nat _ _ ∧ _) => hx9; clear hx9)); (repeat (rename ((@Ne Nat _ _ ∧ _) ∧ _) => hx9; clear hx9)))
  trivial
section
noncomputable def LeadAt (w : World) (h : Heap) (x1 : Addr) (cs : List Int) (nt b : Int) : Prop :=
  ∃ (dx tp ct : Addr) (vs : List Value) (X : Str) (n : Int) (sm : Bool) (T : LeadTok), (∀ p ∈ leadObjs w x1 dx tp ct vs X n nt b sm T, h.get? p.1 = some p.2) ∧ IntsAre vs cs
theorem lead_stays {w : World} {h g : Heap} {x1 : Addr} {cs : List Int} {nt b : Int} (S : Stays [] h g) (H : LeadAt w h x1 cs nt b) : LeadAt w g x1 cs nt b := by
  obtain ⟨dx, tp, ct, vs, X, n, sm, T, h1, h2⟩ := H
  exact ⟨dx, tp, ct, vs, X, n, sm, T, fun p hp => S _ _ (h1 p hp) List.not_mem_nil, h2⟩
theorem lead_news {w : World} {h₀ h : Heap} {L x1 dx tp ct : Addr} {vs : List Value} {X : Str} {n nt b : Int} {sm : Bool} {T : LeadTok} {cs : List Int} {news : List (Addr × Obj)} (N : News h₀ L h news) (hs : ∀ p ∈ leadObjs w x1 dx tp ct vs X n nt b sm T, p ∈ news) (hi : IntsAre vs cs) : LeadAt w h x1 cs nt b :=
  ⟨dx, tp, ct, vs, X, n, sm, T, fun p hp => (N p (hs p hp)).1, hi⟩
theorem inst_base {g h : Heap} {L x dx : Addr} {m : Str → Option Value} {C : Addr} {es : List DictEntry} {n : Nat} (F : Fr g L h m) (hx : g.get? x = some (instObj C dx)) (hd : g.get? dx = some (dictOf es n)) : InstAt h x (instObj C dx) C (some (dictOf es n)) :=
  ⟨F.keep _ _ hx, rfl, rfl, F.keep _ _ hd⟩
theorem tup_base {g : Heap} {t : Addr} {its : Array Value} (h : g.get? t = some { cls := .type "tuple", data := .seq its }) : IsTup g t its := ⟨_, h, rfl, _, rfl⟩
theorem len_tupK {prog : Program} {w : World} {A : Around} {E : Value → Shared → Prop} {s : Shared} {g : Heap} {L t : Addr} {m : Str → Option Value} {vs : List Value} {ns : List Int} {Q : Value → Shared → Prop} (F : Fr g L s.heap m) (ht : IsTup g t vs.toArray) (hi : IntsAre vs ns) (hz : ns.length ≤ 1000)
    (h : ∀ t', Q (.int (ns.length : Int) t') { s with toks := s.toks + 1 + 1 }) : wpAny (model prog w) A (call (.builtin "len") [.ref t]) Q E s := by
  have e : vs.toArray.size = ns.length := by rw [List.size_toArray]; exact hi.length
  exact PyProof.Rows.len_tuple (ht.keeps F.keep) (by rw [e]; omega) (by rw [e]; exact h _)
theorem lines_Ind1 : True := by
  k_with "getAttr ref" => (k_here; k_dflt (refine' get_own ?k1 ?k2 ?k3 ?k4 ?k5 ?k6 ?k7 ?k8 ?k9 ?_; (case k1 => k_asm); (case k2 => k_asm); (case k3 => exact inst_base (by k_asm) (by assumption) (by assumption)); (case k4 => k_is); (case k5 => k_is); (case k6 => k_is); (case k7 => k_is); (case k8 => k_get); (case k9 => k_handed); k_whole))
  trivial
/-- what indent_level reckons -/
noncomputable def il (cs : List Int) (tab nt b : Int) : Int := b + tab * (((rangeKs tab ((cs.length : Int) - tab).toNat).map fun i => i.fdiv tab * cs.getD i.toNat 0).sum + nt)
theorem il_turn {cs pre : List Int} {acc tab k : Int} (h : acc = (pre.map fun i => i.fdiv tab * cs.getD i.toNat 0).sum) : acc + k.fdiv tab * cs.getD k.toNat 0 = ((pre ++ [k]).map fun i => i.fdiv tab * cs.getD i.toNat 0).sum := by
  rw [List.map_append, List.sum_append, ← h]
  simp
theorem fdiv_small {k tab x : Int} (h1 : 1 ≤ tab) (h0 : 0 ≤ k) (h2 : k < 1000) : IntMulOk (k.fdiv tab) x := by
  rw [Int.fdiv_eq_ediv_of_nonneg _ (by omega)]
  have h3 := Int.ediv_nonneg h0 (show 0 ≤ tab by omega)
  have h4 := Int.ediv_le_self tab h0
  exact IntMulOk.of_left (intBits_le_64 (by omega) (by omega))
theorem lines_Ind2 : True := by
  k_with "call builtin:len" => (k_here; (with_reducible show wpAny _ _ (call (Value.builtin "len") [Value.ref _]) _ _ _); k_dflt (refine' len_tupK ?k1 ?k2 ?k3 ?k4 ?_; (case k1 => k_asm); (case k2 => assumption); (case k3 => assumption); (case k4 => omega)); intro _)
  k_with "subscriptTail" => (k_here; (with_reducible show wpAny _ _ (subscriptTail _ _ (Value.ref _) (Value.int _ _)) _ _ _); (with_unfolding_all refine' item_anyT ?k1 ?k2 ?k3 ?k4 ?k5 ?_ ?k6; (case k1 => exact IsTup.keeps (by assumption) (Fr.keep (by k_asm))); (case k2 => assumption); (case k3 => omega); (case k4 => omega); (case k5 => omega); (case k6 => with_unfolding_all rfl)); intro _)
  k_with "binaryOp Mult int int" => (k_here; (with_reducible show wpAny _ _ (binaryOp Operator.Mult (Value.int (Int.fdiv _ _) _) (Value.int _ _)) _ _ _); refine PyProof.Rows.mul_int ?_ (fdiv_small (by omega) (by omega) (by omega)))
  trivial
set_option maxRecDepth 100000 in
set_option maxHeartbeats 8000000 in
theorem ind_spec {w : World} {p : Program} {loose : List Str} {mean : ExcName → Option Value} {mg mb : Str → Option Value}
    {dp un : Nat} {gd : Option (List Code)} {cn : Str} {cs : Scope} {a : Addr} {ccd : Value} {cl : List (Str × Addr)} {outer : List Env} {A₀ : Around} {base h₀ : Heap} {L : Addr} {m : Str → Option Value} {s : Shared} {Q E : Value → Shared → Prop} {x1 : Addr} {ks : List Int} {nt b tab : Int} {t : Tok}
    (B : Below A₀ base outer h₀) (F : Fr h₀ L s.heap m) (X : (hd.heap_39 w.params).In h₀) (T : Top p loose mean mg mb h₀) (hk : cs.kind = .function) (hd : dp + 1 < recursionLimit) (hu : un + 8 < cLine)
    {news : List (Addr × Obj)} (N0 : News h₀ L s.heap news) (hl : LeadAt w s.heap x1 ks nt b) (hlen : ks.length ≤ 16) (ht1 : 1 ≤ tab) (ht2 : tab ≤ 16)
    (ret : ∀ (t' : Tok) (h' : Heap) (tk' : Nat), Fr h₀ L h' m → News h₀ L h' news → Q (.int (il ks tab nt b) t') { s with heap := h', toks := tk' }) :
    wpAny (model PP w) (ktrTop dp un gd cn cs L a ccd cl outer) (call (.ref 95) [.ref x1, .int tab t]) Q E s := by
  have N1 : News h₀ L s.heap [] := News.nil
  refine wpAny_call ?_
  k_dflt (refine' enter (binds := [(Str.ofString "self", .ref x1), (Str.ofString "tabsize", .int tab t)]) ?k1 ?k2 ?k3 ?k4 ?k5 ?kA ?kF ?kK ?k6 ?k7 ?k8 ?k9 ?kB ?_ ?c2 ?c3 ?c4 ?c5; (case kA => exact rfl); (case kF => exact rfl); (case kK => assumption); (case k1 => k_asm); (case k2 => k_asm); (case k3 => k_asm); (case k4 => k_asm); (case k5 => k_asm); (case k6 => k_is); (case k7 => k_is); (case k8 => ktr_room); (case k9 => exact BindsTo.of_eq rfl); (case kB => exact locs rfl); (case c5 => decide); (case c2 => exact rfl); (case c3 => exact rfl); (case c4 => exact rfl); k_whole)
  intro g L' h1 FG F' N' B' X' T' S'
  obtain ⟨dx, tp, ct, vs, X9, n9, sm9, T9, hob, hi⟩ := lead_stays S' hl
  have hx := hob _ (.tail _ (.tail _ (.head _)))
  have hdx := hob _ (.tail _ (.tail _ (.tail _ (.head _))))
  have htp := tup_base (hob _ (.head _))
  have hct := tup_base (hob _ (.tail _ (.head _)))
  have hvl := hi.length
  dsimp only at hx hdx htp hct
  (try dsimp only)
  clear hl B F X T N1 FG hob
  k_with "pyIter ref" => k_state (fun pre acc => acc = (pre.map fun i => i.fdiv tab * ks.getD i.toNat 0).sum) "il"
  k_with "state" => first | rfl | exact il_turn (by assumption)
  k_steps
  all_goals (try dsimp only)
  all_goals (refine' leaveK_ ?k1 ?k2 ?_; (case k1 => k_asm); (case k2 => k_asm); intro kF kN)
  all_goals (rename (_ : Int) = List.sum _ => kE)
  all_goals exact ret_int (ret _ _ _ kF ((S'.trans (by assumption)).news N0)) (by rw [kE]; rfl)
end
theorem fresh16 : True := by
  (try walk1)
  w_top off
  k_with_none
  k_with "conj" => (first | with_reducible assumption | exact (at1 (by with_reducible assumption)) | exact (at1 (at2 (by with_reducible assumption))) | exact (at2 (by with_reducible assumption)) | exact (at1 (at2 (at2 (by with_reducible assumption)))) | exact (at2 (at2 (by with_reducible assumption))) | exact (at1 (at2 (at2 (at2 (by with_reducible assumption))))) | exact (at2 (at2 (at2 (by with_reducible assumption)))) | exact (at1 (at2 (at2 (at2 (at2 (by with_reducible assumption)))))) | exact (at2 (at2 (at2 (at2 (by with_reducible assumption))))) | exact (at1 (at2 (at2 (at2 (at2 (at2 (by with_reducible assumption))))))) | exact (at2 (at2 (at2 (at2 (at2 (by with_reducible assumption)))))) | exact (at1 (at2 (at2 (at2 (at2 (at2 (at2 (by with_reducible assumption)))))))) | exact (at2 (at2 (at2 (at2 (at2 (at2 (by with_reducible assumption))))))) | exact (at1 (at2 (at2 (at2 (at2 (at2 (at2 (at2 (by with_reducible assumption))))))))) | exact (at2 (at2 (at2 (at2 (at2 (at2 (at2 (by with_reducible assumption)))))))) | exact (at1 (at2 (at2 (at2 (at2 (at2 (at2 (at2 (at2 (by with_reducible assumption)))))))))) | exact (at2 (at2 (at2 (at2 (at2 (at2 (at2 (at2 (by with_reducible assumption))))))))) | exact (at1 (at2 (at2 (at2 (at2 (at2 (at2 (at2 (at2 (at2 (by with_reducible assumption))))))))))) | exact (at2 (at2 (at2 (at2 (at2 (at2 (at2 (at2 (at2 (by with_reducible assumption)))))))))) | exact (at1 (at1 (by with_reducible assumption))) | exact (at1 (at2 (at1 (by with_reducible assumption)))) | exact (at2 (at2 (at1 (by with_reducible assumption)))) | exact (at1 (at1 (at2 (by with_reducible assumption)))) | exact (at1 (at2 (at1 (at2 (by with_reducible assumption))))) | exact (at2 (at2 (at1 (at2 (by with_reducible assumption))))) | exact (at1 (at1 (at2 (at2 (by with_reducible assumption))))) | exact (at1 (at2 (at1 (at2 (at2 (by with_reducible assumption)))))) | exact (at2 (at2 (at1 (at2 (at2 (by with_reducible assumption)))))) | exact (at1 (at1 (at2 (at2 (at2 (by with_reducible assumption)))))) | exact (at1 (at2 (at1 (at2 (at2 (at2 (by with_reducible assumption))))))) | exact (at2 (at2 (at1 (at2 (at2 (at2 (by with_reducible assumption))))))) | exact (at1 (at1 (at2 (at2 (at2 (at2 (by with_reducible assumption))))))) | exact (at1 (at2 (at1 (at2 (at2 (at2 (at2 (by with_reducible assumption)))))))) | exact (at2 (at2 (at1 (at2 (at2 (at2 (at2 (by with_reducible assumption)))))))) | exact (at1 (at1 (at2 (at2 (at2 (at2 (at2 (by with_reducible assumption)))))))) | exact (at1 (at2 (at1 (at2 (at2 (at2 (at2 (at2 (by with_reducible assumption))))))))) | exact (at2 (at2 (at1 (at2 (at2 (at2 (at2 (at2 (by with_reducible assumption))))))))) | exact (at1 (at1 (at2 (at2 (at2 (at2 (at2 (at2 (by with_reducible assumption))))))))) | exact (at1 (at2 (at1 (at2 (at2 (at2 (at2 (at2 (at2 (by with_reducible assumption)))))))))) | exact (at2 (at2 (at1 (at2 (at2 (at2 (at2 (at2 (at2 (by with_reducible assumption)))))))))) | fail)
  k_with "noNe" => ((repeat (rename (@Ne Nat _ _) => hx9; clear hx9)); (repeat (rename (@Ne Nat _ _ ∧ _) => hx9; clear hx9)); (repeat (rename ((@Ne Nat _ _ ∧ _) ∧ _) => hx9; clear hx9)))
  trivial
section
theorem lines_Fst1 : True := by
  k_with "getAttr ref" => (k_here; k_dflt (refine' get_own ?k1 ?k2 ?k3 ?k4 ?k5 ?k6 ?k7 ?k8 ?k9 ?_; (case k1 => k_asm); (case k2 => k_asm); (case k3 => exact inst_base (by k_asm) (by assumption) (by assumption)); (case k4 => k_is); (case k5 => k_is); (case k6 => k_is); (case k7 => k_is); (case k8 => k_get); (case k9 => k_handed); k_whole))
  k_with "subscriptTail" => (k_here; (with_reducible show wpAny _ _ (subscriptTail _ (Expr.Slice none _ none _) (Value.ref _) (Value.ref _)) _ _ _); (with_reducible rename Fr _ _ _ _ => F'); (with_reducible rename News _ _ _ _ => N'); (refine slice_tup (s := ⟨_, _, _, _, _⟩) F' N' (by exact IsTup.keeps (by assumption) (Fr.keep F')) (by omega) (by omega) ?_); intro r9 h9 F' N' ht9)
  k_with "call builtin:sum" => (k_here; (with_reducible show wpAny _ _ (call (Value.builtin "sum") [Value.ref _]) _ _ _); k_dflt (refine' sum_tup ?h0 ?F ?N ?t ?i ?_; (case h0 => exact rfl); (case F => k_asm); (case N => k_asm); (case t => assumption); (case i => exact ints_take (by assumption) _)); intro h9 tk9 t9 F' N')
  trivial
noncomputable def firstAt (cs : List Int) (N : Nat) (k : Int) : Int := 256 * (cs.take k.toNat).sum - 16 * N * k
set_option maxRecDepth 100000 in
set_option maxHeartbeats 8000000 in
theorem firsts_spec {w : World} {p : Program} {loose : List Str} {mean : ExcName → Option Value} {mg mb : Str → Option Value}
    {dp un : Nat} {gd : Option (List Code)} {cn : Str} {cs : Scope} {a : Addr} {ccd : Value} {cl : List (Str × Addr)} {outer : List Env} {A₀ : Around} {base h₀ : Heap} {L : Addr} {m : Str → Option Value} {s : Shared} {Q E : Value → Shared → Prop} {x1 : Addr} {ks : List Int} {nt b : Int} {N : Nat} {t : Tok}
    (B : Below A₀ base outer h₀) (F : Fr h₀ L s.heap m) (X : (hd.heap_39 w.params).In h₀) (T : Top p loose mean mg mb h₀) (hk : cs.kind = .function) (hd : dp + 1 < recursionLimit) (hu : un + 8 < cLine)
    {news : List (Addr × Obj)} (N0 : News h₀ L s.heap news) (hl : LeadAt w s.heap x1 ks nt b) (hlen : ks.length ≤ 16) (hN : N ≤ 48)
    (ret : ∀ (r : Addr) (vs : List Value) (n : Nat) (h' : Heap) (tk' : Nat), Fr h₀ L h' m → News h₀ L h' ((r, listOf vs.toArray n) :: news) → IntsAre vs ((rangeKs 0 17).map (firstAt ks N)) → Q (.ref r) { s with heap := h', toks := tk' }) :
    wpAny (model PP w) (ktrTop dp un gd cn cs L a ccd cl outer) (call (.ref 166) [.ref x1, .int N t]) Q E s := by
  have N1 : News h₀ L s.heap [] := News.nil
  refine wpAny_call ?_
  k_dflt (refine' enterC (binds := [(Str.ofString "lead", .ref x1), (Str.ofString "total", .int N t)]) ?k1 ?k2 ?k3 ?k4 ?k5 ?kA ?kF ?kK ?k6 ?k7 ?k8 ?k9 ?kB ?kD ?_ ?c2 ?c3 ?c4; (case kA => exact rfl); (case kF => exact rfl); (case kK => assumption); (case k1 => k_asm); (case k2 => k_asm); (case k3 => k_asm); (case k4 => k_asm); (case k5 => k_asm); (case k6 => k_is); (case k7 => k_is); (case k8 => (show dp < recursionLimit; omega)); (case k9 => exact BindsTo.of_eq rfl); (case kB => exact rfl); (case kD => decide +kernel); (case c2 => exact rfl); (case c3 => exact rfl); (case c4 => exact rfl); k_whole); intro g L' h1 tk1 cells1 FG F' N' Y' B' X' T' S' l1; (try k_lt l1); k_cells Y'; (try simp only [List.cons_append, List.nil_append] at N')
  obtain ⟨dx, tp, ct, vs, X9, n9, sm9, T9, hob, hi⟩ := lead_stays S' hl
  have hx := hob _ (.tail _ (.tail _ (.head _)))
  have hdx := hob _ (.tail _ (.tail _ (.tail _ (.head _))))
  have htp := tup_base (hob _ (.head _))
  have hct := tup_base (hob _ (.tail _ (.head _)))
  have hvl := hi.length
  dsimp only at hx hdx htp hct
  (try dsimp only)
  clear hl B F X T N1 FG hob
  k_steps
  all_goals (refine' leaveK_ ?k1 ?k2 ?_; (case k1 => k_asm); (case k2 => k_asm); intro kF kN)
  all_goals exact ret _ _ _ _ _ kF (news_cons kN (.head _) ((S'.trans (by assumption)).news N0)) (by assumption)
end
theorem fresh17 : True := by
  (try walk1)
  w_top off
  k_with_none
  k_with "conj" => (first | with_reducible assumption | exact (at1 (by with_reducible assumption)) | exact (at1 (at2 (by with_reducible assumption))) | exact (at2 (by with_reducible assumption)) | exact (at1 (at2 (at2 (by with_reducible assumption)))) | exact (at2 (at2 (by with_reducible assumption))) | exact (at1 (at2 (at2 (at2 (by with_reducible assumption))))) | exact (at2 (at2 (at2 (by with_reducible assumption)))) | exact (at1 (at2 (at2 (at2 (at2 (by with_reducible assumption)))))) | exact (at2 (at2 (at2 (at2 (by with_reducible assumption))))) | exact (at1 (at2 (at2 (at2 (at2 (at2 (by with_reducible assumption))))))) | exact (at2 (at2 (at2 (at2 (at2 (by with_reducible assumption)))))) | exact (at1 (at2 (at2 (at2 (at2 (at2 (at2 (by with_reducible assumption)))))))) | exact (at2 (at2 (at2 (at2 (at2 (at2 (by with_reducible assumption))))))) | exact (at1 (at2 (at2 (at2 (at2 (at2 (at2 (at2 (by with_reducible assumption))))))))) | exact (at2 (at2 (at2 (at2 (at2 (at2 (at2 (by with_reducible assumption)))))))) | exact (at1 (at2 (at2 (at2 (at2 (at2 (at2 (at2 (at2 (by with_reducible assumption)))))))))) | exact (at2 (at2 (at2 (at2 (at2 (at2 (at2 (at2 (by with_reducible assumption))))))))) | exact (at1 (at2 (at2 (at2 (at2 (at2 (at2 (at2 (at2 (at2 (by with_reducible assumption))))))))))) | exact (at2 (at2 (at2 (at2 (at2 (at2 (at2 (at2 (at2 (by with_reducible assumption)))))))))) | exact (at1 (at1 (by with_reducible assumption))) | exact (at1 (at2 (at1 (by with_reducible assumption)))) | exact (at2 (at2 (at1 (by with_reducible assumption)))) | exact (at1 (at1 (at2 (by with_reducible assumption)))) | exact (at1 (at2 (at1 (at2 (by with_reducible assumption))))) | exact (at2 (at2 (at1 (at2 (by with_reducible assumption))))) | exact (at1 (at1 (at2 (at2 (by with_reducible assumption))))) | exact (at1 (at2 (at1 (at2 (at2 (by with_reducible assumption)))))) | exact (at2 (at2 (at1 (at2 (at2 (by with_reducible assumption)))))) | exact (at1 (at1 (at2 (at2 (at2 (by with_reducible assumption)))))) | exact (at1 (at2 (at1 (at2 (at2 (at2 (by with_reducible assumption))))))) | exact (at2 (at2 (at1 (at2 (at2 (at2 (by with_reducible assumption))))))) | exact (at1 (at1 (at2 (at2 (at2 (at2 (by with_reducible assumption))))))) | exact (at1 (at2 (at1 (at2 (at2 (at2 (at2 (by with_reducible assumption)))))))) | exact (at2 (at2 (at1 (at2 (at2 (at2 (at2 (by with_reducible assumption)))))))) | exact (at1 (at1 (at2 (at2 (at2 (at2 (at2 (by with_reducible assumption)))))))) | exact (at1 (at2 (at1 (at2 (at2 (at2 (at2 (at2 (by with_reducible assumption))))))))) | exact (at2 (at2 (at1 (at2 (at2 (at2 (at2 (at2 (by with_reducible assumption))))))))) | exact (at1 (at1 (at2 (at2 (at2 (at2 (at2 (at2 (by with_reducible assumption))))))))) | exact (at1 (at2 (at1 (at2 (at2 (at2 (at2 (at2 (at2 (by with_reducible assumption)))))))))) | exact (at2 (at2 (at1 (at2 (at2 (at2 (at2 (at2 (at2 (by with_reducible assumption)))))))))) | fail)
  k_with "noNe" => ((repeat (rename (@Ne Nat _ _) => hx9; clear hx9)); (repeat (rename (@Ne Nat _ _ ∧ _) => hx9; clear hx9)); (repeat (rename ((@Ne Nat _ _ ∧ _) ∧ _) => hx9; clear hx9)))
  trivial
section
theorem lines_Sec1 : True := by
  k_with "getAttr ref" => (k_here; k_dflt (refine' get_own ?k1 ?k2 ?k3 ?k4 ?k5 ?k6 ?k7 ?k8 ?k9 ?_; (case k1 => k_asm); (case k2 => k_asm); (case k3 => exact inst_base (by k_asm) (by assumption) (by assumption)); (case k4 => k_is); (case k5 => k_is); (case k6 => k_is); (case k7 => k_is); (case k8 => k_get); (case k9 => k_handed); k_whole))
  k_with "subscriptTail" => (k_here; (with_reducible show wpAny _ _ (subscriptTail _ (Expr.Slice none _ none _) (Value.ref _) (Value.ref _)) _ _ _); (with_reducible rename Fr _ _ _ _ => F'); (with_reducible rename News _ _ _ _ => N'); (refine slice_tup (s := ⟨_, _, _, _, _⟩) F' N' (by exact IsTup.keeps (by assumption) (Fr.keep F')) (by omega) (by omega) ?_); intro r9 h9 F' N' ht9)
  k_with "call builtin:sum" => (k_here; (with_reducible show wpAny _ _ (call (Value.builtin "sum") [Value.ref _]) _ _ _); k_dflt (refine' sum_tup ?h0 ?F ?N ?t ?i ?_; (case h0 => exact rfl); (case F => k_asm); (case N => k_asm); (case t => assumption); (case i => exact ints_take (by assumption) _)); intro h9 tk9 t9 F' N')
  trivial
noncomputable def secondAt (cs : List Int) (N : Nat) (nt b k : Int) : Int := 256 * (cs.take k.toNat).sum - N * k + (if b < k then 16 * (N - 16 * nt) else 0)
theorem sec_turn {cs pre told : List Int} {N : Nat} {nt b k x : Int} (h : told.length = pre.length ∧ told = pre.map (secondAt cs N nt b)) (hx : x = secondAt cs N nt b k) : (told ++ [x]).length = (pre ++ [k]).length ∧ told ++ [x] = (pre ++ [k]).map (secondAt cs N nt b) := by
  refine ⟨by simp [h.1], ?_⟩
  rw [List.map_append, ← h.2, hx]
  rfl
theorem sec_yes {cs : List Int} {N : Nat} {nt b k : Int} (h : b < k) : 256 * (cs.take k.toNat).sum - N * k + 16 * (N - 16 * nt) = secondAt cs N nt b k := by
  unfold secondAt
  rw [if_pos h]
theorem sec_no {cs : List Int} {N : Nat} {nt b k : Int} (h : ¬ b < k) : 256 * (cs.take k.toNat).sum - N * k + 0 = secondAt cs N nt b k := by
  unfold secondAt
  rw [if_neg h]
set_option maxRecDepth 100000 in
set_option maxHeartbeats 8000000 in
theorem seconds_spec {w : World} {p : Program} {loose : List Str} {mean : ExcName → Option Value} {mg mb : Str → Option Value}
    {dp un : Nat} {gd : Option (List Code)} {cn : Str} {cs : Scope} {a : Addr} {ccd : Value} {cl : List (Str × Addr)} {outer : List Env} {A₀ : Around} {base h₀ : Heap} {L : Addr} {m : Str → Option Value} {s : Shared} {Q E : Value → Shared → Prop} {x1 : Addr} {ks : List Int} {nt b : Int} {N : Nat} {t : Tok}
    (B : Below A₀ base outer h₀) (F : Fr h₀ L s.heap m) (X : (hd.heap_39 w.params).In h₀) (T : Top p loose mean mg mb h₀) (hk : cs.kind = .function) (hd : dp + 1 < recursionLimit) (hu : un + 8 < cLine)
    {news : List (Addr × Obj)} (N0 : News h₀ L s.heap news) (hl : LeadAt w s.heap x1 ks nt b) (hlen : ks.length ≤ 16) (hN : N ≤ 48) (hnt : 0 ≤ nt ∧ nt ≤ 48)
    (ret : ∀ (r : Addr) (vs : List Value) (n : Nat) (h' : Heap) (tk' : Nat), Fr h₀ L h' m → News h₀ L h' ((r, listOf vs.toArray n) :: news) → IntsAre vs ((rangeKs 0 17).map (secondAt ks N nt b)) → Q (.ref r) { s with heap := h', toks := tk' }) :
    wpAny (model PP w) (ktrTop dp un gd cn cs L a ccd cl outer) (call (.ref 173) [.ref x1, .int N t]) Q E s := by
  have N1 : News h₀ L s.heap [] := News.nil
  refine wpAny_call ?_
  k_dflt (refine' enter (binds := [(Str.ofString "lead", .ref x1), (Str.ofString "total", .int N t)]) ?k1 ?k2 ?k3 ?k4 ?k5 ?kA ?kF ?kK ?k6 ?k7 ?k8 ?k9 ?kB ?_ ?c2 ?c3 ?c4 ?c5; (case kA => exact rfl); (case kF => exact rfl); (case kK => assumption); (case k1 => k_asm); (case k2 => k_asm); (case k3 => k_asm); (case k4 => k_asm); (case k5 => k_asm); (case k6 => k_is); (case k7 => k_is); (case k8 => ktr_room); (case k9 => exact BindsTo.of_eq rfl); (case kB => exact locs rfl); (case c5 => decide); (case c2 => exact rfl); (case c3 => exact rfl); (case c4 => exact rfl); k_whole)
  intro g L' h1 FG F' N' B' X' T' S'
  obtain ⟨dx, tp, ct, vs, X9, n9, sm9, T9, hob, hi⟩ := lead_stays S' hl
  have hx := hob _ (.tail _ (.tail _ (.head _)))
  have hdx := hob _ (.tail _ (.tail _ (.tail _ (.head _))))
  have htp := tup_base (hob _ (.head _))
  have hct := tup_base (hob _ (.tail _ (.head _)))
  have hvl := hi.length
  dsimp only at hx hdx htp hct
  (try dsimp only)
  clear hl B F X T N1 FG hob
  k_with "pyIter ref" => k_state (fun pre told => told.length = pre.length ∧ told = pre.map (secondAt ks N nt b)) "told"
  k_with "state" => first | exact ⟨rfl, rfl⟩ | exact sec_turn (by refine ⟨?_, ?_⟩ <;> assumption) (sec_yes (by omega)) | exact sec_turn (by refine ⟨?_, ?_⟩ <;> assumption) (sec_no (by omega))
  k_steps
  all_goals (try dsimp only)
  all_goals (refine' leaveK_ ?k1 ?k2 ?_; (case k1 => k_asm); (case k2 => k_asm); intro kF kN)
  all_goals (rename (_ : List Int) = List.map _ _ => kE)
  all_goals exact ret _ _ _ _ _ kF (news_cons kN (.head _) ((S'.trans (by assumption)).news N0)) (ints_as (by assumption) kE)
end
theorem fresh18 : True := by
  (try walk1)
  w_top off
  k_with_none
  k_with "conj" => (first | with_reducible assumption | exact (at1 (by with_reducible assumption)) | exact (at1 (at2 (by with_reducible assumption))) | exact (at2 (by with_reducible assumption)) | exact (at1 (at2 (at2 (by with_reducible assumption)))) | exact (at2 (at2 (by with_reducible assumption))) | exact (at1 (at2 (at2 (at2 (by with_reducible assumption))))) | exact (at2 (at2 (at2 (by with_reducible assumption)))) | exact (at1 (at2 (at2 (at2 (at2 (by with_reducible assumption)))))) | exact (at2 (at2 (at2 (at2 (by with_reducible assumption))))) | exact (at1 (at2 (at2 (at2 (at2 (at2 (by with_reducible assumption))))))) | exact (at2 (at2 (at2 (at2 (at2 (by with_reducible assumption)))))) | exact (at1 (at2 (at2 (at2 (at2 (at2 (at2 (by with_reducible assumption)))))))) | exact (at2 (at2 (at2 (at2 (at2 (at2 (by with_reducible assumption))))))) | exact (at1 (at2 (at2 (at2 (at2 (at2 (at2 (at2 (by with_reducible assumption))))))))) | exact (at2 (at2 (at2 (at2 (at2 (at2 (at2 (by with_reducible assumption)))))))) | exact (at1 (at2 (at2 (at2 (at2 (at2 (at2 (at2 (at2 (by with_reducible assumption)))))))))) | exact (at2 (at2 (at2 (at2 (at2 (at2 (at2 (at2 (by with_reducible assumption))))))))) | exact (at1 (at2 (at2 (at2 (at2 (at2 (at2 (at2 (at2 (at2 (by with_reducible assumption))))))))))) | exact (at2 (at2 (at2 (at2 (at2 (at2 (at2 (at2 (at2 (by with_reducible assumption)))))))))) | exact (at1 (at1 (by with_reducible assumption))) | exact (at1 (at2 (at1 (by with_reducible assumption)))) | exact (at2 (at2 (at1 (by with_reducible assumption)))) | exact (at1 (at1 (at2 (by with_reducible assumption)))) | exact (at1 (at2 (at1 (at2 (by with_reducible assumption))))) | exact (at2 (at2 (at1 (at2 (by with_reducible assumption))))) | exact (at1 (at1 (at2 (at2 (by with_reducible assumption))))) | exact (at1 (at2 (at1 (at2 (at2 (by with_reducible assumption)))))) | exact (at2 (at2 (at1 (at2 (at2 (by with_reducible assumption)))))) | exact (at1 (at1 (at2 (at2 (at2 (by with_reducible assumption)))))) | exact (at1 (at2 (at1 (at2 (at2 (at2 (by with_reducible assumption))))))) | exact (at2 (at2 (at1 (at2 (at2 (at2 (by with_reducible assumption))))))) | exact (at1 (at1 (at2 (at2 (at2 (at2 (by with_reducible assumption))))))) | exact (at1 (at2 (at1 (at2 (at2 (at2 (at2 (by with_reducible assumption)))))))) | exact (at2 (at2 (at1 (at2 (at2 (at2 (at2 (by with_reducible assumption)))))))) | exact (at1 (at1 (at2 (at2 (at2 (at2 (at2 (by with_reducible assumption)))))))) | exact (at1 (at2 (at1 (at2 (at2 (at2 (at2 (at2 (by with_reducible assumption))))))))) | exact (at2 (at2 (at1 (at2 (at2 (at2 (at2 (at2 (by with_reducible assumption))))))))) | exact (at1 (at1 (at2 (at2 (at2 (at2 (at2 (at2 (by with_reducible assumption))))))))) | exact (at1 (at2 (at1 (at2 (at2 (at2 (at2 (at2 (at2 (by with_reducible assumption)))))))))) | exact (at2 (at2 (at1 (at2 (at2 (at2 (at2 (at2 (at2 (by with_reducible assumption)))))))))) | fail)
  k_with "noNe" => ((repeat (rename (@Ne Nat _ _) => hx9; clear hx9)); (repeat (rename (@Ne Nat _ _ ∧ _) => hx9; clear hx9)); (repeat (rename ((@Ne Nat _ _ ∧ _) ∧ _) => hx9; clear hx9)))
  trivial
section
-- plain law: counting
noncomputable def wsum (f : Nat → Int) : Nat → List Int → Int
  | _, [] => 0
  | j, c :: r => f j * c + wsum f (j + 1) r
theorem wsum_set (f : Nat → Int) : ∀ (cs : List Int) (j0 j : Nat), j < cs.length → wsum f j0 (cs.set j (cs.getD j 0 + 1)) = wsum f j0 cs + f (j0 + j)
  | [], _, _, h => absurd h (Nat.not_lt_zero _)
  | c :: r, j0, 0, _ => by
    simp only [List.set_cons_zero, List.getD_cons_zero, wsum, Nat.add_zero]
    rw [Int.mul_add, Int.mul_one]
    omega
  | c :: r, j0, j + 1, h => by
    have ih := wsum_set f r (j0 + 1) j (Nat.lt_of_succ_lt_succ h)
    simp only [List.set_cons_succ, List.getD_cons_succ, wsum, ih]
    rw [show j0 + 1 + j = j0 + (j + 1) by omega]
    omega
theorem wsum_zeros (f : Nat → Int) : ∀ (n j0 : Nat), wsum f j0 (List.replicate n 0) = 0
  | 0, _ => rfl
  | n + 1, j0 => by
    rw [List.replicate_succ, wsum, wsum_zeros f n]
    simp
theorem wsum_pad (f : Nat → Int) : ∀ (cs : List Int) (j0 n : Nat), wsum f j0 (cs ++ List.replicate n 0) = wsum f j0 cs
  | [], j0, n => by rw [List.nil_append, wsum_zeros]; rfl
  | c :: r, j0, n => by rw [List.cons_append, wsum, wsum, wsum_pad f r]
theorem wsum_bump (f : Nat → Int) (cs : List Int) {v : Int} (h : 0 ≤ v) : wsum f 0 (bump cs v) = wsum f 0 cs + f v.toNat := by
  unfold bump
  dsimp only
  have e : (0 : Nat) + v.toNat = v.toNat := Nat.zero_add _
  split
  · rw [wsum_set f _ 0 v.toNat (by rw [List.length_append, List.length_replicate]; omega), wsum_pad, e]
  · rw [wsum_set f _ 0 v.toNat (by omega), e]
theorem wsum_fold (f : Nat → Int) : ∀ (bs : List Int), LetB bs → ∀ cs : List Int, wsum f 0 (bs.foldl bump cs) = wsum f 0 cs + (bs.map fun v => f v.toNat).sum
  | [], _, cs => by simp
  | v :: bs, hb, cs => by
    rw [List.foldl_cons, wsum_fold f bs (fun x hx => hb x (.tail _ hx)), wsum_bump f cs (hb v (.head _)).1, List.map_cons, List.sum_cons]
    omega
theorem wsum_take (K : Nat) : ∀ (cs : List Int) (j0 : Nat), (cs.take (K - j0)).sum = wsum (fun i => if i < K then 1 else 0) j0 cs
  | [], j0 => by simp [wsum]
  | c :: r, j0 => by
    have ih := wsum_take K r (j0 + 1)
    by_cases h : j0 < K
    · rw [show K - j0 = (K - (j0 + 1)) + 1 by omega, List.take_succ_cons, List.sum_cons, ih, wsum, if_pos h, Int.one_mul]
    · rw [show K - (j0 + 1) = 0 by omega] at ih
      rw [show K - j0 = 0 by omega, wsum, if_neg h, ← ih]
      simp
theorem wsum_range (f : Nat → Int) : ∀ (cs : List Int) (j0 : Nat), wsum f j0 cs = ((List.range cs.length).map fun i => f (j0 + i) * cs.getD i 0).sum
  | [], _ => rfl
  | c :: r, j0 => by
    rw [wsum, wsum_range f r (j0 + 1), List.length_cons, List.range_succ_eq_map, List.map_cons, List.sum_cons, List.map_map]
    rw [List.getD_cons_zero, Nat.add_zero]
    congr 2
    refine List.map_congr_left fun i _ => ?_
    simp only [Function.comp, List.getD_cons_succ, Nat.succ_eq_add_one]
    rw [show j0 + 1 + i = j0 + (i + 1) by omega]
theorem sum_map_zero {α : Type} (g : α → Int) : ∀ (l : List α), (∀ x ∈ l, g x = 0) → (l.map g).sum = 0
  | [], _ => rfl
  | x :: l, h => by
    rw [List.map_cons, List.sum_cons, h x (.head _), sum_map_zero g l fun y hy => h y (.tail _ hy)]
    rfl
theorem sum_ite {α : Type} (p : α → Bool) : ∀ (l : List α), (l.map fun x => if p x = true then (1 : Int) else 0).sum = (l.countP p : Nat)
  | [] => rfl
  | x :: l => by
    rw [List.map_cons, List.sum_cons, sum_ite p l, List.countP_cons]
    cases p x <;> simp <;> omega
/-- the first counts: how many numbers' letters lie below k -/
theorem take_count (bs : List Int) (hb : LetB bs) (k : Nat) : ((bs.foldl bump []).take k).sum = ((bs.countP fun v => decide (v < (k : Int)) : Nat) : Int) := by
  have h := wsum_take k (bs.foldl bump []) 0
  rw [Nat.sub_zero] at h
  rw [h, wsum_fold _ bs hb, ← sum_ite]
  simp only [wsum, Int.zero_add]
  congr 1
  refine List.map_congr_left fun v hv => ?_
  have := (hb v hv).1
  simp only [decide_eq_true_eq]
  by_cases h2 : v < (k : Int)
  · rw [if_pos h2, if_pos (by omega)]
  · rw [if_neg h2, if_neg (by omega)]
theorem toNat_len {n tab : Nat} : (((n : Nat) : Int) - (tab : Int)).toNat = n - tab := by omega
theorem il_sum (cs : List Int) (tab : Nat) (ht : 1 ≤ tab) : ((rangeKs (tab : Int) ((cs.length : Int) - (tab : Int)).toNat).map fun i => i.fdiv (tab : Int) * cs.getD i.toNat 0).sum = wsum (fun i => ((i / tab : Nat) : Int)) 0 cs := by
  rw [wsum_range, toNat_len]
  simp only [Nat.zero_add]
  unfold rangeKs
  rw [List.map_map]
  have key : ∀ i : Nat, (((fun i : Int => i.fdiv (tab : Int) * cs.getD i.toNat 0) ∘ fun (i : Nat) => (tab : Int) + (i : Int)) i) = (((tab + i) / tab : Nat) : Int) * cs.getD (tab + i) 0 := fun i => by
    simp only [Function.comp]
    rw [Int.fdiv_eq_ediv_of_nonneg _ (by omega)]
    rw [show ((tab : Int) + (i : Int)).toNat = tab + i by omega, show (tab : Int) + (i : Int) = ((tab + i : Nat) : Int) by omega, Int.natCast_ediv]
  rw [List.map_congr_left (fun i _ => key i)]
  by_cases h : tab ≤ cs.length
  · rw [show List.range cs.length = List.range (tab + (cs.length - tab)) by rw [Nat.add_sub_cancel' h], List.range_add, List.map_append, List.sum_append, List.map_map, sum_map_zero _ (List.range tab), Int.zero_add]
    · rfl
    · intro x hx
      rw [List.mem_range] at hx
      rw [Nat.div_eq_of_lt hx]
      simp
  · rw [show cs.length - tab = 0 by omega, sum_map_zero _ (List.range cs.length)]
    · rfl
    · intro x hx
      rw [List.mem_range] at hx
      rw [Nat.div_eq_of_lt (by omega)]
      simp
theorem steps_count (tab v : Int) (h1 : 1 ≤ tab) (h2 : tab ≤ 16) (h3 : 0 ≤ v) (h4 : v < 16) : ((steps tab).map fun k => if v < k then (0 : Int) else 1).sum = ((v.toNat / tab.toNat : Nat) : Int) := by
  have all : ∀ k : Fin 16, ∀ u : Fin 16, ((steps ((k.val : Int) + 1)).map fun k => if (u.val : Int) < k then (0 : Int) else 1).sum = ((u.val / (k.val + 1) : Nat) : Int) := by decide +kernel
  have h := all ⟨tab.toNat - 1, by omega⟩ ⟨v.toNat, by omega⟩
  rw [show ((((⟨tab.toNat - 1, by omega⟩ : Fin 16).val : Nat) : Int) + 1) = tab from by show ((tab.toNat - 1 : Nat) : Int) + 1 = tab; omega,
    show ((((⟨v.toNat, by omega⟩ : Fin 16).val : Nat) : Int)) = v from by show ((v.toNat : Nat) : Int) = v; omega,
    show ((⟨tab.toNat - 1, by omega⟩ : Fin 16).val + 1) = tab.toNat from by show tab.toNat - 1 + 1 = tab.toNat; omega] at h
  exact h
theorem sum_add {α : Type} (f g : α → Int) : ∀ l : List α, (l.map fun x => f x + g x).sum = (l.map f).sum + (l.map g).sum
  | [] => rfl
  | x :: l => by
    simp only [List.map_cons, List.sum_cons, sum_add f g l]
    omega
theorem cols_count (tab : Int) (h1 : 1 ≤ tab) (h2 : tab ≤ 16) : ∀ (bs : List Int), LetB bs → ((steps tab).map fun k => (bs.length : Int) - ((bs.countP fun v => decide (v < k) : Nat) : Int)).sum = (bs.map fun v => ((v.toNat / tab.toNat : Nat) : Int)).sum
  | [], _ => sum_map_zero _ _ fun x _ => by simp
  | v :: bs, hb => by
    have ih := cols_count tab h1 h2 bs fun x hx => hb x (.tail _ hx)
    rw [List.map_cons, List.sum_cons, ← ih, ← steps_count tab v h1 h2 (hb v (.head _)).1 (hb v (.head _)).2, ← sum_add]
    congr 1
    refine List.map_congr_left fun k _ => ?_
    rw [List.length_cons, List.countP_cons]
    by_cases h : v < k
    · simp only [h, decide_true, if_true]
      omega
    · simp only [h, decide_false, if_false, Bool.false_eq_true]
      omega
theorem il_cols {bs : List Int} {N : Nat} {ps : List Int} {tab : Int} (hb : LetB bs) (hN : bs.length = N) (hp : ∀ k : Int, 1 ≤ k → k ≤ 15 → ps.getD k.toNat 0 = ((bs.countP fun v => decide (v < k) : Nat) : Int)) (h1 : 1 ≤ tab) (h2 : tab ≤ 16) :
    il (bs.foldl bump []) tab N 0 = col ps N tab := by
  have e : tab = ((tab.toNat : Nat) : Int) := by omega
  unfold il col
  rw [Int.zero_add, Int.add_comm]
  congr 2
  have hs := il_sum (bs.foldl bump []) tab.toNat (by omega)
  rw [← e] at hs
  rw [hs, wsum_fold _ bs hb]
  simp only [wsum, Int.zero_add]
  rw [← cols_count tab h1 h2 bs hb, hN]
  congr 1
  refine List.map_congr_left fun k hk => ?_
  obtain ⟨h3, h4⟩ := steps_mem h1 h2 hk
  rw [hp k h3 h4]
end
theorem fresh19 : True := by
  (try walk1)
  w_top off
  k_with_none
  k_with "conj" => (first | with_reducible assumption | exact (at1 (by with_reducible assumption)) | exact (at1 (at2 (by with_reducible assumption))) | exact (at2 (by with_reducible assumption)) | exact (at1 (at2 (at2 (by with_reducible assumption)))) | exact (at2 (at2 (by with_reducible assumption))) | exact (at1 (at2 (at2 (at2 (by with_reducible assumption))))) | exact (at2 (at2 (at2 (by with_reducible assumption)))) | exact (at1 (at2 (at2 (at2 (at2 (by with_reducible assumption)))))) | exact (at2 (at2 (at2 (at2 (by with_reducible assumption))))) | exact (at1 (at2 (at2 (at2 (at2 (at2 (by with_reducible assumption))))))) | exact (at2 (at2 (at2 (at2 (at2 (by with_reducible assumption)))))) | exact (at1 (at2 (at2 (at2 (at2 (at2 (at2 (by with_reducible assumption)))))))) | exact (at2 (at2 (at2 (at2 (at2 (at2 (by with_reducible assumption))))))) | exact (at1 (at2 (at2 (at2 (at2 (at2 (at2 (at2 (by with_reducible assumption))))))))) | exact (at2 (at2 (at2 (at2 (at2 (at2 (at2 (by with_reducible assumption)))))))) | exact (at1 (at2 (at2 (at2 (at2 (at2 (at2 (at2 (at2 (by with_reducible assumption)))))))))) | exact (at2 (at2 (at2 (at2 (at2 (at2 (at2 (at2 (by with_reducible assumption))))))))) | exact (at1 (at2 (at2 (at2 (at2 (at2 (at2 (at2 (at2 (at2 (by with_reducible assumption))))))))))) | exact (at2 (at2 (at2 (at2 (at2 (at2 (at2 (at2 (at2 (by with_reducible assumption)))))))))) | exact (at1 (at1 (by with_reducible assumption))) | exact (at1 (at2 (at1 (by with_reducible assumption)))) | exact (at2 (at2 (at1 (by with_reducible assumption)))) | exact (at1 (at1 (at2 (by with_reducible assumption)))) | exact (at1 (at2 (at1 (at2 (by with_reducible assumption))))) | exact (at2 (at2 (at1 (at2 (by with_reducible assumption))))) | exact (at1 (at1 (at2 (at2 (by with_reducible assumption))))) | exact (at1 (at2 (at1 (at2 (at2 (by with_reducible assumption)))))) | exact (at2 (at2 (at1 (at2 (at2 (by with_reducible assumption)))))) | exact (at1 (at1 (at2 (at2 (at2 (by with_reducible assumption)))))) | exact (at1 (at2 (at1 (at2 (at2 (at2 (by with_reducible assumption))))))) | exact (at2 (at2 (at1 (at2 (at2 (at2 (by with_reducible assumption))))))) | exact (at1 (at1 (at2 (at2 (at2 (at2 (by with_reducible assumption))))))) | exact (at1 (at2 (at1 (at2 (at2 (at2 (at2 (by with_reducible assumption)))))))) | exact (at2 (at2 (at1 (at2 (at2 (at2 (at2 (by with_reducible assumption)))))))) | exact (at1 (at1 (at2 (at2 (at2 (at2 (at2 (by with_reducible assumption)))))))) | exact (at1 (at2 (at1 (at2 (at2 (at2 (at2 (at2 (by with_reducible assumption))))))))) | exact (at2 (at2 (at1 (at2 (at2 (at2 (at2 (at2 (by with_reducible assumption))))))))) | exact (at1 (at1 (at2 (at2 (at2 (at2 (at2 (at2 (by with_reducible assumption))))))))) | exact (at1 (at2 (at1 (at2 (at2 (at2 (at2 (at2 (at2 (by with_reducible assumption)))))))))) | exact (at2 (at2 (at1 (at2 (at2 (at2 (at2 (at2 (at2 (by with_reducible assumption)))))))))) | fail)
  k_with "noNe" => ((repeat (rename (@Ne Nat _ _) => hx9; clear hx9)); (repeat (rename (@Ne Nat _ _ ∧ _) => hx9; clear hx9)); (repeat (rename ((@Ne Nat _ _ ∧ _) ∧ _) => hx9; clear hx9)))
  trivial
section
noncomputable def maskL {α : Type} : List Bool → List α → List α
  | true :: m, x :: l => x :: maskL m l
  | false :: m, _ :: l => maskL m l
  | _, _ => []
theorem mem_mask {α : Type} {x : α} : ∀ {m : List Bool} {l : List α}, x ∈ maskL m l → x ∈ l
  | true :: m, y :: l, h => (List.mem_cons.mp h).elim (fun e => e ▸ .head _) fun e => .tail _ (mem_mask e)
  | false :: m, _ :: l, h => .tail _ (mem_mask (m := m) h)
  | [], [], h => h
  | [], _ :: _, h => absurd h List.not_mem_nil
  | true :: _, [], h => h
  | false :: _, [], h => h
theorem news_mask {h₀ h : Heap} {L : Addr} {news : List (Addr × Obj)} (N : News h₀ L h news) (m : List Bool) : News h₀ L h (maskL m news) := fun p hp => N p (mem_mask hp)
theorem idx_row {k : Int} {n N : Nat} (e : n = N) (h : k < 0 + ((((N : Int) - 0).toNat : Nat) : Int)) : k < (n : Int) := by omega
theorem idx_small {k : Int} {N : Nat} (e : N ≤ 48) (h : k < 0 + ((((N : Int) - 0).toNat : Nat) : Int)) : k < 48 := by omega
theorem le16 {k : Int} (h : k < 1 + (((17 : Int) - 1).toNat : Int)) : k ≤ 16 := by
  have e : (((17 : Int) - 1).toNat : Int) = 16 := rfl
  omega
theorem nt48 {N : Nat} {m : Int} (e : m = ((N / 16 : Nat) : Int)) (h : N ≤ 48) : 0 ≤ m ∧ m ≤ 48 := by omega
theorem one_le {N : Nat} (h : 1 ≤ N) : 0 < ((N : Int) - 0).toNat := by omega
theorem letb1 {ls : List Int} {N : Nat} (h : LBound ls) : LetB (bs1 ls N) := fun v hv => by
  obtain ⟨i, _, rfl⟩ := List.mem_map.mp hv
  exact h _
theorem letb2 {ls : List Int} {N : Nat} (h : LBound ls) : LetB (bs2 ls N) := fun v hv => by
  obtain ⟨i, _, rfl⟩ := List.mem_map.mp hv
  exact h _
theorem len_bs1 (ls : List Int) (N : Nat) : (bs1 ls N).length = N := by simp [bs1]
theorem len_bs2 (ls : List Int) (N : Nat) : (bs2 ls N).length = N / 16 := by simp [bs2]
theorem lead_nums {ls c1 c2 : List Int} {vs1 vs2 : List Value} {m1 m2 : Int} {N : Nat} (hb : LBound ls) (e1 : c1 = bs1 ls N) (e2 : c2 = bs2 ls N) (em1 : m1 = (c1.length : Int)) (em2 : m2 = (c2.length : Int)) (I1 : IntsAre vs1 (c1.foldl bump [])) (I2 : IntsAre vs2 (c2.foldl bump [])) :
    m1 = (N : Int) ∧ m2 = ((N / 16 : Nat) : Int) ∧ (c1.foldl bump []).length ≤ 16 ∧ (c2.foldl bump []).length ≤ 16 ∧ vs1.length ≤ 16 ∧ vs2.length ≤ 16 := by
  subst e1 e2
  have h1 := fold_len16 _ (letb1 (N := N) hb) [] (by decide)
  have h2 := fold_len16 _ (letb2 (N := N) hb) [] (by decide)
  have h3 := I1.length
  have h4 := I2.length
  rw [len_bs1] at em1
  rw [len_bs2] at em2
  exact ⟨em1, em2, h1, h2, by omega, by omega⟩
theorem lead_at {w : World} {h₀ h : Heap} {L x1 dx tp ct : Addr} {vs : List Value} {X : Str} {n nt b : Int} {sm : Bool} {T : LeadTok} {cs : List Int} {news : List (Addr × Obj)} (N : News h₀ L h news) (h1 : (x1, instObj 126 dx) ∈ news)
    (h2 : (dx, dictOf [⟨PyData.keyHash w.params (Str.ofString "raw"), .str (Str.ofString "raw") T.k1, .str X T.tx⟩, ⟨PyData.keyHash w.params (Str.ofString "n"), .str (Str.ofString "n") T.k2, .int n T.tn⟩,
     ⟨PyData.keyHash w.params (Str.ofString "nt"), .str (Str.ofString "nt") T.k3, .int nt T.tnt⟩, ⟨PyData.keyHash w.params (Str.ofString "norm"), .str (Str.ofString "norm") T.k4, .ref tp⟩,
     ⟨PyData.keyHash w.params (Str.ofString "is_simple"), .str (Str.ofString "is_simple") T.k5, .bool sm⟩] 5) ∈ news)
    (h3 : (tp, ({ cls := .type "tuple", data := .seq (List.toArray [Value.ref ct, Value.int b T.tb]) } : Obj)) ∈ news) (h4 : (ct, ({ cls := .type "tuple", data := .seq vs.toArray } : Obj)) ∈ news) (hi : IntsAre vs cs) : LeadAt w h x1 cs nt b :=
  lead_news (tp := tp) (ct := ct) (dx := dx) (X := X) (n := n) (sm := sm) (T := T) N (by
    intro p hp
    simp only [leadObjs, List.mem_cons, List.not_mem_nil, or_false] at hp
    rcases hp with rfl | rfl | rfl | rfl <;> assumption) hi
theorem updF_off {d : Addr} {o : Obj} {l : List (Addr × Obj)} {g : Obj → List (Addr × Obj)} : ∀ (pre : List (Addr × Obj)), (∀ p ∈ pre, p.1 ≠ d) → UpdF d o l g → UpdF d o (pre ++ l) (fun o' => pre ++ g o')
  | [], _, U => U
  | p :: pre, h, U => UpdF.tail (h p (.head _)) (updF_off pre (fun q hq => h q (.tail _ hq)) U)
noncomputable def AllNe (r : Nat) : List (Addr × Obj) → Prop
  | [] => True
  | p :: l => @Ne Nat p.1 r ∧ AllNe r l
theorem allNe_of {r : Addr} : ∀ {l : List (Addr × Obj)}, (∀ q ∈ l, q.1 ≠ r) → AllNe r l
  | [], _ => trivial
  | p :: _, h => ⟨h p (.head _), allNe_of fun q hq => h q (.tail _ hq)⟩
/-- how many are less -/
noncomputable def lessN (rs : List Int) (x : Int) : Int := (rs.countP (fun a => decide (a < x)) : Nat)
theorem bl_sorted {w : World} {p : Program} {loose : List Str} {mean : ExcName → Option Value} {mg mb : Str → Option Value}
    {dp un : Nat} {gd : Option (List Code)} {cn : Str} {cs : Scope} {a : Addr} {ccd : Value} {cl : List (Str × Addr)} {outer : List Env} {A₀ : Around} {base h₀ : Heap} {L : Addr} {m : Str → Option Value} {s : Shared} {Q E : Value → Shared → Prop} {l : Addr} {us : List Value} {ns : List Int} {x : Int} {t : Tok}
    (B : Below A₀ base outer h₀) (F : Fr h₀ L s.heap m) (X : (hd.heap_39 w.params).In h₀) (T : Top p loose mean mg mb h₀) (hk : cs.kind = .function) (hd : dp + 1 < recursionLimit) (hu : un + 8 < cLine)
    {news : List (Addr × Obj)} (N0 : News h₀ L s.heap news) (hl : s.heap.IsList l us.toArray) (hi : IntsAre us ns) (hfit : ns.length < 1000) (hs : ns.Pairwise (· ≤ ·))
    (ret : ∀ (t' : Tok) (h' : Heap) (tk' : Nat), Fr h₀ L h' m → News h₀ L h' news → Q (.int (lessN ns x) t') { s with heap := h', toks := tk' }) :
    wpAny (model PP w) (ktrTop dp un gd cn cs L a ccd cl outer) (call (.ref 57) [.ref l, .int x t]) Q E s := by
  have hq : ∀ a b : Int, a ≤ b → decide (b < x) = true → decide (a < x) = true := by
    intro a b h1 h2
    rw [decide_eq_true_eq] at h2 ⊢
    omega
  have hb := count_sortedI (fun a => decide (a < x)) hs hq
  simp only [decide_eq_true_eq] at hb
  have hc := List.countP_le_length (p := fun a => decide (a < x)) (l := ns)
  exact bl_spec (t0 := t) B F X T hk hd hu (.inl rfl) N0 hl hi hfit (b := ((ns.countP (fun a => decide (a < x)) : Nat) : Int)) (by omega) (by omega) hb ret
end
theorem fresh20 : True := by
  (try walk1)
  w_top off
  k_with_none
  k_with "conj" => (first | with_reducible assumption | exact (at1 (by with_reducible assumption)) | exact (at1 (at2 (by with_reducible assumption))) | exact (at2 (by with_reducible assumption)) | exact (at1 (at2 (at2 (by with_reducible assumption)))) | exact (at2 (at2 (by with_reducible assumption))) | exact (at1 (at2 (at2 (at2 (by with_reducible assumption))))) | exact (at2 (at2 (at2 (by with_reducible assumption)))) | exact (at1 (at2 (at2 (at2 (at2 (by with_reducible assumption)))))) | exact (at2 (at2 (at2 (at2 (by with_reducible assumption))))) | exact (at1 (at2 (at2 (at2 (at2 (at2 (by with_reducible assumption))))))) | exact (at2 (at2 (at2 (at2 (at2 (by with_reducible assumption)))))) | exact (at1 (at2 (at2 (at2 (at2 (at2 (at2 (by with_reducible assumption)))))))) | exact (at2 (at2 (at2 (at2 (at2 (at2 (by with_reducible assumption))))))) | exact (at1 (at2 (at2 (at2 (at2 (at2 (at2 (at2 (by with_reducible assumption))))))))) | exact (at2 (at2 (at2 (at2 (at2 (at2 (at2 (by with_reducible assumption)))))))) | exact (at1 (at2 (at2 (at2 (at2 (at2 (at2 (at2 (at2 (by with_reducible assumption)))))))))) | exact (at2 (at2 (at2 (at2 (at2 (at2 (at2 (at2 (by with_reducible assumption))))))))) | exact (at1 (at2 (at2 (at2 (at2 (at2 (at2 (at2 (at2 (at2 (by with_reducible assumption))))))))))) | exact (at2 (at2 (at2 (at2 (at2 (at2 (at2 (at2 (at2 (by with_reducible assumption)))))))))) | exact (at1 (at1 (by with_reducible assumption))) | exact (at1 (at2 (at1 (by with_reducible assumption)))) | exact (at2 (at2 (at1 (by with_reducible assumption)))) | exact (at1 (at1 (at2 (by with_reducible assumption)))) | exact (at1 (at2 (at1 (at2 (by with_reducible assumption))))) | exact (at2 (at2 (at1 (at2 (by with_reducible assumption))))) | exact (at1 (at1 (at2 (at2 (by with_reducible assumption))))) | exact (at1 (at2 (at1 (at2 (at2 (by with_reducible assumption)))))) | exact (at2 (at2 (at1 (at2 (at2 (by with_reducible assumption)))))) | exact (at1 (at1 (at2 (at2 (at2 (by with_reducible assumption)))))) | exact (at1 (at2 (at1 (at2 (at2 (at2 (by with_reducible assumption))))))) | exact (at2 (at2 (at1 (at2 (at2 (at2 (by with_reducible assumption))))))) | exact (at1 (at1 (at2 (at2 (at2 (at2 (by with_reducible assumption))))))) | exact (at1 (at2 (at1 (at2 (at2 (at2 (at2 (by with_reducible assumption)))))))) | exact (at2 (at2 (at1 (at2 (at2 (at2 (at2 (by with_reducible assumption)))))))) | exact (at1 (at1 (at2 (at2 (at2 (at2 (at2 (by with_reducible assumption)))))))) | exact (at1 (at2 (at1 (at2 (at2 (at2 (at2 (at2 (by with_reducible assumption))))))))) | exact (at2 (at2 (at1 (at2 (at2 (at2 (at2 (at2 (by with_reducible assumption))))))))) | exact (at1 (at1 (at2 (at2 (at2 (at2 (at2 (at2 (by with_reducible assumption))))))))) | exact (at1 (at2 (at1 (at2 (at2 (at2 (at2 (at2 (at2 (by with_reducible assumption)))))))))) | exact (at2 (at2 (at1 (at2 (at2 (at2 (at2 (at2 (at2 (by with_reducible assumption)))))))))) | fail)
  k_with "noNe" => ((repeat (rename (@Ne Nat _ _) => hx9; clear hx9)); (repeat (rename (@Ne Nat _ _ ∧ _) => hx9; clear hx9)); (repeat (rename ((@Ne Nat _ _ ∧ _) ∧ _) => hx9; clear hx9)))
  trivial
section
-- plain law: points, places, surplus
noncomputable def uN (ls : List Int) (i : Nat) : Int := ls.getD (i % 16) 0
noncomputable def wN (ls : List Int) (i : Nat) : Int := ls.getD (i / 16) 0
theorem pts_eq (ls : List Int) (N : Nat) : (rangeKs 0 N).map (pt ls) = (rangeKs 0 ((N : Int) - 0).toNat).map (fun k' => 16 * ls.getD (k'.fmod 16).toNat 0 + ls.getD (k'.fdiv 16).toNat 0) := by
  rw [toNat_sub0]
  refine List.map_congr_left fun k hk => ?_
  have h := (mem_rangeKs hk).1
  unfold pt
  have e1 : (k.fmod 16).toNat = k.toNat % 16 := by rw [Int.fmod_eq_emod_of_nonneg _ (by decide)]; omega
  have e2 : (k.fdiv 16).toNat = k.toNat / 16 := by rw [Int.fdiv_eq_ediv_of_nonneg _ (by decide)]; omega
  rw [e1, e2]
theorem row_eq {rs ns ps : List Int} (S : rs.Pairwise (· ≤ ·)) (P : rs.Perm ps) (p : ns.Perm ps) (q : ns.Pairwise (· ≤ ·)) : rs = ns := (eq_sortI P S).trans (eq_sortI p q).symm
theorem lessN_pts {rs ls : List Int} {N : Nat} (P : rs.Perm ((rangeKs 0 N).map (pt ls))) (y : Int) : lessN rs y = (((List.range N).countP fun i => decide (16 * uN ls i + wN ls i < y) : Nat) : Int) := by
  unfold lessN
  rw [P.countP_eq]
  unfold rangeKs
  rw [List.map_map, List.countP_map]
  congr 1
  refine List.countP_congr fun i _ => ?_
  show decide (pt ls (0 + (i : Int)) < y) = true ↔ _
  rw [decide_eq_true_eq, decide_eq_true_eq]
  unfold pt uN wN
  rw [show ((0 : Int) + (i : Int)).toNat = i by omega]
theorem uN_lo {ls : List Int} (hb : LBound ls) (i : Nat) : 0 ≤ uN ls i ∧ uN ls i < 16 := hb _
theorem wN_lo {ls : List Int} (hb : LBound ls) (i : Nat) : 0 ≤ wN ls i ∧ wN ls i < 16 := hb _
theorem bs1_count (ls : List Int) (N : Nat) (k : Int) : (bs1 ls N).countP (fun v => decide (v < k)) = (List.range N).countP fun i => decide (uN ls i < k) := by
  unfold bs1
  rw [List.countP_map]
  rfl
theorem bs2_count (ls : List Int) (N : Nat) (k : Int) : (bs2 ls N).countP (fun v => decide (v < k)) = (List.range (N / 16)).countP fun q => decide (ls.getD q 0 < k) := by
  unfold bs2
  rw [List.countP_map]
  rfl
theorem place_count {rs ls : List Int} {N : Nat} (hb : LBound ls) (P : rs.Perm ((rangeKs 0 N).map (pt ls))) (k : Int) : lessN rs (16 * k) = (((bs1 ls N).countP fun v => decide (v < k) : Nat) : Int) := by
  rw [lessN_pts P, bs1_count]
  congr 1
  refine List.countP_congr fun i _ => ?_
  have := wN_lo hb i
  simp only [decide_eq_true_eq]
  omega
theorem sums_eq {rs ls c1 : List Int} {N : Nat} (hb : LBound ls) (e : c1 = bs1 ls N) (P : rs.Perm ((rangeKs 0 N).map (pt ls))) :
    (rangeKs 0 ((17 : Int) - 0).toNat).map (fun k' => (List.take k'.toNat (c1.foldl bump [])).sum) = (rangeKs 0 ((17 : Int) - 0).toNat).map (fun k' => lessN rs (16 * k')) := by
  subst e
  refine List.map_congr_left fun k hk => ?_
  have h := (mem_rangeKs hk).1
  rw [take_count _ (letb1 hb), place_count hb P, show ((k.toNat : Nat) : Int) = k by omega]
theorem getD_rangeMap (f : Int → Int) (n : Nat) {k : Int} (h0 : 0 ≤ k) (h1 : k < n) : ((rangeKs 0 n).map f).getD k.toNat 0 = f k := by
  unfold rangeKs
  rw [List.map_map, List.getD_eq_getElem?_getD, List.getElem?_map, List.getElem?_range (by omega)]
  simp only [Option.map_some, Option.getD_some, Function.comp]
  congr 1
  omega
theorem cols_eq {rs ls c1 : List Int} {N : Nat} {m1 : Int} (hb : LBound ls) (e : c1 = bs1 ls N) (em : m1 = (N : Int)) (P : rs.Perm ((rangeKs 0 N).map (pt ls))) :
    (rangeKs 1 ((17 : Int) - 1).toNat).map (fun k' => il (c1.foldl bump []) k' m1 0) = (rangeKs 1 16).map (col ((rangeKs 0 ((17 : Int) - 0).toNat).map fun k' => lessN rs (16 * k')) N) := by
  subst e em
  refine List.map_congr_left fun tab ht => ?_
  have h := mem_rangeKs ht
  refine il_cols (letb1 hb) (len_bs1 _ _) (fun k h1 h2 => ?_) h.1 (by omega)
  rw [show ((17 : Int) - 0).toNat = 17 from rfl, getD_rangeMap _ 17 (by omega) (by omega), place_count hb P]
theorem cnt_res (p : Nat → Bool) (r : Nat) (hr : r < 16) : ∀ N : Nat, (List.range N).countP (fun i => decide (i % 16 = r) && p (i / 16)) = (List.range (N / 16)).countP p + (if r < N % 16 ∧ p (N / 16) = true then 1 else 0)
  | 0 => by simp
  | N + 1 => by
    rw [List.range_succ, List.countP_append, cnt_res p r hr N, List.countP_singleton]
    by_cases h : N % 16 = 15
    · rw [show (N + 1) / 16 = N / 16 + 1 by omega, show (N + 1) % 16 = 0 by omega, List.range_succ, List.countP_append, List.countP_singleton, h]
      cases hp : p (N / 16) <;> by_cases h2 : 15 = r <;> simp [h2] <;> omega
    · rw [show (N + 1) / 16 = N / 16 by omega, show (N + 1) % 16 = N % 16 + 1 by omega]
      cases hp : p (N / 16) <;> by_cases h2 : N % 16 = r <;> simp [h2] <;> (repeat' split) <;> omega
theorem countP_add {α : Type} (p q r : α → Bool) : ∀ (l : List α), (∀ x ∈ l, (if r x = true then 1 else 0) = (if p x = true then 1 else 0) + (if q x = true then 1 else 0)) → l.countP r = l.countP p + l.countP q
  | [], _ => rfl
  | x :: l, h => by
    have := h x (.head _)
    rw [List.countP_cons, List.countP_cons, List.countP_cons, countP_add p q r l fun y hy => h y (.tail _ hy)]
    omega
theorem lbound_perm {ls : List Int} (P : ls.Perm R16) : LBound ls := fun i => by
  by_cases h : i < ls.length
  · have hm : ls.getD i 0 ∈ R16 := P.mem_iff.mp (by rw [List.getD_eq_getElem?_getD, List.getElem?_eq_getElem h]; exact List.getElem_mem h)
    have all : ∀ x ∈ R16, 0 ≤ x ∧ x < 16 := by decide
    exact all _ hm
  · rw [List.getD_eq_getElem?_getD, List.getElem?_eq_none (by omega)]
    decide
theorem idx_of {ls : List Int} (P : ls.Perm R16) {a : Int} (h0 : 0 ≤ a) (h1 : a < 16) : ∃ r, r < 16 ∧ ∀ i, i < 16 → (ls.getD i 0 = a ↔ i = r) := by
  have hl : ls.length = 16 := P.length_eq
  have hm : a ∈ R16 := by
    have all : ∀ k : Fin 16, (k.val : Int) ∈ R16 := by decide
    have := all ⟨a.toNat, by omega⟩
    rwa [show (((⟨a.toNat, by omega⟩ : Fin 16).val : Nat) : Int) = a from by show ((a.toNat : Nat) : Int) = a; omega] at this
  obtain ⟨r, hr, e⟩ := List.getElem_of_mem (P.mem_iff.mpr hm)
  have hn : ls.Nodup := P.nodup_iff.mpr (by decide)
  refine ⟨r, by omega, fun i hi => ?_⟩
  rw [List.getD_eq_getElem?_getD, List.getElem?_eq_getElem (by omega), Option.getD_some, ← e]
  exact List.getElem_inj hn
theorem cnt_at {ls : List Int} (P : ls.Perm R16) {a : Int} (h0 : 0 ≤ a) (h1 : a < 16) (N : Nat) : ∃ g : Nat, g ≤ 1 ∧ (∀ b : Int, (List.range N).countP (fun i => decide (uN ls i = a ∧ wN ls i < b)) = (List.range (N / 16)).countP (fun q => decide (ls.getD q 0 < b)) + (if ls.getD (N / 16) 0 < b then g else 0)) := by
  obtain ⟨r, hr, hi⟩ := idx_of P h0 h1
  refine ⟨if r < N % 16 then 1 else 0, by split <;> omega, fun b => ?_⟩
  have h := cnt_res (fun q => decide (ls.getD q 0 < b)) r hr N
  have e : (List.range N).countP (fun i => decide (uN ls i = a ∧ wN ls i < b)) = (List.range N).countP (fun i => decide (i % 16 = r) && decide (ls.getD (i / 16) 0 < b)) := by
    refine List.countP_congr fun i _ => ?_
    have := hi (i % 16) (by omega)
    unfold uN wN
    rw [Bool.and_eq_true, decide_eq_true_eq, decide_eq_true_eq, decide_eq_true_eq, this]
  rw [e, h]
  congr 1
  simp only [decide_eq_true_eq]
  by_cases h1 : r < N % 16 <;> by_cases h2 : ls.getD (N / 16) 0 < b <;> simp [h1, h2]
theorem surp {rs ls c1 c2 : List Int} {N : Nat} {m2 v2 : Int} (P : ls.Perm R16) (e1 : c1 = bs1 ls N) (e2 : c2 = bs2 ls N) (em : m2 = ((N / 16 : Nat) : Int)) (ev : v2 = ls.getD (N / 16) 0) (Pr : rs.Perm ((rangeKs 0 N).map (pt ls)))
    {a b : Int} (ha : 0 ≤ a) (ha' : a < 16) (hb : 0 ≤ b) (hb' : b ≤ 16) :
    256 * lessN rs (16 * a + b) - N * (16 * a + b) = firstAt (c1.foldl bump []) N (a + if v2 < b then 1 else 0) + secondAt (c2.foldl bump []) N m2 v2 b := by
  subst e1 e2
  have LB := lbound_perm P
  obtain ⟨g, hg, hc⟩ := cnt_at P ha ha' N
  have k1 := hc b
  have k2 := hc 16
  have f1 : (List.range N).countP (fun i => decide (16 * uN ls i + wN ls i < 16 * a + b)) = (List.range N).countP (fun i => decide (uN ls i < a)) + (List.range N).countP (fun i => decide (uN ls i = a ∧ wN ls i < b)) := by
    refine countP_add _ _ _ _ fun i _ => ?_
    have := wN_lo LB i
    simp only [decide_eq_true_eq]
    repeat' split
    all_goals omega
  have f2 : (List.range N).countP (fun i => decide (uN ls i < a + 1)) = (List.range N).countP (fun i => decide (uN ls i < a)) + (List.range N).countP (fun i => decide (uN ls i = a ∧ wN ls i < 16)) := by
    refine countP_add _ _ _ _ fun i _ => ?_
    have := wN_lo LB i
    simp only [decide_eq_true_eq]
    repeat' split
    all_goals omega
  have f3 : (List.range (N / 16)).countP (fun q => decide (ls.getD q 0 < 16)) = N / 16 := by
    rw [List.countP_eq_length.mpr (fun q _ => by rw [decide_eq_true_eq]; exact (LB q).2), List.length_range]
  rw [f3, if_pos (LB _).2] at k2
  rw [lessN_pts Pr, f1, k1]
  unfold firstAt secondAt
  rw [take_count _ (letb1 LB), take_count _ (letb2 LB), bs1_count, bs2_count]
  rw [show ((b.toNat : Nat) : Int) = b by omega]
  rw [em, ev]
  have hN : (N : Int) = 16 * ((N / 16 : Nat) : Int) + ((N % 16 : Nat) : Int) := by omega
  by_cases hv : ls.getD (N / 16) 0 < b
  · simp only [hv, if_true]
    rw [show (((a + 1).toNat : Nat) : Int) = a + 1 by omega, f2, k2]
    have x1 : (N : Int) * (16 * a + b) = 16 * N * a + N * b := by rw [Int.mul_add, ← Int.mul_assoc, Int.mul_comm (N : Int) 16]
    have x2 : 16 * (N : Int) * (a + 1) = 16 * N * a + 16 * N := by rw [Int.mul_add, Int.mul_one]
    rw [x1, x2]
    omega
  · simp only [hv, if_false]
    rw [show (((a + 0).toNat : Nat) : Int) = a by omega]
    have x1 : (N : Int) * (16 * a + b) = 16 * N * a + N * b := by rw [Int.mul_add, ← Int.mul_assoc, Int.mul_comm (N : Int) 16]
    rw [x1, Int.add_zero]
    omega
theorem in_range {k : Int} {n : Nat} (h0 : 0 ≤ k) (h1 : k < n) : k ∈ rangeKs 0 n := by
  unfold rangeKs
  exact List.mem_map.mpr ⟨k.toNat, List.mem_range.mpr (by omega), by omega⟩
theorem in_range17 {k : Int} (h0 : 0 ≤ k) (h1 : k ≤ 16) : k ∈ rangeKs 0 17 := in_range h0 (by omega)
theorem firstAt_zero (cs : List Int) (N : Nat) : firstAt cs N 0 = 0 := by simp [firstAt]
theorem firstAt_full {ls c1 : List Int} {N : Nat} (hb : LBound ls) (e1 : c1 = bs1 ls N) : firstAt (c1.foldl bump []) N 16 = 0 := by
  subst e1
  unfold firstAt
  rw [take_count _ (letb1 hb), bs1_count]
  have f : (List.range N).countP (fun i => decide (uN ls i < (((16 : Int).toNat : Nat) : Int))) = N := by
    rw [List.countP_eq_length.mpr (fun i _ => by rw [decide_eq_true_eq]; exact (uN_lo hb i).2), List.length_range]
  rw [f]
  omega
section
variable {rs ls c1 c2 : List Int} {N : Nat} {m2 v2 : Int} (P : ls.Perm R16) (e1 : c1 = bs1 ls N) (e2 : c2 = bs2 ls N) (em : m2 = ((N / 16 : Nat) : Int)) (ev : v2 = ls.getD (N / 16) 0) (Pr : rs.Perm ((rangeKs 0 N).map (pt ls)))
include P e1 e2 em ev Pr
theorem there {y : Int} (h0 : 0 ≤ y) (h1 : y ≤ 256) : ∃ i j, i ∈ rangeKs 0 17 ∧ j ∈ rangeKs 0 17 ∧ 256 * lessN rs y - N * y = firstAt (c1.foldl bump []) N i + secondAt (c2.foldl bump []) N m2 v2 j := by
  have key : ∀ a b : Int, 0 ≤ a → a < 16 → 0 ≤ b → b ≤ 16 → y = 16 * a + b → ∃ i j, i ∈ rangeKs 0 17 ∧ j ∈ rangeKs 0 17 ∧ 256 * lessN rs y - N * y = firstAt (c1.foldl bump []) N i + secondAt (c2.foldl bump []) N m2 v2 j := by
    intro a b ha ha' hb hb' e
    refine ⟨a + if v2 < b then 1 else 0, b, ?_, ?_, ?_⟩
    · exact in_range17 (by split <;> omega) (by split <;> omega)
    · exact in_range17 hb hb'
    · rw [e]
      exact surp P e1 e2 em ev Pr ha ha' hb hb'
  by_cases h : y = 256
  · exact key 15 16 (by decide) (by decide) (by decide) (by decide) (by omega)
  · exact key (y / 16) (y % 16) (by omega) (by omega) (by omega) (by omega) (by omega)
theorem back {i j : Int} (hi : i ∈ rangeKs 0 17) (hj : j ∈ rangeKs 0 17) : ∃ y, 0 ≤ y ∧ y ≤ 256 ∧ 256 * lessN rs y - N * y = firstAt (c1.foldl bump []) N i + secondAt (c2.foldl bump []) N m2 v2 j := by
  have h1 := mem_rangeKs hi
  have h2 := mem_rangeKs hj
  have hz := firstAt_zero (c1.foldl bump []) N
  have hf := firstAt_full (lbound_perm P) e1
  have key : ∀ a : Int, 0 ≤ a → a < 16 → firstAt (c1.foldl bump []) N (a + if v2 < j then 1 else 0) = firstAt (c1.foldl bump []) N i → ∃ y, 0 ≤ y ∧ y ≤ 256 ∧ 256 * lessN rs y - N * y = firstAt (c1.foldl bump []) N i + secondAt (c2.foldl bump []) N m2 v2 j := by
    intro a ha ha' e
    refine ⟨16 * a + j, by omega, by omega, ?_⟩
    rw [surp P e1 e2 em ev Pr ha ha' h2.1 (by omega), e]
  by_cases hv : v2 < j
  · by_cases hi0 : i = 0
    · exact key 15 (by decide) (by decide) (by rw [if_pos hv, hi0, hz]; exact hf)
    · exact key (i - 1) (by omega) (by omega) (by rw [if_pos hv, Int.sub_add_cancel])
  · by_cases hi0 : i = 16
    · exact key 0 (by decide) (by decide) (by rw [if_neg hv, hi0, hf]; exact hz)
    · exact key i (by omega) (by omega) (by rw [if_neg hv, Int.add_zero])
end
theorem row_facts {rs ls : List Int} {N : Nat} (P : ls.Perm R16) (S : rs.Pairwise (· ≤ ·)) (Pr : rs.Perm ((rangeKs 0 N).map (pt ls))) :
    (∀ y i : Int, 0 ≤ i → i < N → (rs.getD i.toNat 0 < y ↔ i < lessN rs y)) ∧ (∀ i : Int, 0 ≤ i → i < N → 0 ≤ rs.getD i.toNat 0 ∧ rs.getD i.toNat 0 < 256) ∧ ∀ y, 0 ≤ lessN rs y ∧ lessN rs y ≤ N := by
  have hl : rs.length = N := by rw [Pr.length_eq, List.length_map, rangeKs_length]
  refine ⟨fun y i h0 h1 => ?_, fun i h0 h1 => ?_, fun y => ?_⟩
  · have hq : ∀ a b : Int, a ≤ b → decide (b < y) = true → decide (a < y) = true := by
      intro a b h1 h2
      rw [decide_eq_true_eq] at h2 ⊢
      omega
    have := count_sortedI (fun a => decide (a < y)) S hq i h0 (by omega)
    rw [decide_eq_true_eq] at this
    exact this
  · have hm : rs.getD i.toNat 0 ∈ (rangeKs 0 N).map (pt ls) := Pr.mem_iff.mp (by rw [List.getD_eq_getElem?_getD, List.getElem?_eq_getElem (by omega)]; exact List.getElem_mem _)
    obtain ⟨k, _, e⟩ := List.mem_map.mp hm
    rw [← e]
    unfold pt
    have h1 := lbound_perm P (k.toNat % 16)
    have h2 := lbound_perm P (k.toNat / 16)
    omega
  · have := List.countP_le_length (p := fun a => decide (a < y)) (l := rs)
    unfold lessN
    omega
section
variable {rs ls c1 c2 : List Int} {N : Nat} {m2 v2 M A B : Int} (P : ls.Perm R16) (e1 : c1 = bs1 ls N) (e2 : c2 = bs2 ls N) (em : m2 = ((N / 16 : Nat) : Int)) (ev : v2 = ls.getD ((N : Int).fdiv 16).toNat 0) (S : rs.Pairwise (· ≤ ·)) (Pr : rs.Perm ((rangeKs 0 N).map (pt ls))) (hN : 1 ≤ N)
  (hA : A ∈ (rangeKs 0 17).map (firstAt (c1.foldl bump []) N)) (hB : B ∈ (rangeKs 0 17).map (secondAt (c2.foldl bump []) N m2 v2))
include P e1 e2 em ev S Pr hN hA hB
theorem surplus_eq (hM : M ∈ (rangeKs 0 ((N : Int) - 0).toNat).map (fun k' => 256 * (k' + 1) - N * rs.getD k'.toNat 0)) (hM' : ∀ a, a ∈ (rangeKs 0 ((N : Int) - 0).toNat).map (fun k' => 256 * (k' + 1) - N * rs.getD k'.toNat 0) → a ≤ M)
    (hA' : ∀ a, a ∈ (rangeKs 0 17).map (firstAt (c1.foldl bump []) N) → a ≤ A) (hB' : ∀ a, a ∈ (rangeKs 0 17).map (secondAt (c2.foldl bump []) N m2 v2) → a ≤ B) : M = A + B + N := by
  have ev' : v2 = ls.getD (N / 16) 0 := by rw [ev, Int.fdiv_eq_ediv_of_nonneg _ (by decide)]; rfl
  obtain ⟨r1, r2, r3⟩ := row_facts P S Pr
  rw [toNat_sub0] at hM hM'
  refine Int.le_antisymm ?_ ?_
  · obtain ⟨k, hk, rfl⟩ := List.mem_map.mp hM
    have hk' := mem_rangeKs hk
    have q2 := r2 k hk'.1 (by omega)
    obtain ⟨i, j, hi, hj, e⟩ := there P e1 e2 em ev' Pr (y := rs.getD k.toNat 0 + 1) (by omega) (by omega)
    have q1 := (r1 (rs.getD k.toNat 0 + 1) k hk'.1 (by omega)).mp (by omega)
    have q3 := hA' _ (List.mem_map_of_mem hi)
    have q4 := hB' _ (List.mem_map_of_mem hj)
    rw [Int.mul_add, Int.mul_one] at e
    (try dsimp only)
    omega
  · obtain ⟨i, hi, rfl⟩ := List.mem_map.mp hA
    obtain ⟨j, hj, rfl⟩ := List.mem_map.mp hB
    obtain ⟨y, y0, y1, e⟩ := back P e1 e2 em ev' Pr hi hj
    rw [← e]
    have q3 := r3 y
    by_cases hc : lessN rs y = 0
    · have q2 := r2 ((N : Int) - 1) (by omega) (by omega)
      have := hM' _ (List.mem_map_of_mem (in_range (k := (N : Int) - 1) (n := N) (by omega) (by omega)))
      have n1 : 0 ≤ (N : Int) * y := Int.mul_nonneg (by omega) y0
      have n2 : (N : Int) * rs.getD ((N : Int) - 1).toNat 0 ≤ N * 255 := Int.mul_le_mul_of_nonneg_left (by omega) (by omega)
      (try dsimp only at this)
      rw [hc]
      omega
    · have q1 := (r1 y (lessN rs y - 1) (by omega) (by omega)).mpr (by omega)
      have := hM' _ (List.mem_map_of_mem (in_range (k := lessN rs y - 1) (n := N) (by omega) (by omega)))
      have n2 : (N : Int) * (rs.getD (lessN rs y - 1).toNat 0 + 1) ≤ N * y := Int.mul_le_mul_of_nonneg_left (by omega) (by omega)
      rw [Int.mul_add, Int.mul_one] at n2
      (try dsimp only at this)
      omega
theorem lack_eq (hM : M ∈ (rangeKs 0 ((N : Int) - 0).toNat).map (fun k' => 256 * k' - N * rs.getD k'.toNat 0)) (hM' : ∀ a, a ∈ (rangeKs 0 ((N : Int) - 0).toNat).map (fun k' => 256 * k' - N * rs.getD k'.toNat 0) → M ≤ a)
    (hA' : ∀ a, a ∈ (rangeKs 0 17).map (firstAt (c1.foldl bump []) N) → A ≤ a) (hB' : ∀ a, a ∈ (rangeKs 0 17).map (secondAt (c2.foldl bump []) N m2 v2) → B ≤ a) : M = A + B := by
  have ev' : v2 = ls.getD (N / 16) 0 := by rw [ev, Int.fdiv_eq_ediv_of_nonneg _ (by decide)]; rfl
  obtain ⟨r1, r2, r3⟩ := row_facts P S Pr
  rw [toNat_sub0] at hM hM'
  refine Int.le_antisymm ?_ ?_
  · obtain ⟨i, hi, rfl⟩ := List.mem_map.mp hA
    obtain ⟨j, hj, rfl⟩ := List.mem_map.mp hB
    obtain ⟨y, y0, y1, e⟩ := back P e1 e2 em ev' Pr hi hj
    rw [← e]
    have q3 := r3 y
    by_cases hc : lessN rs y = N
    · have q2 := r2 0 (by omega) (by omega)
      have := hM' _ (List.mem_map_of_mem (in_range (k := 0) (n := N) (by omega) (by omega)))
      have n1 : 0 ≤ (N : Int) * rs.getD (0 : Int).toNat 0 := Int.mul_nonneg (by omega) q2.1
      have n2 : (N : Int) * y ≤ N * 256 := Int.mul_le_mul_of_nonneg_left (by omega) (by omega)
      (try dsimp only at this)
      rw [hc]
      omega
    · have q1 : ¬ rs.getD (lessN rs y).toNat 0 < y := fun h => by
        have := (r1 y (lessN rs y) (by omega) (by omega)).mp h
        omega
      have := hM' _ (List.mem_map_of_mem (in_range (k := lessN rs y) (n := N) (by omega) (by omega)))
      have n2 : (N : Int) * y ≤ N * rs.getD (lessN rs y).toNat 0 := Int.mul_le_mul_of_nonneg_left (by omega) (by omega)
      (try dsimp only at this)
      omega
  · obtain ⟨k, hk, rfl⟩ := List.mem_map.mp hM
    have hk' := mem_rangeKs hk
    have q2 := r2 k hk'.1 (by omega)
    obtain ⟨i, j, hi, hj, e⟩ := there P e1 e2 em ev' Pr (y := rs.getD k.toNat 0) (by omega) (by omega)
    have q1 : ¬ k < lessN rs (rs.getD k.toNat 0) := fun h => by
      have := (r1 (rs.getD k.toNat 0) k hk'.1 (by omega)).mpr h
      omega
    have q3 := hA' _ (List.mem_map_of_mem hi)
    have q4 := hB' _ (List.mem_map_of_mem hj)
    (try dsimp only)
    omega
end
theorem row_no {rs ns ps : List Int} (h : ¬ rs = ns) (S : rs.Pairwise (· ≤ ·)) (P : rs.Perm ps) (p : ns.Perm ps) (q : ns.Pairwise (· ≤ ·)) : False := h (row_eq S P p q)
theorem sums_no {rs ls c1 : List Int} {N : Nat} (h : ¬ (rangeKs 0 ((17 : Int) - 0).toNat).map (fun k' => (List.take k'.toNat (c1.foldl bump [])).sum) = (rangeKs 0 ((17 : Int) - 0).toNat).map (fun k' => lessN rs (16 * k'))) (hb : LBound ls) (e : c1 = bs1 ls N) (P : rs.Perm ((rangeKs 0 N).map (pt ls))) : False := h (sums_eq hb e P)
theorem cols_no {rs ls c1 : List Int} {N : Nat} {m1 : Int} (h : ¬ (rangeKs 1 ((17 : Int) - 1).toNat).map (fun k' => il (c1.foldl bump []) k' m1 0) = (rangeKs 1 16).map (col ((rangeKs 0 ((17 : Int) - 0).toNat).map fun k' => lessN rs (16 * k')) N)) (hb : LBound ls) (e : c1 = bs1 ls N) (em : m1 = (N : Int)) (P : rs.Perm ((rangeKs 0 N).map (pt ls))) : False := h (cols_eq hb e em P)
theorem surplus_no {rs ls c1 c2 : List Int} {N : Nat} {m2 v2 M A B : Int} (h : ¬ M = A + B + (N : Int)) (hM : M ∈ (rangeKs 0 ((N : Int) - 0).toNat).map (fun k' => 256 * (k' + 1) - N * rs.getD k'.toNat 0)) (hM' : ∀ a, a ∈ (rangeKs 0 ((N : Int) - 0).toNat).map (fun k' => 256 * (k' + 1) - N * rs.getD k'.toNat 0) → a ≤ M)
    (hA : A ∈ (rangeKs 0 17).map (firstAt (c1.foldl bump []) N)) (hA' : ∀ a, a ∈ (rangeKs 0 17).map (firstAt (c1.foldl bump []) N) → a ≤ A) (hB : B ∈ (rangeKs 0 17).map (secondAt (c2.foldl bump []) N m2 v2)) (hB' : ∀ a, a ∈ (rangeKs 0 17).map (secondAt (c2.foldl bump []) N m2 v2) → a ≤ B)
    (P : ls.Perm R16) (e1 : c1 = bs1 ls N) (e2 : c2 = bs2 ls N) (em : m2 = ((N / 16 : Nat) : Int)) (ev : v2 = ls.getD ((N : Int).fdiv 16).toNat 0) (S : rs.Pairwise (· ≤ ·)) (Pr : rs.Perm ((rangeKs 0 N).map (pt ls))) (hN : 1 ≤ N) : False := h (surplus_eq P e1 e2 em ev S Pr hN hA hB hM hM' hA' hB')
theorem lack_yes {rs ls c1 c2 : List Int} {N : Nat} {m2 v2 M A B : Int} (hM : M ∈ (rangeKs 0 ((N : Int) - 0).toNat).map (fun k' => 256 * k' - N * rs.getD k'.toNat 0)) (hM' : ∀ a, a ∈ (rangeKs 0 ((N : Int) - 0).toNat).map (fun k' => 256 * k' - N * rs.getD k'.toNat 0) → M ≤ a)
    (hA : A ∈ (rangeKs 0 17).map (firstAt (c1.foldl bump []) N)) (hA' : ∀ a, a ∈ (rangeKs 0 17).map (firstAt (c1.foldl bump []) N) → A ≤ a) (hB : B ∈ (rangeKs 0 17).map (secondAt (c2.foldl bump []) N m2 v2)) (hB' : ∀ a, a ∈ (rangeKs 0 17).map (secondAt (c2.foldl bump []) N m2 v2) → B ≤ a)
    (P : ls.Perm R16) (e1 : c1 = bs1 ls N) (e2 : c2 = bs2 ls N) (em : m2 = ((N / 16 : Nat) : Int)) (ev : v2 = ls.getD ((N : Int).fdiv 16).toNat 0) (S : rs.Pairwise (· ≤ ·)) (Pr : rs.Perm ((rangeKs 0 N).map (pt ls))) (hN : 1 ≤ N) : (M == A + B) = true := by
  rw [lack_eq P e1 e2 em ev S Pr hN hA hB hM hM' hA' hB']
  exact beq_self_eq_true _
theorem ret_bool {Q : Value → Shared → Prop} {b : Bool} {s : Shared} (h : Q (.bool true) s) (e : b = true) : Q (.bool b) s := e ▸ h
end
theorem fresh21 : True := by
  (try walk1)
  w_top off
  k_with_none
  k_with "conj" => (first | with_reducible assumption | exact (at1 (by with_reducible assumption)) | exact (at1 (at2 (by with_reducible assumption))) | exact (at2 (by with_reducible assumption)) | exact (at1 (at2 (at2 (by with_reducible assumption)))) | exact (at2 (at2 (by with_reducible assumption))) | exact (at1 (at2 (at2 (at2 (by with_reducible assumption))))) | exact (at2 (at2 (at2 (by with_reducible assumption)))) | exact (at1 (at2 (at2 (at2 (at2 (by with_reducible assumption)))))) | exact (at2 (at2 (at2 (at2 (by with_reducible assumption))))) | exact (at1 (at2 (at2 (at2 (at2 (at2 (by with_reducible assumption))))))) | exact (at2 (at2 (at2 (at2 (at2 (by with_reducible assumption)))))) | exact (at1 (at2 (at2 (at2 (at2 (at2 (at2 (by with_reducible assumption)))))))) | exact (at2 (at2 (at2 (at2 (at2 (at2 (by with_reducible assumption))))))) | exact (at1 (at2 (at2 (at2 (at2 (at2 (at2 (at2 (by with_reducible assumption))))))))) | exact (at2 (at2 (at2 (at2 (at2 (at2 (at2 (by with_reducible assumption)))))))) | exact (at1 (at2 (at2 (at2 (at2 (at2 (at2 (at2 (at2 (by with_reducible assumption)))))))))) | exact (at2 (at2 (at2 (at2 (at2 (at2 (at2 (at2 (by with_reducible assumption))))))))) | exact (at1 (at2 (at2 (at2 (at2 (at2 (at2 (at2 (at2 (at2 (by with_reducible assumption))))))))))) | exact (at2 (at2 (at2 (at2 (at2 (at2 (at2 (at2 (at2 (by with_reducible assumption)))))))))) | exact (at1 (at1 (by with_reducible assumption))) | exact (at1 (at2 (at1 (by with_reducible assumption)))) | exact (at2 (at2 (at1 (by with_reducible assumption)))) | exact (at1 (at1 (at2 (by with_reducible assumption)))) | exact (at1 (at2 (at1 (at2 (by with_reducible assumption))))) | exact (at2 (at2 (at1 (at2 (by with_reducible assumption))))) | exact (at1 (at1 (at2 (at2 (by with_reducible assumption))))) | exact (at1 (at2 (at1 (at2 (at2 (by with_reducible assumption)))))) | exact (at2 (at2 (at1 (at2 (at2 (by with_reducible assumption)))))) | exact (at1 (at1 (at2 (at2 (at2 (by with_reducible assumption)))))) | exact (at1 (at2 (at1 (at2 (at2 (at2 (by with_reducible assumption))))))) | exact (at2 (at2 (at1 (at2 (at2 (at2 (by with_reducible assumption))))))) | exact (at1 (at1 (at2 (at2 (at2 (at2 (by with_reducible assumption))))))) | exact (at1 (at2 (at1 (at2 (at2 (at2 (at2 (by with_reducible assumption)))))))) | exact (at2 (at2 (at1 (at2 (at2 (at2 (at2 (by with_reducible assumption)))))))) | exact (at1 (at1 (at2 (at2 (at2 (at2 (at2 (by with_reducible assumption)))))))) | exact (at1 (at2 (at1 (at2 (at2 (at2 (at2 (at2 (by with_reducible assumption))))))))) | exact (at2 (at2 (at1 (at2 (at2 (at2 (at2 (at2 (by with_reducible assumption))))))))) | exact (at1 (at1 (at2 (at2 (at2 (at2 (at2 (at2 (by with_reducible assumption))))))))) | exact (at1 (at2 (at1 (at2 (at2 (at2 (at2 (at2 (at2 (by with_reducible assumption)))))))))) | exact (at2 (at2 (at1 (at2 (at2 (at2 (at2 (at2 (at2 (by with_reducible assumption)))))))))) | fail)
  k_with "noNe" => ((repeat (rename (@Ne Nat _ _) => hx9; clear hx9)); (repeat (rename (@Ne Nat _ _ ∧ _) => hx9; clear hx9)); (repeat (rename ((@Ne Nat _ _ ∧ _) ∧ _) => hx9; clear hx9)))
  trivial
section
theorem lines_Holds1 : True := by
  k_with "call ref" => (k_here; (with_reducible show wpAny _ _ (call (Value.ref 144) _ _) _ _ _); k_dflt (refine' pts_spec ?u1 ?u2 ?u3 ?u4 ?u5 ?u6 ?u7 ?hn ?hl ?hi ?hz ?hN ?_; (case u1 => k_asm); (case u2 => k_asm); (case u3 => k_asm); (case u4 => k_asm); (case u5 => first | exact rfl | assumption); (case u6 => ktr_room); (case u7 => ktr_units); (case hn => k_asm); (case hl => is_list); (case hi => assumption); (case hz => assumption); (case hN => omega)); intro r9 v9 n9 h9 tk9 F9 N9 o9 I9; (replace o9 := allNe_of o9); (simp only [AllNe, and_true] at o9); (try dsimp only); skip)
  k_with "call ref" => (k_here; (with_reducible show wpAny _ _ (call (Value.ref 151) _ _) _ _ _); k_dflt (refine' row_spec ?u1 ?u2 ?u3 ?u4 ?u5 ?u6 ?u7 ?hn ?hl ?hi ?hN ?_; (case u1 => k_asm); (case u2 => k_asm); (case u3 => k_asm); (case u4 => k_asm); (case u5 => first | exact rfl | assumption); (case u6 => ktr_room); (case u7 => ktr_units); (case hn => k_asm); (case hl => is_list); (case hi => assumption); (case hN => (simp only [List.length_map, rangeKs_length]; omega))); intro r9 v9 s9 n9 h9 tk9 F9 N9 o9 I9 S9 P9; (have e9 := List.Perm.length_eq P9); (simp only [List.length_map, rangeKs_length] at e9); (replace o9 := allNe_of o9); (simp only [AllNe, and_true] at o9); (try dsimp only); skip)
  k_with "call ref" => (k_here; (with_reducible show wpAny _ _ (call (Value.ref 57) _ _) _ _ _); k_dflt (refine' bl_sorted ?u1 ?u2 ?u3 ?u4 ?u5 ?u6 ?u7 ?hn ?hl ?hi ?hN ?hs ?_; (case u1 => k_asm); (case u2 => k_asm); (case u3 => k_asm); (case u4 => k_asm); (case u5 => first | exact rfl | assumption); (case u6 => ktr_room); (case u7 => ktr_units); (case hn => k_asm); (case hl => is_list); (case hi => assumption); (case hN => omega); (case hs => assumption)); intro t9 h9 tk9 F9 N9; (try dsimp only); skip)
  k_with "call ref" => (k_here; (with_reducible show wpAny _ _ (call (Value.ref 156) _ _) _ _ _); k_dflt (refine' leads_spec ?u1 ?u2 ?u3 ?u4 ?u5 ?u6 ?u7 ?hn ?hl ?hi ?hz ?hb ?hN ?hN1 ?_; (case u1 => k_asm); (case u2 => k_asm); (case u3 => k_asm); (case u4 => k_asm); (case u5 => first | exact rfl | assumption); (case u6 => ktr_room); (case u7 => ktr_units); (case hn => k_asm); (case hl => is_list); (case hi => assumption); (case hz => assumption); (case hb => assumption); (case hN => omega); (case hN1 => omega)); intro tp9 x1 dx1 tp1 ct1 x2 dx2 tp2 ct2 vs1 vs2 X1 X2 n1 n2 sm1 sm2 T1 T2 c1 c2 m1 m2 v2 h9 tk9 ec1 ec2 em1 em2 ev2 F9 N9 o9 I91 I92; (obtain ⟨qa, qb, qc, qd, qe, qf⟩ := lead_nums (by assumption) ec1 ec2 em1 em2 I91 I92); (simp only [List.cons_append, List.nil_append] at N9 o9); (try dsimp only); skip)
  k_with "call builtin:sorted" => (k_here; (with_reducible show wpAny _ _ (call (Value.builtin _) [Value.ref _]) _ _ _); (with_unfolding_all refine' kso_sorted ?k1 ?k2 ?k3 ?k4 ?k5 ?_; (case k1 => k_asm); (case k2 => k_asm); (case k3 => is_list); (case k4 => assumption); (case k5 => (simp only [List.length_map, rangeKs_length]; exact Nat.lt_of_le_of_lt (by assumption) (by decide : 48 < 64))); k_whole); intro D' v' n' c' h' F' N' l1 i' e' p' q' b'; clear b' e'; (try k_lt l1); (try dsimp only); skip)
  k_with "storeName" => (k_here; (with_reducible show wpAny _ _ (storeName _ _ (Value.ref _)) _ _ _); k_dflt (refine' storeX_C ?F ?N ?c ?U ?d ?_ ?a ?b; (case a => rfl); (case b => rfl); (case F => k_asm); (case N => k_asm); (case c => rfl); (case U => (rename (∀ q ∈ (_ : List (Addr × Obj)), ∀ p ∈ (_ : List (Addr × Obj)), Prod.fst p ≠ Prod.fst q) => off9; refine' updF_off [_, _, _, _, _, _, _, _, _] ?o ?u; (case u => k_updF); (case o => exact off9 (_, _) (by k_mem)))); (case d => k_asm); k_whole); intro h' o' F' N' d'; (try dsimp only [List.cons_append, List.nil_append] at N'); (rename (∀ q ∈ (_ : List (Addr × Obj)), ∀ p ∈ (_ : List (Addr × Obj)), Prod.fst p ≠ Prod.fst q) => off9; clear off9); (repeat (rename (@Ne Nat _ _) => hx9; clear hx9)); (repeat (rename (@Ne Nat _ _ ∧ _) => hx9; clear hx9)); (repeat (rename ((@Ne Nat _ _ ∧ _) ∧ _) => hx9; clear hx9)); (repeat (rename (@LT.lt Nat _ _ _ ∧ _) => hx9; clear hx9)); (repeat (rename (IsRange _ _ _ _ _ _ _ _) => hx9; clear hx9)); (try dsimp only); (try k_sweep); skip)
  k_with "subscriptTail" => (k_here; (with_reducible show wpAny _ _ (subscriptTail _ (Expr.Slice none _ none _) (Value.ref _) (Value.ref _)) _ _ _); (with_reducible rename Fr _ _ _ _ => F'); (with_reducible rename News _ _ _ _ => N'); (refine slice_tup (s := ⟨_, _, _, _, _⟩) F' N' (by exact News.isTup N' (by k_mem)) (by assumption) (by exact Nat.le_trans (by assumption) (by decide)) ?_); intro r9 h9 F' N' ht9; skip)
  k_with "call builtin:sum" => (k_here; (with_reducible show wpAny _ _ (call (Value.builtin "sum") [Value.ref _]) _ _ _); k_dflt (refine' sum_tup ?h0 ?F ?N ?t ?i ?_; (case h0 => exact rfl); (case F => k_asm); (case N => k_asm); (case t => assumption); (case i => exact ints_take (by assumption) _)); intro h9 tk9 t9 F' N'; skip)
  k_with "call ref" => (k_here; (with_reducible show wpAny _ _ (call (Value.ref 95) _ _) _ _ _); k_dflt (refine' ind_spec ?u1 ?u2 ?u3 ?u4 ?u5 ?u6 ?u7 ?hn ?hl ?hz ?h1 ?h2 ?_; (case u1 => k_asm); (case u2 => k_asm); (case u3 => k_asm); (case u4 => k_asm); (case u5 => first | exact rfl | assumption); (case u6 => ktr_room); (case u7 => ktr_units); (case hn => k_asm); (case hl => exact lead_at (by k_asm) (by k_mem) (by k_mem) (by k_mem) (by k_mem) (by assumption)); (case hz => assumption); (case h1 => assumption); (case h2 => exact le16 (by assumption))); intro t9 h9 tk9 F9 N9; (try dsimp only); skip)
  k_with "call ref" => (k_here; (with_reducible show wpAny _ _ (call (Value.ref 161) _ _) _ _ _); k_dflt (refine' cols_spec ?u1 ?u2 ?u3 ?u4 ?u5 ?u6 ?u7 ?hn ?hl ?hi ?hz ?hN ?_; (case u1 => k_asm); (case u2 => k_asm); (case u3 => k_asm); (case u4 => k_asm); (case u5 => first | exact rfl | assumption); (case u6 => ktr_room); (case u7 => ktr_units); (case hn => k_asm); (case hl => is_list); (case hi => assumption); (case hz => (simp only [List.length_map, rangeKs_length]; rfl)); (case hN => assumption)); intro r9 v9 n9 h9 tk9 F9 N9 I9; (repeat (rename (@Ne Nat _ _) => hx9; clear hx9)); (repeat (rename (@Ne Nat _ _ ∧ _) => hx9; clear hx9)); (repeat (rename ((@Ne Nat _ _ ∧ _) ∧ _) => hx9; clear hx9)); (repeat (rename (@LT.lt Nat _ _ _ ∧ _) => hx9; clear hx9)); (repeat (rename (IsRange _ _ _ _ _ _ _ _) => hx9; clear hx9)); (try dsimp only); skip)
  k_with "call ref" => (k_here; (with_reducible show wpAny _ _ (call (Value.ref 166) _ _) _ _ _); k_dflt (refine' firsts_spec ?u1 ?u2 ?u3 ?u4 ?u5 ?u6 ?u7 ?hn ?hl ?hz ?hN ?_; (case u1 => k_asm); (case u2 => k_asm); (case u3 => k_asm); (case u4 => k_asm); (case u5 => first | exact rfl | assumption); (case u6 => ktr_room); (case u7 => ktr_units); (case hn => k_asm); (case hl => exact lead_at (by k_asm) (by k_mem) (by k_mem) (by k_mem) (by k_mem) (by assumption)); (case hz => assumption); (case hN => assumption)); intro r9 v9 n9 h9 tk9 F9 N9 I9; (repeat (rename (@Ne Nat _ _) => hx9; clear hx9)); (repeat (rename (@Ne Nat _ _ ∧ _) => hx9; clear hx9)); (repeat (rename ((@Ne Nat _ _ ∧ _) ∧ _) => hx9; clear hx9)); (repeat (rename (@LT.lt Nat _ _ _ ∧ _) => hx9; clear hx9)); (repeat (rename (IsRange _ _ _ _ _ _ _ _) => hx9; clear hx9)); (try dsimp only); skip)
  k_with "subscriptTail Name Name ref int" => (k_here; (with_reducible show wpAny _ _ (subscriptTail (Expr.Name _ _) (Expr.Name _ _) (Value.ref _) (Value.int _ _)) _ _ _); (with_unfolding_all refine' item_anyK ?k1 ?k2 ?k3 ?k4 ?k5 ?_ ?k6; (case k1 => is_list); (case k2 => assumption); (case k3 => assumption); (case k4 => exact idx_row (by assumption) (by assumption)); (case k5 => exact Int.lt_trans (idx_small (by assumption) (by assumption)) (by decide)); (case k6 => with_unfolding_all rfl); k_whole); intro _; skip)
  k_with "call ref" => (k_here; (with_reducible show wpAny _ _ (call (Value.ref 173) _ _) _ _ _); k_dflt (refine' seconds_spec ?u1 ?u2 ?u3 ?u4 ?u5 ?u6 ?u7 ?hn ?hl ?hz ?hN ?h4 ?_; (case u1 => k_asm); (case u2 => k_asm); (case u3 => k_asm); (case u4 => k_asm); (case u5 => first | exact rfl | assumption); (case u6 => ktr_room); (case u7 => ktr_units); (case hn => k_asm); (case hl => exact lead_at (by k_asm) (by k_mem) (by k_mem) (by k_mem) (by k_mem) (by assumption)); (case hz => assumption); (case hN => assumption); (case h4 => exact nt48 (by assumption) (by assumption))); intro r9 v9 n9 h9 tk9 F9 N9 I9; (replace N9 := news_mask N9 [true, true, false, false, false, false, false, false, false, false, false, false, false, false, false, false, true, false, false, false, true, true]); (simp only [maskL] at N9); (repeat (rename (@Ne Nat _ _) => hx9; clear hx9)); (repeat (rename (@Ne Nat _ _ ∧ _) => hx9; clear hx9)); (repeat (rename ((@Ne Nat _ _ ∧ _) ∧ _) => hx9; clear hx9)); (repeat (rename (@LT.lt Nat _ _ _ ∧ _) => hx9; clear hx9)); (repeat (rename (IsRange _ _ _ _ _ _ _ _) => hx9; clear hx9)); (try dsimp only); skip)
  k_with "call builtin:max" => (k_here; (with_reducible show wpAny _ _ (call (Value.builtin _) [Value.ref _]) _ _ _); (with_unfolding_all refine' kso_max ?k1 ?k2 ?k3 ?k4 ?k5 ?k6 ?_; (case k1 => k_asm); (case k2 => k_asm); (case k3 => is_list); (case k4 => assumption); (case k5 => (simp only [List.length_map, rangeKs_length]; first | decide | exact one_le (by assumption))); (case k6 => with_unfolding_all rfl); k_whole); intro h' M' t' k' F' N' a' b'; (repeat (rename (@Ne Nat _ _) => hx9; clear hx9)); (repeat (rename (@Ne Nat _ _ ∧ _) => hx9; clear hx9)); (repeat (rename ((@Ne Nat _ _ ∧ _) ∧ _) => hx9; clear hx9)); (repeat (rename (@LT.lt Nat _ _ _ ∧ _) => hx9; clear hx9)); (repeat (rename (IsRange _ _ _ _ _ _ _ _) => hx9; clear hx9)); (try dsimp only); skip)
  k_with "call builtin:min" => (k_here; (with_reducible show wpAny _ _ (call (Value.builtin _) [Value.ref _]) _ _ _); (with_unfolding_all refine' kso_min ?k1 ?k2 ?k3 ?k4 ?k5 ?k6 ?_; (case k1 => k_asm); (case k2 => k_asm); (case k3 => is_list); (case k4 => assumption); (case k5 => (simp only [List.length_map, rangeKs_length]; first | decide | exact one_le (by assumption))); (case k6 => with_unfolding_all rfl); k_whole); intro h' M' t' k' F' N' a' b'; (repeat (rename (@Ne Nat _ _) => hx9; clear hx9)); (repeat (rename (@Ne Nat _ _ ∧ _) => hx9; clear hx9)); (repeat (rename ((@Ne Nat _ _ ∧ _) ∧ _) => hx9; clear hx9)); (repeat (rename (@LT.lt Nat _ _ _ ∧ _) => hx9; clear hx9)); (repeat (rename (IsRange _ _ _ _ _ _ _ _) => hx9; clear hx9)); (try dsimp only); skip)
  trivial
set_option maxRecDepth 100000 in
set_option maxHeartbeats 8000000 in
theorem holds_spec {w : World} {p : Program} {loose : List Str} {mean : ExcName → Option Value} {mg mb : Str → Option Value}
    {dp un : Nat} {gd : Option (List Code)} {cn : Str} {cs : Scope} {a : Addr} {ccd : Value} {cl : List (Str × Addr)} {outer : List Env} {A₀ : Around} {base h₀ : Heap} {L : Addr} {m : Str → Option Value} {s : Shared} {Q E : Value → Shared → Prop} {l : Addr} {us : List Value} {ls : List Int} {N : Nat} {t : Tok}
    (B : Below A₀ base outer h₀) (F : Fr h₀ L s.heap m) (X : (hd.heap_39 w.params).In h₀) (T : Top p loose mean mg mb h₀) (hk : cs.kind = .function) (hd : dp + 7 < recursionLimit) (hu : un + 128 < cLine)
    {news : List (Addr × Obj)} (N0 : News h₀ L s.heap news) (hl : s.heap.IsList l us.toArray) (hi : IntsAre us ls) (hlen : ls.length = 16) (hp : ls.Perm R16) (hN : N ≤ 48) (hN1 : 1 ≤ N)
    (ret : ∀ (h' : Heap) (tk' : Nat), Fr h₀ L h' m → News h₀ L h' news → Q (.bool true) { s with heap := h', toks := tk' }) :
    wpAny (model PP w) (ktrTop dp un gd cn cs L a ccd cl outer) (call (.ref 178) [.ref l, .int N t]) Q E s := by
  have hb : LBound ls := lbound_perm hp
  have N1 : News h₀ L s.heap [] := News.nil
  refine wpAny_call ?_
  k_dflt (refine' enterC (binds := [(Str.ofString "letters", .ref l), (Str.ofString "total", .int N t)]) ?k1 ?k2 ?k3 ?k4 ?k5 ?kA ?kF ?kK ?k6 ?k7 ?k8 ?k9 ?kB ?kD ?_ ?c2 ?c3 ?c4; (case kA => exact rfl); (case kF => exact rfl); (case kK => assumption); (case k1 => k_asm); (case k2 => k_asm); (case k3 => k_asm); (case k4 => k_asm); (case k5 => k_asm); (case k6 => k_is); (case k7 => k_is); (case k8 => (show dp < recursionLimit; omega)); (case k9 => exact BindsTo.of_eq rfl); (case kB => exact rfl); (case kD => decide +kernel); (case c2 => exact rfl); (case c3 => exact rfl); (case c4 => exact rfl); k_whole); intro g L' h1 tk1 cells1 FG F' N' Y' B' X' T' S' l1; (try k_lt l1); k_cells Y'; (try simp only [List.cons_append, List.nil_append] at N')
  have hlg := stays_isList S' (by exact List.not_mem_nil) hl
  (try dsimp only)
  clear hl B F X T N1 FG
  k_steps
  all_goals (try exact absurd (pts_eq _ _) (by assumption))
  all_goals (try exact (row_no (by assumption) (by assumption) (by assumption) (by assumption) (by assumption)).elim)
  all_goals (try exact (sums_no (by assumption) hb (by assumption) (by assumption)).elim)
  all_goals (try exact (cols_no (by assumption) hb (by assumption) (by assumption) (by assumption)).elim)
  all_goals (try exact (surplus_no (by assumption) (by assumption) (by assumption) (by assumption) (by assumption) (by assumption) (by assumption) hp (by assumption) (by assumption) (by assumption) (by assumption) (by assumption) (by assumption) hN1).elim)
  all_goals (refine' leaveK_ ?k1 ?k2 ?_; (case k1 => k_asm); (case k2 => k_asm); intro kF kN)
  all_goals exact ret_bool (ret _ _ kF ((S'.trans (by assumption)).news N0)) (lack_yes (by assumption) (by assumption) (by assumption) (by assumption) (by assumption) (by assumption) hp (by assumption) (by assumption) (by assumption) (by assumption) (by assumption) (by assumption) hN1)
end
theorem fresh22 : True := by
  (try walk1)
  w_top off
  k_with_none
  k_with "conj" => (first | with_reducible assumption | exact (at1 (by with_reducible assumption)) | exact (at1 (at2 (by with_reducible assumption))) | exact (at2 (by with_reducible assumption)) | exact (at1 (at2 (at2 (by with_reducible assumption)))) | exact (at2 (at2 (by with_reducible assumption))) | exact (at1 (at2 (at2 (at2 (by with_reducible assumption))))) | exact (at2 (at2 (at2 (by with_reducible assumption)))) | exact (at1 (at2 (at2 (at2 (at2 (by with_reducible assumption)))))) | exact (at2 (at2 (at2 (at2 (by with_reducible assumption))))) | exact (at1 (at2 (at2 (at2 (at2 (at2 (by with_reducible assumption))))))) | exact (at2 (at2 (at2 (at2 (at2 (by with_reducible assumption)))))) | exact (at1 (at2 (at2 (at2 (at2 (at2 (at2 (by with_reducible assumption)))))))) | exact (at2 (at2 (at2 (at2 (at2 (at2 (by with_reducible assumption))))))) | exact (at1 (at2 (at2 (at2 (at2 (at2 (at2 (at2 (by with_reducible assumption))))))))) | exact (at2 (at2 (at2 (at2 (at2 (at2 (at2 (by with_reducible assumption)))))))) | exact (at1 (at2 (at2 (at2 (at2 (at2 (at2 (at2 (at2 (by with_reducible assumption)))))))))) | exact (at2 (at2 (at2 (at2 (at2 (at2 (at2 (at2 (by with_reducible assumption))))))))) | exact (at1 (at2 (at2 (at2 (at2 (at2 (at2 (at2 (at2 (at2 (by with_reducible assumption))))))))))) | exact (at2 (at2 (at2 (at2 (at2 (at2 (at2 (at2 (at2 (by with_reducible assumption)))))))))) | exact (at1 (at1 (by with_reducible assumption))) | exact (at1 (at2 (at1 (by with_reducible assumption)))) | exact (at2 (at2 (at1 (by with_reducible assumption)))) | exact (at1 (at1 (at2 (by with_reducible assumption)))) | exact (at1 (at2 (at1 (at2 (by with_reducible assumption))))) | exact (at2 (at2 (at1 (at2 (by with_reducible assumption))))) | exact (at1 (at1 (at2 (at2 (by with_reducible assumption))))) | exact (at1 (at2 (at1 (at2 (at2 (by with_reducible assumption)))))) | exact (at2 (at2 (at1 (at2 (at2 (by with_reducible assumption)))))) | exact (at1 (at1 (at2 (at2 (at2 (by with_reducible assumption)))))) | exact (at1 (at2 (at1 (at2 (at2 (at2 (by with_reducible assumption))))))) | exact (at2 (at2 (at1 (at2 (at2 (at2 (by with_reducible assumption))))))) | exact (at1 (at1 (at2 (at2 (at2 (at2 (by with_reducible assumption))))))) | exact (at1 (at2 (at1 (at2 (at2 (at2 (at2 (by with_reducible assumption)))))))) | exact (at2 (at2 (at1 (at2 (at2 (at2 (at2 (by with_reducible assumption)))))))) | exact (at1 (at1 (at2 (at2 (at2 (at2 (at2 (by with_reducible assumption)))))))) | exact (at1 (at2 (at1 (at2 (at2 (at2 (at2 (at2 (by with_reducible assumption))))))))) | exact (at2 (at2 (at1 (at2 (at2 (at2 (at2 (at2 (by with_reducible assumption))))))))) | exact (at1 (at1 (at2 (at2 (at2 (at2 (at2 (at2 (by with_reducible assumption))))))))) | exact (at1 (at2 (at1 (at2 (at2 (at2 (at2 (at2 (at2 (by with_reducible assumption)))))))))) | exact (at2 (at2 (at1 (at2 (at2 (at2 (at2 (at2 (at2 (by with_reducible assumption)))))))))) | fail)
  k_with "noNe" => ((repeat (rename (@Ne Nat _ _) => hx9; clear hx9)); (repeat (rename (@Ne Nat _ _ ∧ _) => hx9; clear hx9)); (repeat (rename ((@Ne Nat _ _ ∧ _) ∧ _) => hx9; clear hx9)))
  trivial
section
theorem holds_specI {w : World} {p : Program} {loose : List Str} {mean : ExcName → Option Value} {mg mb : Str → Option Value}
    {dp un : Nat} {gd : Option (List Code)} {cn : Str} {cs : Scope} {a : Addr} {ccd : Value} {cl : List (Str × Addr)} {outer : List Env} {A₀ : Around} {base h₀ : Heap} {L : Addr} {m : Str → Option Value} {s : Shared} {Q E : Value → Shared → Prop} {l : Addr} {us : List Value} {ls : List Int} {x : Int} {t : Tok}
    (B : Below A₀ base outer h₀) (F : Fr h₀ L s.heap m) (X : (hd.heap_39 w.params).In h₀) (T : Top p loose mean mg mb h₀) (hk : cs.kind = .function) (hd : dp + 7 < recursionLimit) (hu : un + 128 < cLine)
    {news : List (Addr × Obj)} (N0 : News h₀ L s.heap news) (hl : s.heap.IsList l us.toArray) (hi : IntsAre us ls) (hlen : ls.length = 16) (hp : ls.Perm R16) (hN : x ≤ 48) (hN1 : 1 ≤ x)
    (ret : ∀ (h' : Heap) (tk' : Nat), Fr h₀ L h' m → News h₀ L h' news → Q (.bool true) { s with heap := h', toks := tk' }) :
    wpAny (model PP w) (ktrTop dp un gd cn cs L a ccd cl outer) (call (.ref 178) [.ref l, .int x t]) Q E s := by
  obtain ⟨N, rfl⟩ := Int.eq_ofNat_of_zero_le (show 0 ≤ x by omega)
  exact holds_spec B F X T hk hd hu N0 hl hi hlen hp (by omega) (by omega) ret
theorem fmod48 (x : Int) : 1 + x.fmod 48 ≤ 48 ∧ 1 ≤ 1 + x.fmod 48 := by
  have h1 := Int.fmod_nonneg_of_pos x (show (0 : Int) < 48 by decide)
  have h2 := Int.fmod_lt_of_pos x (show (0 : Int) < 48 by decide)
  omega
theorem lines_Lw1 : True := by
  k_with "call ref" => (k_here; (with_reducible show wpAny _ _ (call (Value.ref 137) _ _) _ _ _); k_dflt (refine' ex_spec ?u1 ?u2 ?u3 ?u4 ?u5 ?u6 ?u7 ?hn ?hl ?hi ?hz ?_; (case u1 => k_asm); (case u2 => k_asm); (case u3 => k_asm); (case u4 => k_asm); (case u5 => first | exact rfl | assumption); (case u6 => ktr_room); (case u7 => ktr_units); (case hn => k_asm); (case hl => is_list); (case hi => l_ints); (case hz => omega)); intro r9 u9 s9 n9 h9 tk9 F9 N9 o9 I9 l9 p9; (try dsimp only); skip)
  k_with "call ref" => (k_here; (with_reducible show wpAny _ _ (call (Value.ref 178) _ _) _ _ _); k_dflt (refine' holds_specI ?u1 ?u2 ?u3 ?u4 ?u5 ?u6 ?u7 ?hn ?hl ?hi ?hz ?hp ?hN ?hN1 ?_; (case u1 => k_asm); (case u2 => k_asm); (case u3 => k_asm); (case u4 => k_asm); (case u5 => first | exact rfl | assumption); (case u6 => ktr_room); (case u7 => ktr_units); (case hn => k_asm); (case hl => is_list); (case hi => assumption); (case hz => assumption); (case hp => assumption); (case hN => exact (fmod48 _).1); (case hN1 => exact (fmod48 _).2)); intro h9 tk9 F9 N9; (try dsimp only); skip)
  trivial
set_option maxRecDepth 100000 in
set_option maxHeartbeats 8000000 in
theorem law_holds : PySem.Challenge.rw_sn0042_01.Holds := hd (by
  k_go0
  (all_goals try k_fold)
  k_steps
  skip
  all_goals w_report)
end
end Mine
open PySem PySem.W PyProof.Rows
set_option maxRecDepth 100000 in
set_option maxHeartbeats 8000000 in
theorem PySem.Challenge.cw_sn0042_01_holds : PySem.Challenge.rw_sn0042_01.Holds := by
  exact Mine.law_holds
