import PyProof.Rows.All
import Wide.All
import OpenK.AllK
import Wide.FinOn
import PySem.Challenge.RW_pu0009_01
set_option Elab.async false
set_option maxRecDepth 100000
set_option maxHeartbeats 16000000
set_option linter.unusedVariables false
set_option linter.unusedSimpArgs false

namespace Mine
open PySem PySem.W PyProof.Rows
open_top hd for PySem.Challenge.rw_pu0009_01
end Mine

namespace Mine
open PySem PySem.W PyProof.Rows PySem.Calls

/-- every object stays as it was -/
abbrev Kp (h h' : Heap) : Prop := ∀ b o, h.get? b = some o → h'.get? b = some o
theorem Kp.refl (h : Heap) : Kp h h := fun _ _ e => e
theorem Kp.trans {a b c : Heap} (x : Kp a b) (y : Kp b c) : Kp a c := fun p o e => y p o (x p o e)

section
variable {prog : Program} {w : World} {A₀ A : Around} {s : Shared} {base h₀ : Heap} {outer : List Env} {L : Addr} {m : Str → Option Value} {env : Env}
  {R : Result → Shared → Prop} {name qual : Str} {params : Arguments} {body : List Stmt} {scope : Scope} {cl : List (Str × Addr)} {dV kV doc pm cdv ct : Value} {an : Option Addr} {fo : Obj} {f : Addr} {args : Args} {binds : List (Str × Value)}

theorem below_all (B : Below A₀ base outer h₀) (F : Fr h₀ L s.heap m) (hA : A.frames = some (env :: outer)) (hf : env.frame = some L) (hke : env.scope.kind = .function) :
    Below A base (env :: outer) s.heap := by
  have B₁ := pushX B F hf hke
  exact ⟨hA, B₁.stays, B₁.frames⟩

/-- a call of a def: the caller's whole heap is the callee's base -/
theorem enterAll (B : Below A₀ base outer h₀) (F : Fr h₀ L s.heap m) (hlim : h₀.NoLimit) (hA : A.frames = some (env :: outer)) (hf : env.frame = some L) (hke : env.scope.kind = .function)
    (ho : s.heap.get? f = some fo) (hd : fo.data = .func (fnX name qual params body scope cl dV kV doc pm an cdv ct)) (hcd : s.heap.CodeRec cdv qual) (hroom : A.depth < recursionLimit)
    (hbind : BindsTo s (fnX name qual params body scope cl dV kV doc pm an cdv ct) args binds) (hloc : ∀ y ∈ binds, scope.names.lookup y.1 = some .local)
    (h : ∀ L' h₁, Fr s.heap L' h₁ (fun y => binds.reverse.lookup y) → Below A base (env :: outer) s.heap →
      wpAny (model prog w) (A.deeper (envX qual scope L' f cdv cl)) (execs body (envX qual scope L' f cdv cl))
        (fun fl s' => R (.ok (.ret (match fl with | .ret v => v | _ => .none))) s')
        (fun e s' => wpAny (model prog w) (A.deeper (envX qual scope L' f cdv cl)) (leaving (envX qual scope L' f cdv cl) e) (fun _ s'' => R (.error e) s'') (fun e' s'' => R (.error e') s'') s')
        { s with heap := h₁, toks := s.toks + binds.length })
    (hcell : ∀ x ∈ scope.names, x.2 ≠ .cell) (hco : scope.isCoroutine = false := by rfl) (hgen : scope.isGenerator = false := by rfl) (hk : scope.kind = .function := by rfl) : codeAny (model prog w) A (.call (.ref f) args) R s := by
  refine codeAny_call_def (fd := fnX name qual params body scope cl dV kV doc pm an cdv ct) (body := body) (binds := binds) hroom ho hd (hlim.keeps F.keep) hcd rfl hbind hcell hloc (fun h₁ hns hk₁ => ?_) hco hgen hk
  exact h s.heap.objs.size h₁ ⟨hns, hk₁, Nat.le_refl _⟩ (below_all B F hA hf hke)
end
section
variable {prog : Program} {w : World} {A₀ A : Around} {s : Shared} {base h₀ : Heap} {outer : List Env} {L : Addr} {m mg mb : Str → Option Value} {env : Env} {K : Frag} {p : Program} {loose : List Str} {mean : ExcName → Option Value}
  {R : Result → Shared → Prop} {name qual : Str} {params : Arguments} {body : List Stmt} {scope : Scope} {cl : List (Str × Addr)} {dV kV doc pm cdv ct oc : Value} {an od : Option Addr} {osl : Array (Option Value)} {f : Addr} {args : Args} {binds : List (Str × Value)}
theorem enterK (B : Below A₀ base outer h₀) (F : Fr h₀ L s.heap m) (X₀ : K.In h₀) (T : Top p loose mean mg mb h₀) (hA : A.frames = some (env :: outer)) (hf : env.frame = some L) (hke : env.scope.kind = .function)
    (ho : K.lookup f = some ⟨oc, od, .func (fnOf name qual params body scope dV kV doc pm an cdv ct), osl⟩) (hcd : codeIn K cdv qual = true) (hroom : A.depth < recursionLimit)
    (hbind : BindsTo s (fnOf name qual params body scope dV kV doc pm an cdv ct) args binds) (hloc : ∀ y ∈ binds, scope.names.lookup y.1 = some .local)
    (h : ∀ L' h₁, Fr s.heap L' h₁ (fun y => binds.reverse.lookup y) → News s.heap L' h₁ [] → Below A base (env :: outer) s.heap → K.In s.heap → Top p loose mean mg mb s.heap →
      wpAny (model prog w) (A.deeper (envOf qual scope L' f cdv)) (execs body (envOf qual scope L' f cdv))
        (fun fl s' => R (.ok (.ret (match fl with | .ret v => v | _ => .none))) s')
        (fun e s' => wpAny (model prog w) (A.deeper (envOf qual scope L' f cdv)) (leaving (envOf qual scope L' f cdv) e) (fun _ s'' => R (.error e) s'') (fun e' s'' => R (.error e') s'') s')
        { s with heap := h₁, toks := s.toks + binds.length })
    (hco : scope.isCoroutine = false) (hgen : scope.isGenerator = false) (hk : scope.kind = .function)
    (hcell : ∀ x ∈ scope.names, x.2 ≠ .cell) : codeAny (model prog w) A (.call (.ref f) args) R s :=
  enterAll (cl := []) B F T.nolimit hA hf hke ((X₀.keeps F.keep) _ _ ho) rfl (codeRec_of (X₀.keeps F.keep) hcd) hroom hbind hloc (fun L' h₁ F' B' => h L' h₁ F' News.nil B' (X₀.keeps F.keep) (T.keeps F.keep)) hcell hco hgen hk
end
theorem bindsKw {K : Frag} {s : Shared} {fd : FuncData} {args : Args} {binds : List (Str × Value)} {T d : Addr} {o o2 : Obj} 
    (X : K.In s.heap) (ho : K.lookup T = some o) (ho2 : K.lookup d = some o2)
    (h : ∀ (M : Model) (Γ : Ctx) (p : Pos) (E : Value → Pos → Shared → Prop) (Q : List (Str × Value) → Pos → Shared → Prop), s.heap.get? T = some o → s.heap.get? d = some o2 → Q binds p s → Sem.wp M Γ (bindArgs fd args) Q E p s) : BindsTo s fd args binds :=
  fun M A E Q hq Γ p hΓ => h M Γ p _ _ (X _ _ ho) (X _ _ ho2) hq
end Mine

namespace Mine
open PySem PySem.W PyProof.Rows PySem.Calls
theorem count_at {p : Int → Bool} (hp : ∀ a b, a < b → p b = true → p a = true) : ∀ {ns : List Int}, ns.Pairwise (· < ·) → ∀ {i : Nat}, i < ns.length → (p (ns.getD i 0) = true ↔ i < ns.countP p)
  | [], _, i, h => by simp at h
  | a :: l, hs, i, h => by
    obtain ⟨h1, h2⟩ := List.pairwise_cons.mp hs
    by_cases ha : p a = true
    · rw [List.countP_cons_of_pos ha]
      cases i with
      | zero => simp [ha]
      | succ i =>
        have hi : i < l.length := by simpa using h
        have := count_at hp h2 hi
        simp only [List.getD_cons_succ]
        rw [this]; omega
    · have z : ∀ b ∈ a :: l, p b = false := by
        intro b hb
        rcases List.mem_cons.mp hb with rfl | hb
        · simpa using ha
        · cases q : p b with
          | false => rfl
          | true => exact absurd (hp a b (h1 b hb) q) ha
      have hc : (a :: l).countP p = 0 := by
        rw [List.countP_eq_zero]
        intro b hb; rw [z b hb]; exact Bool.false_ne_true
      rw [hc]
      have : (a :: l).getD i 0 ∈ a :: l := by
        rw [List.getD_eq_getElem?_getD, List.getElem?_eq_getElem h]
        exact List.getElem_mem h
      rw [z _ this]
      simp
section
variable {p : Int → Bool} {ns : List Int} {lo hi : Int}
theorem bis_start (p : Int → Bool) (ns : List Int) : (0:Int) ≤ 0 ∧ (0:Int) ≤ (ns.length : Int) ∧ (ns.length : Int) ≤ (ns.length : Int) ∧ (0:Int) ≤ (ns.countP p : Int) ∧ (ns.countP p : Int) ≤ (ns.length : Int) := by
  have := List.countP_le_length (p := p) (l := ns)
  omega
theorem bis_yes (hp : ∀ a b, a < b → p b = true → p a = true) (hs : ns.Pairwise (· < ·)) (h0 : 0 ≤ lo) (h3 : hi ≤ (ns.length : Int)) (hc : (ns.countP p : Int) ≤ hi) (hlt : lo < hi) (hx : p (ns.getD ((lo + hi).fdiv 2).toNat 0) = true) :
    0 ≤ (lo + hi).fdiv 2 + 1 ∧ (lo + hi).fdiv 2 + 1 ≤ hi ∧ hi ≤ (ns.length : Int) ∧ (lo + hi).fdiv 2 + 1 ≤ (ns.countP p : Int) ∧ (ns.countP p : Int) ≤ hi := by
  have e : (lo + hi).fdiv 2 = (lo + hi) / 2 := Int.fdiv_eq_ediv_of_nonneg _ (by omega)
  rw [e] at hx ⊢
  have := (count_at hp hs (i := ((lo + hi) / 2).toNat) (by omega)).mp hx
  omega
theorem bis_no (hp : ∀ a b, a < b → p b = true → p a = true) (hs : ns.Pairwise (· < ·)) (h0 : 0 ≤ lo) (h3 : hi ≤ (ns.length : Int)) (hc : lo ≤ (ns.countP p : Int)) (hlt : lo < hi) (hx : ¬ p (ns.getD ((lo + hi).fdiv 2).toNat 0) = true) :
    0 ≤ lo ∧ lo ≤ (lo + hi).fdiv 2 ∧ (lo + hi).fdiv 2 ≤ (ns.length : Int) ∧ lo ≤ (ns.countP p : Int) ∧ (ns.countP p : Int) ≤ (lo + hi).fdiv 2 := by
  have e : (lo + hi).fdiv 2 = (lo + hi) / 2 := Int.fdiv_eq_ediv_of_nonneg _ (by omega)
  rw [e] at hx ⊢
  have := mt (count_at hp hs (i := ((lo + hi) / 2).toNat) (by omega)).mpr hx
  omega
end
theorem meas_yes {lo hi : Int} (h0 : 0 ≤ lo) (hlt : lo < hi) : (hi - ((lo + hi).fdiv 2 + 1)).toNat < (hi - lo).toNat := by
  have e : (lo + hi).fdiv 2 = (lo + hi) / 2 := Int.fdiv_eq_ediv_of_nonneg _ (by omega)
  rw [e]; omega
theorem meas_no {lo hi : Int} (h0 : 0 ≤ lo) (hlt : lo < hi) : ((lo + hi).fdiv 2 - lo).toNat < (hi - lo).toNat := by
  have e : (lo + hi).fdiv 2 = (lo + hi) / 2 := Int.fdiv_eq_ediv_of_nonneg _ (by omega)
  rw [e]; omega
theorem dn_lt (x : Int) : ∀ a b : Int, a < b → decide (b < x) = true → decide (a < x) = true := by
  intro a b h q; simp only [decide_eq_true_eq] at *; omega
theorem dn_le (x : Int) : ∀ a b : Int, a < b → decide (b ≤ x) = true → decide (a ≤ x) = true := by
  intro a b h q; simp only [decide_eq_true_eq] at *; omega
theorem retI {Q : Value → Shared → Prop} {s : Shared} {L' : Addr} {m' : Str → Option Value} {x y : Int} {t : Tok} {h' : Heap} {tk' : Nat} (ret : ∀ t' h' tk', Kp s.heap h' → Q (.int x t') { s with heap := h', toks := tk' }) (F : Fr s.heap L' h' m') (e : y = x) :
    Q (.int y t) { s with heap := h', toks := tk' } := by subst e; exact ret t h' tk' F.keep

theorem bisl_call {w : World} {dp un : Nat} {gd : Option (List Code)} {cn : Str} {cs : Scope} {a : Addr} {ccd : Value} {cl : List (Str × Addr)} {outer : List Env} {A₀ : Around} {base h₀ : Heap} {L : Addr} {m : Str → Option Value} {s : Shared} {Q E : Value → Shared → Prop}
    {p : Program} {loose : List Str} {mean : ExcName → Option Value} {mg mb : Str → Option Value} {l : Addr} {vs : List Value} {ns : List Int} {x : Int} {t : Tok}
    (B : Below A₀ base outer h₀) (F : Fr h₀ L s.heap m) (X : (hd.heap_39 w.params).In h₀) (T : Top p loose mean mg mb h₀) (hk : cs.kind = .function)
    (hl : s.heap.IsList l vs.toArray) (hi : IntsAre vs ns) (hlen : ns.length < 2 ^ 20) (hs : ns.Pairwise (· < ·)) (hdp : dp + 1 < recursionLimit) (hun : un + 8 < cLine)
    (ret : ∀ t' h' tk', Kp s.heap h' → Q (.int (ns.countP (fun y => decide (y < x))) t') { s with heap := h', toks := tk' }) :
    wpAny (model PySem.Challenge.rw_pu0009_01.row.prog w) (ktrTop dp un gd cn cs L a ccd cl outer) (call (.ref 39) [.ref l, .int x t]) Q E s := by
  w_top off
  k_with_none
  revert X; k_fill; intro X
  refine wpAny_call ?_
  k_dflt (refine' enterK ?k1 ?k2 ?k3 ?k5 ?kA ?kF ?kK ?k6 ?k7 ?k8 ?k9 ?kB ?_ ?c2 ?c3 ?c4 ?c5; (case kA => exact rfl); (case kF => exact rfl); (case kK => assumption); (case k1 => k_asm); (case k2 => k_asm); (case k3 => k_asm); (case k5 => k_asm); (case k6 => k_is); (case k7 => k_is); (case k8 => ktr_room); (case k9 => exact bindsKw (T := 31) (d := 32) (binds := [(Str.ofString "a", .ref l), (Str.ofString "x", .int x t), (Str.ofString "lo", .int 0 216), (Str.ofString "hi", .none), (Str.ofString "key", .none)]) (by k_in) (by k_is) (by k_is) (fun M Γ p E Q h1 h2 hq => by with_unfolding_all exact ⟨_, h1, ⟨_, h2, hq⟩⟩)); (case c5 => decide); (case kB => exact locs rfl); (case c2 => exact rfl); (case c3 => exact rfl); (case c4 => exact rfl); k_whole; intro L' h' F' N' B' X' T'; (try dsimp only); (try k_fold))
  (k_with "exec While Compare cons nil" => k_while_given ["x"] (fun x ns lo hi => 0 ≤ lo ∧ lo ≤ hi ∧ hi ≤ (ns.length : Int) ∧ lo ≤ (ns.countP (fun y => decide (y < x)) : Int) ∧ (ns.countP (fun y => decide (y < x)) : Int) ≤ hi) (fun x ns lo hi => (hi - lo).toNat) "lo" "hi")
  k_with "state" => first | exact bis_start _ _ | exact bis_yes (dn_lt _) hs (by assumption) (by assumption) (by assumption) (by assumption) (decide_eq_true (by assumption)) | exact bis_no (dn_lt _) hs (by assumption) (by assumption) (by assumption) (by assumption) (mt of_decide_eq_true (by assumption))
  k_with "measure" => first | exact meas_yes (by assumption) (by assumption) | exact meas_no (by assumption) (by assumption)
  k_steps
  all_goals (refine retI ret (by k_asm) ?_; omega)

theorem bisr_call {w : World} {dp un : Nat} {gd : Option (List Code)} {cn : Str} {cs : Scope} {a : Addr} {ccd : Value} {cl : List (Str × Addr)} {outer : List Env} {A₀ : Around} {base h₀ : Heap} {L : Addr} {m : Str → Option Value} {s : Shared} {Q E : Value → Shared → Prop}
    {p : Program} {loose : List Str} {mean : ExcName → Option Value} {mg mb : Str → Option Value} {l : Addr} {vs : List Value} {ns : List Int} {x : Int} {t : Tok}
    (B : Below A₀ base outer h₀) (F : Fr h₀ L s.heap m) (X : (hd.heap_39 w.params).In h₀) (T : Top p loose mean mg mb h₀) (hk : cs.kind = .function)
    (hl : s.heap.IsList l vs.toArray) (hi : IntsAre vs ns) (hlen : ns.length < 2 ^ 20) (hs : ns.Pairwise (· < ·)) (hdp : dp + 1 < recursionLimit) (hun : un + 8 < cLine)
    (ret : ∀ t' h' tk', Kp s.heap h' → Q (.int (ns.countP (fun y => decide (y ≤ x))) t') { s with heap := h', toks := tk' }) :
    wpAny (model PySem.Challenge.rw_pu0009_01.row.prog w) (ktrTop dp un gd cn cs L a ccd cl outer) (call (.ref 30) [.ref l, .int x t]) Q E s := by
  w_top off
  k_with_none
  revert X; k_fill; intro X
  refine wpAny_call ?_
  k_dflt (refine' enterK ?k1 ?k2 ?k3 ?k5 ?kA ?kF ?kK ?k6 ?k7 ?k8 ?k9 ?kB ?_ ?c2 ?c3 ?c4 ?c5; (case kA => exact rfl); (case kF => exact rfl); (case kK => assumption); (case k1 => k_asm); (case k2 => k_asm); (case k3 => k_asm); (case k5 => k_asm); (case k6 => k_is); (case k7 => k_is); (case k8 => ktr_room); (case k9 => exact bindsKw (T := 22) (d := 23) (binds := [(Str.ofString "a", .ref l), (Str.ofString "x", .int x t), (Str.ofString "lo", .int 0 202), (Str.ofString "hi", .none), (Str.ofString "key", .none)]) (by k_in) (by k_is) (by k_is) (fun M Γ p E Q h1 h2 hq => by with_unfolding_all exact ⟨_, h1, ⟨_, h2, hq⟩⟩)); (case c5 => decide); (case kB => exact locs rfl); (case c2 => exact rfl); (case c3 => exact rfl); (case c4 => exact rfl); k_whole; intro L' h' F' N' B' X' T'; (try dsimp only); (try k_fold))
  (k_with "exec While Compare cons nil" => k_while_given ["x"] (fun x ns lo hi => 0 ≤ lo ∧ lo ≤ hi ∧ hi ≤ (ns.length : Int) ∧ lo ≤ (ns.countP (fun y => decide (y ≤ x)) : Int) ∧ (ns.countP (fun y => decide (y ≤ x)) : Int) ≤ hi) (fun x ns lo hi => (hi - lo).toNat) "lo" "hi")
  k_with "state" => first | exact bis_start _ _ | exact bis_yes (dn_le _) hs (by assumption) (by assumption) (by assumption) (by assumption) (decide_eq_true (Int.not_lt.mp (by assumption))) | exact bis_no (dn_le _) hs (by assumption) (by assumption) (by assumption) (by assumption) (mt of_decide_eq_true (Int.not_le.mpr (by assumption)))
  k_with "measure" => first | exact meas_yes (by assumption) (by assumption) | exact meas_no (by assumption) (by assumption)
  k_steps
  all_goals (refine retI ret (by k_asm) ?_; omega)
end Mine

namespace Mine
open PySem PySem.W PyProof.Rows PySem.Calls
section
variable {prog : Program} {w : World} {A₀ A : Around} {s : Shared} {base h₀ : Heap} {outer : List Env} {L : Addr} {m mg mb : Str → Option Value} {env : Env} {K : Frag} {p : Program} {loose : List Str} {mean : ExcName → Option Value} {news : List (Addr × Obj)}
  {R : Result → Shared → Prop} {name qual : Str} {params : Arguments} {body : List Stmt} {scope : Scope} {cl : List (Str × Addr)} {dV kV doc pm cdv ct oc : Value} {an od : Option Addr} {osl : Array (Option Value)} {f : Addr} {args : Args} {binds : List (Str × Value)}
/-- a call whose callee may turn the ledger's objects and no others -/
theorem enterHide (B : Below A₀ base outer h₀) (F : Fr h₀ L s.heap m) (X₀ : K.In h₀) (N : News h₀ L s.heap news) (T : Top p loose mean mg mb h₀) (hA : A.frames = some (env :: outer)) (hf : env.frame = some L) (hke : env.scope.kind = .function)
    (ho : K.lookup f = some ⟨oc, od, .func (fnOf name qual params body scope dV kV doc pm an cdv ct), osl⟩) (hcd : codeIn K cdv qual = true) (hroom : A.depth < recursionLimit)
    (hbind : BindsTo s (fnOf name qual params body scope dV kV doc pm an cdv ct) args binds) (hloc : ∀ y ∈ binds, scope.names.lookup y.1 = some .local)
    (h : ∀ L' h₁, h₀.StaysIn (hideAll s.heap (news.map (·.1))) → Fr (hideAll s.heap (news.map (·.1))) L' h₁ (fun y => binds.reverse.lookup y) → News (hideAll s.heap (news.map (·.1))) L' h₁ news → Below A base (env :: outer) (hideAll s.heap (news.map (·.1))) → K.In (hideAll s.heap (news.map (·.1))) → Top p loose mean mg mb (hideAll s.heap (news.map (·.1))) → (∀ p ∈ news, p.1 < L') →
      wpAny (model prog w) (A.deeper (envOf qual scope L' f cdv)) (execs body (envOf qual scope L' f cdv))
        (fun fl s' => R (.ok (.ret (match fl with | .ret v => v | _ => .none))) s')
        (fun e s' => wpAny (model prog w) (A.deeper (envOf qual scope L' f cdv)) (leaving (envOf qual scope L' f cdv) e) (fun _ s'' => R (.error e) s'') (fun e' s'' => R (.error e') s'') s')
        { s with heap := h₁, toks := s.toks + binds.length })
    (hco : scope.isCoroutine = false) (hgen : scope.isGenerator = false) (hk : scope.kind = .function)
    (hcell : ∀ x ∈ scope.names, x.2 ≠ .cell) : codeAny (model prog w) A (.call (.ref f) args) R s := by
  obtain ⟨FG, BG, st, lv⟩ := groundX (R := R) B F N hA hf hke
  refine codeAny_call_def (fd := fnOf name qual params body scope dV kV doc pm an cdv ct) (body := body) (binds := binds) hroom ((X₀.keeps F.keep) _ _ ho) rfl (T.nolimit.keeps F.keep) (codeRec_of (X₀.keeps F.keep) hcd) rfl hbind hcell hloc (fun h₁ hns hk₁ => ?_) hco hgen hk
  exact h s.heap.objs.size h₁ st ⟨hns, fun b o e => hk₁ b o (of_hideAll _ e), Nat.le_of_eq (hideAll_size _ _)⟩
    (fun p hp => ⟨hk₁ _ _ (N p hp).1, Nat.ne_of_lt (Heap.lt_size (N p hp).1), hideAll_none _ (List.mem_map_of_mem hp)⟩) BG (X₀.keeps st) (T.keeps st) (fun p hp => Heap.lt_size (N p hp).1)
end
theorem hide_list {h : Heap} {l : Addr} {items : Array Value} {as : List Addr} (x : h.IsList l items) (hn : l ∉ as) : (hideAll h as).IsList l items := let ⟨o, ho, r⟩ := x; ⟨o, hideAll_get _ ho hn, r⟩
theorem newList_L {M : Model} {A : Around} {E : Value → Shared → Prop} {s : Shared} {h₀ : Heap} {L : Addr} {m : Str → Option Value} {news : List (Addr × Obj)} {vs : List Value} {Q : Value → Shared → Prop} (F : Fr h₀ L s.heap m) (N : News h₀ L s.heap news)
    (h : ∀ l' h', Fr h₀ L h' m → News h₀ L h' ((l', W.listOf vs.toArray 0) :: news) → (∀ p ∈ news, p.1 < l') → @LT.lt Nat _ L l' → Q (.ref l') { s with heap := h' }) (hsz : vs.length ≤ sizeLine := by size_fits) : wpAny M A (newList vs) Q E s :=
  newList_N F N (fun h' F' N' => h _ h' F' N' (fun p hp => Heap.lt_size (N p hp).1) F.ns.lt) hsz
end Mine

namespace Mine
open PySem PySem.W PyProof.Rows PySem.Calls
/-- the truth of r is b, here and wherever everything stays -/
def TruthIs (h : Heap) (r : Value) (b : Bool) : Prop := ∀ (prog : Program) (w : World) (A : Around) (Q : Bool → Shared → Prop) (E : Value → Shared → Prop) (s : Shared), Kp h s.heap → (∀ tk, Q b { s with toks := tk }) → wpAny (model prog w) A (truthy r) Q E s
theorem TruthIs.go {h : Heap} {r : Value} {b : Bool} {prog : Program} {w : World} {A : Around} {Q : Bool → Shared → Prop} {E : Value → Shared → Prop} {s : Shared} (x : TruthIs h r b) (k : Kp h s.heap) (hq : ∀ tk, Q b { s with toks := tk }) : wpAny (model prog w) A (truthy r) Q E s := x prog w A Q E s k hq

/-- what a call of the function at f gives for each of xs: a value whose truth is q's -/
structure PredAt (w : World) (h : Heap) (f : Addr) (xs : List Int) (q : Int → Bool) : Prop where
  fn : FnAt f h
  go : ∀ (dp un : Nat) (gd : Option (List Code)) (cn : Str) (cs : Scope) (a : Addr) (ccd : Value) (cl : List (Str × Addr)) (outer : List Env) (A₀ : Around) (base h₀ : Heap) (L : Addr) (m : Str → Option Value) (s : Shared) (Q E : Value → Shared → Prop)
    (p : Program) (loose : List Str) (mean : ExcName → Option Value) (mg mb : Str → Option Value) (x : Int) (t : Tok), Below A₀ base outer h₀ → Fr h₀ L s.heap m → (hd.heap_39 w.params).In h₀ → Top p loose mean mg mb h₀ → cs.kind = .function →
    Kp h s.heap → x ∈ xs → dp + 2 < recursionLimit → un + 8 < cLine → (∀ r h' tk', Kp s.heap h' → TruthIs h' r (q x) → Q r { s with heap := h', toks := tk' }) →
    wpAny (model PySem.Challenge.rw_pu0009_01.row.prog w) (ktrTop dp un gd cn cs L a ccd cl outer) (call (.ref f) [.int x t]) Q E s
theorem PredAt.keeps {w : World} {h h' : Heap} {f : Addr} {xs : List Int} {q : Int → Bool} (x : PredAt w h f xs q) (k : Kp h h') : PredAt w h' f xs q :=
  ⟨let ⟨a, b, c, d, e⟩ := x.fn; ⟨a, b, c, d, k _ _ e⟩, fun dp un gd cn cs a ccd cl outer A₀ base h₀ L m s Q E p loose mean mg mb y t B F X T hk kp => x.go dp un gd cn cs a ccd cl outer A₀ base h₀ L m s Q E p loose mean mg mb y t B F X T hk (k.trans kp)⟩
theorem PredAt.fnK {w : World} {h h' : Heap} {f : Addr} {xs : List Int} {q : Int → Bool} (x : PredAt w h f xs q) (k : Kp h h') : FnAt f h' := (x.keeps k).fn

theorem pred_use {w : World} {h₀ : Heap} {f : Addr} {xs : List Int} {q : Int → Bool} {dp un : Nat} {gd : Option (List Code)} {cn : Str} {cs : Scope} {a : Addr} {ccd : Value} {cl : List (Str × Addr)} {outer : List Env} {A₀ : Around} {base : Heap} {L : Addr} {m : Str → Option Value} {s : Shared} {Q E : Value → Shared → Prop}
    {p : Program} {loose : List Str} {mean : ExcName → Option Value} {mg mb : Str → Option Value} {x : Int} {t : Tok} (P : PredAt w h₀ f xs q) (B : Below A₀ base outer h₀) (F : Fr h₀ L s.heap m) (X : (hd.heap_39 w.params).In h₀) (T : Top p loose mean mg mb h₀) (hk : cs.kind = .function)
    (hx : x ∈ xs) (hdp : dp + 2 < recursionLimit) (hun : un + 8 < cLine) {news : List (Addr × Obj)} (N : News h₀ L s.heap news)
    (ret : ∀ r h' tk', Fr h₀ L h' m → News h₀ L h' news → TruthIs h' r (q x) → Q r { s with heap := h', toks := tk' }) :
    wpAny (model PySem.Challenge.rw_pu0009_01.row.prog w) (ktrTop dp un gd cn cs L a ccd cl outer) (call (.ref f) [.int x t]) Q E s :=
  P.go dp un gd cn cs a ccd cl outer A₀ base h₀ L m s Q E p loose mean mg mb x t B F X T hk F.keep hx hdp hun fun r h' tk' k tr => ret r h' tk' (F.keeps k) (N.grown k) tr

local macro_rules | `(tactic| k_room) => `(tactic| ktr_room)
local macro_rules | `(tactic| k_units) => `(tactic| ktr_units)
local macro_rules | `(tactic| walk_at "callWith ref") => `(tactic| (k_here; k_dflt (refine' callWith_F ?k1 ?_; (case k1 => exact PredAt.fnK (by assumption) (Fr.keep (by k_asm))); k_whole)))
local macro_rules | `(tactic| walk_at "FnAt") => `(tactic| exact PredAt.fnK (by assumption) (Fr.keep (by k_asm)))
local macro_rules | `(tactic| walk_at "call ref") => `(tactic| (k_here; k_dflt (refine' pred_use ?k0 ?k1 ?k2 ?k3 ?k5 ?kK ?kx ?kd ?ku ?k4 ?_; (case k0 => assumption); (case k1 => k_asm); (case k2 => k_asm); (case k3 => k_asm); (case k5 => k_asm); (case k4 => k_asm); (case kK => exact rfl); (case kx => assumption); (case kd => ktr_room); (case ku => ktr_units); intro r9 h9 tk9 F9 N9 tr9; (try dsimp only); (try k_fold))))

local macro_rules | `(tactic| walk_at "truthy") => `(tactic| (k_here; refine TruthIs.go (by assumption) (Kp.refl _) ?_; intro tk9))
theorem filt_yes {q : Int → Bool} {pre yes no : List Int} {n : Int} (hq : q n = true) (h1 : yes = pre.filter q) (h2 : no = pre.filter (fun y => !q y)) : yes ++ [n] = (pre ++ [n]).filter q ∧ no = (pre ++ [n]).filter (fun y => !q y) ∧ (yes ++ [n]).length ≤ (pre ++ [n]).length ∧ no.length ≤ (pre ++ [n]).length := by
  have e1 : yes ++ [n] = (pre ++ [n]).filter q := by subst h1; simp [List.filter_append, hq]
  have e2 : no = (pre ++ [n]).filter (fun y => !q y) := by subst h2; simp [List.filter_append, hq]
  exact ⟨e1, e2, by rw [e1]; exact List.length_filter_le _ _, by rw [e2]; exact List.length_filter_le _ _⟩
theorem filt_no {q : Int → Bool} {pre yes no : List Int} {n : Int} (hq : q n = false) (h1 : yes = pre.filter q) (h2 : no = pre.filter (fun y => !q y)) : yes = (pre ++ [n]).filter q ∧ no ++ [n] = (pre ++ [n]).filter (fun y => !q y) ∧ yes.length ≤ (pre ++ [n]).length ∧ (no ++ [n]).length ≤ (pre ++ [n]).length := by
  have e1 : yes = (pre ++ [n]).filter q := by subst h1; simp [List.filter_append, hq]
  have e2 : no ++ [n] = (pre ++ [n]).filter (fun y => !q y) := by subst h2; simp [List.filter_append, hq]
  exact ⟨e1, e2, by rw [e1]; exact List.length_filter_le _ _, by rw [e2]; exact List.length_filter_le _ _⟩
local macro_rules | `(tactic| walk_at "newList") => `(tactic| (k_here; k_dflt (refine' newList_L ?k1 ?k2 ?_; (case k1 => k_asm); (case k2 => k_asm); k_whole); intro l' h' F' N' l1 l2; (try k_lt l1); (try k_sweep)))
/-- the tuple at t of the two lists at y and z, new ones -/
structure Parted (h h' : Heap) (t y z : Addr) (xs1 xs2 : List Int) : Prop where
  kp : Kp h h'
  lt : @LE.le Nat _ h.objs.size y ∧ @LT.lt Nat _ y z ∧ @LT.lt Nat _ z t
  ft : h.get? t = none
  fy : h.get? y = none
  fz : h.get? z = none
  all : ∃ ys zs ny nz, h'.get? t = some { cls := .type "tuple", data := .seq #[.ref y, .ref z] } ∧ h'.get? y = some (W.listOf (List.toArray ys) ny) ∧ h'.get? z = some (W.listOf (List.toArray zs) nz) ∧ IntsAre ys xs1 ∧ IntsAre zs xs2
theorem parted_of {h h' : Heap} {L' t y z : Addr} {m' : Str → Option Value} {ys zs : List Value} {ny nz : Nat} {xs1 xs2 ys1 ys2 : List Int} {own : List (Addr × Obj)} (F : Fr h L' h' m') (N : News h L' h' ((t, { cls := .type "tuple", data := .seq #[.ref y, .ref z] }) :: own))
    (hy : (y, W.listOf (List.toArray ys) ny) ∈ own) (hz : (z, W.listOf (List.toArray zs) nz) ∈ own) (i1 : IntsAre ys ys1) (i2 : IntsAre zs ys2) (e1 : ys1 = xs1) (e2 : ys2 = xs2) (n1 : @LT.lt Nat _ L' y) (n2 : @LT.lt Nat _ y z) (n3 : @LT.lt Nat _ z t) : Parted h h' t y z xs1 xs2 := by
  subst e1 e2
  have a := N _ (List.Mem.head _)
  have b := N _ (List.Mem.tail _ hy)
  have c := N _ (List.Mem.tail _ hz)
  exact ⟨F.keep, ⟨Nat.le_of_lt (Nat.lt_of_le_of_lt F.above n1), n2, n3⟩, a.2.2, b.2.2, c.2.2, ys, zs, ny, nz, a.1, b.1, c.1, i1, i2⟩
theorem split_call {w : World} {dp un : Nat} {gd : Option (List Code)} {cn : Str} {cs : Scope} {a : Addr} {ccd : Value} {cl : List (Str × Addr)} {outer : List Env} {A₀ : Around} {base h₀ : Heap} {L : Addr} {m : Str → Option Value} {s : Shared} {Q E : Value → Shared → Prop}
    {p : Program} {loose : List Str} {mean : ExcName → Option Value} {mg mb : Str → Option Value} {l f : Addr} {vs : List Value} {ns : List Int} {q : Int → Bool}
    (B : Below A₀ base outer h₀) (F : Fr h₀ L s.heap m) (X : (hd.heap_39 w.params).In h₀) (T : Top p loose mean mg mb h₀) (hk : cs.kind = .function)
    (hl : s.heap.IsList l vs.toArray) (hi : IntsAre vs ns) (hlen : ns.length < 2 ^ 20) (P : PredAt w s.heap f ns q) (hdp : dp + 4 < recursionLimit) (hun : un + 24 < cLine)
    (ret : ∀ t y z h' tk', Parted s.heap h' t y z (ns.filter q) (ns.filter fun y => !q y) → Q (.ref t) { s with heap := h', toks := tk' }) :
    wpAny (model PySem.Challenge.rw_pu0009_01.row.prog w) (ktrTop dp un gd cn cs L a ccd cl outer) (call (.ref 21) [.ref l, .ref f]) Q E s := by
  w_top off
  k_with_none
  revert X; k_fill; intro X
  refine wpAny_call ?_
  k_dflt (refine' enterK ?k1 ?k2 ?k3 ?k5 ?kA ?kF ?kK ?k6 ?k7 ?k8 ?k9 ?kB ?_ ?c2 ?c3 ?c4 ?c5; (case kA => exact rfl); (case kF => exact rfl); (case kK => assumption); (case k1 => k_asm); (case k2 => k_asm); (case k3 => k_asm); (case k5 => k_asm); (case k6 => k_is); (case k7 => k_is); (case k8 => ktr_room); (case k9 => exact BindsTo.of_eq rfl); (case c5 => decide); (case kB => exact locs rfl); (case c2 => exact rfl); (case c3 => exact rfl); (case c4 => exact rfl); k_whole; intro L' h' F' N' B' X' T'; (try dsimp only); (try k_fold))
  (k_with "pyIter ref" => k_state (fun pre yes no => yes = pre.filter q ∧ no = pre.filter (fun y => !q y) ∧ yes.length ≤ pre.length ∧ no.length ≤ pre.length) "yes" "no")
  k_with "state" => first | exact filt_yes (by assumption) (by assumption) (by assumption) | exact filt_no (by assumption) (by assumption) (by assumption)
  k_steps
  all_goals (refine ret _ _ _ _ _ (parted_of (by k_asm) (by k_asm) (by k_mem) (by k_mem) (by assumption) (by assumption) (by assumption) (by assumption) (by show @LT.lt Nat _ L' _; omega) (by (refine ltN ?_; (try dsimp only); omega)) (by (refine ltN ?_; (try dsimp only); omega))))
end Mine

namespace Mine
open PySem PySem.W PyProof.Rows PySem.Calls
section
variable {prog : Program} {w : World} {A₀ A : Around} {s : Shared} {base h₀ : Heap} {outer : List Env} {L : Addr} {m mg mb : Str → Option Value} {env : Env} {K : Frag} {p : Program} {loose : List Str} {mean : ExcName → Option Value}
  {R : Result → Shared → Prop} {name qual : Str} {params : Arguments} {body : Expr} {scope : Scope} {cl : List (Str × Addr)} {pm ctv : Value} {c' f : Addr} {args : Args} {binds : List (Str × Value)}
theorem enterLam (B : Below A₀ base outer h₀) (F : Fr h₀ L s.heap m) (X₀ : K.In h₀) (T : Top p loose mean mg mb h₀) (hA : A.frames = some (env :: outer)) (hf : env.frame = some L) (hke : env.scope.kind = .function)
    (ho : s.heap.get? f = some (kla_obj name qual params body scope cl pm c' ctv)) (hcd : s.heap.CodeRec (.ref c') qual) (hroom : A.depth < recursionLimit)
    (hbind : bindArgs (kla_fn name qual params body scope cl pm (.ref c') ctv) args = pure binds) (hloc : ∀ y ∈ binds, scope.names.lookup y.1 = some .local)
    (h : ∀ L' h₁, Fr s.heap L' h₁ (fun y => binds.reverse.lookup y) → News s.heap L' h₁ [] → Below A base (env :: outer) s.heap → K.In s.heap → Top p loose mean mg mb s.heap →
      wpAny (model prog w) (A.deeper (envX qual scope L' f (.ref c') cl)) (eval body (envX qual scope L' f (.ref c') cl))
        (fun v s' => R (.ok (.ret v)) s')
        (fun e s' => wpAny (model prog w) (A.deeper (envX qual scope L' f (.ref c') cl)) (leaving (envX qual scope L' f (.ref c') cl) e) (fun _ s'' => R (.error e) s'') (fun e' s'' => R (.error e') s'') s')
        { s with heap := h₁, toks := s.toks + binds.length })
    (hco : scope.isCoroutine = false) (hgen : scope.isGenerator = false) (hk : scope.kind = .function)
    (hcell : ∀ x ∈ scope.names, x.2 ≠ .cell) : codeAny (model prog w) A (.call (.ref f) args) R s := by
  refine kla_callFunE hroom ho rfl hco hgen rfl hcd ?_
  rw [hbind]
  refine wpAny_pure (wpAny_newFunctionEnv hcell hloc (fun h₁ hns hsb => ⟨((T.nolimit).keeps F.keep).fresh _ hsb, ?_⟩) hk)
  show codeAny _ _ (.expr body (envX qual scope s.heap.objs.size f (.ref c') cl)) _ _
  have hk₁ : ∀ b o, s.heap.get? b = some o → h₁.get? b = some o := fun b o e => hsb.extBut b o (Nat.ne_of_lt (Heap.lt_size e)) (Heap.get?_push_of_some _ e)
  exact kla_codeExpr (h s.heap.objs.size h₁ ⟨hns, hk₁, Nat.le_refl _⟩ News.nil (below_all B F hA hf hke) (X₀.keeps F.keep) (T.keeps F.keep))
end
section
variable {M : Model} {A : Around} {E : Value → Shared → Prop} {s : Shared} {h₀ : Heap} {L a : Addr} {m : Str → Option Value} {cn : Str} {cs : Scope} {ccd : Value} {cl : List (Str × Addr)} {x : Str} {pos : Pos} {v : Value} {Q : Value → Shared → Prop} {c : Addr}
/-- the cell at c holds v -/
def CellAt (h : Heap) (c : Addr) (v : Value) : Prop := ∃ o, h.get? c = some o ∧ o.data = .cell (some v)
theorem CellAt.keeps {h h' : Heap} {c : Addr} {v : Value} (x : CellAt h c v) (k : Kp h h') : CellAt h' c v := let ⟨o, e, d⟩ := x; ⟨o, k _ _ e, d⟩
theorem name_cell (F : Fr h₀ L s.heap m) (hc : cl.lookup x = some c) (hv : CellAt h₀ c v) (h : Q v s)
    (hk : cs.kind = .function := by rfl) (hx : (envX cn cs L a ccd cl).kindOf x = some .free := by rfl) (hb : (x == ("__debug__" : Str)) = false := by decide) (hn : (x == ("__classdict__" : Str)) = false := by decide) :
    wpAny M A (eval (.Name x pos) (envX cn cs L a ccd cl)) Q E s :=
  wpAny_Name (wpAny_loadName_free hk hx hc (hv.keeps F.keep) h hn) hb
end
def lamAt (i : Nat) : Option (Arguments × Expr × Scope) := match PySem.Challenge.pw_pu0009_01.main.body[i]? with
  | some (.FunctionDef _ _ [.Return (some (.Lambda a b sc _)) _] _ _ _ _ _ _ _) => some (a, b, sc)
  | _ => none
theorem truth_bool (h : Heap) (b : Bool) : TruthIs h (.bool b) b := fun _ _ _ _ _ s _ hq => wpAny_truthy_bool (hq s.toks)
theorem truth_list {h : Heap} {L r : Addr} {h₀ : Heap} {its : List Value} {n : Nat} {news : List (Addr × Obj)} {b : Bool} (N : News h₀ L h news) (hm : (r, W.listOf its.toArray n) ∈ news) (hlen : its.length < 8) (hb : decide (its.length > 0) = b) : TruthIs h (.ref r) b := fun prog w A Q E s k hq => by
  subst hb
  have hl : s.heap.IsList r its.toArray := ⟨_, k _ _ (N _ hm).1, rfl, n, rfl⟩
  refine wpAny_truthy_list hl (by rw [List.size_toArray]; omega) ?_
  have e : (!its.toArray.isEmpty) = decide (its.length > 0) := by cases its <;> simp
  rw [e]
  exact hq _
local macro_rules | `(tactic| k_room) => `(tactic| ktr_room)
local macro_rules | `(tactic| k_units) => `(tactic| ktr_units)
local macro_rules | `(tactic| walk_at "eval Name") => `(tactic| (k_here; k_dflt (refine' name_cell ?F ?c ?v ?_ ?a ?b; (case a => rfl); (case b => rfl); (case F => k_asm); (case c => assumption); (case v => assumption); k_whole)))
theorem lacks_pred {w : World} {h : Heap} {f c c1 c2 l : Addr} {name qual : Str} {params : Arguments} {body : Expr} {scope : Scope} {cl : List (Str × Addr)} {pm ctv : Value} {ws : List Value} {ms xs : List Int} {b : Int} {tb : Tok}
    (hlam : lamAt 6 = some (params, body, scope)) (hf : h.get? f = some (kla_obj name qual params body scope cl pm c ctv)) (hcd : h.CodeRec (.ref c) qual)
    (k1 : cl.lookup (Str.ofString "numbers") = some c1) (k2 : cl.lookup (Str.ofString "bit") = some c2) (v1 : CellAt h c1 (.ref l)) (v2 : CellAt h c2 (.int b tb)) (hl : h.IsList l ws.toArray) (hi : IntsAre ws ms) (hlen : ms.length < 2 ^ 20)
    (hx : ∀ x ∈ xs, 0 ≤ x ∧ x < (ms.length : Int)) (hb : 0 < b) (hb8 : b ≤ 8) : PredAt w h f xs (fun x => ((ms.getD x.toNat 0).fdiv b).fmod 2 == 0) := by
  with_unfolding_all (change some (_, _, _) = some (_, _, _) at hlam)
  cases hlam
  refine ⟨⟨_, _, _, _, hf⟩, ?_⟩
  intro dp un gd cn cs a ccd cl₀ outer A₀ base h₀ L m s Q E p loose mean mg mb x t B F X T hk kp hmem hdp hun ret
  replace hf := kp _ _ hf
  replace hcd := hcd.keeps kp
  replace v1 := v1.keeps kp
  replace v2 := v2.keeps kp
  replace hl : s.heap.IsList l ws.toArray := hl.at fun o e => kp l o e
  obtain ⟨hx0, hx1⟩ := hx x hmem
  clear kp hmem hx
  w_top off
  k_with_none
  revert X; k_fill; intro X
  refine wpAny_call ?_
  k_dflt (refine' enterLam ?k1 ?k2 ?k3 ?k5 ?kA ?kF ?kK ?k6 ?k7 ?k8 ?k9 ?kB ?_ ?c2 ?c3 ?c4 ?c5; (case kA => exact rfl); (case kF => exact rfl); (case kK => assumption); (case k1 => k_asm); (case k2 => k_asm); (case k3 => k_asm); (case k5 => k_asm); (case k6 => exact hf); (case k7 => assumption); (case k8 => ktr_room); (case k9 => exact rfl); (case c5 => decide); (case kB => exact locs rfl); (case c2 => exact rfl); (case c3 => exact rfl); (case c4 => exact rfl); k_whole; intro L' h' F' N' B' X' T'; (try dsimp only); (try k_fold))
  k_steps
  all_goals exact ret _ _ _ (Fr.keep (by k_asm)) (truth_bool _ _)
theorem held_pred {w : World} {h : Heap} {f c c2 : Addr} {name qual : Str} {params : Arguments} {body : Expr} {scope : Scope} {cl : List (Str × Addr)} {pm ctv : Value} {xs : List Int} {b : Int} {tb : Tok}
    (hlam : lamAt 7 = some (params, body, scope)) (hf : h.get? f = some (kla_obj name qual params body scope cl pm c ctv)) (hcd : h.CodeRec (.ref c) qual)
    (k2 : cl.lookup (Str.ofString "bit") = some c2) (v2 : CellAt h c2 (.int b tb))
    (hb : 0 < b) (hb8 : b ≤ 8) : PredAt w h f xs (fun x => (x.fdiv b).fmod 2 == 0) := by
  with_unfolding_all (change some (_, _, _) = some (_, _, _) at hlam)
  cases hlam
  refine ⟨⟨_, _, _, _, hf⟩, ?_⟩
  intro dp un gd cn cs a ccd cl₀ outer A₀ base h₀ L m s Q E p loose mean mg mb x t B F X T hk kp hmem hdp hun ret
  replace hf := kp _ _ hf
  replace hcd := hcd.keeps kp
  replace v2 := v2.keeps kp
  clear kp hmem
  w_top off
  k_with_none
  revert X; k_fill; intro X
  refine wpAny_call ?_
  k_dflt (refine' enterLam ?k1 ?k2 ?k3 ?k5 ?kA ?kF ?kK ?k6 ?k7 ?k8 ?k9 ?kB ?_ ?c2 ?c3 ?c4 ?c5; (case kA => exact rfl); (case kF => exact rfl); (case kK => assumption); (case k1 => k_asm); (case k2 => k_asm); (case k3 => k_asm); (case k5 => k_asm); (case k6 => exact hf); (case k7 => assumption); (case k8 => ktr_room); (case k9 => exact rfl); (case c5 => decide); (case kB => exact locs rfl); (case c2 => exact rfl); (case c3 => exact rfl); (case c4 => exact rfl); k_whole; intro L' h' F' N' B' X' T'; (try dsimp only); (try k_fold))
  k_steps
  · exact ret _ _ _ (Fr.keep (by k_asm)) (truth_list (its := []) (by k_asm) (by k_mem) (by simp) (by simp_all))
  · exact ret _ _ _ (Fr.keep (by k_asm)) (truth_list (its := [_]) (by k_asm) (by k_mem) (by simp) (by simp_all))
end Mine

namespace Mine
open PySem PySem.W PyProof.Rows PySem.Calls PySem.Spec
abbrev cl (xs : List Int) (i : Int) : Int := (xs.countP (fun y => decide (y < i)) : Int)
abbrev cr (xs : List Int) (i : Int) : Int := (xs.countP (fun y => decide (y ≤ i)) : Int)
def led {α : Type} (outs : List α) : List (List Int × List Int) → Int → Int → List α
  | [], i, j => if i = j then [] else (outs.drop i.toNat).take (j.toNat - i.toNat)
  | (xs, ys) :: ds, i, j => if i = j then [] else led outs ds (cl xs i) (cl xs j) ++ led outs ds ((xs.length : Int) + cr ys (i - 1)) ((xs.length : Int) + cr ys (j - 1))
theorem led_same {α : Type} (outs : List α) (ds : List (List Int × List Int)) (i : Int) : led outs ds i i = [] := by
  cases ds <;> simp [led]
theorem led_nil {α : Type} (outs : List α) {i j : Int} (h : ¬ i = j) : led outs [] i j = (outs.drop i.toNat).take (j.toNat - i.toNat) := by simp [led, h]
theorem led_cons {α : Type} (outs : List α) {xs ys : List Int} {ds : List (List Int × List Int)} {i j : Int} (h : ¬ i = j) : led outs ((xs, ys) :: ds) i j = led outs ds (cl xs i) (cl xs j) ++ led outs ds ((xs.length : Int) + cr ys (i - 1)) ((xs.length : Int) + cr ys (j - 1)) := by simp [led, h]
theorem led_len {α : Type} (outs : List α) : ∀ (ds : List (List Int × List Int)) (i j : Int), (led outs ds i j).length ≤ 2 ^ ds.length * outs.length
  | [], i, j => by
    by_cases h : i = j
    · subst h; rw [led_same]; simp
    · rw [led_nil outs h]; simp; omega
  | (xs, ys) :: ds, i, j => by
    by_cases h : i = j
    · subst h; rw [led_same]; simp
    · rw [led_cons outs h, List.length_append, List.length_cons, Nat.pow_succ]
      have h1 := led_len outs ds (cl xs i) (cl xs j)
      have h2 := led_len outs ds ((xs.length : Int) + cr ys (i - 1)) ((xs.length : Int) + cr ys (j - 1))
      have e : 2 ^ ds.length * 2 * outs.length = 2 ^ ds.length * outs.length + 2 ^ ds.length * outs.length := by rw [Nat.mul_assoc, Nat.mul_comm 2, ← Nat.mul_assoc]; omega
      omega
theorem led_map {α β : Type} (g : α → β) (outs : List α) : ∀ (ds : List (List Int × List Int)) (i j : Int), (led outs ds i j).map g = led (outs.map g) ds i j
  | [], i, j => by
    by_cases h : i = j
    · subst h; rw [led_same, led_same]; rfl
    · rw [led_nil outs h, led_nil _ h, List.map_take, List.map_drop]
  | (xs, ys) :: ds, i, j => by
    by_cases h : i = j
    · subst h; rw [led_same, led_same]; rfl
    · rw [led_cons outs h, led_cons _ h, List.map_append, led_map g, led_map g]

/-- the values vs are tuples of two rising lists each -/
inductive LayersAt (h : Heap) : List Value → List (List Int × List Int) → Prop
  | nil : LayersAt h [] []
  | cons {t a b : Addr} {va vb : List Value} {xs ys : List Int} {vs : List Value} {ds : List (List Int × List Int)} : IsTup h t #[.ref a, .ref b] → h.IsList a va.toArray → IntsAre va xs → h.IsList b vb.toArray → IntsAre vb ys → xs.Pairwise (· < ·) → ys.Pairwise (· < ·) →
      xs.length < 2 ^ 19 → ys.length < 2 ^ 19 → LayersAt h vs ds → LayersAt h (.ref t :: vs) ((xs, ys) :: ds)
theorem LayersAt.keeps {h h' : Heap} (k : Kp h h') : ∀ {vs : List Value} {ds : List (List Int × List Int)}, LayersAt h vs ds → LayersAt h' vs ds
  | _, _, .nil => .nil
  | _, _, .cons t a i b j p q l1 l2 r => .cons (t.keeps k) (a.at fun o e => k _ o e) i (b.at fun o e => k _ o e) j p q l1 l2 (r.keeps k)
theorem LayersAt.length {h : Heap} : ∀ {vs : List Value} {ds : List (List Int × List Int)}, LayersAt h vs ds → vs.length = ds.length
  | _, _, .nil => rfl
  | _, _, .cons _ _ _ _ _ _ _ _ _ r => by rw [List.length_cons, List.length_cons, r.length]
def layerData (d : List Int × List Int) : PyData := .tuple [.list (d.1.map .int), .list (d.2.map .int)]
theorem reads_ints {h : Heap} {a : Addr} {vs : List Value} {ns : List Int} (hl : h.IsList a vs.toArray) (hi : IntsAre vs ns) : Reads h (.ref a) (.list (ns.map .int)) [a] := reads_newData hl (ke_carried hi)
theorem layers_reads {h : Heap} : ∀ {vs : List Value} {ds : List (List Int × List Int)}, LayersAt h vs ds → ∃ as, ReadsAll h vs (ds.map layerData) as
  | _, _, .nil => ⟨_, .nil⟩
  | _, _, .cons t a i b j _ _ _ _ r => by
    obtain ⟨as, hr⟩ := layers_reads r
    obtain ⟨o, ho, hc, n, hd⟩ := t
    exact ⟨_, .cons (.tuple ho hc hd (.cons (reads_ints a i) (.cons (reads_ints b j) .nil))) hr⟩
theorem canLay_ints (ns : List Int) : PyData.canLay0 (.list (ns.map .int)) = true := by simp [PyData.canLay0, ke_canLayAll0]
theorem canLay_layers : ∀ ds : List (List Int × List Int), PyData.canLayAll0 (ds.map layerData) = true
  | [] => rfl
  | d :: r => by simp [PyData.canLayAll0, PyData.canLay0, layerData, ke_canLayAll0, canLay_layers r]
theorem depth_layers : ∀ ds : List (List Int × List Int), PyData.depthAll (ds.map layerData) ≤ 2
  | [] => by simp [PyData.depthAll]
  | d :: r => by
    have := depth_layers r
    simp only [List.map_cons, PyData.depthAll, layerData, PyData.depth, ke_depthAll]
    omega
theorem shaped_layers (ds : List (List Int × List Int)) : SeqAt.shaped (.list (ds.map layerData)) = true := by
  have := depth_layers ds
  simp only [SeqAt.shaped, PyData.canLay0, PyData.depth, canLay_layers, Bool.true_and, Bool.and_true]
  simp
  omega
end Mine

namespace Mine
open PySem PySem.W PyProof.Rows PySem.Calls
abbrev q0 (b : Int) : Int → Bool := fun x => (x.fdiv b).fmod 2 == 0
theorem part_len {α : Type} (q : α → Bool) (xs : List α) : (xs.filter q).length + (xs.filter fun y => !q y).length = xs.length := by
  induction xs with
  | nil => rfl
  | cons x xs ih => cases h : q x <;> simp [List.filter_cons, h] <;> omega
theorem all_part {α : Type} {C : α → Prop} {q q' : α → Bool} {xs : List α} (h : ∀ x ∈ xs, C x) : ∀ x ∈ xs.filter q ++ xs.filter q', C x := by
  intro x hx
  rcases List.mem_append.mp hx with hx | hx
  · exact h x (List.mem_filter.mp hx).1
  · exact h x (List.mem_filter.mp hx).1
theorem range_bounds (n : Nat) : ∀ x ∈ rangeKs 0 ((n : Int) - 0).toNat, 0 ≤ x ∧ x < (n : Int) := by
  intro x hx
  have := mem_rangeKs hx
  omega
theorem cell_news {h₀ h : Heap} {L c : Addr} {o : Obj} {v : Value} {news : List (Addr × Obj)} (N : News h₀ L h news) (hm : (c, o) ∈ news) (hd : o.data = .cell (some v)) : CellAt h c v := ⟨o, (N _ hm).1, hd⟩

theorem split_use {w : World} {dp un : Nat} {gd : Option (List Code)} {cn : Str} {cs : Scope} {a : Addr} {ccd : Value} {cl : List (Str × Addr)} {outer : List Env} {A₀ : Around} {base h₀ : Heap} {L : Addr} {m : Str → Option Value} {s : Shared} {Q E : Value → Shared → Prop} {news : List (Addr × Obj)}
    {p : Program} {loose : List Str} {mean : ExcName → Option Value} {mg mb : Str → Option Value} {l f : Addr} {vs : List Value} {ns : List Int} {q : Int → Bool}
    (B : Below A₀ base outer h₀) (F : Fr h₀ L s.heap m) (X : (hd.heap_39 w.params).In h₀) (N : News h₀ L s.heap news) (T : Top p loose mean mg mb h₀) (hk : cs.kind = .function)
    (hl : s.heap.IsList l vs.toArray) (hi : IntsAre vs ns) (hlen : ns.length < 2 ^ 20) (P : PredAt w s.heap f ns q) (hdp : dp + 4 < recursionLimit) (hun : un + 24 < cLine)
    (ret : ∀ t y z ys zs ny nz h' tk', Fr h₀ L h' m → News h₀ L h' ((t, { cls := .type "tuple", data := .seq #[.ref y, .ref z] }) :: (y, W.listOf (List.toArray ys) ny) :: (z, W.listOf (List.toArray zs) nz) :: news) → IntsAre ys (ns.filter q) → IntsAre zs (ns.filter fun y => !q y) →
      (∀ p ∈ news, p.1 < y) → @LT.lt Nat _ y z ∧ @LT.lt Nat _ z t → Q (.ref t) { s with heap := h', toks := tk' }) :
    wpAny (model PySem.Challenge.rw_pu0009_01.row.prog w) (ktrTop dp un gd cn cs L a ccd cl outer) (call (.ref 21) [.ref l, .ref f]) Q E s :=
  split_call B F X T hk hl hi hlen P hdp hun fun t y z h' tk' R => by
    obtain ⟨kp, ⟨lt0, lt1⟩, ft, fy, fz, ys, zs, ny, nz, a1, a2, a3, i1, i2⟩ := R
    have hL := F.ns
    have none : ∀ {x : Addr}, s.heap.get? x = none → x ≠ L ∧ h₀.get? x = none := fun {x} e => by
      refine ⟨fun q => ?_, ?_⟩
      · obtain ⟨o, es, ep, ho, _⟩ := hL
        rw [q, ho] at e; cases e
      · cases q : h₀.get? x with
        | none => rfl
        | some o => have := F.keep _ _ q; rw [e] at this; cases this
    refine ret t y z ys zs ny nz h' tk' (F.keeps kp) ?_ i1 i2 (fun p hp => Nat.lt_of_lt_of_le (Heap.lt_size (N p hp).1) lt0) lt1
    intro q hq
    rcases List.mem_cons.mp hq with rfl | hq
    · exact ⟨a1, none ft⟩
    · rcases List.mem_cons.mp hq with rfl | hq
      · exact ⟨a2, none fy⟩
      · rcases List.mem_cons.mp hq with rfl | hq
        · exact ⟨a3, none fz⟩
        · exact N.grown kp q hq
section
variable {h₀ h : Heap} {L : Addr} {t y z f c : Addr} {n : Nat} {ot oy oz oF oc o1 o2 : Obj} {rest : List (Addr × Obj)}
theorem dropA (N : News h₀ L h ((t, ot) :: (y, oy) :: (z, oz) :: (f, oF) :: (c, oc) :: (n + 1 + 1, o1) :: (n + 1, o2) :: rest)) : News h₀ L h ((t, ot) :: (y, oy) :: (z, oz) :: (c, oc) :: rest) :=
  fun p hp => N p (by rcases hp with _ | ⟨_, hp⟩; · exact .head _
                      rcases hp with _ | ⟨_, hp⟩; · exact .tail _ (.head _)
                      rcases hp with _ | ⟨_, hp⟩; · exact .tail _ (.tail _ (.head _))
                      rcases hp with _ | ⟨_, hp⟩; · exact .tail _ (.tail _ (.tail _ (.tail _ (.head _))))
                      exact .tail _ (.tail _ (.tail _ (.tail _ (.tail _ (.tail _ (.tail _ hp)))))))
theorem dropB (N : News h₀ L h ((t, ot) :: (y, oy) :: (z, oz) :: (f, oF) :: (n + 1 + 1, o1) :: (n + 1, o2) :: rest)) : News h₀ L h ((t, ot) :: (y, oy) :: (z, oz) :: rest) :=
  fun p hp => N p (by rcases hp with _ | ⟨_, hp⟩; · exact .head _
                      rcases hp with _ | ⟨_, hp⟩; · exact .tail _ (.head _)
                      rcases hp with _ | ⟨_, hp⟩; · exact .tail _ (.tail _ (.head _))
                      exact .tail _ (.tail _ (.tail _ (.tail _ (.tail _ (.tail _ hp))))))
theorem dropC (N : News h₀ L h ((t, ot) :: (y, oy) :: (z, oz) :: (f, oF) :: (c, oc) :: (n + 1, o1) :: rest)) : News h₀ L h ((t, ot) :: (y, oy) :: (z, oz) :: (c, oc) :: rest) :=
  fun p hp => N p (by rcases hp with _ | ⟨_, hp⟩; · exact .head _
                      rcases hp with _ | ⟨_, hp⟩; · exact .tail _ (.head _)
                      rcases hp with _ | ⟨_, hp⟩; · exact .tail _ (.tail _ (.head _))
                      rcases hp with _ | ⟨_, hp⟩; · exact .tail _ (.tail _ (.tail _ (.tail _ (.head _))))
                      exact .tail _ (.tail _ (.tail _ (.tail _ (.tail _ (.tail _ hp))))))
theorem dropD (N : News h₀ L h ((t, ot) :: (y, oy) :: (z, oz) :: (f, oF) :: (n + 1, o1) :: rest)) : News h₀ L h ((t, ot) :: (y, oy) :: (z, oz) :: rest) :=
  fun p hp => N p (by rcases hp with _ | ⟨_, hp⟩; · exact .head _
                      rcases hp with _ | ⟨_, hp⟩; · exact .tail _ (.head _)
                      rcases hp with _ | ⟨_, hp⟩; · exact .tail _ (.tail _ (.head _))
                      exact .tail _ (.tail _ (.tail _ (.tail _ (.tail _ hp)))))
theorem dropE {D : Addr} {oD : Obj} (N : News h₀ L h ((D, oD) :: (t, { cls := .type "tuple", data := .seq #[.ref y, .ref z] }) :: (y, oy) :: (z, oz) :: rest)) : News h₀ L h ((D, oD) :: rest) :=
  fun p hp => N p (by rcases hp with _ | ⟨_, hp⟩; · exact .head _
                      exact .tail _ (.tail _ (.tail _ (.tail _ hp))))
end
theorem len_eq {prog : Program} {w : World} {A : Around} {E : Value → Shared → Prop} {s : Shared} {l : Addr} {vs : List Value} {ns : List Int} {n : Nat} {Q : Value → Shared → Prop} (hl : s.heap.IsList l vs.toArray) (hi : IntsAre vs ns) (e : ns.length = n) (hn : (n : Int) < 2 ^ 62)
    (h : Q (.int (n : Int) (s.toks + 1)) { s with toks := s.toks + 1 + 1 }) : wpAny (model prog w) A (call (.builtin "len") [.ref l]) Q E s := by
  subst e
  exact len_ints_fit hl hi (by omega) h
/-- the ledger bears the layers; the last list: the entries that do -/
inductive LayersIn (news : List (Addr × Obj)) : List Value → List (List Int × List Int) → List (Addr × Obj) → Prop
  | nil : LayersIn news [] [] []
  | cons {t a b : Addr} {va vb : List Value} {xs ys : List Int} {vs : List Value} {ds : List (List Int × List Int)} {n1 n2 : Nat} {st : List (Addr × Obj)} : (t, ({ cls := .type "tuple", data := .seq #[.ref a, .ref b] } : Obj)) ∈ news → (a, W.listOf va.toArray n1) ∈ news → IntsAre va xs → (b, W.listOf vb.toArray n2) ∈ news → IntsAre vb ys →
      xs.Pairwise (· < ·) → ys.Pairwise (· < ·) → xs.length < 2 ^ 19 → ys.length < 2 ^ 19 → LayersIn news vs ds st →
      LayersIn news (.ref t :: vs) ((xs, ys) :: ds) ((t, { cls := .type "tuple", data := .seq #[.ref a, .ref b] }) :: (a, W.listOf va.toArray n1) :: (b, W.listOf vb.toArray n2) :: st)
theorem LayersIn.sub {news : List (Addr × Obj)} {vs : List Value} {ds : List (List Int × List Int)} {st : List (Addr × Obj)} (x : LayersIn news vs ds st) : ∀ p ∈ st, p ∈ news := by
  induction x with
  | nil => intro p hp; cases hp
  | cons h1 h2 _ h3 _ _ _ _ _ _ ih =>
    intro p hp
    rcases List.mem_cons.mp hp with rfl | hp
    · exact h1
    · rcases List.mem_cons.mp hp with rfl | hp
      · exact h2
      · rcases List.mem_cons.mp hp with rfl | hp
        · exact h3
        · exact ih p hp
theorem LayersIn.at {news : List (Addr × Obj)} {vs : List Value} {ds : List (List Int × List Int)} {st : List (Addr × Obj)} (x : LayersIn news vs ds st) : ∀ h : Heap, (∀ p ∈ st, h.get? p.1 = some p.2) → LayersAt h vs ds := by
  induction x with
  | nil => intro h _; exact .nil
  | cons h1 h2 i1 h3 i2 p1 p2 l1 l2 _ ih =>
    intro h hs
    exact .cons ⟨_, hs _ (.head _), rfl, _, rfl⟩ ⟨_, hs _ (.tail _ (.head _)), rfl, _, rfl⟩ i1 ⟨_, hs _ (.tail _ (.tail _ (.head _))), rfl, _, rfl⟩ i2 p1 p2 l1 l2 (ih h fun p hp => hs p (.tail _ (.tail _ (.tail _ hp))))
theorem range_pw (a : Int) (n : Nat) : (rangeKs a n).Pairwise (· < ·) := by
  unfold rangeKs
  rw [List.pairwise_map]
  refine List.Pairwise.imp ?_ List.pairwise_lt_range
  intro x y h; omega
theorem filter_pw {q : Int → Bool} {xs : List Int} (h : xs.Pairwise (· < ·)) : (xs.filter q).Pairwise (· < ·) := h.filter q
theorem filter_lt {q : Int → Bool} {xs : List Int} {n : Nat} (h : xs.length < n) : (xs.filter q).length < n := Nat.lt_of_le_of_lt (List.length_filter_le _ _) h
theorem range_lt {a : Int} {k : Int} {n : Nat} (h : k.toNat < n) : (rangeKs a k.toNat).length < n := by rw [rangeKs_length]; exact h
abbrev rng (ns : List Int) : List Int := rangeKs 0 ((ns.length : Int) - 0).toNat
abbrev qs (b : Int) (ms : List Int) : Int → Bool := fun x => ((ms.getD x.toNat 0).fdiv b).fmod 2 == 0
abbrev partN (b : Int) (ns : List Int) : List Int := (ns.filter fun x => (x.fdiv b).fmod 2 == 0) ++ (ns.filter fun y => !((y.fdiv b).fmod 2 == 0))
abbrev partP (b : Int) (ns ps : List Int) : List Int := (ps.filter fun x => ((ns.getD x.toNat 0).fdiv b).fmod 2 == 0) ++ (ps.filter fun y => !(((ns.getD y.toNat 0).fdiv b).fmod 2 == 0))
abbrev layerOf (b : Int) (n : List Int) (ms : List Int) : List Int × List Int := ((rng n).filter (fun x => ((ms.getD x.toNat 0).fdiv b).fmod 2 == 0), (rng n).filter fun y => !(((ms.getD y.toNat 0).fdiv b).fmod 2 == 0))
abbrev numbersOf (ns : List Int) : List Int := partN 1 (partN 2 (partN 4 ns))
abbrev placesOf (ns : List Int) : List Int := partP 1 ns (partP 2 ns (partP 4 ns (rng ns)))
abbrev layersOf (ns : List Int) : List (List Int × List Int) := [layerOf 4 ns ns, layerOf 2 ns (partN 4 ns), layerOf 1 ns (partN 2 (partN 4 ns))]
/-- what _law_layers hands back -/
structure LayersOut (s : Heap) (h' : Heap) (ns : List Int) (t ll pl nl : Addr) (vL vP vN : List Value) (n1 n2 n3 : Nat) (stat : List (Addr × Obj)) : Prop where
  kp : Kp (hideAll s [48, 41]) h'
  new : ∀ p ∈ (t, ({ cls := .type "tuple", data := .seq #[.ref ll, .ref pl, .ref nl] } : Obj)) :: (ll, W.listOf vL.toArray n1) :: (pl, W.listOf vP.toArray n2) :: (nl, W.listOf vN.toArray n3) :: stat, h'.get? p.1 = some p.2 ∧ (hideAll s [48, 41]).get? p.1 = none ∧ p.1 ≠ 48 ∧ p.1 ≠ 41
  lay : ∀ h : Heap, (∀ p ∈ stat, h.get? p.1 = some p.2) → LayersAt h vL (layersOf ns)
  isInts : IntsAre vP (placesOf ns) ∧ IntsAre vN (numbersOf ns)
  tabs : ∃ p48 p41, h'.get? 48 = some (tabObj p48) ∧ h'.get? 41 = some (tabObj p41)
theorem layersOut_of {s h' g : Heap} {L' : Addr} {m' : Str → Option Value} {news st : List (Addr × Obj)} {ns : List Int} {t ll pl nl : Addr} {vL vP vN : List Value} {n1 n2 n3 : Nat} (hg : hideAll s [48, 41] = g) (F : Fr g L' h' m') (N : News g L' h' news)
    (ht : (t, ({ cls := .type "tuple", data := .seq #[.ref ll, .ref pl, .ref nl] } : Obj)) ∈ news) (hl : (ll, W.listOf vL.toArray n1) ∈ news) (hp : (pl, W.listOf vP.toArray n2) ∈ news) (hn : (nl, W.listOf vN.toArray n3) ∈ news)
    (hL : LayersIn news vL (layersOf ns) st) (i1 : IntsAre vP (placesOf ns)) (i2 : IntsAre vN (numbersOf ns)) (o48 : ∃ o, (48, o) ∈ news ∧ ∃ ps, o = tabObj ps) (o41 : ∃ o, (41, o) ∈ news ∧ ∃ ps, o = tabObj ps) : LayersOut s h' ns t ll pl nl vL vP vN n1 n2 n3 st := by
  subst hg
  have no : ∀ p ∈ st, p.1 ≠ 48 ∧ p.1 ≠ 41 := by
    obtain ⟨a, ha, pa, rfl⟩ := o48
    obtain ⟨b, hb, pb, rfl⟩ := o41
    have key : ∀ {vs : List Value} {ds : List (List Int × List Int)} {st : List (Addr × Obj)}, LayersIn news vs ds st → ∀ p ∈ st, ∃ its n c, p.2 = ({ cls := .type c, data := .seq its n } : Obj) := by
      intro vs ds st x
      induction x with
      | nil => intro p hp; cases hp
      | cons h1 h2 _ h3 _ _ _ _ _ _ ih =>
        intro p hp
        rcases List.mem_cons.mp hp with rfl | hp
        · exact ⟨_, _, _, rfl⟩
        · rcases List.mem_cons.mp hp with rfl | hp
          · exact ⟨_, _, _, rfl⟩
          · rcases List.mem_cons.mp hp with rfl | hp
            · exact ⟨_, _, _, rfl⟩
            · exact ih p hp
    intro p hp
    obtain ⟨its, n, c, e⟩ := key hL p hp
    have hpn := (N p (hL.sub p hp)).1
    refine ⟨fun q => ?_, fun q => ?_⟩
    · rw [q, (N _ ha).1, e] at hpn; cases hpn
    · rw [q, (N _ hb).1, e] at hpn; cases hpn
  have no' : ∀ {p : Addr × Obj} {its : Array Value} {n : Nat} {c : String}, p ∈ news → p.2 = ({ cls := .type c, data := .seq its n } : Obj) → p.1 ≠ 48 ∧ p.1 ≠ 41 := by
    obtain ⟨a, ha, pa, rfl⟩ := o48
    obtain ⟨b, hb, pb, rfl⟩ := o41
    intro p its n c hp e
    have hpn := (N p hp).1
    refine ⟨fun q => ?_, fun q => ?_⟩
    · rw [q, (N _ ha).1, e] at hpn; cases hpn
    · rw [q, (N _ hb).1, e] at hpn; cases hpn
  refine ⟨F.keep, ?_, hL.at, ⟨i1, i2⟩, ?_⟩
  case refine_2 =>
    obtain ⟨a, ha, pa, rfl⟩ := o48
    obtain ⟨b, hb, pb, rfl⟩ := o41
    exact ⟨pa, pb, (N _ ha).1, (N _ hb).1⟩
  intro p hp'
  have mk : ∀ {q : Addr × Obj}, q ∈ news → q.1 ≠ 48 ∧ q.1 ≠ 41 → h'.get? q.1 = some q.2 ∧ (hideAll s [48, 41]).get? q.1 = none ∧ q.1 ≠ 48 ∧ q.1 ≠ 41 := fun hq nq => ⟨(N _ hq).1, (N _ hq).2.2, nq⟩
  rcases List.mem_cons.mp hp' with rfl | hp'
  · exact mk ht (no' ht rfl)
  · rcases List.mem_cons.mp hp' with rfl | hp'
    · exact mk hl (no' hl rfl)
    · rcases List.mem_cons.mp hp' with rfl | hp'
      · exact mk hp (no' hp rfl)
      · rcases List.mem_cons.mp hp' with rfl | hp'
        · exact mk hn (no' hn rfl)
        · exact mk (hL.sub p hp') (no p hp')
end Mine

namespace Mine
open PySem PySem.W PyProof.Rows PySem.Calls PySem.Spec
/-- a new list at r -/
structure NewList (h h' : Heap) (r : Addr) (vs : List Value) : Prop where
  kp : Kp h h'
  lt : @LE.le Nat _ h.objs.size r
  lst : ∃ n, h'.get? r = some (W.listOf vs.toArray n)
def LedC (w : World) (ds : List (List Int × List Int)) : Prop :=
  ∀ (dp un : Nat) (gd : Option (List Code)) (cn : Str) (cs : Scope) (a : Addr) (ccd : Value) (cl : List (Str × Addr)) (outer : List Env) (A₀ : Around) (base h₀ : Heap) (L : Addr) (m : Str → Option Value) (s : Shared) (Q E : Value → Shared → Prop)
    (p : Program) (loose : List Str) (mean : ExcName → Option Value) (mg mb : Str → Option Value) (la oa : Addr) (vs outs : List Value) (i j : Int) (ti tj : Tok),
    Below A₀ base outer h₀ → Fr h₀ L s.heap m → (hd.heap_39 w.params).In h₀ → Top p loose mean mg mb h₀ → cs.kind = .function →
    s.heap.IsList la vs.toArray → LayersAt s.heap vs ds → s.heap.IsList oa outs.toArray → outs.length < 64 → ds.length ≤ 3 → 0 ≤ i → i < 2 ^ 20 → 0 ≤ j → j < 2 ^ 20 →
    dp + ds.length + 4 < recursionLimit → un + 8 * ds.length + 96 < cLine →
    (∀ r h' tk', NewList s.heap h' r (led outs ds i j) → Q (.ref r) { s with heap := h', toks := tk' }) →
    wpAny (model PySem.Challenge.rw_pu0009_01.row.prog w) (ktrTop dp un gd cn cs L a ccd cl outer) (call (.ref 72) [.ref la, .ref oa, .int i ti, .int j tj]) Q E s
theorem eq_layers {prog : Program} {w : World} {A : Around} {E : Value → Shared → Prop} {s : Shared} {a b : Addr} {vs : List Value} {ds : List (List Int × List Int)} {Q : Value → Shared → Prop} {h₀ : Heap} {L : Addr} {m : Str → Option Value} {n : Nat} {news : List (Addr × Obj)}
    (F : Fr h₀ L s.heap m) (N : News h₀ L s.heap news) (hl : h₀.IsList a vs.toArray) (hd : LayersAt h₀ vs ds) (hm : (b, W.listOf #[] n) ∈ news) (hu : A.units + 64 < cLine) (h : Q (.bool ds.isEmpty) s) :
    wpAny (model prog w) A (compareOp .Eq (.ref a) (.ref b)) Q E s := by
  obtain ⟨as, ra⟩ := layers_reads (hd.keeps F.keep)
  obtain ⟨o, ho, hc, k, hdt⟩ := hl
  have r1 : Reads s.heap (.ref a) (.list (ds.map layerData)) (a :: as) := .list (F.keep _ _ ho) hc hdt ra
  have r2 : Reads s.heap (.ref b) (.list []) [b] := .list (N _ hm).1 rfl rfl .nil
  refine eq_dataH r1 r2 (shaped_layers ds) rfl hu ?_
  cases ds with
  | nil => exact h
  | cons d r => exact h
theorem eq_layers0 {prog : Program} {w : World} {A : Around} {E : Value → Shared → Prop} {s : Shared} {a b : Addr} {vs : List Value} {Q : Value → Shared → Prop} {h₀ : Heap} {L : Addr} {m : Str → Option Value} {n : Nat} {news : List (Addr × Obj)}
    (F : Fr h₀ L s.heap m) (N : News h₀ L s.heap news) (hl : h₀.IsList a vs.toArray) (hd : LayersAt h₀ vs []) (hm : (b, W.listOf #[] n) ∈ news) (hu : A.units + 64 < cLine) (h : Q (.bool true) s) :
    wpAny (model prog w) A (compareOp .Eq (.ref a) (.ref b)) Q E s := eq_layers F N hl hd hm hu h
theorem eq_layers1 {prog : Program} {w : World} {A : Around} {E : Value → Shared → Prop} {s : Shared} {a b : Addr} {vs : List Value} {d : List Int × List Int} {ds : List (List Int × List Int)} {Q : Value → Shared → Prop} {h₀ : Heap} {L : Addr} {m : Str → Option Value} {n : Nat} {news : List (Addr × Obj)}
    (F : Fr h₀ L s.heap m) (N : News h₀ L s.heap news) (hl : h₀.IsList a vs.toArray) (hd : LayersAt h₀ vs (d :: ds)) (hm : (b, W.listOf #[] n) ∈ news) (hu : A.units + 64 < cLine) (h : Q (.bool false) s) :
    wpAny (model prog w) A (compareOp .Eq (.ref a) (.ref b)) Q E s := eq_layers F N hl hd hm hu h
theorem pick_from {v : Value} {vs : List Value} : (slicePick (v :: vs).toArray (some 1) none none).toList = vs := by
  have := slicePick_from (v :: vs).toArray 1 (by simp)
  rw [show ((1 : Int)) = ((1 : Nat) : Int) from rfl, this]
  simp
theorem pick_run' {vs : List Value} {x y : Int} (h : 0 ≤ x) (h2 : 0 ≤ y) : (slicePick vs.toArray (some x) (some y) none).toList = (vs.drop x.toNat).take (y.toNat - x.toNat) := by
  have e := kms_bounds (some x) (some y) vs.toArray.size
  rw [kmk_pick_nat _ e]
  simp only [kms_lo, kms_hi, List.size_toArray, if_neg (Int.not_lt.mpr h), if_neg (Int.not_lt.mpr h2)]
  show (vs.drop (min x.toNat vs.length)).take (min y.toNat vs.length - min x.toNat vs.length) = _
  rw [kmk_drop_min]
  by_cases hx : x.toNat ≤ vs.length
  · rw [Nat.min_eq_left hx]
    by_cases hy : y.toNat ≤ vs.length
    · rw [Nat.min_eq_left hy]
    · rw [Nat.min_eq_right (by omega), List.take_of_length_le (by rw [List.length_drop]; exact Nat.le_refl _), List.take_of_length_le (by rw [List.length_drop]; omega)]
  · rw [List.drop_of_length_le (by omega)]; simp
theorem led_sum {outs : List Value} {ds : List (List Int × List Int)} {i j k l : Int} (ho : outs.length < 64) (h3 : ds.length ≤ 3) : (led outs ds i j).length + (led outs ds k l).length ≤ sizeLine := by
  have e : ∀ i j, (led outs ds i j).length ≤ 512 := fun i j => by
    refine Nat.le_trans (led_len outs ds i j) ?_
    have h1 : 2 ^ ds.length ≤ 2 ^ 3 := Nat.pow_le_pow_right (by decide) h3
    calc 2 ^ ds.length * outs.length ≤ 2 ^ 3 * 64 := Nat.mul_le_mul h1 (Nat.le_of_lt ho)
      _ = 512 := by decide
  have a := e i j
  have b := e k l
  rw [sizeLine_eq]; omega
section
variable {w : World} {dp un : Nat} {gd : Option (List Code)} {cn : Str} {cs : Scope} {a : Addr} {ccd : Value} {cl₀ : List (Str × Addr)} {outer : List Env} {A₀ : Around} {base h₀ : Heap} {L : Addr} {m : Str → Option Value} {s : Shared} {Q E : Value → Shared → Prop} {news : List (Addr × Obj)}
    {p : Program} {loose : List Str} {mean : ExcName → Option Value} {mg mb : Str → Option Value}
theorem new_news {h h' : Heap} {r : Addr} {o : Obj} (F : Fr h₀ L h m) (N : News h₀ L h news) (k : Kp h h') (lt : @LE.le Nat _ h.objs.size r) (e : h'.get? r = some o) : News h₀ L h' ((r, o) :: news) := News.kept_cons F N k lt e
theorem led_use {ds : List (List Int × List Int)} (IH : LedC w ds) {la oa : Addr} {vs outs : List Value} {i j : Int} {ti tj : Tok}
    (B : Below A₀ base outer h₀) (F : Fr h₀ L s.heap m) (X : (hd.heap_39 w.params).In h₀) (N : News h₀ L s.heap news) (T : Top p loose mean mg mb h₀) (hk : cs.kind = .function)
    (hla : s.heap.IsList la vs.toArray) (hds : LayersAt s.heap vs ds) (hoa : s.heap.IsList oa outs.toArray) (ho : outs.length < 64) (h3 : ds.length ≤ 3) (i0 : 0 ≤ i) (i1 : i < 2 ^ 20) (j0 : 0 ≤ j) (j1 : j < 2 ^ 20)
    (hdp : dp + ds.length + 4 < recursionLimit) (hun : un + 8 * ds.length + 96 < cLine)
    (ret : ∀ r h' tk' n, Fr h₀ L h' m → News h₀ L h' ((r, W.listOf (led outs ds i j).toArray n) :: news) → (∀ p ∈ news, p.1 < r) → Q (.ref r) { s with heap := h', toks := tk' }) :
    wpAny (model PySem.Challenge.rw_pu0009_01.row.prog w) (ktrTop dp un gd cn cs L a ccd cl₀ outer) (call (.ref 72) [.ref la, .ref oa, .int i ti, .int j tj]) Q E s :=
  IH dp un gd cn cs a ccd cl₀ outer A₀ base h₀ L m s Q E p loose mean mg mb la oa vs outs i j ti tj B F X T hk hla hds hoa ho h3 i0 i1 j0 j1 hdp hun fun r h' tk' R => by
    obtain ⟨n, e⟩ := R.lst
    exact ret r h' tk' n (F.keeps R.kp) (new_news F N R.kp R.lt e) fun p hp => Nat.lt_of_lt_of_le (Heap.lt_size (N p hp).1) R.lt
theorem bisl_use {l : Addr} {vs : List Value} {ns : List Int} {x : Int} {t : Tok}
    (B : Below A₀ base outer h₀) (F : Fr h₀ L s.heap m) (X : (hd.heap_39 w.params).In h₀) (N : News h₀ L s.heap news) (T : Top p loose mean mg mb h₀) (hk : cs.kind = .function)
    (hl : s.heap.IsList l vs.toArray) (hi : IntsAre vs ns) (hlen : ns.length < 2 ^ 19) (hs : ns.Pairwise (· < ·)) (hdp : dp + 1 < recursionLimit) (hun : un + 8 < cLine)
    (ret : ∀ t' h' tk', Fr h₀ L h' m → News h₀ L h' news → 0 ≤ cl ns x → cl ns x < 2 ^ 19 → Q (.int (cl ns x) t') { s with heap := h', toks := tk' }) :
    wpAny (model PySem.Challenge.rw_pu0009_01.row.prog w) (ktrTop dp un gd cn cs L a ccd cl₀ outer) (call (.ref 39) [.ref l, .int x t]) Q E s :=
  bisl_call B F X T hk hl hi (by omega) hs hdp hun fun t' h' tk' k => ret t' h' tk' (F.keeps k) (N.grown k) (Int.natCast_nonneg _) (by
    have := List.countP_le_length (p := fun y => decide (y < x)) (l := ns)
    show ((ns.countP (fun y => decide (y < x)) : Nat) : Int) < 2 ^ 19
    omega)
theorem bisr_use {l : Addr} {vs : List Value} {ns : List Int} {x : Int} {t : Tok}
    (B : Below A₀ base outer h₀) (F : Fr h₀ L s.heap m) (X : (hd.heap_39 w.params).In h₀) (N : News h₀ L s.heap news) (T : Top p loose mean mg mb h₀) (hk : cs.kind = .function)
    (hl : s.heap.IsList l vs.toArray) (hi : IntsAre vs ns) (hlen : ns.length < 2 ^ 19) (hs : ns.Pairwise (· < ·)) (hdp : dp + 1 < recursionLimit) (hun : un + 8 < cLine)
    (ret : ∀ t' h' tk', Fr h₀ L h' m → News h₀ L h' news → 0 ≤ cr ns x → cr ns x < 2 ^ 19 → Q (.int (cr ns x) t') { s with heap := h', toks := tk' }) :
    wpAny (model PySem.Challenge.rw_pu0009_01.row.prog w) (ktrTop dp un gd cn cs L a ccd cl₀ outer) (call (.ref 30) [.ref l, .int x t]) Q E s :=
  bisr_call B F X T hk hl hi (by omega) hs hdp hun fun t' h' tk' k => ret t' h' tk' (F.keeps k) (N.grown k) (Int.natCast_nonneg _) (by
    have := List.countP_le_length (p := fun y => decide (y ≤ x)) (l := ns)
    show ((ns.countP (fun y => decide (y ≤ x)) : Nat) : Int) < 2 ^ 19
    omega)
end
theorem slice_L {prog : Program} {w : World} {A : Around} {E : Value → Shared → Prop} {s : Shared} {h₀ : Heap} {L l : Addr} {m : Str → Option Value} {news : List (Addr × Obj)} {value slice : PySem.Expr} {its : Array Value} {zs : List Value} {vl vu : Value} {lo hi : Option Int} {Q : Value → Shared → Prop}
    (F : Fr h₀ L s.heap m) (N : News h₀ L s.heap news) (hl : s.heap.IsList l its) (pl : IsPart vl lo) (pu : IsPart vu hi) (e : (slicePick its lo hi none).toList = zs)
    (h : ∀ D h', Fr h₀ L h' m → News h₀ L h' ((D, W.listOf zs.toArray 0) :: news) → (∀ p ∈ news, p.1 < D) → @LT.lt Nat _ L D → Q (.ref D) { s with heap := h' })
    (hs : subscripted slice false (.ref l) (.ref s.heap.objs.size) = operate [.ref s.heap.objs.size, .ref l] (getItem (.ref l) (.ref s.heap.objs.size))) (ht : ∀ r, letTemporaryGo value (.ref l) r = pure ()) (hz : its.size ≤ sizeLine) :
    wpAny (model prog w) A (subscriptTail value slice (.ref l) (.ref s.heap.objs.size)) Q E { s with heap := s.heap.push { cls := .type "slice", data := .fields #[vl, vu, .none] } } :=
  slice_list F N hl pl pu (fun h' F' N' => h _ h' F' (by rw [← e, Array.toArray_toList]; exact N') (fun p hp => Nat.lt_succ_of_lt (Heap.lt_size (N p hp).1)) (Nat.lt_succ_of_lt F.ns.lt)) hs ht hz
theorem add_L {prog : Program} {w : World} {A : Around} {E : Value → Shared → Prop} {s : Shared} {h₀ : Heap} {L a b : Addr} {m : Str → Option Value} {news : List (Addr × Obj)} {xs ys : List Value} {Q : Value → Shared → Prop} (F : Fr h₀ L s.heap m) (N : News h₀ L s.heap news) (ha : s.heap.IsList a xs.toArray) (hb : s.heap.IsList b ys.toArray)
    (h : ∀ D h', Fr h₀ L h' m → News h₀ L h' ((D, W.listOf (xs ++ ys).toArray 0) :: news) → (∀ p ∈ news, p.1 < D) → @LT.lt Nat _ L D → Q (.ref D) { s with heap := h' })
    (hz : xs.length + ys.length ≤ sizeLine) : wpAny (model prog w) A (binaryOp .Add (.ref a) (.ref b)) Q E s :=
  add_lists (vs := xs) (ws := ys) F N ha hb (fun h' F' N' => h _ h' F' N' (fun p hp => Heap.lt_size (N p hp).1) F.ns.lt) hz
theorem new_of {h h' : Heap} {L' r : Addr} {m' : Str → Option Value} {vs ws : List Value} {n : Nat} {news : List (Addr × Obj)} (F : Fr h L' h' m') (N : News h L' h' news) (hm : (r, W.listOf vs.toArray n) ∈ news) (lt : @LT.lt Nat _ L' r) (e : vs = ws) : NewList h h' r ws := by
  subst e
  exact ⟨F.keep, Nat.le_of_lt (Nat.lt_of_le_of_lt F.above lt), n, (N _ hm).1⟩
local macro_rules | `(tactic| k_room) => `(tactic| ktr_room)
local macro_rules | `(tactic| walk_at "newList") => `(tactic| (k_here; k_dflt (refine' newList_L ?k1 ?k2 ?_; (case k1 => k_asm); (case k2 => k_asm); k_whole); intro l' h' F' N' l1 l2; (try k_lt l1); (try k_sweep)))
local macro_rules | `(tactic| walk_at "subscriptTail Name Slice ref ref") => `(tactic| (k_here; (with_reducible show wpAny _ _ (subscriptTail _ (PySem.Expr.Slice _ _ none _) (Value.ref _) (Value.ref _)) _ _ _); k_dflt (refine' slice_L ?F ?N ?l ?p ?q ?e ?_ ?s ?t ?z; (case F => k_asm); (case N => k_asm); (case l => is_list); (case p => kmk_part); (case q => kmk_part); (case e => first | with_reducible exact pick_from | with_reducible exact pick_run' (by assumption) (by assumption)); (case s => with_unfolding_all rfl); (case t => kmk_pure); (case z => (simp only [List.size_toArray, List.length_cons, sizeLine_eq]; omega))); intro D' h' F' N' l1 l2; (try k_lt l1); (try k_sweep)))
local macro_rules | `(tactic| walk_at "binaryOp Add ref ref") => `(tactic| (k_here; (with_reducible show wpAny _ _ (binaryOp _ (Value.ref _) (Value.ref _)) _ _ _); k_dflt (refine' add_L ?F ?N ?a ?b ?_ ?z; (case F => k_asm); (case N => k_asm); (case a => is_list); (case b => is_list); (case z => exact led_sum (by assumption) (by omega))); intro D' h' F' N' l1 l2; (try k_lt l1); (try k_sweep)))
local macro_rules | `(tactic| k_units) => `(tactic| ktr_units)
local macro_rules | `(tactic| walk_at "call ref") => `(tactic| (k_here; (with_reducible show wpAny _ _ (call (Value.ref 39) _ _) _ _ _); k_dflt (refine' bisl_use ?k1 ?k2 ?k3 ?k4 ?k5 ?kK ?kl ?ki ?kn ?ks ?kd ?ku ?_; (case k1 => k_asm); (case k2 => k_asm); (case k3 => k_asm); (case k4 => k_asm); (case k5 => k_asm); (case kK => exact rfl); (case kl => is_list); (case ki => assumption); (case kn => assumption); (case ks => assumption); (case kd => ktr_room); (case ku => ktr_units); (intro t9 h9 tk9 F9 N9 b9 c9); (try dsimp only); (try k_sweep); (try k_fold))))
local macro_rules | `(tactic| walk_at "call ref") => `(tactic| (k_here; (with_reducible show wpAny _ _ (call (Value.ref 30) _ _) _ _ _); k_dflt (refine' bisr_use ?k1 ?k2 ?k3 ?k4 ?k5 ?kK ?kl ?ki ?kn ?ks ?kd ?ku ?_; (case k1 => k_asm); (case k2 => k_asm); (case k3 => k_asm); (case k4 => k_asm); (case k5 => k_asm); (case kK => exact rfl); (case kl => is_list); (case ki => assumption); (case kn => assumption); (case ks => assumption); (case kd => ktr_room); (case ku => ktr_units); (intro t9 h9 tk9 F9 N9 b9 c9); (try dsimp only); (try k_sweep); (try k_fold))))
local macro_rules | `(tactic| walk_at "compareOp Eq ref ref") => `(tactic| (k_here; k_dflt (refine' eq_layers0 ?k1 ?k2 ?k3 ?k4 ?k5 ?k6 ?_; (case k1 => k_asm); (case k2 => k_asm); (case k3 => assumption); (case k4 => assumption); (case k5 => k_mem); (case k6 => ktr_units); k_whole)))
local macro_rules | `(tactic| walk_at "compareOp Eq ref ref") => `(tactic| (k_here; k_dflt (refine' eq_layers1 ?k1 ?k2 ?k3 ?k4 ?k5 ?k6 ?_; (case k1 => k_asm); (case k2 => k_asm); (case k3 => assumption); (case k4 => assumption); (case k5 => k_mem); (case k6 => ktr_units); k_whole)))
local macro_rules | `(tactic| walk_at "call ref") => `(tactic| (k_here; (with_reducible show wpAny _ _ (call (Value.ref 72) _ _) _ _ _); k_dflt (refine' led_use (by assumption) ?k1 ?k2 ?k3 ?k4 ?k5 ?kK ?kl ?ks ?ko ?kn ?k6 ?i0 ?i1 ?j0 ?j1 ?kd ?ku ?_; (case k1 => k_asm); (case k2 => k_asm); (case k3 => k_asm); (case k4 => k_asm); (case k5 => k_asm); (case kK => exact rfl); (case kl => is_list); (case ks => exact LayersAt.keeps (Fr.keep (by k_asm)) (by assumption)); (case ko => is_list); (case kn => assumption); (case k6 => omega); (case i0 => omega); (case i1 => omega); (case j0 => omega); (case j1 => omega); (case kd => ktr_room); (case ku => ktr_units); (intro r9 h9 tk9 n9 F9 N9 l9); (try k_lt l9); (try dsimp only); (try k_sweep); (try k_fold))))
theorem led_call {w : World} : ∀ ds : List (List Int × List Int), LedC w ds := by
  intro ds
  induction ds with
  | nil =>
    intro dp un gd cn cs a ccd cl₀ outer A₀ base h₀ L m s Q E p loose mean mg mb la oa vs outs i j ti tj B F X T hk hla hds hoa ho h3 i0 i1 j0 j1 hdp hun ret
    cases hds
    have hds : LayersAt s.heap [] [] := .nil
    simp only [List.length_nil, Nat.mul_zero, Nat.add_zero] at hdp hun
    w_top off
    k_with_none
    revert X; k_fill; intro X
    refine wpAny_call ?_
    k_dflt (refine' enterK ?k1 ?k2 ?k3 ?k5 ?kA ?kF ?kK ?k6 ?k7 ?k8 ?k9 ?kB ?_ ?c2 ?c3 ?c4 ?c5; (case kA => exact rfl); (case kF => exact rfl); (case kK => assumption); (case k1 => k_asm); (case k2 => k_asm); (case k3 => k_asm); (case k5 => k_asm); (case k6 => k_is); (case k7 => k_is); (case k8 => ktr_room); (case k9 => exact BindsTo.of_eq rfl); (case c5 => decide); (case kB => exact locs rfl); (case c2 => exact rfl); (case c3 => exact rfl); (case c4 => exact rfl); k_whole; intro L' h' F' N' B' X' T'; (try dsimp only); (try k_fold))
    k_steps
    all_goals first
      | (exact ret _ _ _ (new_of (by k_asm) (by k_asm) (by k_mem) (by show @LT.lt Nat _ L' _; omega) (by subst_vars; exact (led_same _ _ _).symm)))
      | (exact ret _ _ _ (new_of (by k_asm) (by k_asm) (by k_mem) (by show @LT.lt Nat _ L' _; omega) (led_nil _ (by assumption)).symm))
  | cons d ds IH =>
    obtain ⟨xs, ys⟩ := d
    intro dp un gd cn cs a ccd cl₀ outer A₀ base h₀ L m s Q E p loose mean mg mb la oa vs outs i j ti tj B F X T hk hla hds hoa ho h3 i0 i1 j0 j1 hdp hun ret
    have hds0 := hds
    cases hds with
    | cons t1 t2 t3 t4 t5 t6 t7 t8 t9 t10 =>
    simp only [List.length_cons] at hdp hun h3
    have hvl := t10.length
    w_top off
    k_with_none
    revert X; k_fill; intro X
    refine wpAny_call ?_
    k_dflt (refine' enterK ?k1 ?k2 ?k3 ?k5 ?kA ?kF ?kK ?k6 ?k7 ?k8 ?k9 ?kB ?_ ?c2 ?c3 ?c4 ?c5; (case kA => exact rfl); (case kF => exact rfl); (case kK => assumption); (case k1 => k_asm); (case k2 => k_asm); (case k3 => k_asm); (case k5 => k_asm); (case k6 => k_is); (case k7 => k_is); (case k8 => ktr_room); (case k9 => exact BindsTo.of_eq rfl); (case c5 => decide); (case kB => exact locs rfl); (case c2 => exact rfl); (case c3 => exact rfl); (case c4 => exact rfl); k_whole; intro L' h' F' N' B' X' T'; (try dsimp only); (try k_fold))
    k_steps
    all_goals first
      | (exact ret _ _ _ (new_of (by k_asm) (by k_asm) (by k_mem) (by show @LT.lt Nat _ L' _; omega) (by subst_vars; exact (led_same _ _ _).symm)))
      | (exact ret _ _ _ (new_of (by k_asm) (by k_asm) (by k_mem) (by show @LT.lt Nat _ L' _; omega) (led_cons _ (by assumption)).symm))
end Mine

namespace Mine
open PySem PySem.W PyProof.Rows PySem.Calls PySem.Spec
local macro_rules | `(tactic| k_room) => `(tactic| ktr_room)
local macro_rules | `(tactic| k_units) => `(tactic| ktr_units)
local macro_rules | `(tactic| tb_start) => `(tactic| ((try simp only [List.length_append, part_len, rangeKs_length]); omega))
local macro_rules | `(tactic| tb_rel) => `(tactic| first | assumption | exact range_bounds _ | (refine all_part ?_; tb_rel))
local macro_rules | `(tactic| ktr_rel) => `(tactic| first
  | (with_unfolding_all refine' lacks_pred ?p1 ?p2 ?p3 ?p4 ?p5 ?p6 ?p7 ?p8 ?p9 ?p10 ?p11 ?p12 ?p13; (case p2 => exact News.get (by k_asm) (by k_mem)); (case p1 => with_unfolding_all rfl); (case p3 => exact codeRec_news (by k_asm) (by k_mem) (by assumption) (by assumption)); (case p4 => rfl); (case p5 => rfl); (case p6 => with_unfolding_all exact cell_news (by k_asm) (by k_mem) (by assumption)); (case p7 => with_unfolding_all exact cell_news (by k_asm) (by k_mem) (by assumption)); (case p8 => is_list); (case p9 => assumption); (case p10 => tb_start); (case p11 => first | tb_rel | ((simp only [List.length_append, part_len]); tb_rel)); (case p12 => decide); (case p13 => decide))
  | (with_unfolding_all refine' held_pred ?p1 ?p2 ?p3 ?p5 ?p7 ?p12 ?p13; (case p2 => exact News.get (by k_asm) (by k_mem)); (case p1 => with_unfolding_all rfl); (case p3 => exact codeRec_news (by k_asm) (by k_mem) (by assumption) (by assumption)); (case p5 => rfl); (case p7 => with_unfolding_all exact cell_news (by k_asm) (by k_mem) (by assumption)); (case p12 => decide); (case p13 => decide)))
local macro_rules | `(tactic| walk_at "call builtin:len") => `(tactic| (k_here; (with_reducible show wpAny _ _ (call (Value.builtin "len") [Value.ref _]) _ _ _); k_dflt (refine' len_eq ?k1 ?k2 ?k3 ?k4 ?_; (case k1 => is_list); (case k2 => l_ints); (case k3 => first | ((simp only [List.length_append, part_len]); exact rfl) | exact rfl); (case k4 => omega); k_whole)))
local macro_rules | `(tactic| l_fit) => `(tactic| ((simp only [List.length_append, part_len, rangeKs_length]); omega))
local macro_rules | `(tactic| kmk_sum) => `(tactic| ((simp only [sizeLine_eq, List.length_append, part_len, rangeKs_length]); omega))
local macro_rules | `(tactic| walk_at "binaryOp Add ref ref") => `(tactic| (k_here; (with_reducible show wpAny _ _ (binaryOp _ (Value.ref _) (Value.ref _)) _ _ _); k_dflt (refine' kmk_add_ints ?F ?N ?a ?b ?i ?j ?_ ?z; (case F => k_asm); (case N => k_asm); (case a => kmk_list); (case b => kmk_list); (case i => l_ints); (case j => l_ints); (case z => kmk_sum)); intro D' ws' h' F' N' l1 hI'; (try k_lt l1); (first | replace N' := dropE N' | skip); (try k_sweep)))
local macro_rules | `(tactic| walk_at "call ref") => `(tactic| (k_here; (with_reducible show wpAny _ _ (call (Value.ref 21) _ _) _ _ _); k_dflt (refine' split_use ?k1 ?k2 ?k3 ?k4 ?k5 ?kK ?kl ?ki ?kn ?kP ?kd ?ku ?_; (case k1 => k_asm); (case k2 => k_asm); (case k3 => k_asm); (case k4 => k_asm); (case k5 => k_asm); (case kK => exact rfl); (case kl => is_list); (case ki => assumption); (case kn => tb_start); (case kd => ktr_room); (case ku => ktr_units); (case kP => ktr_rel); (intro t9 y9 z9 ys9 zs9 ny9 nz9 h9 tk9 F9 N9 i9 j9 e9 f9); (try k_lt e9); (first | replace N9 := dropA N9 | replace N9 := dropB N9 | replace N9 := dropC N9 | replace N9 := dropD N9 | skip); (try dsimp only); (try k_sweep); (try k_fold))))
theorem layers_call {w : World} {dp un : Nat} {gd : Option (List Code)} {cn : Str} {cs : Scope} {a : Addr} {ccd : Value} {cl : List (Str × Addr)} {outer : List Env} {A₀ : Around} {base h₀ : Heap} {L : Addr} {m : Str → Option Value} {s : Shared} {Q E : Value → Shared → Prop}
    {p : Program} {loose : List Str} {mean : ExcName → Option Value} {mg mb : Str → Option Value} {l : Addr} {vs : List Value} {ns : List Int}
    (B : Below A₀ base outer h₀) (F : Fr h₀ L s.heap m) (X : (hd.heap_39 w.params).In h₀) (T : Top p loose mean mg mb h₀) (hk : cs.kind = .function)
    (N : News h₀ L s.heap [(48, tabObj #[]), (41, tabObj #[])]) (C1 : CodeHd base 52 48) (C2 : CodeHd base 45 41)
    (hl : s.heap.IsList l vs.toArray) (hi : IntsAre vs ns) (hlen : ns.length < 64) (h41 : l ≠ 41) (h48 : l ≠ 48) (hdp : dp + 8 < recursionLimit) (hun : un + 64 < cLine)
    (ret : ∀ t ll pl nl vL vP vN n1 n2 n3 stat h' tk', LayersOut s.heap h' ns t ll pl nl vL vP vN n1 n2 n3 stat → Q (.ref t) { s with heap := h', toks := tk' }) :
    wpAny (model PySem.Challenge.rw_pu0009_01.row.prog w) (ktrTop dp un gd cn cs L a ccd cl outer) (call (.ref 65) [.ref l]) Q E s := by
  w_top off
  k_with_none
  revert X; k_fill; intro X
  refine wpAny_call ?_
  k_dflt (refine' enterHide ?k1 ?k2 ?k3 ?k4 ?k5 ?kA ?kF ?kK ?k6 ?k7 ?k8 ?k9 ?kB ?_ ?c2 ?c3 ?c4 ?c5; (case kA => exact rfl); (case kF => exact rfl); (case kK => assumption); (case k1 => k_asm); (case k2 => k_asm); (case k3 => k_asm); (case k4 => k_asm); (case k5 => k_asm); (case k6 => k_is); (case k7 => k_is); (case k8 => ktr_room); (case k9 => exact BindsTo.of_eq rfl); (case c5 => decide); (case kB => exact locs rfl); (case c2 => exact rfl); (case c3 => exact rfl); (case c4 => exact rfl); k_whole)
  intro L' h' st F' N' B' X' T' l1
  have hl' := hide_list (as := [48, 41]) hl (by simp [h41, h48])
  simp only [List.map_cons, List.map_nil] at F' N' B' X' T' hl'
  generalize hg : hideAll s.heap [48, 41] = g at F' N' B' X' T' hl'
  clear st hl
  k_lt l1
  (try dsimp only)
  (try k_fold)
  k_steps
  all_goals exact ret _ _ _ _ [_, _, _] _ _ _ _ _ _ _ _ (layersOut_of hg (by k_asm) (by k_asm) (by k_mem) (by k_mem) (by k_mem) (by k_mem)
    (LayersIn.cons (by k_mem) (by k_mem) (by assumption) (by k_mem) (by assumption) (filter_pw (range_pw _ _)) (filter_pw (range_pw _ _)) (filter_lt (range_lt (by omega))) (filter_lt (range_lt (by omega)))
      (LayersIn.cons (by k_mem) (by k_mem) (by assumption) (by k_mem) (by assumption) (filter_pw (range_pw _ _)) (filter_pw (range_pw _ _)) (filter_lt (range_lt (by omega))) (filter_lt (range_lt (by omega)))
        (LayersIn.cons (by k_mem) (by k_mem) (by assumption) (by k_mem) (by assumption) (filter_pw (range_pw _ _)) (filter_pw (range_pw _ _)) (filter_lt (range_lt (by omega))) (filter_lt (range_lt (by omega))) .nil)))
    (by assumption) (by assumption) ⟨_, by k_mem, _, rfl⟩ ⟨_, by k_mem, _, rfl⟩)
end Mine

namespace Mine
open PySem PySem.W PyProof.Rows PySem.Calls PySem.Spec
def byOnes (ns : List Int) : List Int := [0, 4, 2, 6, 1, 5, 3, 7].flatMap fun v => ns.filter fun x => x == v
end Mine

namespace Mine
open PySem PySem.W PyProof.Rows PySem.Calls PySem.Spec
theorem eight {x : Int} (h : 0 ≤ x ∧ x < 8) : x = 0 ∨ x = 1 ∨ x = 2 ∨ x = 3 ∨ x = 4 ∨ x = 5 ∨ x = 6 ∨ x = 7 := by omega
theorem num_ones {ns : List Int} (h : ∀ x ∈ ns, 0 ≤ x ∧ x < 8) : numbersOf ns = byOnes ns := by
  have key : ∀ (f g : Int → Bool), (f 0 = g 0 ∧ f 1 = g 1 ∧ f 2 = g 2 ∧ f 3 = g 3 ∧ f 4 = g 4 ∧ f 5 = g 5 ∧ f 6 = g 6 ∧ f 7 = g 7) → ns.filter f = ns.filter g := by
    rintro f g ⟨e0, e1, e2, e3, e4, e5, e6, e7⟩
    refine List.filter_congr fun x hx => ?_
    rcases eight (h x hx) with q | q | q | q | q | q | q | q <;> (subst q; assumption)
  unfold byOnes numbersOf partN
  simp only [List.filter_append, List.filter_filter, List.flatMap_cons, List.flatMap_nil, List.append_nil, List.append_assoc]
  refine congr (congrArg _ (key _ _ (by decide))) (congr (congrArg _ (key _ _ (by decide))) (congr (congrArg _ (key _ _ (by decide))) (congr (congrArg _ (key _ _ (by decide))) (congr (congrArg _ (key _ _ (by decide))) (congr (congrArg _ (key _ _ (by decide))) (congr (congrArg _ (key _ _ (by decide))) (key _ _ (by decide))))))))
end Mine

namespace Mine
open PySem PySem.W PyProof.Rows PySem.Calls PySem.Spec
theorem row8 (ks : List Int) : ∀ x ∈ (ks.map fun k => k.fmod 8) ++ [5, 2, 5], 0 ≤ x ∧ x < 8 := by
  intro x hx
  rcases List.mem_append.mp hx with hx | hx
  · obtain ⟨k, _, rfl⟩ := List.mem_map.mp hx
    exact ⟨Int.fmod_nonneg_of_pos _ (by decide), Int.fmod_lt_of_pos _ (by decide)⟩
  · simp at hx
    rcases hx with rfl | rfl | rfl <;> decide
section
variable {w : World} {dp un : Nat} {gd : Option (List Code)} {cn : Str} {cs : Scope} {a : Addr} {ccd : Value} {cl₀ : List (Str × Addr)} {outer : List Env} {A₀ : Around} {base h₀ : Heap} {L : Addr} {m : Str → Option Value} {s : Shared} {Q E : Value → Shared → Prop} {news : List (Addr × Obj)}
    {p : Program} {loose : List Str} {mean : ExcName → Option Value} {mg mb : Str → Option Value}
theorem layers_use {l l2 l3 l4 c : Addr} {o2 o3 o4 oc : Obj} {n0 : Nat} {vs : List Value} {ns : List Int}
    (B : Below A₀ base outer h₀) (F : Fr h₀ L s.heap m) (X : (hd.heap_39 w.params).In h₀) (T : Top p loose mean mg mb h₀) (hk : cs.kind = .function)
    (N : News h₀ L s.heap [(l, W.listOf vs.toArray n0), (l2, o2), (l3, o3), (l4, o4), (c, oc), (48, tabObj #[]), (41, tabObj #[])]) (C1 : CodeHd base 52 48) (C2 : CodeHd base 45 41)
    (hi : IntsAre vs ns) (hlen : ns.length < 64) (l48 : l ≠ 48) (l41 : l ≠ 41) (c48 : c ≠ 48) (c41 : c ≠ 41) (hdp : dp + 8 < recursionLimit) (hun : un + 64 < cLine)
    (ret : ∀ t ll pl nl vL vP vN n1 n2 n3 stat h' tk', Fr h₀ L h' m → News h₀ L h' ((t, ({ cls := .type "tuple", data := .seq #[.ref ll, .ref pl, .ref nl] } : Obj)) :: (ll, W.listOf (List.toArray vL) n1) :: (pl, W.listOf (List.toArray vP) n2) :: (nl, W.listOf (List.toArray vN) n3) :: (l, W.listOf vs.toArray n0) :: (c, oc) :: stat) →
      (∀ h : Heap, (∀ p ∈ stat, h.get? p.1 = some p.2) → LayersAt h vL (layersOf ns) ∧ GrownAll [(52, 48), (45, 41)] h) → IntsAre vP (placesOf ns) → IntsAre vN (numbersOf ns) → Q (.ref t) { s with heap := h', toks := tk' }) :
    wpAny (model PySem.Challenge.rw_pu0009_01.row.prog w) (ktrTop dp un gd cn cs L a ccd cl₀ outer) (call (.ref 65) [.ref l]) Q E s := by
  have N2 : News h₀ L s.heap [(48, tabObj #[]), (41, tabObj #[])] := fun p hp => N p (by
    rcases List.mem_cons.mp hp with rfl | hp
    · exact .tail _ (.tail _ (.tail _ (.tail _ (.tail _ (.head _)))))
    · rcases List.mem_cons.mp hp with rfl | hp
      · exact .tail _ (.tail _ (.tail _ (.tail _ (.tail _ (.tail _ (.head _))))))
      · cases hp)
  refine layers_call B F X T hk N2 C1 C2 (News.isList N (.head _)) hi hlen l41 l48 hdp hun fun t ll pl nl vL vP vN n1 n2 n3 stat h' tk' R => ?_
  have h48 := N2 _ (.head _)
  have h41 := N2 _ (.tail _ (.head _))
  have keep : ∀ b o, b ≠ 48 → b ≠ 41 → s.heap.get? b = some o → h'.get? b = some o := fun b o q1 q2 e => R.kp b o (hideAll_get _ e (by simp [q1, q2]))
  obtain ⟨oL, es, ep, hL, hLd, hLk, hLf⟩ := id F.ns
  have FF : Fr h₀ L h' m := ⟨⟨oL, es, ep, keep _ _ (fun q => h48.2.1 q.symm) (fun q => h41.2.1 q.symm) hL, hLd, hLk, hLf⟩,
    fun b o e => keep b o (fun q => by rw [q, h48.2.2] at e; cases e) (fun q => by rw [q, h41.2.2] at e; cases e) (F.keep b o e), F.above⟩
  obtain ⟨p48, p41, g48, g41⟩ := R.tabs
  refine ret t ll pl nl vL vP vN n1 n2 n3 ((48, tabObj p48) :: (41, tabObj p41) :: stat) h' tk' FF ?_ (fun h hh => ⟨R.lay h fun p hp => hh p (.tail _ (.tail _ hp)), ⟨p48, hh _ (.head _)⟩, ⟨p41, hh _ (.tail _ (.head _))⟩, trivial⟩) R.isInts.1 R.isInts.2
  have nw : ∀ q : Addr × Obj, (h'.get? q.1 = some q.2 ∧ (hideAll s.heap [48, 41]).get? q.1 = none ∧ q.1 ≠ 48 ∧ q.1 ≠ 41) → h'.get? q.1 = some q.2 ∧ q.1 ≠ L ∧ h₀.get? q.1 = none := by
    rintro q ⟨e, f, q1, q2⟩
    have sn : s.heap.get? q.1 = none := by
      cases q3 : s.heap.get? q.1 with
      | none => rfl
      | some o => rw [hideAll_get _ q3 (by simp [q1, q2])] at f; cases f
    refine ⟨e, fun q4 => ?_, ?_⟩
    · rw [q4, hL] at sn; cases sn
    · cases q3 : h₀.get? q.1 with
      | none => rfl
      | some o => rw [F.keep _ _ q3] at sn; cases sn
  intro q hq
  rcases List.mem_cons.mp hq with rfl | hq
  · exact nw _ (R.new _ (.head _))
  · rcases List.mem_cons.mp hq with rfl | hq
    · exact nw _ (R.new _ (.tail _ (.head _)))
    · rcases List.mem_cons.mp hq with rfl | hq
      · exact nw _ (R.new _ (.tail _ (.tail _ (.head _))))
      · rcases List.mem_cons.mp hq with rfl | hq
        · exact nw _ (R.new _ (.tail _ (.tail _ (.tail _ (.head _)))))
        · rcases List.mem_cons.mp hq with rfl | hq
          · have := N _ (.head _); exact ⟨keep _ _ l48 l41 this.1, this.2⟩
          · rcases List.mem_cons.mp hq with rfl | hq
            · have := N _ (.tail _ (.tail _ (.tail _ (.tail _ (.head _))))); exact ⟨keep _ _ c48 c41 this.1, this.2⟩
            · rcases List.mem_cons.mp hq with rfl | hq
              · exact ⟨g48, h48.2⟩
              · rcases List.mem_cons.mp hq with rfl | hq
                · exact ⟨g41, h41.2⟩
                · exact nw _ (R.new _ (.tail _ (.tail _ (.tail _ (.tail _ hq)))))
theorem ne_no {prog : Program} {A : Around} {a b : Addr} {xs ys : List Value} {ns ms : List Int} (ha : s.heap.IsList a xs.toArray) (hb : s.heap.IsList b ys.toArray) (hi : IntsAre xs ns) (hj : IntsAre ys ms) (e : ns = ms) (hu : A.units + 64 < cLine) (h : Q (.bool false) s) :
    wpAny (model prog w) A (compareOp .NotEq (.ref a) (.ref b)) Q E s := ke_ne_ints ha hb hi hj hu (by rw [decide_eq_true e]; exact h)
end
end Mine

namespace Mine
open PySem PySem.W PyProof.Rows PySem.Calls PySem.Spec
/-- a zip whose last tuple T has been handed out -/
abbrev ZipH (h : Heap) (z TI TO T : Addr) (b : Bool) : Prop := h.get? z = some { cls := .type "zip", dict := none, data := .fields #[rawInt T, .bool b, .bool false, .ref TI, .ref TO], slots := #[] }
section
variable {prog : Program} {w : World} {A : Around} {E : Value → Shared → Prop} {s : Shared}
theorem alive_ {a : Addr} {o : Obj} {Q : Option Obj → Shared → Prop} {M : Model} (ho : s.heap.get? a = some o) (h : Q (some o) s) : wpAny M A (loadIfAlive a) Q E s := fun Γ p hΓ => by
  show Sem.wp M Γ (.loadIfAlive a .pure) _ _ p s
  rw [Sem.wp_loadIfAlive, ho]; exact h
theorem notFree {z TI TO T : Addr} {b : Bool} {o : Obj} {Q : Bool → Shared → Prop} (hz : ZipH s.heap z TI TO T b) (hT : s.heap.get? T = some o) (h : ∀ h', ZipH h' z TI TO T true → Heap.SameBut z s.heap h' → Q false { s with heap := h' }) :
    wpAny (model prog w) A (Builtin.SmallTypes.ownedTupleIsFree (.ref z)) Q E s := by
  unfold Builtin.SmallTypes.ownedTupleIsFree
  refine wpAny_bind (wpAny_field hz rfl (x := rawInt T) rfl ?_)
  show wpAny _ _ (loadIfAlive ((T : Int)).toNat >>= _) _ _ _
  rw [Int.toNat_natCast]
  refine wpAny_bind (alive_ hT ?_)
  simp only [Option.isNone_some, Bool.false_eq_true, if_false]
  refine wpAny_bind (wpAny_field hz rfl (x := .bool b) rfl ?_)
  cases b with
  | true =>
    rw [if_neg (by simp)]
    exact wpAny_pure (h s.heap hz (Heap.SameBut.refl ..))
  | false =>
    rw [if_pos (by decide)]
    refine wpAny_bind (wpAny_setField_rec hz (by simp) fun h' hz' hs' => wpAny_pure (h h' ?_ hs'))
    exact hz'
theorem zipMore {z TI TO T i1 i2 l1 l2 : Addr} {b : Bool} {o : Obj} {k : Nat} {xs ys : Array Value} {x y : Value} {Q : Value → Shared → Prop} (D : ZipApart z TI TO i1 i2 l1 l2)
    (hz : ZipH s.heap z TI TO T b) (hT : s.heap.get? T = some o) (hTI : IsPair s.heap TI (.ref i1) (.ref i2))
    (h1 : s.heap.IsListIter i1 l1 k) (h2 : s.heap.IsListIter i2 l2 k) (hl1 : s.heap.IsList l1 xs) (hl2 : s.heap.IsList l2 ys) (hx : xs[k]? = some x) (hy : ys[k]? = some y)
    (hQ : ∀ h', ZipH h' z TI TO T true → h'.IsListIter i1 l1 (k + 1) → h'.IsListIter i2 l2 (k + 1) → IsPair h' s.heap.objs.size x y → h'.objs.size = s.heap.objs.size + 1 →
      (∀ c o, c ≠ z → c ≠ i1 → c ≠ i2 → s.heap.get? c = some o → h'.get? c = some o) → Q (.ref s.heap.objs.size) { s with heap := h' }) :
    wpAny (model prog w) A (Builtin.«zip.__next__» ⟨[.ref z], []⟩) (fun fin s' => ∃ v, fin = .done (.ret v) ∧ Q v s') E s := by
  show wpAny _ _ (field (.ref z) 2 >>= _) _ _ _
  refine wpAny_bind (wpAny_field hz rfl (x := .bool false) rfl ?_)
  show wpAny _ _ (field (.ref z) 3 >>= _) _ _ _
  refine wpAny_bind (wpAny_field hz rfl (x := .ref TI) rfl ?_)
  refine wpAny_bind (wpAny_seqItems hTI rfl ?_)
  show wpAny _ _ (Builtin.SmallTypes.ownedTupleIsFree (.ref z) >>= _) _ _ _
  refine wpAny_bind (notFree hz hT fun h₁ hz₁ hs₁ => ?_)
  simp only [Bool.false_eq_true, if_false]
  refine wpAny_bind ?_
  rw [← Array.forIn_toList]
  simp only [List.forIn_cons, List.forIn_nil]
  refine wpAny_bind (wpAny_bind (wpAny_holding ?_))
  show wpAny _ _ (Builtin.SmallTypes.nextOf (.ref i1) >>= _) _ _ _
  refine wpAny_bind (wpAny_nextOf_list_item (h1.extBut hs₁.extBut D.i1z) (hl1.extBut hs₁.extBut D.l1z) hx fun h₂ h1₂ hs₂ => wpAny_pure (wpAny_pure ?_))
  refine wpAny_bind (wpAny_bind (wpAny_holding ?_))
  show wpAny _ _ (Builtin.SmallTypes.nextOf (.ref i2) >>= _) _ _ _
  refine wpAny_bind (wpAny_nextOf_list_item ((h2.extBut hs₁.extBut D.i2z).extBut hs₂.extBut D.i12.symm) ((hl2.extBut hs₁.extBut D.l2z).extBut hs₂.extBut D.l2i1) hy fun h₃ h2₃ hs₃ => wpAny_pure (wpAny_pure (wpAny_pure ?_)))
  refine wpAny_bind (wpAny_newTuple ?_ (by show 2 ≤ sizeLine; rw [sizeLine_eq]; omega))
  have hsz : h₃.objs.size = s.heap.objs.size := by rw [hs₃.1, hs₂.1, hs₁.1]
  refine wpAny_pure ⟨_, rfl, ?_⟩
  show Q (.ref h₃.objs.size) _
  have up : ∀ c o, h₃.get? c = some o → (h₃.push { cls := .type "tuple", data := .seq #[x, y] }).get? c = some o := fun c o e => Heap.get?_push_of_some _ e
  rw [hsz]
  refine hQ _ (up _ _ (hs₃.extBut _ _ D.i2z.symm (hs₂.extBut _ _ D.i1z.symm hz₁))) ((h1₂.extBut hs₃.extBut D.i12).at fun o e => up _ o e) (h2₃.at fun o e => up _ o e) ?_ (by rw [Heap.size_push, hsz]) fun c o c1 c2 c3 e => up c o (hs₃.extBut _ _ c3 (hs₂.extBut _ _ c2 (hs₁.extBut _ _ c1 e)))
  show (h₃.push _).get? s.heap.objs.size = _
  rw [← hsz]; exact Heap.get?_push_size _ rfl
theorem zipEnd {z TI TO T i1 i2 l1 l2 : Addr} {b : Bool} {o : Obj} {k : Nat} {xs : Array Value} {Q : PySem.Fin → Shared → Prop} (hh : A.handled = none) (D : ZipApart z TI TO i1 i2 l1 l2)
    (hz : ZipH s.heap z TI TO T b) (hT : s.heap.get? T = some o) (hTI : IsPair s.heap TI (.ref i1) (.ref i2))
    (h1 : s.heap.IsListIter i1 l1 k) (hl1 : s.heap.IsList l1 xs) (hx : xs[k]? = none)
    (hE : ∀ h' e, (∀ c o, c ≠ z → c ≠ i1 → s.heap.get? c = some o → h'.get? c = some o) → (∃ o, h'.get? e = some o ∧ o.cls = .type "StopIteration") → E (.ref e) { s with heap := h' }) :
    wpAny (model prog w) A (Builtin.«zip.__next__» ⟨[.ref z], []⟩) Q E s := by
  show wpAny _ _ (field (.ref z) 2 >>= _) _ _ _
  refine wpAny_bind (wpAny_field hz rfl (x := .bool false) rfl ?_)
  show wpAny _ _ (field (.ref z) 3 >>= _) _ _ _
  refine wpAny_bind (wpAny_field hz rfl (x := .ref TI) rfl ?_)
  refine wpAny_bind (wpAny_seqItems hTI rfl ?_)
  show wpAny _ _ (Builtin.SmallTypes.ownedTupleIsFree (.ref z) >>= _) _ _ _
  refine wpAny_bind (notFree hz hT fun h₁ hz₁ hs₁ => ?_)
  simp only [Bool.false_eq_true, if_false]
  refine wpAny_bind ?_
  rw [← Array.forIn_toList]
  simp only [List.forIn_cons, List.forIn_nil]
  refine wpAny_bind (wpAny_bind (wpAny_holding ?_))
  show wpAny _ _ (Builtin.SmallTypes.nextOf (.ref i1) >>= _) _ _ _
  refine wpAny_bind (wpAny_nextOf_list_end hh (h1.extBut hs₁.extBut D.i1z) (hl1.extBut hs₁.extBut D.l1z) hx fun h₂ e hs₂ he => ?_)
  exact hE h₂ e (fun c o c1 c2 x => hs₂ _ _ c2 (hs₁.extBut _ _ c1 x)) he
end
theorem ge_ne {a b B : Nat} (h1 : a < B) (h2 : B ≤ b) : b ≠ a := by omega
def tob (p : Value × Value) : Obj := { cls := .type "tuple", data := .seq #[p.1, p.2] }
/-- the tuples made so far -/
structure Made (B : Nat) (h : Heap) (acc : Array Value) (tups : List (Addr × Obj)) (ps : List (Value × Value)) : Prop where
  acc_ : acc.toList = tups.map fun p => Value.ref p.1
  at_ : ∀ p ∈ tups, h.get? p.1 = some p.2 ∧ B ≤ p.1
  is_ : tups.map (·.2) = ps.map tob
theorem Made.snoc {B : Nat} {h h' : Heap} {acc : Array Value} {tups : List (Addr × Obj)} {ps : List (Value × Value)} {T : Addr} {p : Value × Value} (x : Made B h acc tups ps) (k : ∀ q ∈ tups, h.get? q.1 = some q.2 → h'.get? q.1 = some q.2) (e : h'.get? T = some (tob p)) (hT : B ≤ T) :
    Made B h' (acc.push (.ref T)) (tups ++ [(T, tob p)]) (ps ++ [p]) := by
  refine ⟨by simp [x.acc_], fun q hq => ?_, by simp [x.is_]⟩
  rcases List.mem_append.mp hq with hq | hq
  · exact ⟨k q hq (x.at_ q hq).1, (x.at_ q hq).2⟩
  · rw [List.mem_singleton.mp hq]; exact ⟨e, hT⟩
theorem zip_no_len : typeLookup (.type "zip") "__len__" = pure none := by rw [typeLookup_type, builtinLookup_eq_fast]; kernel_rfl
theorem zip_no_hint : typeLookup (.type "zip") "__length_hint__" = pure none := by rw [typeLookup_type, builtinLookup_eq_fast]; kernel_rfl
section
variable {prog : Program} {w : World} {A : Around} {E : Value → Shared → Prop} {s : Shared}
theorem hint_zip {z TI TO : Addr} {f0 : Value} {Q : Bool → Shared → Prop} (hz : IsZip s.heap z TI TO f0) (h : Q true s) : wpAny (model prog w) A (Builtin.List.listLengthHint (.ref z)) Q E s := by
  have hT : s.TypeIs (.ref z) "zip" := ⟨_, hz, rfl⟩
  unfold Builtin.List.listLengthHint specialOf
  refine wpAny_bind (wpAny_bind (wpAny_typeOf hT ?_))
  rw [zip_no_len]
  refine wpAny_pure ?_
  show wpAny _ _ ((typeOf (.ref z) >>= fun t => typeLookup t "__length_hint__") >>= _) _ _ _
  refine wpAny_bind (wpAny_bind (wpAny_typeOf hT ?_))
  rw [zip_no_hint]
  exact wpAny_pure (wpAny_pure h)
theorem next_more {z TI TO T i1 i2 l1 l2 : Addr} {b : Bool} {o : Obj} {k : Nat} {xs ys : Array Value} {x y : Value} {Q : Option Value → Shared → Prop} (D : ZipApart z TI TO i1 i2 l1 l2)
    (hz : ZipH s.heap z TI TO T b) (hT : s.heap.get? T = some o) (hTI : IsPair s.heap TI (.ref i1) (.ref i2))
    (h1 : s.heap.IsListIter i1 l1 k) (h2 : s.heap.IsListIter i2 l2 k) (hl1 : s.heap.IsList l1 xs) (hl2 : s.heap.IsList l2 ys) (hx : xs[k]? = some x) (hy : ys[k]? = some y)
    (hQ : ∀ h', ZipH h' z TI TO T true → h'.IsListIter i1 l1 (k + 1) → h'.IsListIter i2 l2 (k + 1) → IsPair h' s.heap.objs.size x y → h'.objs.size = s.heap.objs.size + 1 →
      (∀ c o, c ≠ z → c ≠ i1 → c ≠ i2 → s.heap.get? c = some o → h'.get? c = some o) → Q (some (.ref s.heap.objs.size)) { s with heap := h' }) :
    wpAny (model prog w) A (pyNext (.ref z)) Q E s := by
  have hZ : s.TypeIs (.ref z) "zip" := ⟨_, hz, rfl⟩
  unfold pyNext
  exact wpAny_bind (wpAny_attempt (wpAny_callSpecial?_slot (name := Str.ofString "__next__") hZ F.slot_zip_next
    (wpAny_call_entry F.slot_zip_next hZ F.entry_zip_next
      (zipMore D hz hT hTI h1 h2 hl1 hl2 hx hy fun h' a1 a2 a3 a4 a5 a6 => wpAny_pure (hQ h' a1 a2 a3 a4 a5 a6)) (F.args_zip_next_1 _))))
theorem next_end {z TI TO T i1 i2 l1 l2 : Addr} {b : Bool} {o : Obj} {k : Nat} {xs : Array Value} {Q : Option Value → Shared → Prop} (hh : A.handled = none) (D : ZipApart z TI TO i1 i2 l1 l2)
    (hz : ZipH s.heap z TI TO T b) (hT : s.heap.get? T = some o) (hTI : IsPair s.heap TI (.ref i1) (.ref i2))
    (h1 : s.heap.IsListIter i1 l1 k) (hl1 : s.heap.IsList l1 xs) (hx : xs[k]? = none)
    (hQ : ∀ h', (∀ c o, c ≠ z → c ≠ i1 → s.heap.get? c = some o → h'.get? c = some o) → Q none { s with heap := h' }) : wpAny (model prog w) A (pyNext (.ref z)) Q E s := by
  have hZ : s.TypeIs (.ref z) "zip" := ⟨_, hz, rfl⟩
  unfold pyNext
  refine wpAny_bind (wpAny_attempt (wpAny_callSpecial?_slot (name := Str.ofString "__next__") hZ F.slot_zip_next
    (wpAny_call_entry F.slot_zip_next hZ F.entry_zip_next (zipEnd hh D hz hT hTI h1 hl1 hx fun h' e hk he => ?_) (F.args_zip_next_1 _))))
  obtain ⟨o, ho, hc⟩ := he
  refine wpAny_bind (wpAny_isInstance (T := "StopIteration") (b := true) ⟨o, ho, hc⟩ isSubtype_stop ?_)
  exact wpAny_pure (hQ _ hk)
end
section
variable {prog : Program} {w : World} {A : Around} {R : Result → Shared → Prop}
theorem extend_more {z TI TO i1 i2 l1 l2 S : Addr} {xs ys : List Value} {res : Value} {B : Nat} (hh : A.handled = none) (D : ZipApart z TI TO i1 i2 l1 l2) (hlen : xs.length = ys.length) (h64 : xs.length < 64) (Sz : S ≠ z) (S1 : S ≠ i1) (S2 : S ≠ i2) (STI : S ≠ TI) (Sl1 : S ≠ l1) (Sl2 : S ≠ l2)
    (hzB : @LT.lt Nat _ z B) (h1B : @LT.lt Nat _ i1 B) (h2B : @LT.lt Nat _ i2 B) (hSB : @LT.lt Nat _ S B) :
    ∀ (k i : Nat) (s : Shared) (acc : Array Value) (c : Nat) (b : Bool) (T : Addr) (tups : List (Addr × Obj)), xs.length - i = k → i ≤ xs.length → ZipH s.heap z TI TO T b → (∃ o, (T, o) ∈ tups) → IsPair s.heap TI (.ref i1) (.ref i2) → s.heap.IsListIter i1 l1 i → s.heap.IsListIter i2 l2 i → s.heap.IsList l1 xs.toArray → s.heap.IsList l2 ys.toArray →
      s.heap.get? S = some { cls := .type "list", dict := none, data := .seq acc c, slots := #[] } → Made B s.heap acc tups ((xs.zip ys).take i) →
      (∀ h' tk acc' c' tups', (∀ b o, b ≠ z → b ≠ i1 → b ≠ i2 → b ≠ S → s.heap.get? b = some o → h'.get? b = some o) → h'.get? S = some { cls := .type "list", dict := none, data := .seq acc' c', slots := #[] } → Made B h' acc' tups' (xs.zip ys) → R (.ok (.ret res)) { s with heap := h', toks := tk }) →
      codeAny (model prog w) A (.builtin "list.extend.loop" ⟨[.ref S, .ref z, res], []⟩) R s := by
  intro k
  induction k with
  | zero =>
    intro i s acc c b T tups hk hi hz hT hTI h1 h2 hl1 hl2 hS hM hR
    have hin : i = xs.length := by omega
    subst hin
    obtain ⟨o, hT⟩ := hT
    refine codeAny_builtin F.entry_extend_loop ?_
    rw [Around.under_plainId F.plain_extend_loop _]
    show wpAny _ A.in1 (pyNext (.ref z) >>= _) _ _ s
    refine wpAny_bind (next_end hh D hz (hM.at_ _ hT).1 hTI h1 hl1 (by simp) fun h' kp => ?_)
    rw [List.take_of_length_le (by simp [hlen])] at hM
    refine wpAny_pure (hR h' s.toks acc c tups (fun b o b1 b2 b3 b4 e => kp b o b1 b2 e) (kp _ _ Sz S1 hS) ⟨hM.acc_, fun p hp => ⟨kp _ _ ?_ ?_ (hM.at_ p hp).1, (hM.at_ p hp).2⟩, hM.is_⟩)
    · exact ge_ne hzB (hM.at_ p hp).2
    · exact ge_ne h1B (hM.at_ p hp).2
  | succ k ih =>
    intro i s acc c b T tups hk hi hz hT hTI h1 h2 hl1 hl2 hS hM hR
    have hlt : i < xs.length := by omega
    have hlt2 : i < ys.length := by omega
    obtain ⟨o, hT⟩ := hT
    refine codeAny_builtin F.entry_extend_loop ?_
    rw [Around.under_plainId F.plain_extend_loop _]
    show wpAny _ A.in1 (pyNext (.ref z) >>= _) _ _ s
    refine wpAny_bind (next_more D hz (hM.at_ _ hT).1 hTI h1 h2 hl1 hl2 (x := xs[i]) (y := ys[i]) (by simp [hlt]) (by simp [hlt2]) fun h' hz' h1' h2' hP' hsz' kp => ?_)
    have hS' := kp _ _ Sz S1 S2 hS
    have hacc : acc.size = i := by
      have e1 := congrArg List.length hM.acc_
      have e2 := congrArg List.length hM.is_
      simp only [List.length_map, List.length_take, List.length_zip, Array.length_toList] at e1 e2
      omega
    show wpAny _ A.in1 (updateSeq S (·.push (.ref s.heap.objs.size)) >>= _) _ _ _
    refine wpAny_bind ?_
    have hSs : S < s.heap.objs.size := Heap.lt_size hS
    have oth : ∀ b o, b ≠ S → h'.get? b = some o → (h'.update S (Obj.mapSeq (·.push (Value.ref s.heap.objs.size)))).get? b = some o := fun b o hb e => (Heap.get?_update_other _ _ (Ne.symm hb)).trans e
    have hge : B ≤ s.heap.objs.size := by
      have := (hM.at_ _ hT)
      exact Nat.le_trans this.2 (Nat.le_of_lt (Heap.lt_size this.1))
    have hM' : Made B (h'.update S (Obj.mapSeq (·.push (Value.ref s.heap.objs.size)))) (acc.push (.ref s.heap.objs.size)) (tups ++ [(s.heap.objs.size, tob (xs[i], ys[i]))]) ((xs.zip ys).take (i + 1)) := by
      have e : (xs.zip ys).take (i + 1) = (xs.zip ys).take i ++ [(xs[i], ys[i])] := by
        rw [List.take_add_one]
        have : (xs.zip ys)[i]? = some (xs[i], ys[i]) := by simp [List.getElem?_zip_eq_some, hlt, hlt2]
        rw [this]; rfl
      rw [e]
      refine hM.snoc (fun q hq eq => ?_) (oth _ _ (Nat.ne_of_gt hSs) hP') hge
      have hb := (hM.at_ q hq).2
      exact oth _ _ (ge_ne hSB hb) (kp _ _ (ge_ne hzB hb) (ge_ne h1B hb) (ge_ne h2B hb) eq)
    refine wpAny_updateSeq hS' rfl (wpAny_pure ⟨plainId_quiet F.plain_extend_loop _, ih (i + 1) _ _ _ true T _ (by omega) hlt (oth _ _ (Ne.symm Sz) hz') ⟨o, List.mem_append_left _ hT⟩ (oth _ _ (Ne.symm STI) (kp _ _ D.TIz D.TIi1 D.TIi2 hTI)) (h1'.at fun o e => oth _ o (Ne.symm S1) e) (h2'.at fun o e => oth _ o (Ne.symm S2) e)
      (hl1.at fun o e => oth _ o (Ne.symm Sl1) (kp _ o D.l1z D.l1i1 D.l1i2 e)) (hl2.at fun o e => oth _ o (Ne.symm Sl2) (kp _ o D.l2z D.l2i1 D.l2i2 e)) (Heap.get?_update_self _ hS' rfl) hM' fun h'' tk acc' c' tups' kp'' hS'' hM'' => ?_⟩)
      (by rw [hacc, sizeLine_eq]; omega) (by show (acc.push _).size ≤ sizeLine + 1; rw [Array.size_push, hacc, sizeLine_eq]; omega)
    exact hR h'' tk acc' c' tups' (fun b o b1 b2 b3 b4 e => kp'' b o b1 b2 b3 b4 (oth b o b4 (kp b o b1 b2 b3 e))) hS'' hM''
theorem extend_first {z TI TO i1 i2 l1 l2 S : Addr} {xs ys : List Value} {res : Value} {s : Shared} {c : Nat} (hh : A.handled = none) (D : ZipApart z TI TO i1 i2 l1 l2) (hlen : xs.length = ys.length) (h64 : xs.length < 64) (h0 : 0 < xs.length) (Sz : S ≠ z) (STO : S ≠ TO) (S1 : S ≠ i1) (S2 : S ≠ i2) (STI : S ≠ TI) (Sl1 : S ≠ l1) (Sl2 : S ≠ l2)
    (hz : IsZip s.heap z TI TO .none) (hTI : IsPair s.heap TI (.ref i1) (.ref i2)) (hTO : IsPair s.heap TO .none .none) (h1 : s.heap.IsListIter i1 l1 0) (h2 : s.heap.IsListIter i2 l2 0) (hl1 : s.heap.IsList l1 xs.toArray) (hl2 : s.heap.IsList l2 ys.toArray)
    (hS : s.heap.get? S = some { cls := .type "list", dict := none, data := .seq #[] c, slots := #[] })
    (hR : ∀ h' tk acc' c' tups', (∀ b o, b ≠ z → b ≠ TO → b ≠ i1 → b ≠ i2 → b ≠ S → s.heap.get? b = some o → h'.get? b = some o) → h'.get? S = some { cls := .type "list", dict := none, data := .seq acc' c', slots := #[] } → Made s.heap.objs.size h' acc' tups' (xs.zip ys) → R (.ok (.ret res)) { s with heap := h', toks := tk }) :
    codeAny (model prog w) A (.builtin "list.extend.loop" ⟨[.ref S, .ref z, res], []⟩) R s := by
  have hy0 : 0 < ys.length := by omega
  refine codeAny_builtin F.entry_extend_loop ?_
  rw [Around.under_plainId F.plain_extend_loop _]
  show wpAny _ A.in1 (pyNext (.ref z) >>= _) _ _ s
  refine wpAny_bind (wpAny_pyNext_zip_item D hz hTI hTO h1 h2 hl1 hl2 (x := xs[0]) (y := ys[0]) (by simp [h0]) (by simp [hy0]) fun h' hz' hTO' h1' h2' hP' hsz' kp => ?_)
  have hS' := kp _ _ Sz STO S1 S2 hS
  show wpAny _ A.in1 (updateSeq S (·.push (.ref s.heap.objs.size)) >>= _) _ _ _
  refine wpAny_bind ?_
  have lt : ∀ {b o}, s.heap.get? b = some o → @LT.lt Nat _ b s.heap.objs.size := fun e => Heap.lt_size e
  have hSs := lt hS
  have oth : ∀ b o, b ≠ S → h'.get? b = some o → (h'.update S (Obj.mapSeq (·.push (Value.ref s.heap.objs.size)))).get? b = some o := fun b o hb e => (Heap.get?_update_other _ _ (Ne.symm hb)).trans e
  have hM' : Made s.heap.objs.size (h'.update S (Obj.mapSeq (·.push (Value.ref s.heap.objs.size)))) (#[].push (.ref s.heap.objs.size)) ([] ++ [(s.heap.objs.size, tob (xs[0], ys[0]))]) ((xs.zip ys).take 1) := by
    have e : (xs.zip ys).take 1 = [] ++ [(xs[0], ys[0])] := by
      rw [show (1 : Nat) = 0 + 1 from rfl, List.take_add_one]
      have : (xs.zip ys)[0]? = some (xs[0], ys[0]) := by simp [List.getElem?_zip_eq_some, h0, hy0]
      rw [this]; rfl
    rw [e]
    exact Made.snoc (h := h') ⟨rfl, fun p hp => by simp at hp, rfl⟩ (fun q hq => by simp at hq) (oth _ _ (Nat.ne_of_gt hSs) hP') (Nat.le_refl _)
  have z1 : @LT.lt Nat _ i1 s.heap.objs.size := by obtain ⟨o, e, _⟩ := h1; exact lt e
  have z2 : @LT.lt Nat _ i2 s.heap.objs.size := by obtain ⟨o, e, _⟩ := h2; exact lt e
  refine wpAny_updateSeq hS' rfl (wpAny_pure ⟨plainId_quiet F.plain_extend_loop _, extend_more (B := s.heap.objs.size) hh D hlen h64 Sz S1 S2 STI Sl1 Sl2 (lt hz) z1 z2 hSs _ 1 _ _ _ false s.heap.objs.size _ rfl (by omega) (oth _ _ (Ne.symm Sz) hz') ⟨tob (xs[0], ys[0]), List.mem_append_right _ (List.mem_singleton.mpr rfl)⟩ (oth _ _ (Ne.symm STI) (kp _ _ D.TIz D.TITO D.TIi1 D.TIi2 hTI)) (h1'.at fun o e => oth _ o (Ne.symm S1) e) (h2'.at fun o e => oth _ o (Ne.symm S2) e)
      (hl1.at fun o e => oth _ o (Ne.symm Sl1) (kp _ o D.l1z D.l1TO D.l1i1 D.l1i2 e)) (hl2.at fun o e => oth _ o (Ne.symm Sl2) (kp _ o D.l2z D.l2TO D.l2i1 D.l2i2 e)) (Heap.get?_update_self _ hS' rfl) hM' fun h'' tk acc' c' tups' kp'' hS'' hM'' => ?_⟩)
      (by show 0 ≤ sizeLine; exact Nat.zero_le _) (by show 1 ≤ sizeLine + 1; omega)
  exact hR h'' tk acc' c' tups' (fun b o b1 b2 b3 b4 b5 e => kp'' b o b1 b3 b4 b5 (oth b o b5 (kp b o b1 b2 b3 b4 e))) hS'' hM''
theorem extend_zip {z TI TO i1 i2 l1 l2 S : Addr} {xs ys : List Value} {res : Value} {s : Shared} {c : Nat} (hh : A.handled = none) (D : ZipApart z TI TO i1 i2 l1 l2) (hlen : xs.length = ys.length) (h64 : xs.length < 64) (h0 : 0 < xs.length) (Sz : S ≠ z) (STO : S ≠ TO) (S1 : S ≠ i1) (S2 : S ≠ i2) (STI : S ≠ TI) (Sl1 : S ≠ l1) (Sl2 : S ≠ l2)
    (hz : IsZip s.heap z TI TO .none) (hTI : IsPair s.heap TI (.ref i1) (.ref i2)) (hTO : IsPair s.heap TO .none .none) (h1 : s.heap.IsListIter i1 l1 0) (h2 : s.heap.IsListIter i2 l2 0) (hl1 : s.heap.IsList l1 xs.toArray) (hl2 : s.heap.IsList l2 ys.toArray)
    (hS : s.heap.get? S = some { cls := .type "list", dict := none, data := .seq #[] c, slots := #[] })
    (hR : ∀ h' tk acc' c' tups', (∀ b o, b ≠ z → b ≠ TO → b ≠ i1 → b ≠ i2 → b ≠ S → s.heap.get? b = some o → h'.get? b = some o) → h'.get? S = some { cls := .type "list", dict := none, data := .seq acc' c', slots := #[] } → Made s.heap.objs.size h' acc' tups' (xs.zip ys) → R (.ok (.ret res)) { s with heap := h', toks := tk }) :
    wpAny (model prog w) A.in1 (Builtin.List.listExtendWith (.ref S) (.ref z) res)
      (fun fin s' => match fin with | .done f => R (.ok f) s' | .again c' => c'.quiet = true ∧ codeAny (model prog w) A c' R s') (fun e s' => R (.error e) s') s := by
  unfold Builtin.List.listExtendWith
  refine wpAny_bind (wpAny_typeOf (T := "zip") ⟨_, hz, rfl⟩ ?_)
  have e1 : Builtin.List.listSameRef (.ref S) (.ref z) = false := by simp [Builtin.List.listSameRef, Sz]
  have e2 : (Value.type "zip" == Value.type "list") = false := by decide
  have e3 : (Value.type "zip" == Value.type "tuple") = false := by decide
  simp only [e1, e2, e3, Bool.or_false, Bool.false_eq_true, if_false]
  refine wpAny_bind (wpAny_pyIter_zip hz ?_)
  refine wpAny_bind (wpAny_holding (hint_zip hz ?_))
  simp only [Bool.true_or, if_true]
  refine wpAny_bind (wpAny_rule ?_)
  refine wpAny_bind ?_
  show wpAny _ _ (updateSeq S (·.push .none) >>= fun _ => updateSeq S (·.pop)) _ _ _
  refine wpAny_bind (wpAny_updateSeq hS rfl ?_)
  have hS₂ := Heap.get?_update_self (Obj.mapSeq (·.push Value.none)) hS rfl
  refine wpAny_updateSeq (hz := by seq_fits) hS₂ rfl ?_
  have hS₃ := Heap.get?_update_self (Obj.mapSeq (·.pop)) hS₂ rfl
  have oth : ∀ b o, b ≠ S → s.heap.get? b = some o → ((s.heap.update S (Obj.mapSeq (·.push Value.none))).update S (Obj.mapSeq (·.pop))).get? b = some o := fun b o hb e =>
    (Heap.get?_update_other _ _ (Ne.symm hb)).trans ((Heap.get?_update_other _ _ (Ne.symm hb)).trans e)
  have hsz : ((s.heap.update S (Obj.mapSeq (·.push Value.none))).update S (Obj.mapSeq (·.pop))).objs.size = s.heap.objs.size := by rw [Heap.size_update, Heap.size_update]
  refine wpAny_pure ⟨plainId_quiet F.plain_extend_loop _, extend_first (s := { s with heap := (s.heap.update S (Obj.mapSeq (·.push Value.none))).update S (Obj.mapSeq (·.pop)) }) hh D hlen h64 h0 Sz STO S1 S2 STI Sl1 Sl2 (oth _ _ (Ne.symm Sz) hz) (oth _ _ (Ne.symm STI) hTI) (oth _ _ (Ne.symm STO) hTO) (h1.at fun o e => oth _ o (Ne.symm S1) e) (h2.at fun o e => oth _ o (Ne.symm S2) e)
    (hl1.at fun o e => oth _ o (Ne.symm Sl1) e) (hl2.at fun o e => oth _ o (Ne.symm Sl2) e) hS₃ fun h' tk acc' c' tups' kp hS' hM => ?_⟩
  exact hR h' tk acc' c' tups' (fun b o b1 b2 b3 b4 b5 e => kp b o b1 b2 b3 b4 b5 (oth b o b5 e)) hS' (by rw [← hsz]; exact hM)
end
section
variable {prog : Program} {w : World} {A : Around} {E : Value → Shared → Prop} {s : Shared}
theorem call_list_zip {Q : Value → Shared → Prop} {z TI TO i1 i2 l1 l2 : Addr} {xs ys : List Value} (hh : A.handled = none) (D : ZipApart z TI TO i1 i2 l1 l2) (hlen : xs.length = ys.length) (h64 : xs.length < 64) (h0 : 0 < xs.length)
    (hz : IsZip s.heap z TI TO .none) (hTI : IsPair s.heap TI (.ref i1) (.ref i2)) (hTO : IsPair s.heap TO .none .none) (h1 : s.heap.IsListIter i1 l1 0) (h2 : s.heap.IsListIter i2 l2 0) (hl1 : s.heap.IsList l1 xs.toArray) (hl2 : s.heap.IsList l2 ys.toArray)
    (hQ : ∀ h' tk acc' c' tups', (∀ b o, b ≠ z → b ≠ TO → b ≠ i1 → b ≠ i2 → s.heap.get? b = some o → h'.get? b = some o) →
      h'.get? s.heap.objs.size = some { cls := .type "list", dict := none, data := .seq acc' c', slots := #[] } → Made s.heap.objs.size h' acc' tups' (xs.zip ys) → Q (.ref s.heap.objs.size) { s with heap := h', toks := tk }) :
    wpAny (model prog w) A (call (.type "list") [.ref z]) Q E s := by
  refine callType_codes (Q₁ := fun obj s₁ => obj = .ref s.heap.objs.size ∧ s₁ = { s with heap := s.heap.push { cls := .type "list", data := .seq #[] } }) F.called_list (F.typeCall_list_1 _) F.entry_list_init
    (code_list_new _ ⟨rfl, rfl⟩) fun obj s₁ h₁ => ?_
  obtain ⟨rfl, rfl⟩ := h₁
  have hS : (s.heap.push { cls := .type "list", data := .seq #[] }).get? s.heap.objs.size = some { cls := .type "list", data := .seq #[] } := Heap.get?_push_size _ rfl
  have up : ∀ b o, s.heap.get? b = some o → (s.heap.push { cls := .type "list", data := .seq #[] }).get? b = some o := fun b o e => Heap.get?_push_of_some _ e
  have ne : ∀ {b o}, s.heap.get? b = some o → s.heap.objs.size ≠ b := fun e => Nat.ne_of_gt (Heap.lt_size e)
  have n1 : s.heap.objs.size ≠ i1 := by obtain ⟨o, e, _⟩ := h1; exact ne e
  have n2 : s.heap.objs.size ≠ i2 := by obtain ⟨o, e, _⟩ := h2; exact ne e
  have n3 : s.heap.objs.size ≠ l1 := by obtain ⟨o, e, _⟩ := hl1; exact ne e
  have n4 : s.heap.objs.size ≠ l2 := by obtain ⟨o, e, _⟩ := hl2; exact ne e
  refine ⟨⟨_, hS, rfl⟩, F.args_list_init_2 _ _, ?_⟩
  show wpAny _ _ (do let old ← Builtin.List.listItems (.ref s.heap.objs.size); Builtin.List.listUpdate (.ref s.heap.objs.size) (fun _ => #[]); letGo old.toList.reverse; Builtin.List.listExtendWith (.ref s.heap.objs.size) (.ref z) .none) _ _ _
  refine wpAny_bind ?_
  unfold Builtin.List.listItems
  refine wpAny_bind (wpAny_seqItems hS rfl (wpAny_pure ?_))
  show wpAny _ _ (updateSeq s.heap.objs.size (fun _ => #[]) >>= fun _ => letGo (#[] : Array Value).toList.reverse >>= fun _ => Builtin.List.listExtendWith (.ref s.heap.objs.size) (.ref z) .none) _ _ _
  refine wpAny_bind (wpAny_updateSeq hS rfl ?_)
  have hS₂ := Heap.get?_update_self (Obj.mapSeq (fun _ => (#[] : Array Value))) hS rfl
  have oth : ∀ b o, b ≠ s.heap.objs.size → s.heap.get? b = some o → ((s.heap.push { cls := .type "list", data := .seq #[] }).update s.heap.objs.size (Obj.mapSeq (fun _ => (#[] : Array Value)))).get? b = some o :=
    fun b o hb e => (Heap.get?_update_other _ _ (Ne.symm hb)).trans (up b o e)
  refine wpAny_bind (wpAny_letGo ?_)
  refine extend_zip (A := A.in1) hh D hlen h64 h0 (ne hz) (ne hTO) n1 n2 (ne hTI) n3 n4 (oth _ _ (Ne.symm (ne hz)) hz) (oth _ _ (Ne.symm (ne hTI)) hTI) (oth _ _ (Ne.symm (ne hTO)) hTO) (h1.at fun o e => oth _ o (Ne.symm n1) e) (h2.at fun o e => oth _ o (Ne.symm n2) e)
    (hl1.at fun o e => oth _ o (Ne.symm n3) e) (hl2.at fun o e => oth _ o (Ne.symm n4) e) hS₂ fun h' tk acc' c' tups' kp hS' hM => ?_
  refine ⟨rfl, hQ h' tk acc' c' tups' (fun b o b1 b2 b3 b4 e => kp b o b1 b2 b3 b4 (Ne.symm (ne e)) (oth b o (Ne.symm (ne e)) e)) hS' ⟨hM.acc_, fun p hp => ⟨(hM.at_ p hp).1, Nat.le_trans ?_ (hM.at_ p hp).2⟩, hM.is_⟩⟩
  rw [Heap.size_update, Heap.size_push]; exact Nat.le_succ _
end
end Mine

namespace Mine
open PySem PySem.W PyProof.Rows PySem.Calls PySem.Spec
/-- the values are tuples of two ints each -/
inductive PairsAt (h : Heap) : List Value → List (Int × Int) → Prop
  | nil : PairsAt h [] []
  | cons {T : Addr} {a b : Int} {ta tb : Tok} {n : Nat} {vs : List Value} {ps : List (Int × Int)} : h.get? T = some { cls := .type "tuple", data := .seq #[.int a ta, .int b tb] n } → PairsAt h vs ps → PairsAt h (.ref T :: vs) ((a, b) :: ps)
theorem PairsAt.keeps {h h' : Heap} (k : Kp h h') : ∀ {vs : List Value} {ps : List (Int × Int)}, PairsAt h vs ps → PairsAt h' vs ps
  | _, _, .nil => .nil
  | _, _, .cons e r => .cons (k _ _ e) (r.keeps k)
theorem PairsAt.length {h : Heap} : ∀ {vs : List Value} {ps : List (Int × Int)}, PairsAt h vs ps → vs.length = ps.length
  | _, _, .nil => rfl
  | _, _, .cons e r => by rw [List.length_cons, List.length_cons, r.length]
theorem made_pairs {h : Heap} : ∀ {tups : List (Addr × Obj)} {xs ys : List Value} {ns ms : List Int}, IntsAre xs ns → IntsAre ys ms → tups.map (·.2) = (xs.zip ys).map tob → (∀ p ∈ tups, h.get? p.1 = some p.2) → PairsAt h (tups.map fun p => Value.ref p.1) (ns.zip ms)
  | [], _, _, _, _, .nil, _, _, _ => by simp only [List.zip_nil_left]; exact .nil
  | [], _, _, _, _, .cons _ _ _, .nil, _, _ => by simp only [List.zip_nil_right]; exact .nil
  | [], _, _, _, _, .cons _ _ _, .cons _ _ _, e, _ => by simp at e
  | q :: r, _, _, _, _, .nil, _, e, _ => by simp at e
  | q :: r, _, _, _, _, .cons _ _ _, .nil, e, _ => by simp at e
  | q :: r, _, _, _, _, .cons n t hi, .cons n' t' hj, e, hs => by
    simp only [List.map_cons, List.zip_cons_cons, List.cons.injEq] at e
    refine .cons (n := 0) (ta := t) (tb := t') ?_ (made_pairs hi hj e.2 fun p hp => hs p (.tail _ hp))
    rw [hs q (.head _), e.1]; rfl
section
variable {w : World} {A : Around} {prog : Program} {h₀ : Heap} {L : Addr} {m : Str → Option Value} {s : Shared} {Q E : Value → Shared → Prop} {news : List (Addr × Obj)}
def IterO (o : Obj) (l : Addr) : Prop := o.cls = .type "list_iterator" ∧ o.data = .fields #[.ref l, .int 0 0]
abbrev zipO (TI TO : Addr) : Obj := { cls := .type "zip", dict := none, data := .fields #[.none, .bool false, .bool false, .ref TI, .ref TO], slots := #[] }
abbrev pairO (a b : Value) : Obj := { cls := .type "tuple", data := .seq #[a, b] }
theorem zip_use {l1 l2 : Addr} {xs ys : Array Value} (F : Fr h₀ L s.heap m) (N : News h₀ L s.heap news) (hl1 : s.heap.IsList l1 xs) (hl2 : s.heap.IsList l2 ys)
    (ret : ∀ z TI TO i1 i2 o1 o2 h', Fr h₀ L h' m → News h₀ L h' ((z, zipO TI TO) :: (TI, pairO (.ref i1) (.ref i2)) :: (TO, pairO .none .none) :: (i1, o1) :: (i2, o2) :: news) → ZipApart z TI TO i1 i2 l1 l2 → IterO o1 l1 → IterO o2 l2 →
      (∀ p ∈ news, p.1 ≠ z ∧ p.1 ≠ TO ∧ p.1 ≠ i1 ∧ p.1 ≠ i2) → L ≠ z ∧ L ≠ TO ∧ L ≠ i1 ∧ L ≠ i2 → Q (.ref z) { s with heap := h' }) :
    wpAny (model prog w) A (call (.type "zip") [.ref l1, .ref l2]) Q E s := by
  refine call_zip_2 hl1 hl2 fun h' hz hTI hTO h1 h2 hsz kp => ?_
  obtain ⟨o1, e1, c1, d1⟩ := h1
  obtain ⟨o2, e2, c2, d2⟩ := h2
  have lt : ∀ {b o}, s.heap.get? b = some o → @LT.lt Nat _ b s.heap.objs.size := fun e => Heap.lt_size e
  have L1 : @LT.lt Nat _ l1 s.heap.objs.size := by obtain ⟨o, e, _⟩ := hl1; exact lt e
  have L2 : @LT.lt Nat _ l2 s.heap.objs.size := by obtain ⟨o, e, _⟩ := hl2; exact lt e
  have LL : @LT.lt Nat _ L s.heap.objs.size := F.ns.lt
  have nw : ∀ (k : Nat), (s.heap.objs.size + k : Nat) ≠ L ∧ h₀.get? (s.heap.objs.size + k : Nat) = none := fun k => by
    refine ⟨by omega, ?_⟩
    cases q : h₀.get? (s.heap.objs.size + k : Nat) with
    | none => rfl
    | some o => have := lt (F.keep _ _ q); omega
  refine ret (s.heap.objs.size + 4) (s.heap.objs.size + 2) (s.heap.objs.size + 3) s.heap.objs.size (s.heap.objs.size + 1) o1 o2 h' (F.keeps kp) ?_ ?_ ⟨c1, d1⟩ ⟨c2, d2⟩ ?_ ?_
  · intro p hp
    rcases List.mem_cons.mp hp with rfl | hp
    · exact ⟨hz, nw 4⟩
    · rcases List.mem_cons.mp hp with rfl | hp
      · exact ⟨hTI, nw 2⟩
      · rcases List.mem_cons.mp hp with rfl | hp
        · exact ⟨hTO, nw 3⟩
        · rcases List.mem_cons.mp hp with rfl | hp
          · exact ⟨e1, nw 0⟩
          · rcases List.mem_cons.mp hp with rfl | hp
            · exact ⟨e2, nw 1⟩
            · exact N.grown kp p hp
  · constructor <;> (refine neN ?_; omega)
  · intro p hp
    have := lt (N p hp).1
    refine ⟨?_, ?_, ?_, ?_⟩ <;> (refine neN ?_; omega)
  · refine ⟨?_, ?_, ?_, ?_⟩ <;> (refine neN ?_; omega)
theorem list_zip_use {z TI TO i1 i2 r t ll pl nl l c : Addr} {o1 o2 orr ot oll ol oc : Obj} {vP vN : List Value} {n2 n3 : Nat} {stat : List (Addr × Obj)} {ns ms : List Int} (hh : A.handled = none)
    (F : Fr h₀ L s.heap m) (N : News h₀ L s.heap ((z, zipO TI TO) :: (TI, pairO (.ref i1) (.ref i2)) :: (TO, pairO .none .none) :: (i1, o1) :: (i2, o2) :: (r, orr) :: (t, ot) :: (ll, oll) :: (pl, W.listOf vP.toArray n2) :: (nl, W.listOf vN.toArray n3) :: (l, ol) :: (c, oc) :: stat))
    (D : ZipApart z TI TO i1 i2 nl pl) (c1 : IterO o1 nl) (c2 : IterO o2 pl) (hN : IntsAre vN ns) (hP : IntsAre vP ms) (hlen : ns.length = ms.length) (h64 : ns.length < 64) (h0 : 0 < ns.length)
    (ap : ∀ p ∈ (r, orr) :: (t, ot) :: (ll, oll) :: (pl, W.listOf vP.toArray n2) :: (nl, W.listOf vN.toArray n3) :: (l, ol) :: (c, oc) :: stat, p.1 ≠ z ∧ p.1 ≠ TO ∧ p.1 ≠ i1 ∧ p.1 ≠ i2) (hL : L ≠ z ∧ L ≠ TO ∧ L ≠ i1 ∧ L ≠ i2) {PP : Heap → Prop} (lay : ∀ h : Heap, (∀ p ∈ stat, h.get? p.1 = some p.2) → PP h)
    (ret : ∀ D outs k stat' h' tk', Fr h₀ L h' m → News h₀ L h' ((D, W.listOf (List.toArray outs) k) :: (ll, oll) :: (l, ol) :: (c, oc) :: stat') →
      (∀ h : Heap, (∀ p ∈ stat', h.get? p.1 = some p.2) → PP h ∧ PairsAt h outs (ns.zip ms)) → Q (.ref D) { s with heap := h', toks := tk' }) :
    wpAny (model prog w) A (call (.type "list") [.ref z]) Q E s := by
  have g := fun {q : Addr × Obj} hq => (N q hq).1
  have it : ∀ {it l : Addr} {o : Obj}, s.heap.get? it = some o → IterO o l → s.heap.IsListIter it l 0 := fun e c => ⟨_, e, c.1, c.2⟩
  refine call_list_zip hh D (xs := vN) (ys := vP) (by rw [hN.length, hP.length, hlen]) (by rw [hN.length]; exact h64) (by rw [hN.length]; exact h0) (g (.head _)) (g (.tail _ (.head _))) (g (.tail _ (.tail _ (.head _)))) (it (g (.tail _ (.tail _ (.tail _ (.head _))))) c1) (it (g (.tail _ (.tail _ (.tail _ (.tail _ (.head _)))))) c2)
    ⟨_, g (.tail _ (.tail _ (.tail _ (.tail _ (.tail _ (.tail _ (.tail _ (.tail _ (.tail _ (.head _)))))))))), rfl, _, rfl⟩ ⟨_, g (.tail _ (.tail _ (.tail _ (.tail _ (.tail _ (.tail _ (.tail _ (.tail _ (.head _))))))))), rfl, _, rfl⟩ fun h' tk acc' c' tups' kp hD hM => ?_
  obtain ⟨oL, es, ep, hLo, hLd, hLk, hLf⟩ := id F.ns
  have nz : h₀.get? z = none := (N _ (.head _)).2.2
  have nTO : h₀.get? TO = none := (N _ (.tail _ (.tail _ (.head _)))).2.2
  have n1 : h₀.get? i1 = none := (N _ (.tail _ (.tail _ (.tail _ (.head _))))).2.2
  have n2' : h₀.get? i2 = none := (N _ (.tail _ (.tail _ (.tail _ (.tail _ (.head _)))))).2.2
  have FF : Fr h₀ L h' m := ⟨⟨oL, es, ep, kp _ _ hL.1 hL.2.1 hL.2.2.1 hL.2.2.2 hLo, hLd, hLk, hLf⟩,
    fun b o e => kp b o (fun q => by rw [q, nz] at e; cases e) (fun q => by rw [q, nTO] at e; cases e) (fun q => by rw [q, n1] at e; cases e) (fun q => by rw [q, n2'] at e; cases e) (F.keep b o e), F.above⟩
  have old : ∀ q ∈ (r, orr) :: (t, ot) :: (ll, oll) :: (pl, W.listOf vP.toArray n2) :: (nl, W.listOf vN.toArray n3) :: (l, ol) :: (c, oc) :: stat, h'.get? q.1 = some q.2 ∧ q.1 ≠ L ∧ h₀.get? q.1 = none := fun q hq =>
    ⟨kp _ _ (ap q hq).1 (ap q hq).2.1 (ap q hq).2.2.1 (ap q hq).2.2.2 (N q (.tail _ (.tail _ (.tail _ (.tail _ (.tail _ hq)))))).1, (N q (.tail _ (.tail _ (.tail _ (.tail _ (.tail _ hq)))))).2⟩
  have LL : @LT.lt Nat _ L s.heap.objs.size := F.ns.lt
  have nw : ∀ b : Addr, @LE.le Nat _ s.heap.objs.size b → b ≠ L ∧ h₀.get? b = none := fun b hb => by
    refine ⟨neN (by omega), ?_⟩
    cases q : h₀.get? b with
    | none => rfl
    | some o => have : @LT.lt Nat _ b s.heap.objs.size := Heap.lt_size (F.keep _ _ q); omega
  refine ret s.heap.objs.size (tups'.map fun p => Value.ref p.1) c' (tups' ++ stat) h' tk FF ?_ fun h hs => ⟨lay h fun p hp => hs p (List.mem_append_right _ hp), made_pairs hN hP hM.is_ fun p hp => hs p (List.mem_append_left _ hp)⟩
  intro q hq
  rcases List.mem_cons.mp hq with rfl | hq
  · refine ⟨?_, nw _ (Nat.le_refl _)⟩
    rw [hD, ← hM.acc_]
  · rcases List.mem_cons.mp hq with rfl | hq
    · exact old _ (.tail _ (.tail _ (.head _)))
    · rcases List.mem_cons.mp hq with rfl | hq
      · exact old _ (.tail _ (.tail _ (.tail _ (.tail _ (.tail _ (.head _))))))
      · rcases List.mem_cons.mp hq with rfl | hq
        · exact old _ (.tail _ (.tail _ (.tail _ (.tail _ (.tail _ (.tail _ (.head _)))))))
        · rcases List.mem_append.mp hq with hq | hq
          · exact ⟨(hM.at_ q hq).1, nw _ (hM.at_ q hq).2⟩
          · exact old _ (.tail _ (.tail _ (.tail _ (.tail _ (.tail _ (.tail _ (.tail _ hq)))))))
theorem list_zip_use2 {z TI TO i1 i2 r x t ll pl nl l c : Addr} {o1 o2 orr ox ot oll ol oc : Obj} {vP vN : List Value} {n2 n3 : Nat} {stat : List (Addr × Obj)} {ns ms : List Int} (hh : A.handled = none)
    (F : Fr h₀ L s.heap m) (N : News h₀ L s.heap ((z, zipO TI TO) :: (TI, pairO (.ref i1) (.ref i2)) :: (TO, pairO .none .none) :: (i1, o1) :: (i2, o2) :: (r, orr) :: (x, ox) :: (t, ot) :: (ll, oll) :: (pl, W.listOf vP.toArray n2) :: (nl, W.listOf vN.toArray n3) :: (l, ol) :: (c, oc) :: stat))
    (D : ZipApart z TI TO i1 i2 nl pl) (c1 : IterO o1 nl) (c2 : IterO o2 pl) (hN : IntsAre vN ns) (hP : IntsAre vP ms) (hlen : ns.length = ms.length) (h64 : ns.length < 64) (h0 : 0 < ns.length)
    (ap : ∀ p ∈ (r, orr) :: (x, ox) :: (t, ot) :: (ll, oll) :: (pl, W.listOf vP.toArray n2) :: (nl, W.listOf vN.toArray n3) :: (l, ol) :: (c, oc) :: stat, p.1 ≠ z ∧ p.1 ≠ TO ∧ p.1 ≠ i1 ∧ p.1 ≠ i2) (hL : L ≠ z ∧ L ≠ TO ∧ L ≠ i1 ∧ L ≠ i2) {PP : Heap → Prop} (lay : ∀ h : Heap, (∀ p ∈ stat, h.get? p.1 = some p.2) → PP h)
    (ret : ∀ D outs k stat' h' tk', Fr h₀ L h' m → News h₀ L h' ((D, W.listOf (List.toArray outs) k) :: (ll, oll) :: (l, ol) :: (c, oc) :: stat') →
      (∀ h : Heap, (∀ p ∈ stat', h.get? p.1 = some p.2) → PP h ∧ PairsAt h outs (ns.zip ms)) → Q (.ref D) { s with heap := h', toks := tk' }) :
    wpAny (model prog w) A (call (.type "list") [.ref z]) Q E s :=
  list_zip_use hh F (fun p hp => N p (by
    rcases hp with _ | ⟨_, hp⟩; · exact .head _
    rcases hp with _ | ⟨_, hp⟩; · exact .tail _ (.head _)
    rcases hp with _ | ⟨_, hp⟩; · exact .tail _ (.tail _ (.head _))
    rcases hp with _ | ⟨_, hp⟩; · exact .tail _ (.tail _ (.tail _ (.head _)))
    rcases hp with _ | ⟨_, hp⟩; · exact .tail _ (.tail _ (.tail _ (.tail _ (.head _))))
    rcases hp with _ | ⟨_, hp⟩; · exact .tail _ (.tail _ (.tail _ (.tail _ (.tail _ (.head _)))))
    exact .tail _ (.tail _ (.tail _ (.tail _ (.tail _ (.tail _ (.tail _ hp))))))))
    D c1 c2 hN hP hlen h64 h0 (fun p hp => ap p (by
      rcases hp with _ | ⟨_, hp⟩; · exact .head _
      exact .tail _ (.tail _ hp))) hL lay ret
end
end Mine

namespace Mine
open PySem PySem.W PyProof.Rows PySem.Calls PySem.Spec
abbrev IP := Int × Int
abbrev qb (b : Int) : IP → Bool := fun p => (p.1.fdiv b).fmod 2 == 0
def step (b : Int) (ps : List IP) : List IP := ps.filter (qb b) ++ ps.filter fun p => !qb b p
def lay : List Int → List IP → List (List Int × List Int)
  | [], _ => []
  | b :: bs, ps => layerOf b (ps.map fun p : IP => p.1) (ps.map fun p : IP => p.1) :: lay bs (step b ps)
def outF : List Int → List IP → List IP
  | [], ps => ps
  | b :: bs, ps => outF bs (step b ps)
def msd : List Int → List IP → List IP
  | [], l => l
  | b :: bs, l => msd bs (l.filter (qb b)) ++ msd bs (l.filter fun p => !qb b p)
theorem msd_nil (bs : List Int) : msd bs [] = [] := by
  induction bs with
  | nil => rfl
  | cons b bs ih => simp [msd, ih]
theorem step_len (b : Int) (ps : List IP) : (step b ps).length = ps.length := by
  unfold step; rw [List.length_append]; exact part_len _ _
theorem range_get (ms : List Int) (i : Nat) (h : i ≤ ms.length) : (List.range i).map (fun k => ms.getD k 0) = ms.take i := by
  apply List.ext_getElem?
  intro k
  by_cases hk : k < i
  · have : k < ms.length := by omega
    simp [hk, List.getElem?_take, this]
  · simp [hk, List.getElem?_take]
theorem count_spots (ms : List Int) (q : Int → Bool) (i : Nat) (h : i ≤ ms.length) : ((rangeKs 0 ((ms.length : Int) - 0).toNat).filter (fun x => q (ms.getD x.toNat 0))).countP (fun y => decide (y < (i : Int))) = (ms.take i).countP q := by
  have e : ((ms.length : Int) - 0).toNat = ms.length := by omega
  rw [e, List.countP_filter]
  unfold rangeKs
  rw [List.countP_map]
  have e2 : List.range ms.length = List.range i ++ List.range' i (ms.length - i) := by
    have := List.range'_append_1 (s := 0) (m := i) (n := ms.length - i)
    rw [Nat.zero_add] at this
    rw [List.range_eq_range', List.range_eq_range', this]
    congr 1; omega
  rw [e2, List.countP_append]
  have z : (List.range' i (ms.length - i)).countP ((fun x => decide (x < (i : Int)) && q (ms.getD x.toNat 0)) ∘ fun k : Nat => 0 + (k : Int)) = 0 := by
    rw [List.countP_eq_zero]
    intro k hk
    have := (List.mem_range'_1.mp hk).1
    simp only [Function.comp, Bool.and_eq_true, decide_eq_true_eq]
    omega
  rw [z, Nat.add_zero, ← range_get ms i h, List.countP_map]
  refine List.countP_congr fun k hk => ?_
  have := List.mem_range.mp hk
  have e3 : ((0 : Int) + (k : Int)).toNat = k := by omega
  simp only [Function.comp, e3, Bool.and_eq_true, decide_eq_true_eq]
  constructor
  · exact fun x => x.2
  · exact fun x => ⟨by omega, x⟩
theorem seg_filter {α : Type} (p : α → Bool) (l : List α) {i j : Nat} (hij : i ≤ j) (hj : j ≤ l.length) :
    ((l.filter p).drop ((l.take i).countP p)).take ((l.take j).countP p - (l.take i).countP p) = ((l.drop i).take (j - i)).filter p := by
  have e1 : l = l.take i ++ ((l.drop i).take (j - i) ++ l.drop j) := by
    have : l.drop j = (l.drop i).drop (j - i) := by rw [List.drop_drop]; congr 1; omega
    rw [this, List.take_append_drop, List.take_append_drop]
  have e2 : l.take j = l.take i ++ (l.drop i).take (j - i) := by
    have hh : j = i + (j - i) := by omega
    conv => lhs; rw [hh]
    rw [List.take_add]
  have c1 : (l.take j).countP p = (l.take i).countP p + ((l.drop i).take (j - i)).countP p := by rw [e2, List.countP_append]
  conv => lhs; arg 2; arg 2; rw [e1]
  rw [List.filter_append, List.filter_append, c1, List.countP_eq_length_filter, List.countP_eq_length_filter]
  rw [List.drop_left' rfl, Nat.add_sub_cancel_left, List.take_left' rfl]
theorem seg_app_left {α : Type} (L H : List α) {a b : Nat} (hb : b ≤ L.length) : ((L ++ H).drop a).take (b - a) = (L.drop a).take (b - a) := by
  by_cases ha : a ≤ L.length
  · rw [List.drop_append_of_le_length ha, List.take_append_of_le_length (by rw [List.length_drop]; omega)]
  · have : b - a = 0 := by omega
    rw [this]; simp
theorem seg_app_right {α : Type} (L H : List α) (a b : Nat) : ((L ++ H).drop (L.length + a)).take ((L.length + b) - (L.length + a)) = (H.drop a).take (b - a) := by
  have e : (L ++ H).drop (L.length + a) = H.drop a := by
    rw [← List.drop_drop, List.drop_left' rfl]
  rw [e]; congr 1; omega
theorem countP_take_le {α : Type} (p : α → Bool) (l : List α) {i j : Nat} (h : i ≤ j) : (l.take i).countP p ≤ (l.take j).countP p := by
  refine List.Sublist.countP_le ?_
  have : l.take i = (l.take j).take i := by rw [List.take_take]; congr 1; omega
  rw [this]; exact List.take_sublist _ _
theorem countP_take_le_len {α : Type} (p : α → Bool) (l : List α) (i : Nat) : (l.take i).countP p ≤ (l.filter p).length := by
  rw [← List.countP_eq_length_filter]
  exact (List.take_sublist _ _).countP_le
theorem countP_not_take {α : Type} (p : α → Bool) (l : List α) : l.countP (fun x => !p x) = l.length - l.countP p := by
  have := part_len p l
  rw [List.countP_eq_length_filter, List.countP_eq_length_filter]; omega
theorem cl_lay (b : Int) (ps : List IP) (i : Nat) (h : i ≤ ps.length) : cl (layerOf b (ps.map fun p : IP => p.1) (ps.map fun p : IP => p.1)).1 (i : Int) = (((ps.take i).countP (qb b) : Nat) : Int) := by
  show (((List.filter (fun x => (((ps.map fun p : IP => p.1).getD x.toNat 0).fdiv b).fmod 2 == 0) (rangeKs 0 (((ps.map fun p : IP => p.1).length : Int) - 0).toNat)).countP (fun y => decide (y < (i : Int))) : Nat) : Int) = _
  have := count_spots (ps.map fun p : IP => p.1) (fun x => (x.fdiv b).fmod 2 == 0) i (by simpa using h)
  rw [this, ← List.map_take, List.countP_map]
  rfl
theorem cr_lay (b : Int) (ps : List IP) (i : Nat) (h : i ≤ ps.length) : cr (layerOf b (ps.map fun p : IP => p.1) (ps.map fun p : IP => p.1)).2 ((i : Int) - 1) = (((ps.take i).countP (fun p => !qb b p) : Nat) : Int) := by
  show (((List.filter (fun y => !((((ps.map fun p : IP => p.1).getD y.toNat 0).fdiv b).fmod 2 == 0)) (rangeKs 0 (((ps.map fun p : IP => p.1).length : Int) - 0).toNat)).countP (fun y => decide (y ≤ (i : Int) - 1)) : Nat) : Int) = _
  have e : ∀ l : List Int, l.countP (fun y => decide (y ≤ (i : Int) - 1)) = l.countP (fun y => decide (y < (i : Int))) := fun l => List.countP_congr fun y _ => by simp only [decide_eq_true_eq]; omega
  rw [e]
  have := count_spots (ps.map fun p : IP => p.1) (fun x => !((x.fdiv b).fmod 2 == 0)) i (by simpa using h)
  rw [this, ← List.map_take, List.countP_map]
  rfl
theorem lay_len (b : Int) (ps : List IP) : ((layerOf b (ps.map fun p : IP => p.1) (ps.map fun p : IP => p.1)).1.length : Int) = ((ps.filter (qb b)).length : Int) := by
  have h1 := cl_lay b ps ps.length (Nat.le_refl _)
  have h2 : cl (layerOf b (ps.map fun p : IP => p.1) (ps.map fun p : IP => p.1)).1 ((ps.length : Nat) : Int) = ((layerOf b (ps.map fun p : IP => p.1) (ps.map fun p : IP => p.1)).1.length : Int) := by
    show ((List.countP _ _ : Nat) : Int) = _
    congr 1
    rw [List.countP_eq_length]
    intro x hx
    have := mem_rangeKs (List.mem_filter.mp hx).1
    simp only [List.length_map] at this
    simp only [decide_eq_true_eq]
    omega
  rw [← h2, h1, List.take_length, List.countP_eq_length_filter]
theorem led_spec : ∀ (bs : List Int) (ps : List IP) (i j : Nat), i ≤ j → j ≤ ps.length → led (outF bs ps) (lay bs ps) (i : Int) (j : Int) = msd bs ((ps.drop i).take (j - i))
  | [], ps, i, j, hij, hj => by
    by_cases h : (i : Int) = (j : Int)
    · have : i = j := by omega
      subst this
      rw [led_same]; simp [msd]
    · show led ps [] _ _ = _
      rw [led_nil _ h]; rfl
  | b :: bs, ps, i, j, hij, hj => by
    by_cases h : (i : Int) = (j : Int)
    · have : i = j := by omega
      subst this
      rw [led_same]; simp [msd_nil]
    · show led (outF bs (step b ps)) (layerOf b (ps.map fun p : IP => p.1) (ps.map fun p : IP => p.1) :: lay bs (step b ps)) _ _ = _
      rw [led_cons _ h, cl_lay b ps i (by omega), cl_lay b ps j hj, cr_lay b ps i (by omega), cr_lay b ps j hj, lay_len]
      have a1 := countP_take_le (qb b) ps hij
      have a2 := countP_take_le (fun p => !qb b p) ps hij
      have a3 := countP_take_le_len (qb b) ps j
      have a4 := countP_take_le_len (fun p => !qb b p) ps j
      have sl : (step b ps).length = (ps.filter (qb b)).length + (ps.filter fun p => !qb b p).length := by unfold step; rw [List.length_append]
      rw [led_spec bs (step b ps) _ _ a1 (by omega)]
      rw [show (((ps.filter (qb b)).length : Int) + (((ps.take i).countP (fun p => !qb b p) : Nat) : Int)) = (((ps.filter (qb b)).length + (ps.take i).countP (fun p => !qb b p) : Nat) : Int) by omega,
        show (((ps.filter (qb b)).length : Int) + (((ps.take j).countP (fun p => !qb b p) : Nat) : Int)) = (((ps.filter (qb b)).length + (ps.take j).countP (fun p => !qb b p) : Nat) : Int) by omega]
      rw [led_spec bs (step b ps) _ _ (by omega) (by omega)]
      unfold step
      rw [seg_app_left _ _ a3, seg_app_right, seg_filter _ _ hij hj, seg_filter _ _ hij hj]
      rfl
end Mine

namespace Mine
open PySem PySem.W PyProof.Rows PySem.Calls PySem.Spec
def pairs0 (ns : List Int) : List IP := ns.zip (rng ns)
theorem rng_len (ns : List Int) : (rng ns).length = ns.length := by rw [rangeKs_length]; omega
theorem pairs0_len (ns : List Int) : (pairs0 ns).length = ns.length := by
  unfold pairs0; rw [List.length_zip, rng_len]; omega
theorem pairs0_fst (ns : List Int) : (pairs0 ns).map (fun p => p.1) = ns := by
  unfold pairs0; exact List.map_fst_zip (by rw [rng_len]; exact Nat.le_refl _)
theorem pairs0_snd (ns : List Int) : (pairs0 ns).map (fun p => p.2) = rng ns := by
  unfold pairs0; exact List.map_snd_zip (by rw [rng_len]; exact Nat.le_refl _)
theorem pairs0_get (ns : List Int) (k : Nat) (h : k < ns.length) : (pairs0 ns)[k]? = some (ns.getD k 0, (k : Int)) := by
  unfold pairs0
  rw [List.getElem?_zip_eq_some]
  refine ⟨by simp [h], ?_⟩
  have e : ((ns.length : Int) - 0).toNat = ns.length := by omega
  simp [rangeKs, e, h]
theorem pairs0_mem (ns : List Int) : ∀ p ∈ pairs0 ns, ns.getD p.2.toNat 0 = p.1 := by
  intro p hp
  obtain ⟨k, hk, e⟩ := List.mem_iff_getElem.mp hp
  rw [pairs0_len] at hk
  have := pairs0_get ns k hk
  have h2 : (pairs0 ns)[k]? = some p := by rw [List.getElem?_eq_getElem (by rw [pairs0_len]; exact hk), e]
  rw [h2] at this
  cases this
  simp
theorem step_fst (b : Int) (ps : List IP) : (step b ps).map (fun p => p.1) = partN b (ps.map fun p => p.1) := by
  unfold step partN
  rw [List.map_append, List.filter_map, List.filter_map]
  rfl
theorem step_snd (b : Int) (ns : List Int) (ps : List IP) (h : ∀ p ∈ ps, ns.getD p.2.toNat 0 = p.1) : (step b ps).map (fun p => p.2) = partP b ns (ps.map fun p => p.2) := by
  unfold step partP
  rw [List.map_append, List.filter_map, List.filter_map]
  congr 2
  · refine List.filter_congr fun p hp => ?_
    simp only [Function.comp, h p hp]
  · refine List.filter_congr fun p hp => ?_
    simp only [Function.comp, h p hp]
theorem step_mem (b : Int) (ps : List IP) {P : IP → Prop} (h : ∀ p ∈ ps, P p) : ∀ p ∈ step b ps, P p := all_part h
theorem zip_self (ps : List IP) : (ps.map fun p => p.1).zip (ps.map fun p => p.2) = ps := by
  induction ps with
  | nil => rfl
  | cons p r ih => simp only [List.map_cons, List.zip_cons_cons, ih]
theorem out_eq (ns : List Int) : outF [4, 2, 1] (pairs0 ns) = (numbersOf ns).zip (placesOf ns) := by
  show step 1 (step 2 (step 4 (pairs0 ns))) = _
  rw [← zip_self (step 1 (step 2 (step 4 (pairs0 ns))))]
  have m4 := step_mem 4 _ (pairs0_mem ns)
  have m2 := step_mem 2 _ m4
  rw [step_fst, step_fst, step_fst, pairs0_fst, step_snd 1 ns _ m2, step_snd 2 ns _ m4, step_snd 4 ns _ (pairs0_mem ns), pairs0_snd]
theorem rng_eq {xs ys : List Int} (h : xs.length = ys.length) : rng xs = rng ys := by unfold rng; rw [h]
theorem lay_eq (ns : List Int) : lay [4, 2, 1] (pairs0 ns) = layersOf ns := by
  show [layerOf 4 ((pairs0 ns).map fun p => p.1) ((pairs0 ns).map fun p => p.1), layerOf 2 ((step 4 (pairs0 ns)).map fun p => p.1) ((step 4 (pairs0 ns)).map fun p => p.1), layerOf 1 ((step 2 (step 4 (pairs0 ns))).map fun p => p.1) ((step 2 (step 4 (pairs0 ns))).map fun p => p.1)] = _
  have e2 : rng (partN 4 ns) = rng ns := rng_eq (by simp only [partN, List.length_append, part_len])
  have e1 : rng (partN 2 (partN 4 ns)) = rng ns := rng_eq (by simp only [partN, List.length_append, part_len])
  rw [step_fst, step_fst, step_fst, pairs0_fst]
  simp only [layersOf, layerOf, e1, e2]
theorem led_final (ns : List Int) (i j : Nat) (hij : i ≤ j) (hj : j ≤ ns.length) : led ((numbersOf ns).zip (placesOf ns)) (layersOf ns) (i : Int) (j : Int) = msd [4, 2, 1] (((pairs0 ns).drop i).take (j - i)) := by
  rw [← out_eq, ← lay_eq]
  exact led_spec _ _ i j hij (by rw [pairs0_len]; exact hj)
def plt (a b : IP) : Prop := a.1 < b.1 ∨ (a.1 = b.1 ∧ a.2 < b.2)
theorem part_perm {α : Type} (q : α → Bool) (l : List α) : (l.filter q ++ l.filter fun x => !q x).Perm l := List.filter_append_perm q l
theorem msd_perm : ∀ (bs : List Int) (l : List IP), (msd bs l).Perm l
  | [], l => List.Perm.refl _
  | b :: bs, l => ((msd_perm bs _).append (msd_perm bs _)).trans (part_perm _ l)
/-- the order by the bits, then by place -/
def blt : List Int → IP → IP → Prop
  | [], x, y => x.2 < y.2
  | b :: bs, x, y => (qb b x = true ∧ qb b y = false) ∨ (qb b x = qb b y ∧ blt bs x y)
theorem msd_pw : ∀ (bs : List Int) (l : List IP), l.Pairwise (fun x y => x.2 < y.2) → (msd bs l).Pairwise (blt bs)
  | [], l, h => h
  | b :: bs, l, h => by
    have h1 := msd_pw bs _ (h.filter (qb b))
    have h2 := msd_pw bs _ (h.filter fun p => !qb b p)
    have m1 : ∀ x ∈ msd bs (l.filter (qb b)), qb b x = true := fun x hx => (List.mem_filter.mp ((msd_perm bs _).mem_iff.mp hx)).2
    have m2 : ∀ x ∈ msd bs (l.filter fun p => !qb b p), qb b x = false := fun x hx => by simpa using (List.mem_filter.mp ((msd_perm bs _).mem_iff.mp hx)).2
    show (msd bs (l.filter (qb b)) ++ msd bs (l.filter fun p => !qb b p)).Pairwise _
    rw [List.pairwise_append]
    refine ⟨?_, ?_, fun x hx y hy => Or.inl ⟨m1 x hx, m2 y hy⟩⟩
    · exact List.Pairwise.imp_of_mem (fun {x y} hx hy q => Or.inr ⟨(m1 x hx).trans (m1 y hy).symm, q⟩) h1
    · exact List.Pairwise.imp_of_mem (fun {x y} hx hy q => Or.inr ⟨(m2 x hx).trans (m2 y hy).symm, q⟩) h2
theorem blt_plt {x y : IP} (hx : 0 ≤ x.1 ∧ x.1 < 8) (hy : 0 ≤ y.1 ∧ y.1 < 8) (h : blt [4, 2, 1] x y) : plt x y := by
  obtain ⟨a, p⟩ := x
  obtain ⟨b, q⟩ := y
  have e8 : ∀ {x : Int}, 0 ≤ x ∧ x < 8 → x = 0 ∨ x = 1 ∨ x = 2 ∨ x = 3 ∨ x = 4 ∨ x = 5 ∨ x = 6 ∨ x = 7 := by intro x; omega
  simp only [blt, qb, plt] at *
  rcases e8 hx with r | r | r | r | r | r | r | r <;> rcases e8 hy with t | t | t | t | t | t | t | t <;> subst r t <;> first | exact Or.inl (by decide) | (refine Or.inr ⟨rfl, ?_⟩; simpa using h) | (exfalso; revert h; decide +revert) | (exfalso; revert h; simp; done) | skip
end Mine

namespace Mine
open PySem PySem.W PyProof.Rows PySem.Calls PySem.Spec
theorem plt_asymm {a b : IP} (h : plt a b) : ¬ plt b a := by unfold plt at *; omega
theorem plt_irrefl (a : IP) : ¬ plt a a := by unfold plt; omega
theorem plt_total {a b : IP} (h : ¬ plt b a) (hne : a ≠ b) : plt a b := by
  obtain ⟨a1, a2⟩ := a
  obtain ⟨b1, b2⟩ := b
  unfold plt at *
  by_cases h1 : a1 = b1
  · by_cases h2 : a2 = b2
    · exact absurd (by rw [h1, h2]) hne
    · simp only at *; omega
  · simp only at *; omega
theorem uniq : ∀ {l1 l2 : List IP}, l2.Perm l1 → l1.Pairwise plt → l2.Pairwise (fun a b => ¬ plt b a) → l2 = l1
  | [], l2, hp, _, _ => List.Perm.eq_nil hp
  | a :: r, [], hp, _, _ => by have := hp.length_eq; simp at this
  | a :: r, b :: s, hp, h1, h2 => by
    obtain ⟨p1, p2⟩ := List.pairwise_cons.mp h1
    obtain ⟨q1, q2⟩ := List.pairwise_cons.mp h2
    have hb : b ∈ a :: r := hp.mem_iff.mp (.head _)
    have ha : a ∈ b :: s := hp.mem_iff.mpr (.head _)
    have e : b = a := by
      rcases List.mem_cons.mp hb with e | hb
      · exact e
      · rcases List.mem_cons.mp ha with e | ha
        · exact e.symm
        · exact absurd (p1 b hb) (q1 a ha)
    subst e
    rw [uniq (List.Perm.cons_inv hp) p2 q2]
theorem pairs0_pw (ns : List Int) : (pairs0 ns).Pairwise (fun x y => x.2 < y.2) := by
  have := range_pw 0 ((ns.length : Int) - 0).toNat
  rw [show rangeKs 0 ((ns.length : Int) - 0).toNat = (pairs0 ns).map fun p => p.2 from (pairs0_snd ns).symm, List.pairwise_map] at this
  exact this
abbrev seg (ns : List Int) (i j : Nat) : List IP := ((pairs0 ns).drop i).take (j - i)
theorem seg_sub (ns : List Int) (i j : Nat) : (seg ns i j).Sublist (pairs0 ns) := (List.take_sublist _ _).trans (List.drop_sublist _ _)
theorem law_pairs {ns : List Int} (h8 : ∀ x ∈ ns, 0 ≤ x ∧ x < 8) {i j : Nat} (hij : i ≤ j) (hj : j ≤ ns.length) {srt : List IP} (hp : srt.Perm (seg ns i j)) (hs : srt.Pairwise (fun a b => ¬ plt b a)) :
    led ((numbersOf ns).zip (placesOf ns)) (layersOf ns) (i : Int) (j : Int) = srt := by
  rw [led_final ns i j hij hj]
  have h1 := msd_pw [4, 2, 1] (seg ns i j) ((pairs0_pw ns).sublist (seg_sub ns i j))
  have m := msd_perm [4, 2, 1] (seg ns i j)
  have mem : ∀ x ∈ msd [4, 2, 1] (seg ns i j), 0 ≤ x.1 ∧ x.1 < 8 := fun x hx => by
    have h2 : x ∈ pairs0 ns := (seg_sub ns i j).subset (m.mem_iff.mp hx)
    have h3 : x.1 ∈ (pairs0 ns).map fun p => p.1 := List.mem_map.mpr ⟨x, h2, rfl⟩
    rw [pairs0_fst] at h3
    exact h8 _ h3
  have h2 : (msd [4, 2, 1] (seg ns i j)).Pairwise plt := List.Pairwise.imp_of_mem (fun {x y} hx hy q => blt_plt (mem x hx) (mem y hy) q) h1
  exact (uniq (hp.trans m.symm) h2 hs).symm
theorem seg_eq {ns : List Int} {i j : Nat} (hij : i ≤ j) (hj : j ≤ ns.length) : seg ns i j = (rangeKs (i : Int) (j - i)).map fun k => (ns.getD k.toNat 0, k) := by
  apply List.ext_getElem?
  intro k
  by_cases hk : k < j - i
  · have h1 : (seg ns i j)[k]? = (pairs0 ns)[i + k]? := by
      show (((pairs0 ns).drop i).take (j - i))[k]? = _
      rw [List.getElem?_take_of_lt hk, List.getElem?_drop]
    rw [h1, pairs0_get ns (i + k) (by omega)]
    have e : ((i : Int) + (k : Int)).toNat = i + k := by omega
    simp [rangeKs, hk, e]
  · have h1 : (seg ns i j).length = j - i := by
      show (((pairs0 ns).drop i).take (j - i)).length = _
      rw [List.length_take, List.length_drop, pairs0_len]; omega
    rw [List.getElem?_eq_none (by omega), List.getElem?_eq_none (by rw [List.length_map, rangeKs_length]; omega)]
end Mine

namespace Mine
open PySem PySem.W PyProof.Rows PySem.Calls PySem.Spec
def krun {α : Type} (lt : Nat → Nat → Bool) : KasT α → α
  | .ret a => a
  | .ask i j k => krun lt (k (lt i j))
theorem krun_bind {α β : Type} (lt : Nat → Nat → Bool) (f : α → KasT β) : ∀ t : KasT α, krun lt (t.bind f) = krun lt (f (krun lt t))
  | .ret a => rfl
  | .ask i j k => krun_bind lt f (k (lt i j))
/-- only places below n are asked, and every end has P -/
def AsksP {α : Type} (n : Nat) (P : α → Prop) : KasT α → Prop
  | .ret a => P a
  | .ask i j k => i < n ∧ j < n ∧ ∀ b, AsksP n P (k b)
theorem AsksP.bind {α β : Type} {n : Nat} {P : α → Prop} {R : β → Prop} {f : α → KasT β} (hf : ∀ a, P a → AsksP n R (f a)) : ∀ {t : KasT α}, AsksP n P t → AsksP n R (t.bind f)
  | .ret a, h => hf a h
  | .ask i j k, h => ⟨h.1, h.2.1, fun b => AsksP.bind hf (h.2.2 b)⟩
theorem kas_pure {α : Type} {n : Nat} {lt : Nat → Nat → Bool} {P : α → Prop} {cmp : Nat → Nat → (Bool → Shared → Prop) → Shared → Prop} {Q : α → Shared → Prop} {s : Shared} (hc : ∀ i j C, i < n → j < n → C (lt i j) s → cmp i j C s) :
    ∀ {t : KasT α}, AsksP n P t → (P (krun lt t) → Q (krun lt t) s) → t.kasWp cmp Q s
  | .ret a, h, hq => hq h
  | .ask i j k, h, hq => hc i j _ h.1 h.2.1 (kas_pure hc (h.2.2 _) hq)
def Ent (n : Nat) (p : Array Nat) : Prop := ∀ k, p.getD k 0 < n
theorem Ent.swap {n : Nat} {p : Array Nat} (h : Ent n p) (i j : Nat) : Ent n (p.swapIfInBounds i j) := by
  intro k
  have g : ∀ (q : Array Nat) (k : Nat), q.getD k 0 = (q[k]?).getD 0 := fun q k => by simp [Array.getD_eq_getD_getElem?]
  by_cases hi : i < p.size
  · by_cases hj : j < p.size
    · rw [g, getElem?_swapIB hi hj]
      have h1 := h i; have h2 := h j; have h3 := h k
      rw [g] at h1 h2 h3
      split
      · first | exact h1 | exact h2 | exact h3
      · split
        · first | exact h2 | exact h1 | exact h3
        · exact h3
    · rw [Array.swapIfInBounds_def]; simp only [hi, hj, dite_true, dite_false]; exact h k
  · rw [Array.swapIfInBounds_def]; simp only [hi, dite_false]; exact h k
theorem Ent.swaps {n : Nat} (u v : Nat → Nat) : ∀ (l : List Nat) {p : Array Nat}, Ent n p → Ent n (l.foldl (fun a k => a.swapIfInBounds (u k) (v k)) p)
  | [], _, h => h
  | k :: l, _, h => Ent.swaps u v l (h.swap _ _)
theorem Ent.rev {n : Nat} {p : Array Nat} (h : Ent n p) (i j : Nat) : Ent n (kas_rev p i j) := Ent.swaps _ _ _ h
theorem Ent.bub {n : Nat} {p : Array Nat} (h : Ent n p) (k d : Nat) : Ent n (bubble p k d) := Ent.swaps (fun i => k - i) (fun i => k - i - 1) _ h
theorem asc_asks {n : Nat} {p : Array Nat} (h : Ent n p) : ∀ (f m : Nat), AsksP n (fun _ => True) (kas_asc p f m)
  | 0, _ => trivial
  | f + 1, m => ⟨h _, h _, fun b => by
      cases b with
      | true => exact trivial
      | false => exact asc_asks h f (m + 1)⟩
theorem desc_asks {n : Nat} : ∀ (f : Nat) {p : Array Nat} (m q : Nat), Ent n p → AsksP n (fun r => Ent n r.1) (kas_desc f p m q)
  | 0, _, _, _, h => h
  | f + 1, p, m, q, h => ⟨h _, h _, fun b => by
      cases b with
      | true =>
        show AsksP n _ (if q > 0 then _ else _)
        split
        · exact desc_asks f _ _ (h.rev _ _)
        · exact desc_asks f _ _ h
      | false => exact ⟨h _, h _, fun d => by
          cases d with
          | true => exact h
          | false => exact desc_asks f _ _ h⟩⟩
theorem tail3_asks {n m r : Nat} {p : Array Nat} (h : Ent n p) : AsksP n (fun x => Ent n x.2) (kas_tail3 m r p) :=
  AsksP.bind (n := n) (P := fun _ => True) (R := fun x : Nat × Array Nat => Ent n x.2) (f := fun m' => .ret (m', kas_rev p 0 m)) (fun a _ => h.rev 0 m) (asc_asks (h.rev 0 m) _ _)
theorem descPart_asks {n m r : Nat} {p : Array Nat} (h : Ent n p) : AsksP n (fun x => Ent n x.2) (kas_descPart m r p) :=
  AsksP.bind (fun a ha => by
    split
    · exact tail3_asks (Ent.rev ha _ _)
    · exact tail3_asks ha) (desc_asks _ _ _ h)
theorem count_asks {n r : Nat} {p : Array Nat} (h : Ent n p) : AsksP n (fun x => Ent n x.2) (kas_count r p) :=
  AsksP.bind (fun a _ => by
    split
    · exact h
    · split
      · exact ⟨h _, h _, fun b => by
          cases b with
          | true => exact h
          | false => exact descPart_asks (h.rev _ _)⟩
      · exact descPart_asks h) (asc_asks h _ _)
theorem place_asks {n : Nat} {p : Array Nat} (h : Ent n p) (k : Nat) : ∀ (f l r : Nat), AsksP n (fun _ => True) (kas_place p k f l r)
  | 0, _, _ => trivial
  | f + 1, l, r => by
    unfold kas_place
    split
    · exact trivial
    · exact ⟨h _, h _, fun b => by
        cases b with
        | true => exact place_asks h k f _ _
        | false => exact place_asks h k f _ _⟩
theorem bin_asks {n : Nat} : ∀ (f : Nat) {p : Array Nat} (k : Nat), Ent n p → AsksP n (fun _ => True) (kas_bin f p k)
  | 0, _, _, _ => trivial
  | f + 1, p, k, h => AsksP.bind (fun a _ => bin_asks f (k + 1) (h.bub k (k - a))) (place_asks h k _ _ _)
theorem range_ent {n : Nat} (h : 0 < n) : Ent n (List.toArray (List.range n)) := by
  intro k
  by_cases hk : k < n
  · simp [Array.getD, hk]
  · simp [Array.getD, hk, h]
theorem sort_asks {n : Nat} (h : 0 < n) : AsksP n (fun _ => True) (kas_sort n) :=
  AsksP.bind (fun a ha => by
    split
    · exact bin_asks _ _ ha
    · exact trivial) (count_asks (range_ent h))
end Mine

namespace Mine
open PySem PySem.W PyProof.Rows PySem.Calls PySem.Spec
structure Lin (n : Nat) (lt : Nat → Nat → Bool) : Prop where
  as : ∀ i j, lt i j = true → lt j i = false
  tr : ∀ i j k, lt i j = true → lt j k = true → lt i k = true
  to : ∀ i j, i < n → j < n → i ≠ j → lt i j = true ∨ lt j i = true
/-- a permutation of the places below n -/
structure Prm (n : Nat) (p : Array Nat) : Prop where
  size : p.size = n
  perm : p.toList.Perm (List.range n)
abbrev at' (p : Array Nat) (k : Nat) : Nat := p.getD k 0
theorem Prm.at_eq {n : Nat} {p : Array Nat} (h : Prm n p) {k : Nat} (hk : k < n) : p.toList[k]? = some (at' p k) := by
  have : k < p.size := by rw [h.size]; exact hk
  simp [Array.getD, this]
theorem Prm.lt {n : Nat} {p : Array Nat} (h : Prm n p) {k : Nat} (hk : k < n) : at' p k < n := by
  have := List.mem_of_getElem? (h.at_eq hk)
  exact List.mem_range.mp (h.perm.mem_iff.mp this)
theorem Prm.ne {n : Nat} {p : Array Nat} (h : Prm n p) {a b : Nat} (ha : a < n) (hb : b < n) (hab : a ≠ b) : at' p a ≠ at' p b := by
  have nd : p.toList.Nodup := h.perm.nodup_iff.mpr List.nodup_range
  intro e
  have h1 := h.at_eq ha
  have h2 := h.at_eq hb
  rw [← e] at h2
  have hl : a < p.toList.length := by rw [Array.length_toList, h.size]; exact ha
  exact hab ((List.getElem?_inj hl nd).mp (h1.trans h2.symm))
theorem Prm.of_perm {n : Nat} {p q : Array Nat} (h : Prm n p) (e : q.Perm p) : Prm n q := ⟨by rw [e.size_eq, h.size], (Array.perm_iff_toList_perm.mp e).trans h.perm⟩
def Srt (lt : Nat → Nat → Bool) (p : Array Nat) (k : Nat) : Prop := ∀ a b, a < b → b < k → lt (at' p a) (at' p b) = true
section
variable {n : Nat} {lt : Nat → Nat → Bool} {p : Array Nat}
theorem srt_snoc (hl : Lin n lt) {k : Nat} (h : Srt lt p k) (h1 : 1 ≤ k) (hs : lt (at' p (k - 1)) (at' p k) = true) : Srt lt p (k + 1) := by
  intro a b hab hb
  by_cases e : b < k
  · exact h a b hab e
  · have : b = k := by omega
    subst this
    by_cases e2 : a = b - 1
    · subst e2; exact hs
    · exact hl.tr _ _ _ (h a (b - 1) (by omega) (by omega)) hs
theorem flip (hl : Lin n lt) (hp : Prm n p) {a b : Nat} (ha : a < n) (hb : b < n) (hab : a ≠ b) (h : lt (at' p a) (at' p b) = false) : lt (at' p b) (at' p a) = true := by
  rcases hl.to _ _ (hp.lt ha) (hp.lt hb) (hp.ne ha hb hab) with q | q
  · rw [h] at q; cases q
  · exact q
theorem asc_srt (hl : Lin n lt) (hp : Prm n p) : ∀ (f m : Nat), 1 ≤ m → m + f ≤ n → Srt lt p m → Srt lt p (krun lt (kas_asc p f m)) ∧ m ≤ krun lt (kas_asc p f m) ∧ krun lt (kas_asc p f m) ≤ m + f ∧ (krun lt (kas_asc p f m) < m + f → lt (at' p (krun lt (kas_asc p f m))) (at' p (krun lt (kas_asc p f m) - 1)) = true)
  | 0, m, h1, hm, hs => ⟨hs, Nat.le_refl _, Nat.le_refl _, fun h => absurd h (Nat.lt_irrefl _)⟩
  | f + 1, m, h1, hm, hs => by
    show Srt lt p (krun lt (if lt (at' p m) (at' p (m - 1)) = true then KasT.ret m else kas_asc p f (m + 1))) ∧ _
    have e : krun lt (kas_asc p (f + 1) m) = krun lt (if lt (at' p m) (at' p (m - 1)) = true then KasT.ret m else kas_asc p f (m + 1)) := rfl
    rw [e]
    cases hc : lt (at' p m) (at' p (m - 1)) with
    | true =>
      rw [if_pos rfl]
      exact ⟨hs, Nat.le_refl _, by show m ≤ m + (f + 1); omega, fun _ => hc⟩
    | false =>
      rw [if_neg (by simp)]
      have hs' := srt_snoc hl hs h1 (flip hl hp (by omega) (by omega) (by omega) hc)
      obtain ⟨a1, a2, a3, a4⟩ := asc_srt hl hp f (m + 1) (by omega) (by omega) hs'
      exact ⟨a1, by omega, by omega, fun q => a4 (by omega)⟩
def Dsc (lt : Nat → Nat → Bool) (p : Array Nat) (k : Nat) : Prop := ∀ a b, a < b → b < k → lt (at' p b) (at' p a) = true
theorem dsc_snoc (hl : Lin n lt) {k : Nat} (h : Dsc lt p k) (h1 : 1 ≤ k) (hs : lt (at' p k) (at' p (k - 1)) = true) : Dsc lt p (k + 1) := by
  intro a b hab hb
  by_cases e : b < k
  · exact h a b hab e
  · have : b = k := by omega
    subst this
    by_cases e2 : a = b - 1
    · subst e2; exact hs
    · exact hl.tr _ _ _ hs (h a (b - 1) (by omega) (by omega))
theorem desc_dsc (hl : Lin n lt) (hp : Prm n p) : ∀ (f m : Nat), 1 ≤ m → m + f ≤ n → Dsc lt p m → ∃ m', krun lt (kas_desc f p m 0) = (p, m', 0) ∧ m ≤ m' ∧ m' ≤ m + f ∧ Dsc lt p m'
  | 0, m, h1, hm, hs => ⟨m, rfl, Nat.le_refl _, Nat.le_refl _, hs⟩
  | f + 1, m, h1, hm, hs => by
    have e : krun lt (kas_desc (f + 1) p m 0) = krun lt (if lt (at' p m) (at' p (m - 1)) = true then (if 0 > 0 then kas_desc f (kas_rev p (m - (0 + 1)) m) (m + 1) 0 else kas_desc f p (m + 1) 0)
      else KasT.ask (at' p (m - 1)) (at' p m) fun d => if d = true then KasT.ret (p, m, 0) else kas_desc f p (m + 1) (0 + 1)) := rfl
    rw [e]
    cases hc : lt (at' p m) (at' p (m - 1)) with
    | true =>
      rw [if_pos rfl, if_neg (by omega)]
      obtain ⟨m', a1, a2, a3, a4⟩ := desc_dsc hl hp f (m + 1) (by omega) (by omega) (dsc_snoc hl hs h1 hc)
      exact ⟨m', a1, by omega, by omega, a4⟩
    | false =>
      rw [if_neg (by simp)]
      show ∃ m', krun lt (if lt (at' p (m - 1)) (at' p m) = true then KasT.ret (p, m, 0) else kas_desc f p (m + 1) (0 + 1)) = (p, m', 0) ∧ _
      rw [flip hl hp (by omega) (by omega) (by omega) hc, if_pos rfl]
      exact ⟨m, rfl, Nat.le_refl _, by omega, hs⟩
theorem rev_at (hp : Prm n p) {m k : Nat} (hm : m ≤ n) : at' (kas_rev p 0 m) k = if k < m then at' p (m - 1 - k) else at' p k := by
  have g : ∀ (q : Array Nat) (k : Nat), q.getD k 0 = (q[k]?).getD 0 := fun q k => by simp [Array.getD_eq_getD_getElem?]
  have h := getElem?_mirror_all (xs := p) (i := 0) (j := m) (by rw [hp.size]; exact hm) k
  show (kas_rev p 0 m).getD k 0 = _
  rw [g]
  unfold kas_rev
  rw [h]
  by_cases hk : k < m
  · rw [if_pos hk, if_pos ⟨Nat.zero_le _, hk⟩]
    show (p[0 + m - 1 - k]?).getD 0 = p.getD (m - 1 - k) 0
    rw [g, Nat.zero_add]
  · rw [if_neg hk, if_neg (fun q => hk q.2)]
    exact (g p k).symm
theorem rev_prm (hp : Prm n p) (m : Nat) : Prm n (kas_rev p 0 m) := hp.of_perm (mirror_perm _ _ _ _)
theorem rev_srt (hp : Prm n p) {m : Nat} (hm : m ≤ n) (h : Dsc lt p m) : Srt lt (kas_rev p 0 m) m := by
  intro a b hab hb
  rw [rev_at hp hm, rev_at hp hm, if_pos (by omega), if_pos hb]
  exact h (m - 1 - b) (m - 1 - a) (by omega) (by omega)
/-- what the count of the first run gives -/
theorem count_srt (hl : Lin n lt) (hp : Prm n p) (hn : 2 ≤ n) : ∃ m q, krun lt (kas_count n p) = (m, q) ∧ Prm n q ∧ 1 ≤ m ∧ m ≤ n ∧ Srt lt q m := by
  have s1 : Srt lt p 1 := fun a b hab hb => by omega
  obtain ⟨a1, a2, a3, a4⟩ := asc_srt hl hp (n - 1) 1 (Nat.le_refl _) (by omega) s1
  unfold kas_count
  rw [krun_bind]
  generalize krun lt (kas_asc p (n - 1) 1) = m at *
  by_cases e1 : (m == n) = true
  · rw [if_pos e1]
    exact ⟨m, p, rfl, hp, a2, by omega, a1⟩
  · rw [if_neg e1]
    have hmn : m < n := by
      have : m ≠ n := fun q => e1 (by rw [q]; exact beq_self_eq_true _)
      omega
    by_cases e2 : m > 1
    · rw [if_pos e2]
      show ∃ m' q, krun lt (if lt (at' p 0) (at' p (m - 1)) = true then KasT.ret (m, p) else kas_descPart m n (kas_rev p 0 m)) = (m', q) ∧ _
      rw [a1 0 (m - 1) (by omega) (by omega), if_pos rfl]
      exact ⟨m, p, rfl, hp, a2, by omega, a1⟩
    · rw [if_neg e2]
      have hm1 : m = 1 := by omega
      subst hm1
      have d2 : Dsc lt p 2 := fun a b hab hb => by
        have ha : a = 0 := by omega
        have hb' : b = 1 := by omega
        subst ha hb'
        exact a4 (by omega)
      unfold kas_descPart
      rw [krun_bind]
      obtain ⟨m', b1, b2, b3, b4⟩ := desc_dsc hl hp (n - (1 + 1)) (1 + 1) (by omega) (by omega) d2
      rw [b1]
      show ∃ m q, krun lt (if 0 > 0 then _ else kas_tail3 m' n p) = (m, q) ∧ _
      rw [if_neg (by omega)]
      unfold kas_tail3
      rw [krun_bind]
      have hp' := rev_prm hp m'
      obtain ⟨c1, c2, c3, _⟩ := asc_srt hl hp' (n - m') m' (by omega) (by omega) (rev_srt hp (by omega) b4)
      exact ⟨_, _, rfl, hp', by omega, by omega, c1⟩
theorem place_spec (hl : Lin n lt) (hp : Prm n p) {k : Nat} (hk : k < n) (hs : Srt lt p k) : ∀ (f l r : Nat), r - l ≤ f → l ≤ r → r ≤ k → (∀ a, a < l → lt (at' p a) (at' p k) = true) → (∀ a, r ≤ a → a < k → lt (at' p k) (at' p a) = true) →
    krun lt (kas_place p k f l r) ≤ k ∧ (∀ a, a < krun lt (kas_place p k f l r) → lt (at' p a) (at' p k) = true) ∧ (∀ a, krun lt (kas_place p k f l r) ≤ a → a < k → lt (at' p k) (at' p a) = true)
  | 0, l, r, hf, hlr, hrk, h1, h2 => by
    have : l = r := by omega
    subst this
    exact ⟨hrk, h1, h2⟩
  | f + 1, l, r, hf, hlr, hrk, h1, h2 => by
    unfold kas_place
    by_cases e : l ≥ r
    · rw [if_pos e]
      have : l = r := by omega
      subst this
      exact ⟨hrk, h1, h2⟩
    · rw [if_neg e]
      have ek : ∀ (F : Bool → KasT Nat), krun lt (KasT.ask (p.getD k 0) (p.getD ((l + r) / 2) 0) F) = krun lt (F (lt (at' p k) (at' p ((l + r) / 2)))) := fun _ => rfl
      rw [ek]
      have hm1 : l ≤ (l + r) / 2 := by omega
      have hm2 : (l + r) / 2 < r := by omega
      generalize (l + r) / 2 = mid at *
      cases hc : lt (at' p k) (at' p mid) with
      | true =>
        simp only [if_true]
        refine place_spec hl hp hk hs f l mid (by omega) (by omega) (by omega) h1 fun a ha hak => ?_
        by_cases e2 : a = mid
        · subst e2; exact hc
        · exact hl.tr _ _ _ hc (hs mid a (by omega) hak)
      | false =>
        simp only [Bool.false_eq_true, if_false]
        have hc' := flip hl hp hk (show mid < n by omega) (by omega) hc
        refine place_spec hl hp hk hs f (mid + 1) r (by omega) (by omega) hrk (fun a ha => ?_) h2
        by_cases e2 : a = mid
        · subst e2; exact hc'
        · exact hl.tr _ _ _ (hs a mid (by omega) (by omega)) hc'
theorem bub_at (hp : Prm n p) {k x j : Nat} (hk : k < n) (hx : x ≤ k) : at' (bubble p k (k - x)) j = if j = x then at' p k else if x < j ∧ j ≤ k then at' p (j - 1) else at' p j := by
  have g : ∀ (q : Array Nat) (k : Nat), q.getD k 0 = (q[k]?).getD 0 := fun q k => by simp [Array.getD_eq_getD_getElem?]
  have h := getElem?_bubble (xs := p) (src := k) (by rw [hp.size]; exact hk) (k - x) (by omega) j
  have e : k - (k - x) = x := by omega
  rw [e] at h
  show (bubble p k (k - x)).getD j 0 = _
  rw [g, h]
  by_cases h1 : j = x
  · rw [if_pos h1, if_pos h1]; exact (g p k).symm
  · rw [if_neg h1, if_neg h1]
    by_cases h2 : x < j ∧ j ≤ k
    · rw [if_pos h2, if_pos h2]; exact (g p _).symm
    · rw [if_neg h2, if_neg h2]; exact (g p _).symm
theorem bub_srt (hl : Lin n lt) (hp : Prm n p) {k x : Nat} (hk : k < n) (hs : Srt lt p k) (hx : x ≤ k) (h1 : ∀ a, a < x → lt (at' p a) (at' p k) = true) (h2 : ∀ a, x ≤ a → a < k → lt (at' p k) (at' p a) = true) : Srt lt (bubble p k (k - x)) (k + 1) := by
  intro a b hab hb
  rw [bub_at hp hk hx, bub_at hp hk hx]
  by_cases ea : a = x
  · rw [if_pos ea, if_neg (by omega), if_pos (by omega)]
    exact h2 (b - 1) (by omega) (by omega)
  · rw [if_neg ea]
    by_cases ea2 : x < a ∧ a ≤ k
    · rw [if_pos ea2, if_neg (by omega), if_pos (by omega)]
      exact hs (a - 1) (b - 1) (by omega) (by omega)
    · rw [if_neg ea2]
      by_cases eb : b = x
      · rw [if_pos eb]; exact h1 a (by omega)
      · rw [if_neg eb]
        by_cases eb2 : x < b ∧ b ≤ k
        · rw [if_pos eb2]
          by_cases e3 : a = b - 1
          · omega
          · exact hs a (b - 1) (by omega) (by omega)
        · rw [if_neg eb2]; exact hs a b hab (by omega)
theorem bin_srt (hl : Lin n lt) : ∀ (f : Nat) {p : Array Nat} (k : Nat), Prm n p → k + f = n → Srt lt p k → Prm n (krun lt (kas_bin f p k)) ∧ Srt lt (krun lt (kas_bin f p k)) n
  | 0, p, k, hp, hk, hs => by
    have : k = n := by omega
    subst this
    exact ⟨hp, hs⟩
  | f + 1, p, k, hp, hk, hs => by
    unfold kas_bin
    rw [krun_bind]
    obtain ⟨a1, a2, a3⟩ := place_spec hl hp (show k < n by omega) hs k 0 k (by omega) (by omega) (Nat.le_refl _) (fun a ha => by omega) (fun a h1 h2 => by omega)
    exact bin_srt hl f (k + 1) (hp.of_perm (bubble_perm _ _ _)) (by omega) (bub_srt hl hp (by omega) hs a1 a2 a3)
theorem range_prm (n : Nat) : Prm n (List.toArray (List.range n)) := ⟨by simp, by simp⟩
theorem sort_srt (hl : Lin n lt) (hn : 2 ≤ n) : Prm n (krun lt (kas_sort n)) ∧ Srt lt (krun lt (kas_sort n)) n := by
  obtain ⟨m, q, e, hq, h1, h2, hs⟩ := count_srt hl (range_prm n) hn
  unfold kas_sort
  rw [krun_bind, e]
  show Prm n (krun lt (if m < n then kas_bin (n - max m 1) q (max m 1) else .ret q)) ∧ Srt lt (krun lt (if m < n then kas_bin (n - max m 1) q (max m 1) else .ret q)) n
  by_cases h : m < n
  · rw [if_pos h, Nat.max_eq_left h1]
    exact bin_srt hl _ m hq (by omega) hs
  · rw [if_neg h]
    have : m = n := by omega
    subst this
    exact ⟨hq, hs⟩
end
end Mine

namespace Mine
open PySem PySem.W PyProof.Rows PySem.Calls PySem.Spec
def pltb (a b : IP) : Bool := decide (a.1 < b.1) || (decide (a.1 = b.1) && decide (a.2 < b.2))
theorem pltb_iff {a b : IP} : pltb a b = true ↔ plt a b := by simp [pltb, plt]
abbrev gp (ps : List IP) (i : Nat) : IP := ps.getD i (0, 0)
abbrev ltOf (ps : List IP) (i j : Nat) : Bool := pltb (gp ps i) (gp ps j)
theorem ltOf_lin {ps : List IP} (hd : ps.Pairwise (fun x y => x.2 < y.2)) : Lin ps.length (ltOf ps) := by
  refine ⟨fun i j h => ?_, fun i j k h1 h2 => ?_, fun i j hi hj hij => ?_⟩
  · have := pltb_iff.mp h
    cases q : ltOf ps j i with
    | false => rfl
    | true => exact absurd (pltb_iff.mp q) (plt_asymm this)
  · have a := pltb_iff.mp h1
    have b := pltb_iff.mp h2
    refine pltb_iff.mpr ?_
    unfold plt at *; omega
  · have ne : (gp ps i).2 ≠ (gp ps j).2 := by
      have e1 : gp ps i = ps[i] := by simp [gp, hi]
      have e2 : gp ps j = ps[j] := by simp [gp, hj]
      rw [e1, e2]
      rcases Nat.lt_or_gt_of_ne hij with q | q
      · have := List.pairwise_iff_getElem.mp hd i j hi hj q; omega
      · have := List.pairwise_iff_getElem.mp hd j i hj hi q; omega
    by_cases h : plt (gp ps i) (gp ps j)
    · exact Or.inl (pltb_iff.mpr h)
    · refine Or.inr (pltb_iff.mpr ?_)
      exact plt_total h fun e => ne (by rw [e])
theorem srt_perm {ps : List IP} {p : Array Nat} (hp : Prm ps.length p) : (p.toList.map (gp ps)).Perm ps := by
  have h := hp.perm.map (gp ps)
  have e : (List.range ps.length).map (gp ps) = ps := by
    apply List.ext_getElem?
    intro k
    by_cases hk : k < ps.length
    · simp [hk, gp]
    · simp [hk]
  rw [e] at h; exact h
theorem srt_pw {ps : List IP} {p : Array Nat} (hp : Prm ps.length p) (hs : Srt (ltOf ps) p ps.length) : (p.toList.map (gp ps)).Pairwise (fun a b => ¬ plt b a) := by
  rw [List.pairwise_map, List.pairwise_iff_getElem]
  intro i j hi hj hij
  have sz : p.toList.length = ps.length := by rw [Array.length_toList, hp.size]
  have h := pltb_iff.mp (hs i j hij (by omega))
  have e1 : at' p i = p.toList[i] := by
    have := hp.at_eq (k := i) (by omega)
    rw [List.getElem?_eq_getElem hi] at this; exact (Option.some.inj this).symm
  have e2 : at' p j = p.toList[j] := by
    have := hp.at_eq (k := j) (by omega)
    rw [List.getElem?_eq_getElem hj] at this; exact (Option.some.inj this).symm
  rw [e1, e2] at h
  exact plt_asymm h
theorem PairsAt.get {h : Heap} : ∀ {vs : List Value} {ps : List (Int × Int)} {i : Nat}, PairsAt h vs ps → i < ps.length →
    ∃ T ta tb n, vs.getD i Value.none = .ref T ∧ h.get? T = some { cls := .type "tuple", data := .seq #[.int (gp ps i).1 ta, .int (gp ps i).2 tb] n }
  | _, _, _, .nil, hi => absurd hi (Nat.not_lt_zero _)
  | _, _, 0, .cons e r, _ => ⟨_, _, _, _, rfl, e⟩
  | _, _, i + 1, .cons e r, hi => by
    have := r.get (i := i) (by simpa using hi)
    simpa [gp] using this
theorem PairsAt.pick {h : Heap} {vs : List Value} {ps : List (Int × Int)} (x : PairsAt h vs ps) : ∀ {l : List Nat}, (∀ i ∈ l, i < ps.length) → PairsAt h (l.map fun i => vs.getD i Value.none) (l.map (gp ps))
  | [], _ => .nil
  | i :: l, hl => by
    obtain ⟨T, ta, tb, n, e, ho⟩ := x.get (hl i (.head _))
    rw [List.map_cons, List.map_cons, e]
    exact .cons ho (x.pick fun j hj => hl j (.tail _ hj))
/-- the pairs as data -/
def pairD (p : Int × Int) : PyData := .tuple [.int p.1, .int p.2]
theorem pairs_reads {h : Heap} : ∀ {vs : List Value} {ps : List (Int × Int)}, PairsAt h vs ps → ReadsAll h vs (ps.map pairD) []
  | _, _, .nil => .nil
  | _, _, .cons e r => ReadsAll.cons (as := []) (bs := []) (.tuple e rfl rfl (ReadsAll.cons (as := []) (bs := []) (.int _ _) (ReadsAll.cons (as := []) (bs := []) (.int _ _) .nil))) (pairs_reads r)
theorem canLay_pairs : ∀ ps : List (Int × Int), PyData.canLayAll0 (ps.map pairD) = true
  | [] => rfl
  | d :: r => by simp [PyData.canLayAll0, PyData.canLay0, pairD, canLay_pairs r]
theorem depth_pairs : ∀ ps : List (Int × Int), PyData.depthAll (ps.map pairD) ≤ 1
  | [] => by simp [PyData.depthAll]
  | d :: r => by
    have := depth_pairs r
    simp only [List.map_cons, PyData.depthAll, pairD, PyData.depth]
    omega
theorem shaped_pairs (ps : List (Int × Int)) : SeqAt.shaped (.list (ps.map pairD)) = true := by
  have := depth_pairs ps
  simp only [SeqAt.shaped, PyData.canLay0, PyData.depth, canLay_pairs, Bool.true_and, Bool.and_true]
  simp
  omega
theorem ne_pairs {prog : Program} {w : World} {A : Around} {E : Value → Shared → Prop} {s : Shared} {a b : Addr} {xs ys : List Value} {ps qs : List (Int × Int)} {Q : Value → Shared → Prop}
    (ha : s.heap.IsList a xs.toArray) (hb : s.heap.IsList b ys.toArray) (pa : PairsAt s.heap xs ps) (pb : PairsAt s.heap ys qs) (e : ps = qs) (hu : A.units + 64 < cLine) (h : Q (.bool false) s) :
    wpAny (model prog w) A (compareOp .NotEq (.ref a) (.ref b)) Q E s := by
  subst e
  obtain ⟨oa, ea, ca, na, da⟩ := ha
  obtain ⟨ob, eb, cb, nb, db⟩ := hb
  refine ne_dataH (.list ea ca da (pairs_reads pa)) (.list eb cb db (pairs_reads pb)) (shaped_pairs ps) (shaped_pairs ps) hu ?_
  have this : PyData.eqv (.list (ps.map pairD)) (.list (ps.map pairD)) = true := SeqAt.eqv_refl _ (by simp [PyData.canLay0, canLay_pairs])
  rw [this]; exact h
end Mine

namespace Mine
open PySem PySem.W PyProof.Rows PySem.Calls PySem.Spec
section
variable {prog : Program} {w : World} {A : Around} {E : Value → Shared → Prop} {s : Shared} {h₀ : Heap} {L : Addr} {m : Str → Option Value} {news : List (Addr × Obj)} {vs : List Value} {ps : List (Int × Int)}
theorem tups_of {h : Heap} : ∀ {vs : List Value} {ps : List (Int × Int)}, PairsAt h vs ps → ∃ fs, KatTups h vs fs ∧ fs.length = ps.length ∧ ∀ v ∈ fs, ∃ i t, v = .int i t
  | _, _, .nil => ⟨[], .nil, rfl, fun _ hv => nomatch hv⟩
  | _, _, .cons (a := a) (ta := ta) e r => by
    obtain ⟨fs, h1, h2, h3⟩ := tups_of r
    refine ⟨.int a ta :: fs, .cons e rfl rfl rfl h1, by rw [List.length_cons, List.length_cons, h2], fun v hv => ?_⟩
    rcases List.mem_cons.mp hv with rfl | hv
    · exact ⟨_, _, rfl⟩
    · exact h3 v hv
theorem lt_pairs {Q : Bool → Shared → Prop} (pa : PairsAt s.heap vs ps) {i j : Nat} (hi : i < ps.length) (hj : j < ps.length) (h : Q (ltOf ps i j) s) :
    wpAny (model prog w) A (keyLt' (tuples' true) (vs.getD i Value.none) (vs.getD j Value.none)) Q E s := by
  obtain ⟨T1, ta1, tb1, n1, e1, o1⟩ := pa.get hi
  obtain ⟨T2, ta2, tb2, n2, e2, o2⟩ := pa.get hj
  rw [e1, e2]
  refine kat_lt o1 rfl o2 rfl ?_
  refine kat_cons (wpAny_eqBool_int ?_)
  refine kat_go (fun q => kat_yes ?_) (fun q => kat_no ?_)
  · refine kat_cons (wpAny_eqBool_int ?_)
    refine kat_go (fun q2 => kat_yes (kat_nil ?_)) (fun q2 => kat_no ?_)
    · have q' : (gp ps i).1 = (gp ps j).1 := by simpa using q
      have q2' : (gp ps i).2 = (gp ps j).2 := by simpa using q2
      have : ltOf ps i j = false := by
        cases z : ltOf ps i j with
        | false => rfl
        | true => have := pltb_iff.mp z; unfold plt at this; omega
      rw [this] at h; exact h
    · refine kat_one _ _ (PyProof.Rows.lt_int ?_)
      have q' : (gp ps i).1 = (gp ps j).1 := by simpa using q
      have : ltOf ps i j = decide ((gp ps i).2 < (gp ps j).2) := by
        unfold ltOf pltb; rw [decide_eq_true q', Bool.true_and, decide_eq_false (by omega), Bool.false_or]
      rw [this] at h; exact h
  · refine oneLt_int ?_
    have q' : ¬ (gp ps i).1 = (gp ps j).1 := fun z => by rw [z, beq_self_eq_true] at q; cases q
    have : ltOf ps i j = decide ((gp ps i).1 < (gp ps j).1) := by unfold ltOf pltb; rw [decide_eq_false q', Bool.false_and, Bool.or_false]
    rw [this] at h; exact h
theorem sorted_many {l : Addr} {Q : Value → Shared → Prop} (F : Fr h₀ L s.heap m) (N : News h₀ L s.heap news) (hl : s.heap.IsList l vs.toArray) (h2 : 2 ≤ vs.length) (h64 : vs.length < 64)
    {tups : List (Addr × Obj)} (sub : ∀ p ∈ tups, p ∈ news) (bear : ∀ h : Heap, (∀ p ∈ tups, h.get? p.1 = some p.2) → PairsAt h vs ps) (hd : ps.Pairwise (fun x y => x.2 < y.2))
    (ret : ∀ D k h' vs' ps', Fr h₀ L h' m → News h₀ L h' ((D, W.listOf (List.toArray vs') k) :: news) → (∀ q ∈ news, q.1 < D) → (∀ h : Heap, (∀ p ∈ tups, h.get? p.1 = some p.2) → PairsAt h vs' ps') → ps'.Perm ps → ps'.Pairwise (fun a b => ¬ plt b a) → Q (.ref D) { s with heap := h' }) :
    wpAny (model prog w) A (call (.builtin "sorted") [.ref l]) Q E s := by
  have hn : vs.length = ps.length := (bear s.heap fun p hp => (N p (sub p hp)).1).length
  refine kat_sorted F N hl h2 h64 fun D e1 h' F' N' lt => ?_
  have nw : ∀ {h : Heap} {o : Obj}, News h₀ L h ((D, o) :: news) → ∀ p ∈ news, h.get? p.1 = some p.2 := fun n p hp => (n p (.tail _ hp)).1
  have pa := bear h' fun p hp => nw N' p (sub p hp)
  obtain ⟨fs, t1, t2, t3⟩ := tups_of pa
  refine kat_kind (s := { s with heap := h' }) (T := .type "int") t1 (by omega) (fun v hv => by obtain ⟨i, t, rfl⟩ := t3 v hv; exact Looks.of_pure rfl) rfl ?_
  show (kas_sort vs.length).kasWp (kas_ask prog w A.in1.in1 (tuples' true) vs) _ _
  rw [hn]
  have lin := ltOf_lin hd
  have srt := sort_srt lin (by omega)
  refine kas_pure (n := ps.length) (lt := ltOf ps) (P := fun _ => True) (fun i j C hi hj hC => ?_) (sort_asks (by omega)) fun _ => ?_
  · exact lt_pairs (s := { s with heap := h' }) pa hi hj hC
  · have bnd : ∀ i ∈ (krun (ltOf ps) (kas_sort ps.length)).toList, i < ps.length := fun i hi => List.mem_range.mp (srt.1.perm.mem_iff.mp hi)
    refine KasFin.intro F' N' (UpdF.head fun p hp => Nat.ne_of_lt (lt p hp)) fun h'' c F'' N'' => ?_
    · exact ret D c h'' _ _ F'' N'' lt (fun h hh => (bear h hh).pick bnd) (srt_perm srt.1) (srt_pw srt.1 srt.2)
end
end Mine

namespace Mine
open PySem PySem.W PyProof.Rows PySem.Calls PySem.Spec
section
variable {prog : Program} {w : World} {A : Around} {E : Value → Shared → Prop} {s : Shared} {h₀ : Heap} {L : Addr} {m : Str → Option Value} {news : List (Addr × Obj)} {vs : List Value} {ps : List (Int × Int)}
/-- the sort of a list of one item, at a -/
theorem sort_one {a : Addr} {v : Value} {n : Nat} {P : PySem.Fin → Shared → Prop} (ho : s.heap.get? a = some (seqObj "list" #[v] n))
    (h : ∀ h' c, h'.get? a = some (seqObj "list" #[v] c) → (∀ b o, b ≠ a → s.heap.get? b = some o → h'.get? b = some o) → P (.done (.ret .none)) { s with heap := h' }) :
    wpAny (model prog w) A (Builtin.«list.sort» ⟨[.ref a], []⟩) P E s := by
  have ha : a < s.heap.objs.size := Heap.lt_size ho
  have s1 := Heap.SameBut.update s.heap a (Obj.mapSeq fun _ => (#[] : Array Value))
  obtain ⟨e1, ho1⟩ : ∃ e1, (s.heap.update a (Obj.mapSeq fun _ => (#[] : Array Value))).get? a = some (seqObj "list" #[] e1) := ⟨_, get?_update_seq ho fun _ => #[]⟩
  rw [list_sort_plain]
  refine wpAny_bind (listItems_at ho rfl ?_)
  refine wpAny_bind (listUpdate_at ho rfl ?_ (by rw [sizeLine_eq]; simp) (Nat.zero_le _))
  refine wpAny_bind (seqEpoch_at ho1 rfl ?_)
  refine wpAny_bind (wpAny_newTuple ?_ (by rw [sizeLine_eq]; simp))
  refine wpAny_bind (wpAny_newList ?_ (Nat.zero_le _))
  refine wpAny_holding ?_
  have ho3 : (((s.heap.update a (Obj.mapSeq fun _ => (#[] : Array Value))).push (seqObj "tuple" #[v] 0)).push (seqObj "list" #[] 0)).get? a = some (seqObj "list" #[] e1) := Heap.get?_push_of_some _ (Heap.get?_push_of_some _ ho1)
  show wpAny (model prog w) A _ P E { s with heap := ((s.heap.update a (Obj.mapSeq fun _ => (#[] : Array Value))).push (seqObj "tuple" #[v] 0)).push (seqObj "list" #[] 0) }
  dsimp only
  have hn2 : (#[v] : Array Value).size < 2 := by simp
  rw [if_pos hn2, if_pos hn2]
  refine wpAny_bind (wpAny_pure ?_)
  refine wpAny_bind (wpAny_pure ?_)
  dsimp only
  obtain ⟨c2, hc2⟩ : ∃ c2, ((((s.heap.update a (Obj.mapSeq fun _ => (#[] : Array Value))).push (seqObj "tuple" #[v] 0)).push (seqObj "list" #[] 0)).update a (Obj.mapSeq fun _ => (#[v] : Array Value))).get? a = some (seqObj "list" #[v] c2) := ⟨_, get?_update_seq ho3 fun _ => #[v]⟩
  refine wpAny_bind (seqEpoch_at ho3 rfl ?_)
  have ez : Array.map (fun x => x.2) (arrOf (SortSt.mk' general' ((#[v] : Array Value).zip #[v]) #[] 7 none)) = #[v] := by
    show Array.map (fun x => x.2) ((#[v] : Array Value).zip #[v]) = #[v]
    simp
  rw [ez]
  refine wpAny_bind (listUpdate_at ho3 rfl ?_ (Nat.zero_le _) (by rw [sizeLine_eq]; simp))
  rw [if_neg (by simp)]
  refine wpAny_pure (h _ c2 hc2 fun b o hb e => ?_)
  exact (Heap.get?_update_other _ _ (Ne.symm hb)).trans (Heap.get?_push_of_some _ (Heap.get?_push_of_some _ ((Heap.get?_update_other _ _ (Ne.symm hb)).trans e)))
theorem sorted_one {l : Addr} {v : Value} {Q : Value → Shared → Prop} (F : Fr h₀ L s.heap m) (N : News h₀ L s.heap news) (hl : s.heap.IsList l #[v])
    (ret : ∀ D k h', Fr h₀ L h' m → News h₀ L h' ((D, W.listOf #[v] k) :: news) → (∀ q ∈ news, q.1 < D) → Q (.ref D) { s with heap := h' }) :
    wpAny (model prog w) A (call (.builtin "sorted") [.ref l]) Q E s := by
  refine Calls.call_function_entry kind_sorted plain_sorted entry_sorted (args_sorted1 _) ?_
  unfold Builtin.«sorted»
  refine wpAny_bind (m := checkCount "sorted" 1 1 _) (wpAny_pure ?_)
  refine wpAny_bind (collect_list hl ?_ (by rw [sizeLine_eq]; simp))
  refine wpAny_bind (wpAny_newList ?_ (by rw [sizeLine_eq]; simp))
  have hsz : ((s.heap.push (seqObj "list" #[] 0)).update s.heap.objs.size (Obj.mapSeq (· ++ #[v]))).objs.size = s.heap.objs.size + 1 := by
    rw [Heap.size_update, size_push']
  have hoL : (((s.heap.push (seqObj "list" #[] 0)).update s.heap.objs.size (Obj.mapSeq (· ++ #[v]))).push (seqObj "list" #[v] 0)).get? (s.heap.objs.size + 1) = some (seqObj "list" #[v] 0) := by
    rw [← hsz]; exact Heap.get?_push_size _ rfl
  have keep : ∀ b o, s.heap.get? b = some o → (((s.heap.push (seqObj "list" #[] 0)).update s.heap.objs.size (Obj.mapSeq (· ++ #[v]))).push (seqObj "list" #[v] 0)).get? b = some o := fun b o q => by
    have hlt : b < s.heap.objs.size := Heap.lt_size q
    exact Heap.get?_push_of_some _ ((Heap.get?_update_other _ _ (Nat.ne_of_gt hlt)).trans (Heap.get?_push_of_some _ q))
  have hL : L < s.heap.objs.size := F.ns.lt
  show wpAny _ _ _ _ _ { s with heap := ((s.heap.push (seqObj "list" #[] 0)).update s.heap.objs.size (Obj.mapSeq (· ++ #[v]))).push (seqObj "list" #[v] 0) }
  rw [hsz]
  refine wpAny_bind (wpAny_holding (wpAny_call_entry slot_list_sort ⟨_, hoL, rfl⟩ entry_list_sort ?body (args_list_sort _)))
  case body =>
    refine sort_one hoL fun h' c e1 e2 => ⟨_, rfl, wpAny_pure ⟨_, rfl, ?_⟩⟩
    have K : Kp s.heap h' := fun b o q => e2 b o (Nat.ne_of_lt (Nat.lt_succ_of_lt (Heap.lt_size q))) (keep b o q)
    refine ret _ c h' (F.keeps K) (fun p hp => ?_) fun q hq => Nat.lt_succ_of_lt (Heap.lt_size (N q hq).1)
    rcases List.mem_cons.mp hp with rfl | hp
    · exact ⟨e1, Nat.ne_of_gt (Nat.lt_succ_of_lt hL), Heap.get?_none_of_le (Nat.le_trans F.above (Nat.le_succ_of_le (Nat.le_of_lt hL)))⟩
    · exact ⟨K _ _ (N p hp).1, (N p hp).2⟩
theorem sorted_use {l : Addr} {Q : Value → Shared → Prop} (F : Fr h₀ L s.heap m) (N : News h₀ L s.heap news) (hl : s.heap.IsList l vs.toArray) (h1 : 1 ≤ ps.length) (h64 : ps.length < 64)
    {tups : List (Addr × Obj)} (sub : ∀ p ∈ tups, p ∈ news) (bear : ∀ h : Heap, (∀ p ∈ tups, h.get? p.1 = some p.2) → PairsAt h vs ps) (hd : ps.Pairwise (fun x y => x.2 < y.2))
    (ret : ∀ D k h' vs' ps', Fr h₀ L h' m → News h₀ L h' ((D, W.listOf (List.toArray vs') k) :: news) → (∀ q ∈ news, q.1 < D) → (∀ h : Heap, (∀ p ∈ tups, h.get? p.1 = some p.2) → PairsAt h vs' ps') → ps'.Perm ps → ps'.Pairwise (fun a b => ¬ plt b a) → Q (.ref D) { s with heap := h' }) :
    wpAny (model prog w) A (call (.builtin "sorted") [.ref l]) Q E s := by
  have hn : vs.length = ps.length := (bear s.heap fun p hp => (N p (sub p hp)).1).length
  by_cases h2 : 2 ≤ ps.length
  · exact sorted_many F N hl (by omega) (by omega) sub bear hd ret
  · have e1 : vs.length = 1 := by omega
    obtain ⟨v, rfl⟩ := List.length_eq_one_iff.mp e1
    obtain ⟨p, rfl⟩ := List.length_eq_one_iff.mp (show ps.length = 1 by omega)
    exact sorted_one F N hl fun D k h' F' N' lt => ret D k h' [v] [p] F' N' lt bear (List.Perm.refl _) (List.pairwise_singleton _ _)
end
end Mine

namespace Mine
open PySem PySem.W PyProof.Rows PySem.Calls PySem.Spec
section
variable {prog : Program} {w : World} {A : Around} {E : Value → Shared → Prop} {s : Shared}
theorem due_elt {scope : Scope} {cl : List (Str × Addr)} {C : Addr} {env : Env} {xr xp : Str} {p1 p2 p3 p4 p5 : Pos} {kk : Nat} {l c : Addr} {oc : Obj} {vs : List Value} {ns : List Int} {k : Int} {t : Tok} {m₂ : Str → Option Value} {Q : Value → Shared → Prop}
    (hcl : cl.lookup xr = some c) (hkr : (compEnvC scope cl C env).kindOf xr = some .cell) (hkp : (compEnvC scope cl C env).kindOf xp = some .local) (hk : (compEnvC scope cl C env).scope.kind = .function)
    (hdr : (xr == ("__debug__" : Str)) = false) (hdp : (xp == ("__debug__" : Str)) = false)
    (hc : s.heap.get? c = some oc) (hoc : oc.data = .cell (some (.ref l))) (hl : s.heap.IsList l vs.toArray) (hi : IntsAre vs ns) (hn : s.heap.Ns C m₂) (hx : m₂ xp = some (.int k t)) (h0 : 0 ≤ k) (h1 : k < ns.length) (h63 : ns.length < 64)
    (h : ∀ t', Q (.ref s.heap.objs.size) { s with heap := s.heap.push { cls := .type "tuple", data := .seq #[.int (ns.getD k.toNat 0) t', .int k t] } }) :
    wpAny (model prog w) A (eval (.Tuple [.Subscript (.Name xr p1) (.Name xp p2) p3, .Name xp p4] kk p5) (compEnvC scope cl C env)) Q E s := by
  refine Tuple_ (spliced_more (Subscript_ ?_))
  refine wpAny_Name (wpAny_loadName_cell hk hkr hcl ⟨oc, hc, hoc⟩ ?_) hdr
  refine ldVarK hn hx ?_ hk hkp hdp
  refine item_list_intsR hl hi h0 h1 (by omega) fun t' => ?_
  refine spliced_more (ldVarK hn hx ?_ hk hkp hdp)
  exact spliced_none (wpAny_newTuple (h t') (by rw [sizeLine_eq]; simp))
end
theorem PairsAt.snoc {h : Heap} {T : Addr} {a b : Int} {ta tb : Tok} {n : Nat} (e : h.get? T = some { cls := .type "tuple", data := .seq #[.int a ta, .int b tb] n }) : ∀ {vs : List Value} {ps : List (Int × Int)}, PairsAt h vs ps → PairsAt h (vs ++ [.ref T]) (ps ++ [(a, b)])
  | _, _, .nil => .cons e .nil
  | _, _, .cons e' r => .cons e' (r.snoc e)
theorem rangeKs_snoc (a : Int) (i : Nat) : rangeKs a (i + 1) = rangeKs a i ++ [a + (i : Int)] := by
  unfold rangeKs; rw [List.range_succ, List.map_append]; rfl
/-- the pairs of the places from a on -/
abbrev dueP (ns : List Int) (a : Int) (n : Nat) : List (Int × Int) := (rangeKs a n).map fun k => (ns.getD k.toNat 0, k)
abbrev Bears (tups : List (Addr × Obj)) (ys : List Value) (ps : List (Int × Int)) : Prop := ∀ h : Heap, (∀ p ∈ tups, h.get? p.1 = some p.2) → PairsAt h ys ps
section
variable {prog : Program} {w : World} {A : Around} {E : Value → Shared → Prop} {s : Shared} {h₀ : Heap} {L l c : Addr} {m : Str → Option Value} {env : Env} {base : List (Addr × Obj)} {vs : List Value} {ns : List Int} {n0 : Nat} {oc : Obj} {xr xp : Str} {p1 p2 p3 p4 p5 : Pos} {kk : Nat} {scope : Scope} {cl : List (Str × Addr)}
theorem due_rest {Fin : List Value → List (Addr × Obj) → Prop} {a : Int} {n : Nat} (hl : (l, W.listOf vs.toArray n0) ∈ base) (hc : (c, oc) ∈ base) (hoc : oc.data = .cell (some (.ref l))) (hi : IntsAre vs ns) (h0 : 0 ≤ a) (hn : a + (n : Int) ≤ (ns.length : Int)) (h63 : ns.length < 64)
    (hcl : cl.lookup xr = some c) (hkr : ∀ C, (compEnvC scope cl C env).kindOf xr = some .cell) (hkp : ∀ C, (compEnvC scope cl C env).kindOf xp = some .local) (hk : ∀ C, (compEnvC scope cl C env).scope.kind = .function)
    (hdr : (xr == ("__debug__" : Str)) = false) (hdp : (xp == ("__debug__" : Str)) = false)
    (fin : ∀ tups ys, Bears tups ys (dueP ns a n) → Fin ys (base ++ tups)) :
    ∀ (k i : Nat) (ys : List Value) (tups : List (Addr × Obj)), i + k = n → Bears tups ys (dueP ns a i) →
      LCg.CompRest prog w A h₀ L m env (.Tuple [.Subscript (.Name xr p1) (.Name xp p2) p3, .Name xp p4] kk p5) xp scope cl s (fun _ => True) (fun i v => ∃ t, v = .int (a + (i : Int)) t) Fin k i ys (base ++ tups) := by
  intro k
  induction k with
  | zero =>
    intro i ys tups e hb
    have : i = n := by omega
    subst this
    exact LCg.CompRest.zero (fin tups ys hb)
  | succ k ih =>
    intro i ys tups e hb
    refine LCg.CompRest.succ ?_
    intro v I oI C oC D m₂ h tk E' hP hC hx F N off ne
    obtain ⟨t, rfl⟩ := hP
    have gC : h.get? C = some oC := (N _ (.tail _ (.head _))).1
    have gb : ∀ p ∈ base, h.get? p.1 = some p.2 := fun p hp => (N p (.tail _ (.tail _ (.tail _ (List.mem_append_left _ hp))))).1
    have sI : I < h.objs.size := Heap.lt_size (N _ (.head _)).1
    have sC : C < h.objs.size := Heap.lt_size gC
    have sD : D < h.objs.size := Heap.lt_size (N _ (.tail _ (.tail _ (.head _)))).1
    refine due_elt (s := { s with heap := h, toks := tk }) hcl (hkr C) (hkp C) (hk C) hdr hdp (gb _ hc) hoc ⟨_, gb _ hl, rfl, _, rfl⟩ hi (hC.ns gC) hx (by omega) (by omega) h63 fun t' => ?_
    have N' := N.push F { cls := .type "tuple", data := .seq #[.int (ns.getD (a + (i : Int)).toNat 0) t', .int (a + (i : Int)) t] }
    refine LCg.CompEnd.intro (F.push _) N' (base ++ (tups ++ [(h.objs.size, { cls := .type "tuple", data := .seq #[.int (ns.getD (a + (i : Int)).toNat 0) t', .int (a + (i : Int)) t] })])) ?_ ?_ trivial ?_
    · intro p hp
      rcases List.mem_cons.mp hp with rfl | hp
      · exact .tail _ (.head _)
      · rcases List.mem_cons.mp hp with rfl | hp
        · exact .tail _ (.tail _ (.head _))
        · rcases List.mem_cons.mp hp with rfl | hp
          · exact .tail _ (.tail _ (.tail _ (.head _)))
          · rw [← List.append_assoc] at hp
            rcases List.mem_append.mp hp with hp | hp
            · exact .tail _ (.tail _ (.tail _ (.tail _ hp)))
            · rw [List.mem_singleton.mp hp]; exact .head _
    · refine LCg.Off3.of fun p hp => ?_
      rw [← List.append_assoc] at hp
      rcases List.mem_append.mp hp with hp | hp
      · exact off.mem p hp
      · rw [List.mem_singleton.mp hp]
        exact ⟨Nat.ne_of_gt sI, Nat.ne_of_gt sC, Nat.ne_of_gt sD⟩
    · refine ih (i + 1) _ _ (by omega) fun h' hh => ?_
      have e1 : dueP ns a (i + 1) = dueP ns a i ++ [(ns.getD (a + (i : Int)).toNat 0, a + (i : Int))] := by
        show (rangeKs a (i + 1)).map _ = _
        rw [rangeKs_snoc, List.map_append]; rfl
      rw [e1]
      exact PairsAt.snoc (hh _ (List.mem_append_right _ (List.mem_singleton.mpr rfl))) (hb h' fun p hp => hh p (List.mem_append_left _ hp))
theorem due_src {Q : Value → Shared → Prop} {s₁ : Shared} {r D ll : Addr} {oD oll : Obj} {tl : List (Addr × Obj)} {a b : Int} {t u v : Tok} (hh : A.handled = none) (F : Fr h₀ L s₁.heap m) (N : News h₀ L s₁.heap ((D, oD) :: (ll, oll) :: (l, W.listOf vs.toArray n0) :: (c, oc) :: tl))
    (hr : IsRange s₁.heap r a b 1 t u v) (hoc : oc.data = .cell (some (.ref l))) (hi : IntsAre vs ns) (h0 : 0 ≤ a) (hab : a < b) (hb : b ≤ (ns.length : Int)) (h63 : ns.length < 64)
    (hcl : cl.lookup xr = some c) (hkr : ∀ C, (compEnvC scope cl C env).kindOf xr = some .cell) (hkp : ∀ C, (compEnvC scope cl C env).kindOf xp = some .local) (hk : ∀ C, (compEnvC scope cl C env).scope.kind = .function)
    (hdr : (xr == ("__debug__" : Str)) = false) (hdp : (xp == ("__debug__" : Str)) = false)
    (ret : ∀ D' h tk tups ys kn, Fr h₀ L h m → News h₀ L h ((D', W.listOf (List.toArray ys) kn) :: (D, oD) :: (ll, oll) :: (l, W.listOf vs.toArray n0) :: (c, oc) :: (tl ++ tups)) → Bears tups ys (dueP ns a (b - a).toNat) → Q (.ref D') { s₁ with heap := h, toks := tk }) :
    LCg.CompSrc prog w A h₀ L m env (.Tuple [.Subscript (.Name xr p1) (.Name xp p2) p3, .Name xp p4] kk p5) xp scope cl (fun s₂ => LCg.FinE h₀ L m s₂ Q) (.ref r) s₁ := by
  refine LCg.CompSrc.range (n := (b - a).toNat) hh F N hr (small_one (by omega) (by omega) (by omega) (by omega)) (rangeSize_nat a b) (by rw [sizeLine_eq]; omega) fun g => ?_
  have key := due_rest (prog := prog) (w := w) (A := A) (h₀ := h₀) (L := L) (m := m) (env := env) (p1 := p1) (p2 := p2) (p3 := p3) (p4 := p4) (p5 := p5) (kk := kk) (s := { s₁ with heap := g }) (base := (D, oD) :: (ll, oll) :: (l, W.listOf vs.toArray n0) :: (c, oc) :: tl) (Fin := LCg.FinE h₀ L m { s₁ with heap := g } Q) (a := a) (n := (b - a).toNat)
    (.tail _ (.tail _ (.head _))) (.tail _ (.tail _ (.tail _ (.head _)))) hoc hi h0 (by omega) h63 hcl hkr hkp hk hdr hdp (fun tups ys hb D' h tk F' N' _ => ret D' h tk tups ys _ F' N' hb) (b - a).toNat 0 [] [] (by omega) (fun _ _ => .nil)
  rw [List.append_nil] at key
  exact key
end
end Mine

namespace Mine
open PySem PySem.W PyProof.Rows PySem.Calls PySem.Spec
theorem PairsAt.app {h : Heap} : ∀ {vs ws : List Value} {ps qs : List (Int × Int)}, PairsAt h vs ps → PairsAt h ws qs → PairsAt h (vs ++ ws) (ps ++ qs)
  | _, _, _, _, .nil, y => y
  | _, _, _, _, .cons e r, y => .cons e (r.app y)
theorem PairsAt.drop {h : Heap} : ∀ (n : Nat) {vs : List Value} {ps : List (Int × Int)}, PairsAt h vs ps → PairsAt h (vs.drop n) (ps.drop n)
  | 0, _, _, x => x
  | n + 1, _, _, .nil => .nil
  | n + 1, _, _, .cons e r => r.drop n
theorem PairsAt.take {h : Heap} : ∀ (n : Nat) {vs : List Value} {ps : List (Int × Int)}, PairsAt h vs ps → PairsAt h (vs.take n) (ps.take n)
  | 0, _, _, _ => by simp only [List.take_zero]; exact .nil
  | n + 1, _, _, .nil => .nil
  | n + 1, _, _, .cons e r => .cons e (r.take n)
theorem PairsAt.led {h : Heap} {vs : List Value} {ps : List (Int × Int)} (x : PairsAt h vs ps) : ∀ (ds : List (List Int × List Int)) (i j : Int), PairsAt h (led vs ds i j) (led ps ds i j)
  | [], i, j => by
    by_cases e : i = j
    · subst e; rw [led_same, led_same]; exact .nil
    · rw [led_nil _ e, led_nil _ e]; exact (x.drop _).take _
  | (xs, ys) :: ds, i, j => by
    by_cases e : i = j
    · subst e; rw [led_same, led_same]; exact .nil
    · rw [led_cons _ e, led_cons _ e]; exact (x.led ds _ _).app (x.led ds _ _)
theorem law_due {ns : List Int} (h8 : ∀ x ∈ ns, 0 ≤ x ∧ x < 8) {i j : Int} (h0 : 0 ≤ i) (hij : i < j) (hj : j ≤ (ns.length : Int)) {srt : List (Int × Int)} (hp : srt.Perm (dueP ns i (j - i).toNat)) (hs : srt.Pairwise (fun a b => ¬ plt b a)) :
    led ((numbersOf ns).zip (placesOf ns)) (layersOf ns) i j = srt := by
  have ei : i = ((i.toNat : Nat) : Int) := by omega
  have ej : j = ((j.toNat : Nat) : Int) := by omega
  have e : seg ns i.toNat j.toNat = dueP ns i (j - i).toNat := by
    rw [seg_eq (by omega) (by omega), ← ei]
    have : j.toNat - i.toNat = (j - i).toNat := by omega
    rw [this]
  have := law_pairs h8 (i := i.toNat) (j := j.toNat) (by omega) (by omega) (by rw [e]; exact hp) hs
  rw [← ei, ← ej] at this
  exact this
theorem outs_len {ns : List Int} {h : Heap} {outs : List Value} (x : PairsAt h outs ((numbersOf ns).zip (placesOf ns))) : outs.length = ns.length := by
  rw [x.length, ← out_eq]
  show (step 1 (step 2 (step 4 (pairs0 ns)))).length = _
  rw [step_len, step_len, step_len, pairs0_len]
section
variable {w : World} {dp un : Nat} {gd : Option (List Code)} {cn : Str} {cs : Scope} {a : Addr} {ccd : Value} {cl₀ : List (Str × Addr)} {outer : List Env} {A₀ : Around} {base h₀ : Heap} {L : Addr} {m : Str → Option Value} {s : Shared} {Q E : Value → Shared → Prop}
    {p : Program} {loose : List Str} {mean : ExcName → Option Value} {mg mb : Str → Option Value} {D ll l c D' D2 R : Addr} {oD oll ol oc o2 : Obj} {ns : List Int} {vL outs ys vs' : List Value} {i j : Int} {ti tj : Tok} {n1 k1 kd kr : Nat} {tl tups stat : List (Addr × Obj)} {ps' : List (Int × Int)}
theorem sorted_law {prog : Program} {A : Around} {n : Nat} (F : Fr h₀ L s.heap m) (N : News h₀ L s.heap ((D', W.listOf (List.toArray ys) kd) :: (D, oD) :: (ll, oll) :: (l, ol) :: (c, oc) :: (tl ++ tups))) (hb : Bears tups ys (dueP ns i n)) (h1 : 1 ≤ n) (h64 : n < 64)
    (ret : ∀ D2 k h' vs' ps', Fr h₀ L h' m → News h₀ L h' ((D2, W.listOf (List.toArray vs') k) :: (D, oD) :: (ll, oll) :: (l, ol) :: (c, oc) :: (tl ++ tups)) → Bears tups vs' ps' → ps'.Perm (dueP ns i n) → ps'.Pairwise (fun a b => ¬ plt b a) → Q (.ref D2) { s with heap := h' }) :
    wpAny (model prog w) A (call (.builtin "sorted") [.ref D']) Q E s := by
  have ln : (dueP ns i n).length = n := by rw [List.length_map, rangeKs_length]
  have N0 : News h₀ L s.heap tups := fun p hp => N p (.tail _ (.tail _ (.tail _ (.tail _ (.tail _ (List.mem_append_right _ hp))))))
  refine sorted_use F N ⟨_, (N _ (.head _)).1, rfl, _, rfl⟩ (by rw [ln]; exact h1) (by rw [ln]; exact h64) (fun p hp => .tail _ (.tail _ (.tail _ (.tail _ (.tail _ (List.mem_append_right _ hp)))))) hb ?_ fun D2 k h' vs' ps' F' N' lt bear hp hs => ?_
  · rw [List.pairwise_map]; exact (range_pw i n).imp fun h => h
  · refine ret D2 k h' vs' ps' F' (fun p hp => N' p ?_) bear hp hs
    · rcases List.mem_cons.mp hp with rfl | hp
      · exact .head _
      · exact .tail _ (.tail _ hp)
theorem led_law (B : Below A₀ base outer h₀) (F : Fr h₀ L s.heap m) (X : (hd.heap_39 w.params).In h₀) (T : Top p loose mean mg mb h₀) (hk : cs.kind = .function)
    (N : News h₀ L s.heap ((D2, o2) :: (D, W.listOf outs.toArray k1) :: (ll, W.listOf vL.toArray n1) :: (l, ol) :: (c, oc) :: (tl ++ tups))) (hst : ∀ p ∈ stat, p ∈ tl)
    (bear : ∀ h : Heap, (∀ p ∈ stat, h.get? p.1 = some p.2) → LayersAt h vL (layersOf ns) ∧ PairsAt h outs ((numbersOf ns).zip (placesOf ns))) (h6 : ns.length ≤ 6) (i0 : 0 ≤ i) (i1 : i ≤ (ns.length : Int)) (j0 : 0 ≤ j) (j1 : j ≤ (ns.length : Int)) (hdp : dp + 16 < recursionLimit) (hun : un + 250 < cLine)
    (ret : ∀ r h' tk' n, Fr h₀ L h' m → News h₀ L h' ((r, W.listOf (led outs (layersOf ns) i j).toArray n) :: (D2, o2) :: (D, W.listOf outs.toArray k1) :: (ll, W.listOf vL.toArray n1) :: (l, ol) :: (c, oc) :: (tl ++ tups)) → Q (.ref r) { s with heap := h', toks := tk' }) :
    wpAny (model PySem.Challenge.rw_pu0009_01.row.prog w) (ktrTop dp un gd cn cs L a ccd cl₀ outer) (call (.ref 72) [.ref ll, .ref D, .int i ti, .int j tj]) Q E s := by
  have bb := bear s.heap fun p hp => (N p (.tail _ (.tail _ (.tail _ (.tail _ (.tail _ (List.mem_append_left _ (hst p hp)))))))).1
  have lo := outs_len bb.2
  refine led_use (led_call (layersOf ns)) B F X N T hk ⟨_, (N _ (.tail _ (.tail _ (.head _)))).1, rfl, _, rfl⟩ bb.1 ⟨_, (N _ (.tail _ (.head _))).1, rfl, _, rfl⟩ (by omega) (Nat.le_refl 3) i0 (by omega) j0 (by omega) ?_ ?_ fun r h' tk' n F' N' _ => ret r h' tk' n F' N'
  · show dp + 3 + 4 < recursionLimit; omega
  · show un + 8 * 3 + 96 < cLine; omega
theorem ne_law {prog : Program} {A : Around} (N : News h₀ L s.heap ((R, W.listOf (led outs (layersOf ns) i j).toArray kr) :: (D2, W.listOf (List.toArray vs') kd) :: (D, oD) :: (ll, oll) :: (l, ol) :: (c, oc) :: (tl ++ tups))) (hst : ∀ p ∈ stat, p ∈ tl)
    (bear : ∀ h : Heap, (∀ p ∈ stat, h.get? p.1 = some p.2) → LayersAt h vL (layersOf ns) ∧ PairsAt h outs ((numbersOf ns).zip (placesOf ns))) (hb : Bears tups vs' ps') (h8 : ∀ x ∈ ns, 0 ≤ x ∧ x < 8) (h0 : 0 ≤ i) (hij : i < j) (hj : j ≤ (ns.length : Int))
    (hp : ps'.Perm (dueP ns i (j - i).toNat)) (hs : ps'.Pairwise (fun a b => ¬ plt b a)) (hu : A.units + 64 < cLine)
    (h : News h₀ L s.heap ((D, oD) :: (ll, oll) :: (l, ol) :: (c, oc) :: tl) → Q (.bool false) s) : wpAny (model prog w) A (compareOp .NotEq (.ref R) (.ref D2)) Q E s := by
  have g : ∀ p ∈ tl ++ tups, s.heap.get? p.1 = some p.2 := fun p hp => (N p (.tail _ (.tail _ (.tail _ (.tail _ (.tail _ (.tail _ hp))))))).1
  have bb := bear s.heap fun p hp => g p (List.mem_append_left _ (hst p hp))
  refine ne_pairs ⟨_, (N _ (.head _)).1, rfl, _, rfl⟩ ⟨_, (N _ (.tail _ (.head _))).1, rfl, _, rfl⟩ (bb.2.led (layersOf ns) i j) (hb s.heap fun p hp => g p (List.mem_append_right _ hp)) (law_due h8 h0 hij hj hp hs) hu (h fun p hp => N p (.tail _ (.tail _ ?_)))
  rcases List.mem_cons.mp hp with rfl | hp
  · exact .head _
  · rcases List.mem_cons.mp hp with rfl | hp
    · exact .tail _ (.head _)
    · rcases List.mem_cons.mp hp with rfl | hp
      · exact .tail _ (.tail _ (.head _))
      · rcases List.mem_cons.mp hp with rfl | hp
        · exact .tail _ (.tail _ (.tail _ (.head _)))
        · exact .tail _ (.tail _ (.tail _ (.tail _ (List.mem_append_left _ hp))))
end
end Mine

namespace Mine
open PySem PySem.W PyProof.Rows PySem.Calls PySem.Spec
theorem fr_two {h₀ h : Heap} {L : Addr} {m : Str → Option Value} {x1 x2 : Str} {v1 v2 : Value} (F : Fr h₀ L h m) (h1 : m x1 = some v1) (h2 : m x2 = some v2) : Fr h₀ L h (fun y => if y = x1 then some v1 else if y = x2 then some v2 else m y) := by
  have e : (fun y => if y = x1 then some v1 else if y = x2 then some v2 else m y) = m := by
    funext y
    by_cases q1 : y = x1
    · simp [q1, h1]
    · by_cases q2 : y = x2
      · rw [if_neg q1, if_pos q2, q2, h2]
      · simp [q1, q2]
  rw [e]; exact F
def lawAt : Option (List Stmt × Scope) := match PySem.Challenge.pw_pu0009_01.main.body[(11 : Nat)]? with
  | some (.FunctionDef _ _ b _ _ _ sc _ _ _) => some (b.drop 4, sc)
  | _ => none
local macro_rules | `(tactic| k_room) => `(tactic| ktr_room)
local macro_rules | `(tactic| k_units) => `(tactic| ktr_units)
local macro_rules | `(tactic| walk_at "eval ListComp") => `(tactic| (k_here; k_dflt (refine LCg.ListComp_U (F₀ := by k_asm) (by with_unfolding_all rfl) (by decide) (by rfl) (by decide) (by rfl) ?_); k_dflt lcg_toSrc))
local macro_rules | `(tactic| walk_at "CompSrc") => `(tactic| (k_dflt (refine' due_src ?hh ?F ?N ?hr ?hoc ?hi ?h0 ?hab ?hb ?h63 ?hcl ?hkr ?hkp ?hk ?hdr ?hdp ?_; (case hh => exact rfl); (case F => k_asm); (case N => k_asm); (case hr => assumption); (case hoc => assumption); (case hi => assumption); (case h0 => omega); (case hab => omega); (case hb => omega); (case h63 => omega); (case hcl => rfl); (case hkr => (intro _; rfl)); (case hkp => (intro _; rfl)); (case hk => (intro _; rfl)); (case hdr => decide); (case hdp => decide); k_whole); intro D9 h9 tk9 tups9 ys9 kn9 F9 N9 b9; (try dsimp only); (try k_sweep); (try k_fold)))
local macro_rules | `(tactic| walk_at "call builtin:sorted") => `(tactic| (k_here; k_dflt (refine' sorted_law ?F ?N ?hb ?h1 ?h6 ?_; (case F => k_asm); (case N => k_asm); (case hb => assumption); (case h1 => omega); (case h6 => omega); k_whole); intro D9 k9 h9 vs9 ps9 F9 N9 b9 p9 q9; (try dsimp only); (try k_sweep); (try k_fold)))
local macro_rules | `(tactic| walk_at "call ref") => `(tactic| (k_here; (with_reducible show wpAny _ _ (call (Value.ref 72) _ _) _ _ _); k_dflt (refine' led_law ?k1 ?k2 ?k3 ?k4 ?kK ?k5 ?hst ?hb ?h6 ?i0 ?i1 ?j0 ?j1 ?kd ?ku ?_; (case k1 => k_asm); (case k2 => k_asm); (case k3 => k_asm); (case k4 => k_asm); (case k5 => k_asm); (case kK => exact rfl); (case hb => assumption); (case hst => exact fun q hq => List.mem_append_left _ (List.mem_append_left _ hq)); (case h6 => omega); (case i0 => omega); (case i1 => omega); (case j0 => omega); (case j1 => omega); (case kd => omega); (case ku => omega); k_whole; (intro r9 h9 tk9 n9 F9 N9); (try dsimp only); (try k_sweep); (try k_fold))))
local macro_rules | `(tactic| walk_at "compareOp NotEq ref ref") => `(tactic| (k_here; (rename News _ _ _ _ => nOld); k_dflt (refine' ne_law nOld ?hst ?hb ?hc ?h8 ?h0 ?hij ?hj ?hp ?hs ?hu ?_; (case hb => assumption); (case hst => exact fun q hq => List.mem_append_left _ (List.mem_append_left _ hq)); (case hc => assumption); (case h8 => assumption); (case h0 => omega); (case hij => omega); (case hj => omega); (case hp => assumption); (case hs => assumption); (case hu => ktr_units); k_whole); intro N9; clear nOld; (try dsimp only); (try k_fold)))
theorem tail_ok {w : World} {dp un : Nat} {gd : Option (List Code)} {cn : Str} {scope : Scope} {rest : List Stmt} {a : Addr} {ccd : Value} {outer : List Env} {A₀ : Around} {base h₀ : Heap} {L : Addr} {m : Str → Option Value} {s : Shared} {Q : Flow → Shared → Prop}
    {p : Program} {loose : List Str} {mean : ExcName → Option Value} {mg mb : Str → Option Value} {D ll l c : Addr} {outs vL vs : List Value} {k n1 n0 : Nat} {oc : Obj} {stat : List (Addr × Obj)} {ns : List Int}
    (hlaw : lawAt = some (rest, scope))
    (B : Below A₀ base outer h₀) (X : (hd.heap_39 w.params).In h₀) (T : Top p loose mean mg mb h₀)
    (F : Fr h₀ L s.heap (fun y => if y = Str.ofString "out" then some (.ref D) else if y = Str.ofString "layers" then some (.ref ll) else m y))
    (N : News h₀ L s.heap ((D, W.listOf (List.toArray outs) k) :: (ll, W.listOf vL.toArray n1) :: (l, W.listOf vs.toArray n0) :: (c, oc) :: stat)) (hc : oc.data = .cell (some (.ref l)))
    (bear : ∀ h : Heap, (∀ p ∈ stat, h.get? p.1 = some p.2) → LayersAt h vL (layersOf ns) ∧ PairsAt h outs ((numbersOf ns).zip (placesOf ns)))
    (hi : IntsAre vs ns) (h3 : 3 ≤ ns.length) (h6 : ns.length ≤ 6) (h8 : ∀ x ∈ ns, 0 ≤ x ∧ x < 8) (hdp : dp + 16 < recursionLimit) (hun : un + 256 < cLine)
    (ret : ∀ h' tk' m', Fr h₀ L h' m' → (∀ p ∈ stat, h'.get? p.1 = some p.2) → Q (.ret (.bool true)) { s with heap := h', toks := tk' }) :
    wpAny (model PySem.Challenge.rw_pu0009_01.row.prog w) (ktrTop dp un gd cn scope L a ccd [(Str.ofString "row", c)] outer) (execs rest (envX cn scope L a ccd [(Str.ofString "row", c)])) Q (fun _ _ => False) s := by
  with_unfolding_all (change some (_, _) = some (_, _) at hlaw)
  cases hlaw
  w_top off
  k_with_none
  revert X; k_fill; intro X
  (try k_fold)
  (k_with "pyIter ref" => k_search (fun _ => True))
  k_steps
  all_goals (rename News _ _ _ _ => nE; exact ret _ _ _ (by k_asm) (fun q hq => (nE q (.tail _ (.tail _ (.tail _ (.tail _ hq))))).1))
end Mine

namespace Mine
open PySem PySem.W PyProof.Rows PySem.Calls PySem.Spec
theorem turn_in (elt target iter : Expr) (g0 : Comprehension) (ifs : List Expr) (scope : Scope) (pos : Pos) (it acc : Value) (env : Env) :
    compTurn (.ListComp elt [g0, ⟨target, iter, ifs, 0⟩] scope pos) 1 it acc env = (do
      standAt iter.pos
      match ← pyNext it with
      | none => pure (.done .next)
      | some v =>
        letOwnedTupleGo target it v
        assign target env v
        let mut ok := true
        for c in ifs do
          if ok then ok ← isTrue c env (eval c env)
        if ok then
          (do let _ ← call (.builtin "list.append") [acc, ← eval elt env])
        again (.compLoop (.ListComp elt [g0, ⟨target, iter, ifs, 0⟩] scope pos) 1 it acc env)) := by rfl
theorem turn_out (elt target iter t2 i2 : Expr) (ifs : List Expr) (scope : Scope) (pos : Pos) (it acc : Value) (env : Env) :
    compTurn (.ListComp elt [⟨target, iter, [], 0⟩, ⟨t2, i2, ifs, 0⟩] scope pos) 0 it acc env = (do
      standAt iter.pos
      match ← pyNext it with
      | none => pure (.done .next)
      | some v =>
        letOwnedTupleGo target it v
        assign target env v
        let x ← eval i2 env
        standAt i2.pos
        let x ← foldedSetIterable i2 env x
        let _ ← runOwn (.compStart (.ListComp elt [⟨target, iter, [], 0⟩, ⟨t2, i2, ifs, 0⟩] scope pos) 1 (← holding [x] (pyIter x)) acc env) env
        again (.compLoop (.ListComp elt [⟨target, iter, [], 0⟩, ⟨t2, i2, ifs, 0⟩] scope pos) 0 it acc env)) := by rfl
section
variable {prog : Program} {w : World} {A : Around} {E : Value → Shared → Prop} {R : Result → Shared → Prop} {s : Shared}
theorem start_in {elt target iter : Expr} {g0 : Comprehension} {ifs : List Expr} {scope : Scope} {pos : Pos} {it acc : Value} {env : Env}
    (h0 : codeAny (model prog w) A (.compLoop (.ListComp elt [g0, ⟨target, iter, ifs, 0⟩] scope pos) 1 it acc env) R s)
    (h : wpAny (model prog w) A (pyIter it) (fun it' s' => codeAny (model prog w) A (.compLoop (.ListComp elt [g0, ⟨target, iter, ifs, 0⟩] scope pos) 1 it' acc env) R s')
      (notedBy (model prog w) A env fun x s' => R (.error x) s') s) :
    codeAny (model prog w) A (.compStart (.ListComp elt [g0, ⟨target, iter, ifs, 0⟩] scope pos) 1 it acc env) R s := by
  refine codeAny_of_tree ?_
  show wpAny _ _ ((compStart (.ListComp elt [g0, ⟨target, iter, ifs, 0⟩] scope pos) 1 it acc env).onRaise (fun x => do noteFrame x env; standAt theWindowsPlace)) _ _ s
  refine wpAny_notedAt ?_
  unfold compStart
  show wpAny _ _ (ask >>= _) _ _ s
  refine wpAny_bind (wpAny_askSetting (wpAny_ite ?_))
  split
  · first
      | exact wpAny_bind (wpAny_pure (wpAny_pure (And.intro rfl h0)))
      | exact wpAny_pure (And.intro rfl h0)
  · first
      | exact wpAny_bind (wpAny_rule (wpAny_bind (wpAny_standAt (wpAny_bind (wpAny_mono h (fun it' s' h' => wpAny_pure (And.intro rfl h')) fun _ _ x => x)))))
      | (refine wpAny_bind (wpAny_rule ?_); show wpAny _ _ (standAt iter.pos >>= _) _ _ s; exact wpAny_bind (wpAny_standAt (wpAny_bind (wpAny_mono h (fun it' s' h' => wpAny_pure (And.intro rfl h')) fun _ _ x => x))))
theorem ints_snoc {n : Int} {t : Tok} : ∀ {vs : List Value} {ns : List Int}, IntsAre vs ns → IntsAre (vs ++ [.int n t]) (ns ++ [n])
  | _, _, .nil => .cons n t .nil
  | _, _, .cons a b r => .cons a b (ints_snoc r)
theorem loop_in {xn xo xr : Str} {p1 p2 p3 p4 p5 p6 pos : Pos} {g0 : Comprehension} {scope : Scope} {cenv : Env} {J l D : Addr} {vs ys : List Value} {ns os : List Int} {v : Int} {t : Tok} {m : Str → Option Value}
    (hh : A.handled = none) (hk : cenv.scope.kind = .function) (hxo : cenv.kindOf xo = some .local) (hxn : cenv.kindOf xn = some .local) (hne : xn ≠ xo) (hdo : (xo == ("__debug__" : Str)) = false) (hdn : (xn == ("__debug__" : Str)) = false)
    (dJ : D ≠ J) (dC : D ≠ cenv.locals) (jC : J ≠ cenv.locals) (lJ : l ≠ J) (lC : l ≠ cenv.locals) (lD : l ≠ D)
    (hit : s.heap.IsListIter J l 0) (hl : s.heap.IsList l vs.toArray) (hi : IntsAre vs ns) (hD : s.heap.get? D = some (LCg.lst ys)) (hys : IntsAre ys os) (hn : s.heap.Ns cenv.locals m) (hm : m xn = some (.int v t))
    (hsz : ys.length + vs.length ≤ sizeLine)
    (hR : ∀ h' tk m' ys', h'.Ns cenv.locals m' → h'.get? D = some (LCg.lst ys') → IntsAre ys' (os ++ ns.filter fun x => x == v) → (∀ b o, b ≠ cenv.locals → b ≠ J → b ≠ D → s.heap.get? b = some o → h'.get? b = some o) → ys'.length ≤ ys.length + vs.length → R (.ok .next) { s with heap := h', toks := tk }) :
    codeAny (model prog w) A (.compLoop (.ListComp (.Name xn p1) [g0, ⟨.Name xo p2, .Name xr p3, [.Compare (.Name xo p4) [.Eq] [.Name xn p5] p6], 0⟩] scope pos) 1 (.ref J) (.ref D) cenv) R s := by
  have hp : (cenv.scope.kind == .class || (cenv.scope.kind == .module && cenv.locals != cenv.globals)) = false := by rw [hk]; rfl
  refine codeAny_loop rfl (fun k s' => ∃ h' tk m' ys' i, s' = { s with heap := h', toks := tk } ∧ h'.IsListIter J l i ∧ h'.IsList l vs.toArray ∧ h'.get? D = some (LCg.lst ys') ∧ IntsAre ys' (os ++ (ns.take i).filter fun x => x == v) ∧ h'.Ns cenv.locals m' ∧ m' xn = some (.int v t) ∧
      i ≤ vs.length ∧ k = vs.length + 1 - i ∧ ys'.length ≤ ys.length + i ∧ ∀ b o, b ≠ cenv.locals → b ≠ J → b ≠ D → s.heap.get? b = some o → h'.get? b = some o) ?_ (vs.length + 1)
    ⟨s.heap, s.toks, m, ys, 0, rfl, hit, hl, hD, by simpa using hys, hn, hm, Nat.zero_le _, rfl, Nat.le_refl _, fun _ _ _ _ _ e => e⟩
  rintro k s' ⟨H, tk, m', ys', i, rfl, hit', hl', hD', hys', hn', hm', hi', rfl, hlen, hkeep⟩
  show wpAny _ A ((compTurn (.ListComp (.Name xn p1) [g0, ⟨.Name xo p2, .Name xr p3, [.Compare (.Name xo p4) [.Eq] [.Name xn p5] p6], 0⟩] scope pos) 1 (.ref J) (.ref D) cenv).onRaise (fun x => do noteFrame x cenv; theTreesLotGoes x)) _ _ _
  refine wpAny_noted ?_
  rw [turn_in]
  refine wpAny_bind (wpAny_standAt (wpAny_bind ?_))
  have hnl := hi.length
  by_cases hlt : i < vs.length
  · have hnlt : i < ns.length := by omega
    obtain ⟨tx, hx⟩ := hi.get i ns[i] (by simp [hnlt])
    refine wpAny_pyNext_list_item (x := .int ns[i] tx) hit' hl' (by simpa using hx) fun h₁ hit₁ hs₁ => ?_
    refine wpAny_bind (wpAny_of_eq (show letOwnedTupleGo (.Name xo p2) (.ref J) (.int ns[i] tx) = pure () from rfl) ?_)
    refine wpAny_bind (wpAny_assign_Name (wpAny_storeName_local hxo (hn'.sameBut hs₁ (Ne.symm jC)) (fun h₂ hn₂ hs₂ => ?_) hp))
    have up₂ : ∀ b o, b ≠ cenv.locals → b ≠ J → H.get? b = some o → h₂.get? b = some o := fun b o hb hj e => hs₂.extBut b o hb (hs₁.extBut b o hj e)
    refine wpAny_bind (wpAny_tests_one (wpAny_isTrue_Compare1 ?_))
    refine wpAny_Name (wpAny_loadName_local hk hxo hn₂ (v := .int ns[i] tx) (by simp) ?_) hdo
    refine wpAny_Name (wpAny_loadName_local hk hxn hn₂ (v := .int v t) (by simp [hne, hm']) ?_) hdn
    refine PyProof.Rows.eq_int (wpAny_truthy_bool ?_)
    have hit₂ : h₂.IsListIter J l (i + 1) := hit₁.extBut hs₂.extBut jC
    have hl₂ : h₂.IsList l vs.toArray := hl'.at fun o e => up₂ l o lC lJ e
    have hD₂ : h₂.get? D = some (LCg.lst ys') := up₂ D _ dC dJ hD'
    have htk : (ns.take (i + 1)).filter (fun x => x == v) = (ns.take i).filter (fun x => x == v) ++ (if (ns[i] == v) = true then [ns[i]] else []) := take_succ_filter _ _ i ns[i] (by simp [hnlt])
    cases hq : (ns[i] == v) with
    | false =>
      rw [hq] at htk
      refine wpAny_pure ⟨rfl, vs.length + 1 - (i + 1), by omega, h₂, _, _, ys', i + 1, rfl, hit₂, hl₂, hD₂, ?_, hn₂, by simp [hne, hm'], hlt, rfl, by omega, fun b o b1 b2 b3 e => up₂ b o b1 b2 (hkeep b o b1 b2 b3 e)⟩
      rw [htk]; simpa using hys'
    | true =>
      rw [hq] at htk
      refine wpAny_bind (wpAny_bind ?_)
      refine wpAny_Name (wpAny_loadName_local hk hxn hn₂ (v := .int v t) (by simp [hne, hm']) ?_) hdn
      refine wpAny_bind (append_at (hsz := by show ys'.toArray.size ≤ sizeLine; rw [List.size_toArray]; omega) hD₂ fun h₅ hs₅ hD₅ => ?_)
      refine wpAny_pure (wpAny_pure ⟨rfl, vs.length + 1 - (i + 1), by omega, h₅, _, _, ys' ++ [.int v t], i + 1, rfl, hit₂.extBut hs₅.extBut (Ne.symm dJ), hl₂.at fun o e => hs₅.extBut l o lD e, hD₅.trans (congrArg some (LCg.lst_snoc ys' _)), ?_, hn₂.sameBut hs₅ (Ne.symm dC), by simp [hne, hm'], hlt, rfl, by rw [List.length_append, List.length_singleton]; omega,
        fun b o b1 b2 b3 e => hs₅.extBut b o b3 (up₂ b o b1 b2 (hkeep b o b1 b2 b3 e))⟩)
      rw [htk, ← List.append_assoc]
      have e : ns[i] = v := by simpa using hq
      rw [if_pos rfl, e]
      exact ints_snoc hys'
  · have hin : i = vs.length := by omega
    subst hin
    refine wpAny_pyNext_list_end hh hit' hl' (by simp) fun h₁ he₁ => ?_
    refine wpAny_pure (hR h₁ tk m' ys' (hn'.extBut he₁ (Ne.symm jC)) (he₁ _ _ dJ hD') ?_ (fun b o b1 b2 b3 e => he₁ b o b2 (hkeep b o b1 b2 b3 e)) hlen)
    rw [hnl, List.take_length] at hys'
    exact hys'
theorem loop_out {xn xo xr : Str} {p1 p2 p3 p4 p5 p6 p7 pos : Pos} {it0 : Expr} {scope : Scope} {cenv : Env} {I ax l D c : Addr} {us vs ys : List Value} {ms ns os : List Int} {oc : Obj} {m : Str → Option Value}
    (hh : A.handled = none) (hk : cenv.scope.kind = .function) (hxo : cenv.kindOf xo = some .local) (hxn : cenv.kindOf xn = some .local) (hxr : cenv.kindOf xr = some .cell) (hne : xn ≠ xo) (hdo : (xo == ("__debug__" : Str)) = false) (hdn : (xn == ("__debug__" : Str)) = false) (hdr : (xr == ("__debug__" : Str)) = false)
    (hcl : cenv.cells.lookup xr = some c) (hc : s.heap.get? c = some oc) (hoc : oc.data = .cell (some (.ref l)))
    (dI : D ≠ I) (dC : D ≠ cenv.locals) (iC : I ≠ cenv.locals) (lI : l ≠ I) (lC : l ≠ cenv.locals) (lD : l ≠ D) (aI : ax ≠ I) (aC : ax ≠ cenv.locals) (aD : ax ≠ D) (cI : c ≠ I) (cC : c ≠ cenv.locals) (cD : c ≠ D)
    (hit : s.heap.IsListIter I ax 0) (ha : s.heap.IsList ax us.toArray) (hu : IntsAre us ms) (hl : s.heap.IsList l vs.toArray) (hi : IntsAre vs ns) (hD : s.heap.get? D = some (LCg.lst ys)) (hys : IntsAre ys os) (hn : s.heap.Ns cenv.locals m)
    (hsz : ys.length + us.length * vs.length ≤ 4096)
    (hR : ∀ h' tk m' ys', h'.Ns cenv.locals m' → h'.get? D = some (LCg.lst ys') → IntsAre ys' (os ++ ms.flatMap fun v => ns.filter fun x => x == v) → (∀ b o, b ≠ cenv.locals → b ≠ I → b ≠ D → s.heap.get? b = some o → h'.get? b = some o) → R (.ok .next) { s with heap := h', toks := tk }) :
    codeAny (model prog w) A (.compLoop (.ListComp (.Name xn p1) [⟨.Name xn p7, it0, [], 0⟩, ⟨.Name xo p2, .Name xr p3, [.Compare (.Name xo p4) [.Eq] [.Name xn p5] p6], 0⟩] scope pos) 0 (.ref I) (.ref D) cenv) R s := by
  have hp : (cenv.scope.kind == .class || (cenv.scope.kind == .module && cenv.locals != cenv.globals)) = false := by rw [hk]; rfl
  refine codeAny_loop rfl (fun k s' => ∃ h' tk m' ys' i, s' = { s with heap := h', toks := tk } ∧ h'.IsListIter I ax i ∧ h'.get? D = some (LCg.lst ys') ∧ IntsAre ys' (os ++ (ms.take i).flatMap fun v => ns.filter fun x => x == v) ∧ h'.Ns cenv.locals m' ∧
      i ≤ us.length ∧ k = us.length + 1 - i ∧ ys'.length ≤ ys.length + i * vs.length ∧ ∀ b o, b ≠ cenv.locals → b ≠ I → b ≠ D → s.heap.get? b = some o → h'.get? b = some o) ?_ (us.length + 1)
    ⟨s.heap, s.toks, m, ys, 0, rfl, hit, hD, by simpa using hys, hn, Nat.zero_le _, rfl, by simp, fun _ _ _ _ _ e => e⟩
  rintro k s' ⟨H, tk, m', ys', i, rfl, hit', hD', hys', hn', hi', rfl, hlen, hkeep⟩
  show wpAny _ A ((compTurn (.ListComp (.Name xn p1) [⟨.Name xn p7, it0, [], 0⟩, ⟨.Name xo p2, .Name xr p3, [.Compare (.Name xo p4) [.Eq] [.Name xn p5] p6], 0⟩] scope pos) 0 (.ref I) (.ref D) cenv).onRaise (fun x => do noteFrame x cenv; theTreesLotGoes x)) _ _ _
  refine wpAny_noted ?_
  rw [turn_out]
  refine wpAny_bind (wpAny_standAt (wpAny_bind ?_))
  have hnl := hu.length
  have ha' : H.IsList ax us.toArray := ha.at fun o e => hkeep ax o aC aI aD e
  have hl' : H.IsList l vs.toArray := hl.at fun o e => hkeep l o lC lI lD e
  by_cases hlt : i < us.length
  · have hnlt : i < ms.length := by omega
    obtain ⟨tx, hx⟩ := hu.get i ms[i] (by simp [hnlt])
    refine wpAny_pyNext_list_item (x := .int ms[i] tx) hit' ha' (by simpa using hx) fun h₁ hit₁ hs₁ => ?_
    refine wpAny_bind (wpAny_of_eq (show letOwnedTupleGo (.Name xn p7) (.ref I) (.int ms[i] tx) = pure () from rfl) ?_)
    refine wpAny_bind (wpAny_assign_Name (wpAny_storeName_local hxn (hn'.sameBut hs₁ (Ne.symm iC)) (fun h₂ hn₂ hs₂ => ?_) hp))
    have up₂ : ∀ b o, b ≠ cenv.locals → b ≠ I → H.get? b = some o → h₂.get? b = some o := fun b o hb hj e => hs₂.extBut b o hb (hs₁.extBut b o hj e)
    have hc₂ : h₂.get? c = some oc := up₂ c oc cC cI (hkeep c oc cC cI cD hc)
    refine wpAny_bind (wpAny_Name (wpAny_loadName_cell hk hxr hcl ⟨oc, hc₂, hoc⟩ ?_) hdr)
    refine wpAny_bind (wpAny_standAt (wpAny_bind (wpAny_of_eq (show foldedSetIterable (.Name xr p3) cenv (.ref l) = pure (.ref l) from rfl) ?_)))
    have hl₂ : h₂.IsList l vs.toArray := hl'.at fun o e => up₂ l o lC lI e
    have hit₂ : h₂.IsListIter I ax (i + 1) := hit₁.extBut hs₂.extBut iC
    have hD₂ : h₂.get? D = some (LCg.lst ys') := up₂ D _ dC dI hD'
    refine wpAny_bind (wpAny_holding (wpAny_pyIter_list hl₂ ?_))
    have lt : ∀ {b o}, h₂.get? b = some o → b < h₂.objs.size := fun e => Heap.lt_size e
    have up : ∀ b o, h₂.get? b = some o → (h₂.push { cls := .type "list_iterator", data := .fields #[.ref l, .int 0 0] }).get? b = some o := fun b o e => Heap.get?_push_of_some _ e
    have jD : D ≠ h₂.objs.size := Nat.ne_of_lt (lt hD₂)
    have jl : l ≠ h₂.objs.size := by obtain ⟨o, e, _⟩ := hl₂; exact Nat.ne_of_lt (lt e)
    have jC : h₂.objs.size ≠ cenv.locals := Nat.ne_of_gt hn₂.lt
    have jI : I ≠ h₂.objs.size := by obtain ⟨o, e, _⟩ := hit₂; exact Nat.ne_of_lt (lt e)
    have hsz' : ys'.length + vs.length ≤ 4096 := by
      have : (i + 1) * vs.length ≤ us.length * vs.length := Nat.mul_le_mul_right _ hlt
      rw [Nat.add_mul, Nat.one_mul] at this
      omega
    have inner : ∀ s₂ : Shared, s₂ = { s with heap := h₂.push { cls := .type "list_iterator", data := .fields #[.ref l, .int 0 0] }, toks := tk + 1 } →
        codeAny (model prog w) A (.compLoop (.ListComp (.Name xn p1) [⟨.Name xn p7, it0, [], 0⟩, ⟨.Name xo p2, .Name xr p3, [.Compare (.Name xo p4) [.Eq] [.Name xn p5] p6], 0⟩] scope pos) 1 (.ref h₂.objs.size) (.ref D) cenv)
          (fun r s' => match r with
            | .ok f => wpAny (model prog w) A (again (.compLoop (.ListComp (.Name xn p1) [⟨.Name xn p7, it0, [], 0⟩, ⟨.Name xo p2, .Name xr p3, [.Compare (.Name xo p4) [.Eq] [.Name xn p5] p6], 0⟩] scope pos) 0 (.ref I) (.ref D) cenv))
              (fun fin s' => match fin with
                | .done f => R (.ok f) s'
                | .again c' => c' = (.compLoop (.ListComp (.Name xn p1) [⟨.Name xn p7, it0, [], 0⟩, ⟨.Name xo p2, .Name xr p3, [.Compare (.Name xo p4) [.Eq] [.Name xn p5] p6], 0⟩] scope pos) 0 (.ref I) (.ref D) cenv) ∧ ∃ m_1, m_1 < us.length + 1 - i ∧
                  ∃ h' tk m' ys' i, s' = { s with heap := h', toks := tk } ∧ h'.IsListIter I ax i ∧ h'.get? D = some (LCg.lst ys') ∧ IntsAre ys' (os ++ (ms.take i).flatMap fun v => ns.filter fun x => x == v) ∧ h'.Ns cenv.locals m' ∧
                    i ≤ us.length ∧ m_1 = us.length + 1 - i ∧ ys'.length ≤ ys.length + i * vs.length ∧ ∀ b o, b ≠ cenv.locals → b ≠ I → b ≠ D → s.heap.get? b = some o → h'.get? b = some o)
              (notedBy (model prog w) A cenv fun e s' => R (.error e) s') s'
            | .error e => cameBackBy (model prog w) A cenv (notedBy (model prog w) A cenv fun e s' => R (.error e) s') e s') s₂ := by
      rintro s₂ rfl
      refine loop_in (m := fun y => if y = xn then some (.int ms[i] tx) else m' y) (v := ms[i]) (t := tx) hh hk hxo hxn hne hdo hdn jD dC jC jl lC lD ⟨_, Heap.get?_push_size _ rfl, rfl, rfl⟩ (hl₂.at fun o e => up l o e) hi (up _ _ hD₂) hys' (hn₂.at' fun o e => up _ o e) (by simp) (by rw [sizeLine_eq]; omega) fun h' tk' m₃ ys₃ hn₃ hD₃ hy₃ kp₃ ln₃ => ?_
      refine wpAny_pure ⟨rfl, us.length + 1 - (i + 1), by omega, h', tk', m₃, ys₃, i + 1, rfl, hit₂.at fun o e => kp₃ _ o iC jI (Ne.symm dI) (up _ o e), hD₃, ?_, hn₃, hlt, rfl, ?_, fun b o b1 b2 b3 e => ?_⟩
      · have e1 : ms.take (i + 1) = ms.take i ++ [ms[i]] := by rw [List.take_add_one]; simp [hnlt]
        rw [e1, List.flatMap_append, ← List.append_assoc]
        simpa using hy₃
      · rw [Nat.add_mul, Nat.one_mul]; omega
      · have e2 := up₂ b o b1 b2 (hkeep b o b1 b2 b3 e)
        exact kp₃ b o b1 (Nat.ne_of_lt (lt e2)) b3 (up b o e2)
    refine wpAny_bind (wpAny_runOwn (start_in (inner _ rfl) (wpAny_pyIter_listiter (i := 0) (l := l) ⟨_, Heap.get?_push_size _ rfl, rfl, rfl⟩ (inner _ rfl))))
  · have hin : i = us.length := by omega
    subst hin
    refine wpAny_pyNext_list_end hh hit' ha' (by simp) fun h₁ he₁ => ?_
    refine wpAny_pure (hR h₁ tk m' ys' (hn'.extBut he₁ (Ne.symm iC)) (he₁ _ _ dI hD') ?_ (fun b o b1 b2 b3 e => he₁ b o b2 (hkeep b o b1 b2 b3 e)))
    rw [hnl, List.take_length] at hys'
    exact hys'
end
end Mine

namespace Mine
open PySem PySem.W PyProof.Rows PySem.Calls PySem.Spec
section
variable {prog : Program} {w : World} {A : Around} {E : Value → Shared → Prop} {s : Shared} {env : Env}
theorem lit_one {i : Int} {rest : List PySem.Expr} {k : Nat} {p pos : Pos} {Q : List Value → Shared → Prop}
    (h : ∀ tk t, wpAny (model prog w) A (spliced (backTo pos (starEach rest env))) (fun vs s' => Q (.int i t :: vs) s') E { s with toks := tk }) :
    wpAny (model prog w) A (spliced (backTo pos (starEach (.Constant (.int i) k p :: rest) env))) Q E s :=
  spliced_more (wpAny_Constant_int (h _ _))
theorem lit_eight {p0 p1 p2 p3 p4 p5 p6 p7 pos : Pos} {Q : Value → Shared → Prop}
    (h : ∀ us tk, IntsAre us [0, 4, 2, 6, 1, 5, 3, 7] → Q (.ref s.heap.objs.size) { s with heap := s.heap.push { cls := .type "list", dict := none, data := .seq us.toArray }, toks := tk }) :
    wpAny (model prog w) A (eval (.List [.Constant (.int 0) 0 p0, .Constant (.int 4) 0 p1, .Constant (.int 2) 0 p2, .Constant (.int 6) 0 p3, .Constant (.int 1) 0 p4, .Constant (.int 5) 0 p5, .Constant (.int 3) 0 p6, .Constant (.int 7) 0 p7] pos) env) Q E s := by
  refine List_ ?_
  refine lit_one fun _ _ => lit_one fun _ _ => lit_one fun _ _ => lit_one fun _ _ => lit_one fun _ _ => lit_one fun _ _ => lit_one fun _ _ => lit_one fun _ _ => spliced_none ?_
  refine wpAny_newObj_type (hd := by size_fits) ?_
  exact h [_, _, _, _, _, _, _, _] _ (.cons _ _ (.cons _ _ (.cons _ _ (.cons _ _ (.cons _ _ (.cons _ _ (.cons _ _ (.cons _ _ .nil))))))))
theorem ones_comp {xn xo xr : Str} {p1 p2 p3 p4 p5 p6 p7 pos : Pos} {it0 : PySem.Expr} {scope : Scope} {cl : List (Str × Addr)} {l c L : Addr} {h₀ : Heap} {mf : Str → Option Value} {news : List (Addr × Obj)} {vs : List Value} {ns : List Int} {oc : Obj} {Q : Value → Shared → Prop}
    (hh : A.handled = none) (hclos : closureFor scope env = pure cl) (hcell : ∀ y ∈ scope.names, y.2 ≠ .cell) (hkind : scope.kind = .function) (hnames : ∀ y ∈ scope.names, y.2 = .local → scope.names.lookup y.1 = some .local)
    (hxn : scope.names.lookup xn = some .local) (hxo : scope.names.lookup xo = some .local) (hxr : ∀ C, (compEnvC scope cl C env).kindOf xr = some .cell) (hne : xn ≠ xo) (hdo : (xo == ("__debug__" : Str)) = false) (hdn : (xn == ("__debug__" : Str)) = false) (hdr : (xr == ("__debug__" : Str)) = false)
    (hcl : cl.lookup xr = some c) (F : Fr h₀ L s.heap mf) (N : News h₀ L s.heap news) (hc : s.heap.get? c = some oc) (hoc : oc.data = .cell (some (.ref l))) (hl : s.heap.IsList l vs.toArray) (hi : IntsAre vs ns) (h64 : ns.length < 64)
    (h0 : ∀ Q E (s : Shared), (∀ us tk, IntsAre us [0, 4, 2, 6, 1, 5, 3, 7] → Q (.ref s.heap.objs.size) { s with heap := s.heap.push { cls := .type "list", dict := none, data := .seq us.toArray }, toks := tk }) → wpAny (model prog w) A (eval it0 env) Q E s)
    (hs : ∀ x, foldedSetIterable it0 env x = pure x)
    (ret : ∀ r ws n h' tk', Fr h₀ L h' mf → News h₀ L h' ((r, W.listOf (List.toArray ws) n) :: news) → (∀ p ∈ news, p.1 < r) → IntsAre ws (byOnes ns) → Q (.ref r) { s with heap := h', toks := tk' }) :
    wpAny (model prog w) A (eval (.ListComp (.Name xn p1) [⟨.Name xn p7, it0, [], 0⟩, ⟨.Name xo p2, .Name xr p3, [.Compare (.Name xo p4) [.Eq] [.Name xn p5] p6], 0⟩] scope pos) env) Q E s := by
  rw [eval_ListComp]
  refine wpAny_comprehension_free (use := none) rfl hs hclos hkind hnames ?_
  refine h0 _ _ _ fun us tk hu => ?_
  have hax : (s.heap.push { cls := .type "list", dict := none, data := .seq us.toArray }).IsList s.heap.objs.size us.toArray := ⟨_, Heap.get?_push_size _ rfl, rfl, _, rfl⟩
  refine wpAny_pyIter_list hax (wpAny_newObj_type (hd := by size_fits) (wpAny_newFunctionEnv hcell (by intro y hy; simp at hy) (fun h₁ hns₁ hsb₁ => ?_) hkind))
  dsimp only at hns₁ hsb₁ ⊢
  generalize hH0 : s.heap.push { cls := .type "list", dict := none, data := .seq us.toArray } = H0 at hns₁ hsb₁ hax ⊢
  have z0 : H0.objs.size = s.heap.objs.size + 1 := by rw [← hH0, Heap.size_push]
  generalize hH1 : H0.push { cls := .type "list_iterator", data := .fields #[.ref s.heap.objs.size, .int 0 0] } = H1 at hns₁ hsb₁ ⊢
  have z1 : H1.objs.size = s.heap.objs.size + 2 := by rw [← hH1, Heap.size_push, z0]
  generalize hH2 : H1.push { cls := .type "list", dict := none, data := .seq ([] : List Value).toArray } = H2 at hns₁ hsb₁ ⊢
  have z2 : H2.objs.size = s.heap.objs.size + 3 := by rw [← hH2, Heap.size_push, z1]
  have ne : ∀ (a b : Nat), a < b → a ≠ b := fun a b h => Nat.ne_of_lt h
  have up : ∀ b o, s.heap.get? b = some o → H2.get? b = some o := fun b o e => hH2 ▸ Heap.get?_push_of_some _ (hH1 ▸ Heap.get?_push_of_some _ (hH0 ▸ Heap.get?_push_of_some _ e))
  have lt : ∀ {b : Addr} {o : Obj}, s.heap.get? b = some o → @LT.lt Nat _ b s.heap.objs.size := fun e => Heap.lt_size e
  have eD : H2.get? H1.objs.size = some (LCg.lst []) := hH2 ▸ Heap.get?_push_size _ rfl
  have eI : H2.get? H0.objs.size = some { cls := .type "list_iterator", data := .fields #[.ref s.heap.objs.size, .int 0 0] } := hH2 ▸ Heap.get?_push_of_some _ (hH1 ▸ Heap.get?_push_size _ rfl)
  have eX : H2.IsList s.heap.objs.size us.toArray := by
    obtain ⟨o, e, r⟩ := hax
    exact ⟨o, hH2 ▸ Heap.get?_push_of_some _ (hH1 ▸ Heap.get?_push_of_some _ e), r⟩
  have k₁ : ∀ b o, b ≠ H2.objs.size → H2.get? b = some o → h₁.get? b = some o := fun b o hb e => hsb₁.extBut b o hb (Heap.get?_push_of_some _ e)
  have cC : ∀ {b : Addr}, @LT.lt Nat _ b s.heap.objs.size → b ≠ H2.objs.size ∧ b ≠ H0.objs.size ∧ b ≠ H1.objs.size := fun {b} hb => ⟨by refine neN ?_; omega, by refine neN ?_; omega, by refine neN ?_; omega⟩
  have dI : H1.objs.size ≠ H0.objs.size := by refine neN ?_; omega
  have dC : H1.objs.size ≠ H2.objs.size := by refine neN ?_; omega
  have iC : H0.objs.size ≠ H2.objs.size := by refine neN ?_; omega
  have aC : s.heap.objs.size ≠ H2.objs.size := by refine neN ?_; omega
  have aI : s.heap.objs.size ≠ H0.objs.size := by refine neN ?_; omega
  have aD : s.heap.objs.size ≠ H1.objs.size := by refine neN ?_; omega
  have ll : @LT.lt Nat _ l s.heap.objs.size := by obtain ⟨o, e, _⟩ := hl; exact lt e
  have lc : @LT.lt Nat _ c s.heap.objs.size := lt hc
  have lL : @LT.lt Nat _ L s.heap.objs.size := F.ns.lt
  have hun := hu.length
  have hvn := hi.length
  have hit₁ : h₁.IsListIter H0.objs.size s.heap.objs.size 0 := ⟨_, k₁ _ _ iC eI, rfl, rfl⟩
  have loop : ∀ s₂ : Shared, s₂ = { s with heap := h₁, toks := tk + ([] : List (Str × Value)).length } →
      codeAny (model prog w) A (.compLoop (.ListComp (.Name xn p1) [⟨.Name xn p7, it0, [], 0⟩, ⟨.Name xo p2, .Name xr p3, [.Compare (.Name xo p4) [.Eq] [.Name xn p5] p6], 0⟩] scope pos) 0 (.ref H0.objs.size) (.ref H1.objs.size) (compEnvC scope cl H2.objs.size env))
        (compPost (model prog w) A E none Q (.ref H1.objs.size) H2.objs.size) s₂ := by
    rintro s₂ rfl
    refine loop_out (cenv := compEnvC scope cl H2.objs.size env) (ys := []) (os := []) hh (by simp [compEnvC, relabel, hkind]) (lookup_relabel_local hxo) (lookup_relabel_local hxn) (hxr _) hne hdo hdn hdr hcl (k₁ _ _ (cC lc).1 (up _ _ hc)) hoc
      dI dC iC (cC ll).2.1 (cC ll).1 (cC ll).2.2 aI aC aD (cC lc).2.1 (cC lc).1 (cC lc).2.2 hit₁ (eX.at fun o e => k₁ _ o aC e) hu (hl.at fun o e => k₁ _ o (cC ll).1 (up _ o e)) hi (k₁ _ _ dC eD) .nil hns₁ ?_ fun h' tk' m' ys' hn' hD' hy' kp' => ?_
    · have : us.length = 8 := hun
      rw [this]; simp only [List.length_nil]; omega
    · refine ⟨m', hn', fun h'' hs'' => ret _ ys' ys'.length h'' tk' ?_ ?_ ?_ hy'⟩
      · have keep : Kp s.heap h'' := fun b o e => hs''.extBut b o (cC (lt e)).1 (kp' b o (cC (lt e)).1 (cC (lt e)).2.1 (cC (lt e)).2.2 (k₁ _ _ (cC (lt e)).1 (up _ _ e)))
        exact F.keeps keep
      · intro p hp
        have keep : Kp s.heap h'' := fun b o e => hs''.extBut b o (cC (lt e)).1 (kp' b o (cC (lt e)).1 (cC (lt e)).2.1 (cC (lt e)).2.2 (k₁ _ _ (cC (lt e)).1 (up _ _ e)))
        rcases List.mem_cons.mp hp with rfl | hp
        · refine ⟨hs''.extBut _ _ dC hD', by refine neN ?_; omega, ?_⟩
          cases q : h₀.get? H1.objs.size with
          | none => rfl
          | some o => have := lt (F.keep _ _ q); omega
        · exact ⟨keep _ _ (N p hp).1, (N p hp).2⟩
      · intro p hp
        have := lt (N p hp).1
        refine ltN ?_; omega
  exact codeAny_compStart_list (loop _ rfl) (wpAny_pyIter_listiter hit₁ (loop _ rfl))
end
end Mine

namespace Mine
open PySem PySem.W PyProof.Rows PySem.Calls PySem.Spec
local macro_rules | `(tactic| walk_at "call ref") => `(tactic| (k_here; (with_reducible show wpAny _ _ (call (Value.ref 65) _ _) _ _ _); k_dflt (refine' layers_use ?k1 ?k2 ?k3 ?k5 ?kK ?k4 ?c1 ?c2 ?ki ?kn ?n1 ?n2 ?n3 ?n4 ?kd ?ku ?_; (case k1 => k_asm); (case k2 => k_asm); (case k3 => k_asm); (case k4 => k_asm); (case k5 => k_asm); (case c1 => k_asm); (case c2 => k_asm); (case kK => exact rfl); (case ki => assumption); (case kn => ((simp only [List.length_append, List.length_map, List.length_take, List.length_cons, List.length_nil]); omega)); (case n1 => k_ne); (case n2 => k_ne); (case n3 => k_ne); (case n4 => k_ne); (case kd => ktr_room); (case ku => ktr_units); (intro t9 ll9 pl9 nl9 vL9 vP9 vN9 n91 n92 n93 stat9 h9 tk9 F9 N9 lay9 i9 j9); (try dsimp only); (try k_sweep); (try k_fold))))
local macro_rules | `(tactic| walk_at "eval ListComp") => `(tactic| (k_here; (with_reducible show wpAny _ _ (eval (PySem.Expr.ListComp _ (_ :: _ :: _) _ _) _) _ _ _); k_dflt (refine' ones_comp ?hh ?hclos ?hcell ?hkind ?hnames ?hxn ?hxo ?hxr ?hne ?hdo ?hdn ?hdr ?hcl ?F ?N ?hc ?hoc ?hl ?hi ?h6 ?h0 ?hs ?_; (case hh => exact rfl); (case hclos => with_unfolding_all rfl); (case hcell => decide); (case hkind => rfl); (case hnames => decide); (case hxn => rfl); (case hxo => rfl); (case hxr => (intro _; rfl)); (case hne => decide); (case hdo => decide); (case hdn => decide); (case hdr => decide); (case hcl => rfl); (case F => k_asm); (case N => k_asm); (case hc => exact News.get (by k_asm) (by k_mem)); (case hoc => assumption); (case hl => is_list); (case hi => assumption); (case h6 => ((simp only [List.length_append, List.length_map, List.length_take, List.length_cons, List.length_nil]); omega)); (case h0 => exact fun _ _ _ h => lit_eight h); (case hs => (intro _; rfl)); k_whole); intro r9 ws9 n9 h9 tk9 F9 N9 l9 k9; (try k_lt l9); (try dsimp only); (try k_sweep); (try k_fold)))
local macro_rules | `(tactic| walk_at "compareOp NotEq ref ref") => `(tactic| (k_here; k_dflt (refine' ne_no ?a ?b ?i ?j ?e ?u ?_; (case a => is_list); (case b => is_list); (case i => assumption); (case j => assumption); (case e => exact num_ones (row8 _)); (case u => ke_room); k_whole)))
theorem places_len (ns : List Int) : (numbersOf ns).length = (placesOf ns).length := by
  simp only [numbersOf, placesOf, partN, partP, List.length_append, part_len, rng, rangeKs_length]; omega
theorem numbers_len (ns : List Int) : (numbersOf ns).length = ns.length := by
  simp only [numbersOf, partN, List.length_append, part_len]
local macro_rules | `(tactic| walk_at "call type:zip") => `(tactic| (k_here; k_dflt (refine' zip_use ?F ?N ?a ?b ?_; (case F => k_asm); (case N => k_asm); (case a => is_list); (case b => is_list); k_whole; intro z9 TI9 TO9 i19 i29 o19 o29 h9 F9 N9 D9 c19 c29 ap9 hL9; (try dsimp only); (try k_sweep); (try k_fold))))
local macro_rules | `(tactic| walk_at "call type:list") => `(tactic| (k_here; k_dflt (refine' list_zip_use2 ?hh ?F ?N ?D ?c1 ?c2 ?hN ?hP ?hl ?h6 ?h0 ?ap ?hL ?lay ?_; (case hh => exact rfl); (case F => k_asm); (case N => k_asm); (case D => assumption); (case c1 => assumption); (case c2 => assumption); (case hN => assumption); (case hP => assumption); (case hl => exact places_len _); (case h6 => ((rw [numbers_len]); (simp only [List.length_append, List.length_map, List.length_take, List.length_cons, List.length_nil]); omega)); (case h0 => ((rw [numbers_len]); (simp only [List.length_append, List.length_map, List.length_take, List.length_cons, List.length_nil]); omega)); (case ap => assumption); (case hL => assumption); (case lay => assumption); k_whole; intro D9 outs9 k9 stat9 h9 tk9 F9 N9 bear9; (try dsimp only); (try k_sweep); (try k_fold))))
theorem law_bear {stat : List (Addr × Obj)} {vL outs : List Value} {ds : List (List Int × List Int)} {ps : List (Int × Int)} {G : Heap → Prop} (x : ∀ h : Heap, (∀ p ∈ stat, h.get? p.1 = some p.2) → (LayersAt h vL ds ∧ G h) ∧ PairsAt h outs ps) :
    ∀ h : Heap, (∀ p ∈ stat, h.get? p.1 = some p.2) → LayersAt h vL ds ∧ PairsAt h outs ps := fun h hh => ⟨(x h hh).1.1, (x h hh).2⟩
theorem law_grown {stat : List (Addr × Obj)} {vL outs : List Value} {ds : List (List Int × List Int)} {ps : List (Int × Int)} {G : Heap → Prop} (x : ∀ h : Heap, (∀ p ∈ stat, h.get? p.1 = some p.2) → (LayersAt h vL ds ∧ G h) ∧ PairsAt h outs ps) {h : Heap}
    (hh : ∀ p ∈ stat, h.get? p.1 = some p.2) : G h := (x h hh).1.2
local macro_rules | `(tactic| walk_at "execs cons") => `(tactic| (k_here; (with_reducible show wpAny _ _ (execs (PySem.Stmt.For _ _ _ _ _ :: _) _) _ _ _); k_dflt (refine' wpAny_mono (tail_ok ?hlaw ?B ?X ?T ?F ?N ?hc ?bear ?hi ?h3 ?h6 ?h8 ?hdp ?hun ?ret) ?q1 ?q2; (case hlaw => with_unfolding_all rfl); (case B => k_asm); (case X => k_asm); (case T => k_asm); (case F => exact fr_two (by k_asm) rfl rfl); (case N => k_asm); (case hc => assumption); (case bear => exact law_bear (by assumption)); (case hi => assumption); (case h3 => ((simp only [List.length_append, List.length_map, List.length_take, List.length_cons, List.length_nil]); omega)); (case h6 => ((simp only [List.length_append, List.length_map, List.length_take, List.length_cons, List.length_nil]); omega)); (case h8 => exact row8 _); (case hdp => ktr_room); (case hun => ktr_units); (case q1 => exact fun _ _ q => q); (case q2 => exact fun _ _ f => f.elim)); intro h9 tk9 m9 F9 st9; refine And.intro ?_ (law_grown (by assumption) st9); (try dsimp only)))
theorem t0 : PySem.Challenge.rw_pu0009_01.Holds := hd (by
  k_with_none
  k_go0
  (all_goals try k_fold)
  k_steps)
end Mine

theorem PySem.Challenge.cw_pu0009_01_holds : PySem.Challenge.rw_pu0009_01.Holds :=
  Mine.t0
