import PyProof.Rows.All
import Wide.All
import OpenK.AllK
import Wide.FinOn
import PySem.Challenge.RW_mq0110_01
set_option Elab.async false
section
open PySem PySem.W PyProof.Rows
set_option maxRecDepth 100000 in
set_option maxHeartbeats 8000000 in
open_top Mine.hd for PySem.Challenge.rw_mq0110_01
end
section
open PySem PySem.W PyProof.Rows PySem.Calls
namespace Mine
/-- a number that may stand in a pattern or a page: the low seven bits of a code -/
def OkPart (q : Int) : Prop := (0 ≤ q ∧ q ≤ 62) ∨ (96 ≤ q ∧ q ≤ 126)
def OkCode (c : Int) : Prop := 0 ≤ c ∧ c < 256 ∧ OkPart (c % 128)
/-- the signs of a part's picture -/
def encI (q : Int) : List Nat := if q < 32 then [94, (q + 64).toNat] else [q.toNat]
/-- the signs of a code's picture -/
def encC (c : Int) : List Nat := if c < 128 then encI c else 33 :: encI (c - 128)
def textOf (l : List Nat) : Str := ⟨l.toArray⟩
theorem and127 (n : Int) : Builtin.bitAnd n 127 = n % 128 := PyProof.Rows.bitAnd_m7 n
theorem and128 (n : Int) : Builtin.bitAnd n 128 = (n / 128 % 2) * 128 := kbt_bit n 7
theorem or32 (x : Int) (h0 : 0 ≤ x) (h1 : x < 32) : Builtin.bitOr x 32 = x + 32 := by
  have : ∀ k : Fin 32, Builtin.bitOr ((k.val : Nat) : Int) 32 = ((k.val : Nat) : Int) + 32 := by decide +kernel
  have h := this ⟨x.toNat, by omega⟩
  have e : ((x.toNat : Nat) : Int) = x := by omega
  simpa [e] using h
end Mine
namespace Mine
theorem or32' (n : Int) : 0 ≤ Builtin.bitOr (Builtin.bitAnd n 127) 32 ∧ Builtin.bitOr (Builtin.bitAnd n 127) 32 ≤ 127 ∧ (n % 128 < 32 → Builtin.bitOr (Builtin.bitAnd n 127) 32 = n % 128 + 32) := by
  rw [and127]
  have : ∀ k : Fin 128, 0 ≤ Builtin.bitOr ((k.val : Nat) : Int) 32 ∧ Builtin.bitOr ((k.val : Nat) : Int) 32 ≤ 127 ∧ (((k.val : Nat) : Int) < 32 → Builtin.bitOr ((k.val : Nat) : Int) 32 = ((k.val : Nat) : Int) + 32) := by decide +kernel
  have h := this ⟨(n % 128).toNat, by omega⟩
  have e : (((n % 128).toNat : Nat) : Int) = n % 128 := by omega
  simp only [e] at h
  exact h
theorem bang : Str.ofString "!" = ⟨#[33]⟩ := by decide +kernel
theorem caret : Str.ofString "^" = ⟨#[94]⟩ := by decide +kernel
theorem app1 (a b : Nat) : (⟨#[a]⟩ : Str) ++ ⟨#[b]⟩ = ⟨#[a, b]⟩ := rfl
theorem app2 (a b c : Nat) : (⟨#[a]⟩ : Str) ++ ⟨#[b, c]⟩ = ⟨#[a, b, c]⟩ := rfl
theorem pic_hi {n : Int} (hb : Builtin.bitAnd n 128 ≠ 0) (h0 : 32 ≤ n % 128) : Str.ofString "!" ++ ⟨#[(Builtin.bitAnd n 127).toNat]⟩ = textOf (encC (n % 256)) := by
  rw [and127, bang, app1]
  rw [and128] at hb
  have e1 : ¬ n % 256 < 128 := by omega
  have e2 : ¬ n % 128 < 32 := by omega
  have e3 : n % 256 - 128 = n % 128 := by omega
  simp only [textOf, encC, encI, e1, e2, e3, if_false]
theorem pic_lo {n : Int} (hb : Builtin.bitAnd n 128 = 0) (h0 : 32 ≤ n % 128) : (⟨#[(Builtin.bitAnd n 127).toNat]⟩ : Str) = textOf (encC (n % 256)) := by
  rw [and127]
  rw [and128] at hb
  have e1 : n % 256 < 128 := by omega
  have e2 : ¬ n % 256 < 32 := by omega
  have e3 : n % 256 = n % 128 := by omega
  simp only [textOf, encC, encI, e1, e2, if_true, if_false]
  rw [e3]
theorem pic_lo_ctl {n : Int} (hb : Builtin.bitAnd n 128 = 0) (h0 : n % 128 < 32) : (Str.ofString "^" ++ ⟨#[(Builtin.bitOr (Builtin.bitAnd n 127) 32 + 32).toNat]⟩ : Str) = textOf (encC (n % 256)) := by
  rw [(or32' n).2.2 h0, caret, app1]
  rw [and128] at hb
  have e1 : n % 256 < 128 := by omega
  have e2 : n % 256 < 32 := by omega
  have e3 : n % 128 + 32 + 32 = n % 256 + 64 := by omega
  simp only [textOf, encC, encI, e1, e2, if_true, e3]
theorem pic_hi_ctl {n : Int} (hb : Builtin.bitAnd n 128 ≠ 0) (h0 : n % 128 < 32) : (Str.ofString "!" ++ (Str.ofString "^" ++ ⟨#[(Builtin.bitOr (Builtin.bitAnd n 127) 32 + 32).toNat]⟩) : Str) = textOf (encC (n % 256)) := by
  rw [(or32' n).2.2 h0, caret, bang, app1, app2]
  rw [and128] at hb
  have e1 : ¬ n % 256 < 128 := by omega
  have e2 : n % 256 - 128 < 32 := by omega
  have e3 : n % 128 + 32 + 32 = n % 256 - 128 + 64 := by omega
  simp only [textOf, encC, encI, e1, e2, if_true, if_false, e3]
end Mine
end
section
open PySem PySem.W PyProof.Rows PySem.Calls
set_option maxRecDepth 100000
namespace Mine
theorem filled : hd.heap_39 = hd.heap_39 ∧ PySem.Challenge.rw_mq0110_01.prog = PySem.Challenge.rw_mq0110_01.prog := by
  w_top off
  k_fill
  exact ⟨rfl, rfl⟩
/-- a room wide enough for the tree at hand: nothing is asked of the frames or guards -/
theorem weak {α : Type} {M : Model} {A : Around} {d u : Nat} {t : Sem α} {Q : α → Shared → Prop} {E : Value → Shared → Prop} {s : Shared}
    (hh : A.handled = none) (hd : A.depth ≤ d) (hu : A.units ≤ u) (h : wpAny M { depth := d, units := u } t Q E s) : wpAny M A t Q E s :=
  fun Γ p hΓ => h Γ p ⟨hΓ.1.trans hh, Nat.le_trans hΓ.2.1 hd, (fun _ e => by cases e), (fun _ e => by cases e), Nat.le_trans hΓ.2.2.2.2 hu⟩
theorem keepF {h₀ h h' : Heap} {L : Addr} {m : Str → Option Value} (F : Fr h₀ L h m) (st : h.StaysIn h') : Fr h₀ L h' m := by
  exact F.keptAll st
theorem keepN {h₀ h h' : Heap} {L : Addr} {news : List (Addr × Obj)} (N : News h₀ L h news) (st : h.StaysIn h') : News h₀ L h' news :=
  N.keepsAll st
theorem addN {h₀ h h' : Heap} {L a : Addr} {m : Str → Option Value} {o : Obj} {news : List (Addr × Obj)} (F : Fr h₀ L h m) (_st : h.StaysIn h') (ho : h'.get? a = some o) (hn : h.get? a = none) (N : News h₀ L h' news) : News h₀ L h' ((a, o) :: news) := by
  intro p hp
  rcases List.mem_cons.mp hp with rfl | hp
  · refine ⟨ho, fun e => ?_, ?_⟩
    · obtain ⟨oL, _, _, hL, _⟩ := F.ns
      dsimp only at e
      rw [← e, hn] at hL
      cases hL
    · cases q : h₀.get? a with
      | none => rfl
      | some o' => rw [F.keep _ _ q] at hn; cases hn
  · exact N p hp
theorem farN {h₀ h : Heap} {L a : Addr} {news : List (Addr × Obj)} (N : News h₀ L h news) (hn : h.get? a = none) : ∀ p ∈ news, p.1 ≠ a := by
  intro p hp e
  have := (N p hp).1
  rw [e, hn] at this
  cases this
theorem enter_def {w : World} {A : Around} {s s₀ : Shared} {mg mb : Str → Option Value} {E Q : Value → Shared → Prop}
    {name qual : Str} {params : Arguments} {body : List Stmt} {scope : Scope} {dV kV doc pm cdv ct oc : Value} {an od : Option Addr} {osl : Array (Option Value)} {f : Addr} {args : List Value} {binds : List (Str × Value)}
    (X : (hd.heap_39 w.params).In s.heap) (T : Top hd.view_39 (looseW hd.view_39 []) (ExcName.means s₀.heap) mg mb s.heap)
    (ho : (hd.heap_39 w.params).lookup f = some ⟨oc, od, .func (fnOf name qual params body scope dV kV doc pm an cdv ct), osl⟩) (hcd : codeIn (hd.heap_39 w.params) cdv qual = true) (hroom : A.depth < recursionLimit)
    (hbind : BindsTo s (fnOf name qual params body scope dV kV doc pm an cdv ct) ⟨args, []⟩ binds) (hloc : ∀ y ∈ binds, scope.names.lookup y.1 = some .local)
    (h : ∀ h₁, Fr s.heap s.heap.objs.size h₁ (fun y => binds.reverse.lookup y) → News s.heap s.heap.objs.size h₁ [] →
      wpAny (model PySem.Challenge.rw_mq0110_01.row.prog w) (A.deeper (envOf qual scope s.heap.objs.size f cdv)) (execs body (envOf qual scope s.heap.objs.size f cdv))
        (fun fl s' => Q (match fl with | .ret v => v | _ => .none) s') (fun _ _ => False)
        { s with heap := h₁, toks := s.toks + binds.length })
    (hco : scope.isCoroutine = false := by rfl) (hgen : scope.isGenerator = false := by rfl) (hk : scope.kind = .function := by rfl)
    (hcell : ∀ x ∈ scope.names, x.2 ≠ .cell := by decide) :
    wpAny (model PySem.Challenge.rw_mq0110_01.row.prog w) A (call (.ref f) args) Q E s := by
  refine wpAny_call ?_
  refine codeAny_call_def (fd := fnOf name qual params body scope dV kV doc pm an cdv ct) (body := body) (binds := binds) hroom (X _ _ ho) rfl T.nolimit (codeRec_of X hcd) rfl hbind hcell hloc (fun h₁ hns hk₁ => ?_) hco hgen hk
  exact wpAny_mono (h h₁ ⟨hns, hk₁, Nat.le_refl _⟩ News.nil) (fun fl s' hl => hl) fun _ _ y => y.elim
theorem enter_defC {w : World} {A : Around} {s s₀ : Shared} {mg mb : Str → Option Value} {E Q : Value → Shared → Prop}
    {name qual : Str} {params : Arguments} {body : List Stmt} {scope : Scope} {dV kV doc pm cdv ct oc : Value} {an od : Option Addr} {osl : Array (Option Value)} {f : Addr} {args : List Value} {binds : List (Str × Value)}
    (X : (hd.heap_39 w.params).In s.heap) (T : Top hd.view_39 (looseW hd.view_39 []) (ExcName.means s₀.heap) mg mb s.heap)
    (ho : (hd.heap_39 w.params).lookup f = some ⟨oc, od, .func (fnOf name qual params body scope dV kV doc pm an cdv ct), osl⟩) (hcd : codeIn (hd.heap_39 w.params) cdv qual = true) (hroom : A.depth < recursionLimit)
    (hbind : BindsTo s (fnOf name qual params body scope dV kV doc pm an cdv ct) ⟨args, []⟩ binds)
    (hkind : (binds.all fun y => scope.names.lookup y.1 == some .local || scope.names.lookup y.1 == some .cell) = true)
    (hnd : ((cellsFrom 0 scope.names []).map (·.1)).Nodup)
    (h : ∀ h₁ tk cells, Fr s.heap s.heap.objs.size h₁ (bindL (envOfC qual scope s.heap.objs.size f cdv).kindOf binds fun _ => none) → News s.heap s.heap.objs.size h₁ cells →
      CellsAre (bindC (envOfC qual scope s.heap.objs.size f cdv).kindOf binds fun _ => none) (cellsFrom (s.heap.objs.size + 1) scope.names []) cells →
      wpAny (model PySem.Challenge.rw_mq0110_01.row.prog w) (A.deeper (envOfC qual scope s.heap.objs.size f cdv)) (execs body (envOfC qual scope s.heap.objs.size f cdv))
        (fun fl s' => Q (match fl with | .ret v => v | _ => .none) s') (fun _ _ => False)
        { s with heap := h₁, toks := tk })
    (hco : scope.isCoroutine = false := by rfl) (hgen : scope.isGenerator = false := by rfl) (hk : scope.kind = .function := by rfl) :
    wpAny (model PySem.Challenge.rw_mq0110_01.row.prog w) A (call (.ref f) args) Q E s := by
  refine wpAny_call ?_
  refine codeAny_call_function hroom (X _ _ ho) rfl hco hgen rfl (codeRec_of X hcd) (hbind _ _ _ _ ?_)
  refine wpAny_newFunctionEnv_cells hk (kindsX hkind _) fun env' he s' x => ?_
  subst he
  refine ⟨T.nolimit.keeps x.toInCall.keep, codeAny_func ?_⟩
  obtain ⟨h₁, tk, rfl, _⟩ := x.done
  have hk₁ := x.toInCall.keep
  obtain ⟨cells, NC, Y⟩ := Cl.news (h₀ := s.heap) (Nat.le_refl _) fun n c hm => ⟨x.cell n c (lookup_of_mem_nodup (cellsFrom_names scope.names 0 (s.heap.objs.size + 1) [] [] rfl ▸ hnd) hm), x.above n c hm⟩
  exact wpAny_mono (h h₁ tk cells ⟨x.toInCall.ns, hk₁, Nat.le_refl _⟩ NC Y) (fun fl s' hl => hl) fun _ _ y => y.elim
theorem enter_codeC {w : World} {A : Around} {s s₀ : Shared} {mg mb : Str → Option Value} {R : Result → Shared → Prop}
    {name qual : Str} {params : Arguments} {body : List Stmt} {scope : Scope} {dV kV doc pm cdv ct oc : Value} {an od : Option Addr} {osl : Array (Option Value)} {f : Addr} {args : List Value} {binds : List (Str × Value)}
    (X : (hd.heap_39 w.params).In s.heap) (T : Top hd.view_39 (looseW hd.view_39 []) (ExcName.means s₀.heap) mg mb s.heap)
    (ho : (hd.heap_39 w.params).lookup f = some ⟨oc, od, .func (fnOf name qual params body scope dV kV doc pm an cdv ct), osl⟩) (hcd : codeIn (hd.heap_39 w.params) cdv qual = true) (hroom : A.depth < recursionLimit)
    (hbind : BindsTo s (fnOf name qual params body scope dV kV doc pm an cdv ct) ⟨args, []⟩ binds)
    (hkind : (binds.all fun y => scope.names.lookup y.1 == some .local || scope.names.lookup y.1 == some .cell) = true)
    (hnd : ((cellsFrom 0 scope.names []).map (·.1)).Nodup)
    (h : ∀ h₁ tk cells, Fr s.heap s.heap.objs.size h₁ (bindL (envOfC qual scope s.heap.objs.size f cdv).kindOf binds fun _ => none) → News s.heap s.heap.objs.size h₁ cells →
      CellsAre (bindC (envOfC qual scope s.heap.objs.size f cdv).kindOf binds fun _ => none) (cellsFrom (s.heap.objs.size + 1) scope.names []) cells →
      wpAny (model PySem.Challenge.rw_mq0110_01.row.prog w) (A.deeper (envOfC qual scope s.heap.objs.size f cdv)) (execs body (envOfC qual scope s.heap.objs.size f cdv))
        (fun fl s' => R (.ok (.ret (match fl with | .ret v => v | _ => .none))) s') (fun _ _ => False)
        { s with heap := h₁, toks := tk })
    (hco : scope.isCoroutine = false := by rfl) (hgen : scope.isGenerator = false := by rfl) (hk : scope.kind = .function := by rfl) :
    codeAny (model PySem.Challenge.rw_mq0110_01.row.prog w) A (.call (.ref f) ⟨args, []⟩) R s := by
  refine codeAny_call_function hroom (X _ _ ho) rfl hco hgen rfl (codeRec_of X hcd) (hbind _ _ _ _ ?_)
  refine wpAny_newFunctionEnv_cells hk (kindsX hkind _) fun env' he s' x => ?_
  subst he
  refine ⟨T.nolimit.keeps x.toInCall.keep, codeAny_func ?_⟩
  obtain ⟨h₁, tk, rfl, _⟩ := x.done
  have hk₁ := x.toInCall.keep
  obtain ⟨cells, NC, Y⟩ := Cl.news (h₀ := s.heap) (Nat.le_refl _) fun n c hm => ⟨x.cell n c (lookup_of_mem_nodup (cellsFrom_names scope.names 0 (s.heap.objs.size + 1) [] [] rfl ▸ hnd) hm), x.above n c hm⟩
  exact wpAny_mono (h h₁ tk cells ⟨x.toInCall.ns, hk₁, Nat.le_refl _⟩ NC Y) (fun fl s' hl => hl) fun _ _ y => y.elim
theorem fm (n : Int) {k : Int} (hk : 0 < k) : n.fmod k = n % k ∧ 0 ≤ n.fmod k ∧ n.fmod k < k := by
  have e : n.fmod k = n % k := Int.fmod_eq_emod_of_nonneg _ (by omega)
  rw [e]
  exact ⟨rfl, Int.emod_nonneg _ (by omega), Int.emod_lt_of_pos _ hk⟩
end Mine
end
section
open PySem PySem.W PyProof.Rows PySem.Calls
set_option maxRecDepth 100000
set_option maxHeartbeats 4000000
namespace Mine
theorem filled2 : True := by
  w_top off
  trivial
def IsCode (v : Value) (n : Int) : Prop := (∃ t, v = .int n t) ∨ (∃ (k : Nat) (t : Tok), v = .str ⟨#[k]⟩ t ∧ n = (k : Int))
theorem ctoi_call {w : World} {A : Around} {s s₀ : Shared} {mg mb : Str → Option Value} {E Q : Value → Shared → Prop} {h₀ : Heap} {L : Addr} {m : Str → Option Value} {news : List (Addr × Obj)} {v : Value} {n : Int}
    (F : Fr h₀ L s.heap m) (N : News h₀ L s.heap news) (X : (hd.heap_39 w.params).In h₀) (T : Top hd.view_39 (looseW hd.view_39 []) (ExcName.means s₀.heap) mg mb h₀) (hh : A.handled = none) (hdp : A.depth ≤ 490) (hun : A.units ≤ 900) (hv : IsCode v n)
    (ret : ∀ t h' tk', Fr h₀ L h' m → News h₀ L h' news → Q (.int n t) { s with heap := h', toks := tk' }) :
    wpAny (model PySem.Challenge.rw_mq0110_01.row.prog w) A (call (.ref 28) [v]) Q E s := by
  refine weak hh hdp hun ?_
  replace X := X.keeps F.keep
  replace T := T.keeps F.keep
  replace ret := fun t h' tk' st => ret t h' tk' (keepF F st) (keepN N st)
  clear F N hh hdp hun
  refine enter_def (binds := [(Str.ofString "c", v)]) X T (by k_is) (by k_is) (by decide) (BindsTo.of_eq rfl) (locs rfl) ?_
  intro h₁ F N
  rcases hv with ⟨t, rfl⟩ | ⟨k, t, rfl, rfl⟩
  · k_steps
    all_goals exact ret _ _ _ F.keep
  · k_steps
    all_goals exact ret _ _ _ F.keep
local macro_rules | `(tactic| walk_at "call ref") => `(tactic| (k_here; (with_reducible show wpAny _ _ (call (Value.ref 28) [_]) _ _ _); (refine' ctoi_call ?k1 ?k2 ?k3 ?k4 rfl ?k5 ?k6 ?k7 ?_; (case k1 => k_asm); (case k2 => k_asm); (case k3 => k_asm); (case k4 => k_asm); (case k5 => exact Nat.le_of_ble_eq_true rfl); (case k6 => exact Nat.le_of_ble_eq_true rfl); (case k7 => first | assumption | exact Or.inl ⟨_, rfl⟩); intro t' h' tk' F' N'; (try dsimp only); (try k_sweep))))
theorem isprint_yes {w : World} {A : Around} {s s₀ : Shared} {mg mb : Str → Option Value} {E Q : Value → Shared → Prop} {h₀ : Heap} {L : Addr} {m : Str → Option Value} {news : List (Addr × Obj)} {n : Int} {t : Tok}
    (F : Fr h₀ L s.heap m) (N : News h₀ L s.heap news) (X : (hd.heap_39 w.params).In h₀) (T : Top hd.view_39 (looseW hd.view_39 []) (ExcName.means s₀.heap) mg mb h₀) (hh : A.handled = none) (hdp : A.depth ≤ 480) (hun : A.units ≤ 800) (h0 : 32 ≤ n) (h1 : n ≤ 126)
    (ret : ∀ h' tk', Fr h₀ L h' m → News h₀ L h' news → Q (.bool true) { s with heap := h', toks := tk' }) :
    wpAny (model PySem.Challenge.rw_mq0110_01.row.prog w) A (call (.ref 35) [.int n t]) Q E s := by
  refine weak hh hdp hun ?_
  replace X := X.keeps F.keep
  replace T := T.keeps F.keep
  replace ret := fun h' tk' st => ret h' tk' (keepF F st) (keepN N st)
  clear F N hh hdp hun
  refine enter_def (binds := [(Str.ofString "c", Value.int n t)]) X T (by k_is) (by k_is) (by decide) (BindsTo.of_eq rfl) (locs rfl) ?_
  intro h₁ F N
  rw [show true = decide (n ≤ 126) from (decide_eq_true h1).symm] at ret
  k_steps
  all_goals exact ret _ _ (Fr.keep (by assumption))
theorem isprint_no {w : World} {A : Around} {s s₀ : Shared} {mg mb : Str → Option Value} {E Q : Value → Shared → Prop} {h₀ : Heap} {L : Addr} {m : Str → Option Value} {news : List (Addr × Obj)} {n : Int} {t : Tok}
    (F : Fr h₀ L s.heap m) (N : News h₀ L s.heap news) (X : (hd.heap_39 w.params).In h₀) (T : Top hd.view_39 (looseW hd.view_39 []) (ExcName.means s₀.heap) mg mb h₀) (hh : A.handled = none) (hdp : A.depth ≤ 480) (hun : A.units ≤ 800) (h0 : n < 32)
    (ret : ∀ h' tk', Fr h₀ L h' m → News h₀ L h' news → Q (.bool false) { s with heap := h', toks := tk' }) :
    wpAny (model PySem.Challenge.rw_mq0110_01.row.prog w) A (call (.ref 35) [.int n t]) Q E s := by
  refine weak hh hdp hun ?_
  replace X := X.keeps F.keep
  replace T := T.keeps F.keep
  replace ret := fun h' tk' st => ret h' tk' (keepF F st) (keepN N st)
  clear F N hh hdp hun
  refine enter_def (binds := [(Str.ofString "c", Value.int n t)]) X T (by k_is) (by k_is) (by decide) (BindsTo.of_eq rfl) (locs rfl) ?_
  intro h₁ F N
  rw [show false = decide (32 ≤ n) from (decide_eq_false (by omega)).symm] at ret
  k_steps
  all_goals exact ret _ _ (Fr.keep (by assumption))
local macro_rules | `(tactic| walk_at "call ref") => `(tactic| (k_here; (with_reducible show wpAny _ _ (call (Value.ref 35) [Value.int _ _]) _ _ _); (refine' isprint_yes ?k1 ?k2 ?k3 ?k4 rfl ?k5 ?k6 (by omega) (by omega) ?_; (case k1 => k_asm); (case k2 => k_asm); (case k3 => k_asm); (case k4 => k_asm); (case k5 => exact Nat.le_of_ble_eq_true rfl); (case k6 => exact Nat.le_of_ble_eq_true rfl); intro h' tk' F' N'; (try dsimp only); (try k_sweep))))
local macro_rules | `(tactic| walk_at "call ref") => `(tactic| (k_here; (with_reducible show wpAny _ _ (call (Value.ref 35) [Value.int _ _]) _ _ _); (refine' isprint_no ?k1 ?k2 ?k3 ?k4 rfl ?k5 ?k6 (by omega) ?_; (case k1 => k_asm); (case k2 => k_asm); (case k3 => k_asm); (case k4 => k_asm); (case k5 => exact Nat.le_of_ble_eq_true rfl); (case k6 => exact Nat.le_of_ble_eq_true rfl); intro h' tk' F' N'; (try dsimp only); (try k_sweep))))
theorem unctrl_call {w : World} {A : Around} {s s₀ : Shared} {mg mb : Str → Option Value} {E Q : Value → Shared → Prop} {h₀ : Heap} {L : Addr} {m : Str → Option Value} {news : List (Addr × Obj)} {v : Value} {n : Int}
    (F : Fr h₀ L s.heap m) (N : News h₀ L s.heap news) (X : (hd.heap_39 w.params).In h₀) (T : Top hd.view_39 (looseW hd.view_39 []) (ExcName.means s₀.heap) mg mb h₀) (hh : A.handled = none) (hdp : A.depth ≤ 470) (hun : A.units ≤ 700) (hv : IsCode v n) (hn : OkPart (n % 128))
    (ret : ∀ t h' tk', Fr h₀ L h' m → News h₀ L h' news → Q (.str (textOf (encC (n % 256))) t) { s with heap := h', toks := tk' }) :
    wpAny (model PySem.Challenge.rw_mq0110_01.row.prog w) A (call (.ref 42) [v]) Q E s := by
  refine weak hh hdp hun ?_
  replace X := X.keeps F.keep
  replace T := T.keeps F.keep
  replace ret := fun t h' tk' st => ret t h' tk' (keepF F st) (keepN N st)
  clear F N hh hdp hun
  refine enter_def (binds := [(Str.ofString "c", v)]) X T (by k_is) (by k_is) (by decide) (BindsTo.of_eq rfl) (locs rfl) ?_
  intro h₁ F N
  have q1 := and127 n
  have q2 := and128 n
  have q3 := or32' n
  unfold OkPart at hn
  by_cases hlo : n % 128 < 32
  · by_cases hb : Builtin.bitAnd n 128 = 0
    · rw [← pic_lo_ctl hb hlo] at ret
      k_steps
      all_goals first | (exfalso; omega) | (have hF := Fr.keep (by assumption); exact ret _ _ _ hF)
    · rw [← pic_hi_ctl hb hlo] at ret
      k_steps
      all_goals first | (exfalso; omega) | (have hF := Fr.keep (by assumption); exact ret _ _ _ hF)
  · by_cases hb : Builtin.bitAnd n 128 = 0
    · rw [← pic_lo hb (by omega)] at ret
      k_steps
      all_goals first | (exfalso; omega) | (have hF := Fr.keep (by assumption); exact ret _ _ _ hF)
    · rw [← pic_hi hb (by omega)] at ret
      k_steps
      all_goals first | (exfalso; omega) | (have hF := Fr.keep (by assumption); exact ret _ _ _ hF)
end Mine
end
section
open PySem PySem.W PyProof.Rows PySem.Calls
set_option maxRecDepth 100000
set_option maxHeartbeats 4000000
namespace Mine
/-- where the walk is to stand still, so that a rule can be said by hand -/
def Halt (P : Prop) : Prop := P
theorem Halt.of {P : Prop} (h : Halt P) : P := h
theorem Halt.mk {P : Prop} (h : P) : Halt P := h
section
variable {prog : Program} {w : World} {A : Around} {E : Value → Shared → Prop} {s : Shared} {h₀ : Heap} {L : Addr} {m : Str → Option Value} {news : List (Addr × Obj)} {Q : Value → Shared → Prop}
theorem fills_iadd : fillsInplaceSlot (.type "list") "add" (Operator.Add == .Add) = pure false := by
  unfold fillsInplaceSlot
  show (typeLookup (.type "list") (dunderI "add") >>= fun fi => pure (fi.isSome && !isSeqSlot fi)) = pure false
  rw [PySem.F.slot_list_iadd.lookup]
  have e : isSeqSlot (some (.builtin "list.__iadd__")) = true := by decide +kernel
  simp only [pure_bind, e]
  rfl
theorem seq_iadd : seqSlot? (.type "list") (dunderI "add") = pure (some (.builtin "list.__iadd__")) :=
  PySem.seqSlot_of PySem.F.slot_list_iadd.lookup (by decide +kernel)
/-- xs += ys, two lists of the call's own -/
theorem iadd_K {D b : Addr} {xs ys : List Value} {n n2 : Nat} {g : Obj → List (Addr × Obj)} (F : Fr h₀ L s.heap m) (N : News h₀ L s.heap news) (hb : (b, listOf ys.toArray n2) ∈ news) (U : UpdF D (listOf xs.toArray n) news g)
    (hz : xs.length + ys.length ≤ 10000) (h : ∀ h' n', Fr h₀ L h' m → News h₀ L h' (g (listOf (xs ++ ys).toArray n')) → Q (.ref D) { s with heap := h' }) :
    wpAny (model prog w) A (inplaceOp .Add (.ref D) (.ref b)) Q E s := by
  obtain ⟨pre, post, rfl, hg, a, c⟩ := U.split
  have z := N (D, listOf xs.toArray n) (List.mem_append.mpr (.inr (.head _)))
  have zb := N (b, listOf ys.toArray n2) hb
  have tD : s.TypeIs (.ref D) "list" := ⟨_, z.1, rfl⟩
  have tb : s.TypeIs (.ref b) "list" := ⟨_, zb.1, rfl⟩
  unfold inplaceOp
  refine wpAny_holding ?_
  refine wpAny_bind (wpAny_typeOf tD (wpAny_bind (wpAny_of_eq fills_iadd ?_)))
  show wpAny _ A (if false = true then _ else _) Q E s
  rw [if_neg Bool.false_ne_true]
  refine wpAny_bind (wpAny_binaryOp1_none (nm := "add") tD tb noFill_list_add ?_)
  refine wpAny_bind (wpAny_of_eq seq_iadd ?_)
  refine wpAny_bind (wpAny_rule ?_)
  have hsl : sizeLine = 16777216 := by decide +kernel
  refine call_meets PySem.F.slot_list_iadd tD PySem.F.entry_list_iadd (PySem.F.args_list_iadd_2 _ _) (PySem.AutoSeq1.list___iadd___list_list_0 D xs.toArray n b ys.toArray n2 ?_ ?_ ?_) ⟨z.1, zb.1, ?_⟩
  · simp [Builtin.List.listTooLong]; omega
  · rw [List.size_toArray]; omega
  · rw [List.size_toArray, List.size_toArray]; omega
  · refine h _ (if ((xs.toArray ++ ys.toArray).size == xs.toArray.size) = true then n else n + 1) (F.change (Heap.SameBut.update ..) z.2.1 z.2.2) ?_
    rw [hg]
    refine N.setAt a c (Heap.SameBut.update ..) ?_
    have q := PySem.IsL.update z.1 (fun x => x ++ ys.toArray)
    unfold IsL at q
    simp only [List.append_toArray] at q ⊢
    exact q
theorem invEnd {h₀ : Heap} {L : Addr} {J : (Str → Option Value) → List (Addr × Obj) → Prop} {own : List (Addr × Obj)} {adr : List Addr} {s₁ s₂ : Shared} {h' : Heap} {m' : Str → Option Value} {news' nx : List (Addr × Obj)} {tk : Nat}
    (e : s₂ = { s₁ with heap := h', toks := tk }) (F : Fr h₀ L h' m') (N : News h₀ L h' news') (h1 : ∀ p ∈ nx, p ∈ news') (h2 : ∀ p ∈ own, p ∈ news') (h3 : nx.map (·.1) = adr) (hJ : J m' nx) : InvEndN h₀ L J own adr s₁ s₂ :=
  ⟨h', tk, m', news', nx, e, F, N, h1, h2, h3, hJ⟩
end
section
open PyProof.Rows.LCg PyProof.Rows.LCt
variable {prog : Program} {w : World} {A : Around} {s : Shared} {h₀ : Heap} {L : Addr} {m : Str → Option Value} {env : Env} {ct elt : PySem.Expr} {x : Str} {scope : Scope} {cl : List (Str × Addr)}
  {S : List (Addr × Obj) → Prop} {P : Nat → Value → Prop} {Fin : List Value → List (Addr × Obj) → Prop} {news : List (Addr × Obj)} {n : Nat}
/-- a comprehension's turns by what holds of each element; the ledger stands as it stood -/
theorem compRest_inv (G : Nat → Value → Prop)
    (turn : ∀ i v I oI C oC D m₂ h tk ys (E' : Value → Shared → Prop), i < n → P i v → NsObj oC m₂ → m₂ x = some v → Fr h₀ L h m → News h₀ L h ((I, oI) :: (C, oC) :: (D, lst ys) :: news) → Off3 I C D news → ((@Ne Nat I C) ∧ (@Ne Nat I D) ∧ (@Ne Nat C D)) →
      wpAny (model prog w) A (eval elt (compEnvC scope cl C env)) (CompEnd h₀ L m { s with heap := h, toks := tk } I oI C oC D (lst ys) S (fun y news' => news' = news ∧ G i y)) E' { s with heap := h, toks := tk })
    (fin : ∀ ys, ys.length = n → (∀ i y, ys[i]? = some y → G i y) → Fin ys news) : CompRest prog w A h₀ L m env elt x scope cl s S P Fin n 0 [] news := by
  have all : ∀ k i ys, k + i = n → ys.length = i → (∀ i y, ys[i]? = some y → G i y) → CompRest prog w A h₀ L m env elt x scope cl s S P Fin k i ys news := by
    intro k
    induction k with
    | zero => intro i ys hk hl hg; exact CompRest.zero (fin ys (by omega) hg)
    | succ k ih =>
      intro i ys hk hl hg
      refine CompRest.succ fun v I oI C oC D m₂ h tk E' hP hC hx F N off ne => ?_
      refine wpAny_mono (turn i v I oI C oC D m₂ h tk ys E' (by omega) hP hC hx F N off ne) (fun y s' he => ?_) fun _ _ e => e
      obtain ⟨h', tk', news', e, F', N', off', hS', rfl, hG⟩ := he
      refine ⟨h', tk', news', e, F', N', off', hS', ih (i + 1) (ys ++ [y]) (by omega) (by simp [hl]) fun j z hj => ?_⟩
      rcases Nat.lt_trichotomy j ys.length with hj' | hj' | hj'
      · exact hg j z (by rwa [List.getElem?_append_left hj'] at hj)
      · subst hj'
        rw [List.getElem?_append_right (Nat.le_refl _)] at hj
        simp at hj
        rw [hl]
        exact hj ▸ hG
      · rw [List.getElem?_eq_none (by simp; omega)] at hj
        cases hj
  exact all n 0 [] (by omega) rfl (fun i y h => by simp at h)
/-- the same with a test: the list so far is what J says -/
theorem compRestT_inv (J : Nat → List Value → Prop)
    (turn : ∀ i v I oI C oC D m₂ h tk ys (E' : Value → Shared → Prop), i < n → P i v → J i ys → NsObj oC m₂ → m₂ x = some v → Fr h₀ L h m → News h₀ L h ((I, oI) :: (C, oC) :: (D, lst ys) :: news) → Off3 I C D news → ((@Ne Nat I C) ∧ (@Ne Nat I D) ∧ (@Ne Nat C D)) →
      wpAny (model prog w) A (isTrue ct (compEnvC scope cl C env) (eval ct (compEnvC scope cl C env))) (fun ok s' => if ok = true then
        wpAny (model prog w) A (eval elt (compEnvC scope cl C env)) (CompEnd h₀ L m { s with heap := h, toks := tk } I oI C oC D (lst ys) S (fun y news' => news' = news ∧ J (i + 1) (ys ++ [y]))) E' s'
        else CompEnd h₀ L m { s with heap := h, toks := tk } I oI C oC D (lst ys) S (fun _ news' => news' = news ∧ J (i + 1) ys) Value.none s') E' { s with heap := h, toks := tk })
    (start : J 0 []) (fin : ∀ ys, J n ys → Fin ys news) : CompRestT prog w A h₀ L m env ct elt x scope cl s S P Fin n 0 [] news := by
  have all : ∀ k i ys, k + i = n → J i ys → CompRestT prog w A h₀ L m env ct elt x scope cl s S P Fin k i ys news := by
    intro k
    induction k with
    | zero => intro i ys hk hg; exact CompRestT.zero (fin ys (by rw [← hk, Nat.zero_add]; exact hg))
    | succ k ih =>
      intro i ys hk hg
      refine CompRestT.succ fun v I oI C oC D m₂ h tk E' hP hC hx F N off ne => ?_
      refine wpAny_mono (turn i v I oI C oC D m₂ h tk ys E' (by omega) hP hg hC hx F N off ne) (fun ok s' he => ?_) fun _ _ e => e
      cases ok with
      | true =>
        simp only [if_true] at he ⊢
        refine wpAny_mono he (fun y s'' he => ?_) fun _ _ e => e
        obtain ⟨h', tk', news', e, F', N', off', hS', rfl, hG⟩ := he
        exact ⟨h', tk', news', e, F', N', off', hS', ih (i + 1) (ys ++ [y]) (by omega) hG⟩
      | false =>
        simp only [Bool.false_eq_true, if_false] at he ⊢
        obtain ⟨h', tk', news', e, F', N', off', hS', rfl, hG⟩ := he
        exact ⟨h', tk', news', e, F', N', off', hS', ih (i + 1) ys (by omega) hG⟩
  exact all n 0 [] (by omega) start
end
theorem strs_of {vs : List Value} {ts : List Str} (hl : vs.length = ts.length) (h : ∀ (i : Nat) v, vs[i]? = some v → ∃ x t, ts[i]? = some x ∧ v = Value.str x t) : StrsAre vs ts := by
  induction vs generalizing ts with
  | nil => cases ts with | nil => exact .nil | cons => simp at hl
  | cons v vs ih =>
    cases ts with
    | nil => simp at hl
    | cons x ts =>
      obtain ⟨y, t, hy, rfl⟩ := h 0 v rfl
      simp at hy
      subst hy
      exact .cons _ _ (ih (by simpa using hl) fun i w hw => by simpa using h (i + 1) w (by simpa using hw))
theorem ints_of {vs : List Value} {ts : List Int} (hl : vs.length = ts.length) (h : ∀ (i : Nat) v, vs[i]? = some v → ∃ x t, ts[i]? = some x ∧ v = Value.int x t) : IntsAre vs ts := by
  induction vs generalizing ts with
  | nil => cases ts with | nil => exact .nil | cons => simp at hl
  | cons v vs ih =>
    cases ts with
    | nil => simp at hl
    | cons x ts =>
      obtain ⟨y, t, hy, rfl⟩ := h 0 v rfl
      simp at hy
      subst hy
      exact .cons _ _ (ih (by simpa using hl) fun i w hw => by simpa using h (i + 1) w (by simpa using hw))
section
variable {prog : Program} {w : World} {A : Around} {E : Value → Shared → Prop} {s : Shared} {h₀ : Heap} {L : Addr} {m : Str → Option Value} {news : List (Addr × Obj)} {Q : Value → Shared → Prop}
/-- xs + ys, two lists at hand -/
theorem add_K {a b : Addr} {xs ys : List Value} {k1 k2 : Nat} (F : Fr h₀ L s.heap m) (N : News h₀ L s.heap news) (ha : (a, listOf xs.toArray k1) ∈ news) (hb : (b, listOf ys.toArray k2) ∈ news) (hz : xs.length + ys.length ≤ 10000)
    (h : ∀ D h', Fr h₀ L h' m → News h₀ L h' ((D, listOf (xs ++ ys).toArray 0) :: news) → (∀ p ∈ news, p.1 < D) → Q (.ref D) { s with heap := h' }) :
    wpAny (model prog w) A (binaryOp .Add (.ref a) (.ref b)) Q E s := by
  have za := N _ ha
  have zb := N _ hb
  have ta : s.TypeIs (.ref a) "list" := ⟨_, za.1, rfl⟩
  have tb : s.TypeIs (.ref b) "list" := ⟨_, zb.1, rfl⟩
  have hsl : sizeLine = 16777216 := by decide +kernel
  refine wpAny_binaryOp_concat ta tb noFill_list_add (PySem.seqSlot_of PySem.F.slot_list_add.lookup (by decide +kernel)) ?_
  refine call_meets PySem.F.slot_list_add ta PySem.F.entry_list_add (PySem.F.args_list_add_2 _ _) (PySem.AutoSeq1.list___add___list_list_0 a xs.toArray k1 b ys.toArray k2 ?_) ⟨za.1, zb.1, ?_⟩
  · rw [List.size_toArray, List.size_toArray]; omega
  · rw [List.append_toArray]
    exact h s.heap.objs.size _ (F.push _) (N.push F _) fun p hp => Heap.lt_size (N p hp).1
/-- list(range(a, b)) -/
theorem listRange_K {r : Addr} {a b : Int} {t u v : Tok} {n : Nat} (hh : A.handled = none) (F : Fr h₀ L s.heap m) (N : News h₀ L s.heap news) (hr : IsRange s.heap r a b 1 t u v) (ha : 0 ≤ a) (hab : a ≤ 10000) (hb0 : 0 ≤ b) (hb : b ≤ 10000) (hn : (b - a).toNat = n)
    (h : ∀ D h' tk ys k, Fr h₀ L h' m → News h₀ L h' ((D, listOf (List.toArray ys) k) :: news) → (∀ p ∈ news, p.1 < D) → IntsAre ys (rangeKs a n) → Q (.ref D) { s with heap := h', toks := tk }) :
    wpAny (model prog w) A (call (.type "list") [.ref r]) Q E s := by
  refine call_list_range hh hr (small_one (by omega) (by omega) (by omega) (by omega)) (n := n) (by rw [rangeSize_nat, hn]) (by omega) fun h' tk acc' c' hk hS' hacc => ?_
  refine h s.heap.objs.size h' tk acc'.toList c' (F.keeps hk) (fun p hp => ?_) (fun p hp => Heap.lt_size (N p hp).1) (ints_of ?_ ?_)
  · rcases List.mem_cons.mp hp with rfl | hp
    · refine ⟨by simpa using hS', Nat.ne_of_gt F.ns.lt, next_is_new F⟩
    · exact ⟨hk _ _ (N p hp).1, (N p hp).2⟩
  · rw [rangeKs_length]; simpa using hacc.1
  · intro i v hv
    obtain ⟨t, rfl⟩ := hacc.2 i v (by simpa using hv)
    have hi : i < n := by
      have h1 := (List.getElem?_eq_some_iff.mp hv).1
      have h2 := hacc.1
      simp at h1
      omega
    exact ⟨a + i, t, by simp [rangeKs, hi], by rw [Int.mul_one]⟩
/-- xs.append(v) -/
theorem append_L {D : Addr} {xs : List Value} {v : Value} {n : Nat} {g : Obj → List (Addr × Obj)} (F : Fr h₀ L s.heap m) (N : News h₀ L s.heap news) (U : UpdF D (listOf xs.toArray n) news g) (hz : xs.length ≤ 10000)
    (h : ∀ h' n', Fr h₀ L h' m → News h₀ L h' (g (listOf (xs ++ [v]).toArray n')) → Q .none { s with heap := h' }) : wpAny (model prog w) A (call (.builtin "list.append") [.ref D, v]) Q E s := by
  obtain ⟨pre, post, rfl, hg, a, c⟩ := U.split
  have z := N (D, listOf xs.toArray n) (List.mem_append.mpr (.inr (.head _)))
  have hsl : sizeLine = 16777216 := by decide +kernel
  refine append_at (hsz := by rw [List.size_toArray]; omega) z.1 fun h' hs' hD' => ?_
  refine h h' (n + 1) (F.change hs' z.2.1 z.2.2) ?_
  rw [hg, ← List.push_toArray]
  exact N.setAt a c hs' hD'
/-- xs[-k] of a list at hand -/
theorem item_neg {value slice : PySem.Expr} {l : Addr} {vs : List Value} {n : Nat} {k : Int} {u : Tok} {v : Value} (N : News h₀ L s.heap news) (hl : (l, listOf vs.toArray n) ∈ news) (h0 : k < 0) (h1 : -(vs.length : Int) ≤ k) (h2 : -1000 ≤ k)
    (hx : vs[(k + vs.length).toNat]? = some v) (h : Q v s) (hs : subscripted slice false (.ref l) (.int k u) = operate [.ref l, .int k u] (getItem (.ref l) (.int k u)) := by with_unfolding_all rfl) :
    wpAny (model prog w) A (subscriptTail value slice (.ref l) (.int k u)) Q E s := by
  have hI : s.heap.IsList l vs.toArray := ⟨_, N.get hl, rfl, _, rfl⟩
  exact tail_any hI.typeIs PySem.F.slot_list_getitem.lookup (wpAny_getItem_list_neg hI h0 (by simpa using h1) (by omega) (by simpa using hx) h) hs
end
section
variable {prog : Program} {w : World} {A : Around} {E : Value → Shared → Prop} {s : Shared} {env : Env} {h₀ : Heap} {body : List Stmt} {Q : Flow → Shared → Prop} {target : PySem.Expr}
/-- a turn's end: what the loop keeps (its iterator at I), and the state c -/
def TurnEnd {σ : Type} (h₀ : Heap) (L : Addr) (Led : σ → List (Addr × Obj)) (Inv : σ → (Str → Option Value) → Prop) (s : Shared) (I : Addr) (oI : Obj) (f : Flow) (s₂ : Shared) : Prop :=
  f = .next ∧ ∃ h' tk m' c, s₂ = { s with heap := h', toks := tk } ∧ Fr h₀ L h' m' ∧ News h₀ L h' ((I, oI) :: Led c) ∧ (∀ p ∈ Led c, p.1 ≠ I) ∧ Inv c m'
/-- a for over a list of the caller's, any target, a ledger that may grow -/
theorem for_base {σ : Type} {l : Addr} {vs : List Value} {m₀ : Str → Option Value} (Led : σ → List (Addr × Obj)) (Inv : Nat → σ → (Str → Option Value) → Prop) (c₀ : σ)
    (hh : A.handled = none) (hl : h₀.IsList l vs.toArray) (F : Fr h₀ env.locals s.heap m₀) (N : News h₀ env.locals s.heap (Led c₀)) (h0 : Inv 0 c₀ m₀)
    (turn : ∀ i v c m₁ s₁ I oI, vs[i]? = some v → Inv i c m₁ → (∀ p ∈ Led c, p.1 ≠ I) → Fr h₀ env.locals s₁.heap m₁ → News h₀ env.locals s₁.heap ((I, oI) :: Led c) →
      wpAny (model prog w) A (assign target env v) (fun _ s₃ => wpAny (model prog w) A (execs body env) (TurnEnd h₀ env.locals Led (Inv (i + 1)) s₁ I oI) E s₃) E s₁)
    (done : ∀ h tk m₁ c, Inv vs.length c m₁ → Fr h₀ env.locals h m₁ → News h₀ env.locals h (Led c) → Q .next { s with heap := h, toks := tk }) :
    wpAny (model prog w) A (pyIter (.ref l)) (fun it s₂ => LoopAtT prog w A h₀ env target body Q E it s₂) E s := by
  have hls : s.heap.IsList l vs.toArray := hl.at fun o e => F.keep l o e
  obtain ⟨ol, hol, _⟩ := id hl
  have hlt : l < h₀.objs.size := Heap.lt_size hol
  have hne : l ≠ s.heap.objs.size := Nat.ne_of_lt (Nat.lt_trans (Nat.lt_of_lt_of_le hlt F.above) F.ns.lt)
  refine wpAny_pyIter_list hls ?_
  have W := Walks.list (prog := prog) (w := w) hh s.heap.objs.size l hne vs.toArray
  have hlen : vs.toArray.size = vs.length := by simp
  rw [hlen] at W
  refine ⟨_, _, _, vs.length, _, _, m₀, Led c₀, (fun i m news => ∃ c, news = Led c ∧ Inv i c m), rfl, W, ?_, ?_, ?_, ⟨⟨_, Heap.get?_push_size _ rfl, rfl, rfl⟩, hls.at fun o e => Heap.get?_push_of_some _ e⟩, F.push _,
    (fun p hp => ⟨Heap.get?_push_of_some _ (N p hp).1, (N p hp).2⟩), (fun i s' v Q' st hQ' => letGo_listiter st.1 hQ'), ⟨c₀, rfl, h0⟩, ?_, ?_⟩
  · intro hm
    rcases List.mem_cons.mp hm with e | hm
    · exact absurd F.ns.lt (e ▸ Nat.lt_irrefl _)
    · exact absurd (Nat.lt_of_lt_of_le hlt F.above) ((List.mem_singleton.mp hm) ▸ Nat.lt_irrefl _)
  · intro b hb
    rw [List.mem_singleton.mp hb]
    exact next_is_new F
  · intro p hp hI
    exact absurd (Heap.lt_size (N p hp).1) ((List.mem_singleton.mp hI) ▸ Nat.lt_irrefl _)
  · rintro i v m₁ news₁ s₁ own hin hP ⟨c, rfl, hJ⟩ hoff hsub hval hall hst F₁ N₁
    obtain ⟨oI, heI, _⟩ := id hst.1
    have hI₀ := next_is_new F
    have hown : ∀ p ∈ own, p = (s.heap.objs.size, oI) := by
      intro p hp
      have h1 := hval p hp
      have h2 := (N₁ p (List.mem_append_left _ hp)).2.2
      rcases List.mem_cons.mp (hsub p hp) with e | e
      · rw [e, heI] at h1
        exact Prod.ext e (Option.some.inj h1).symm
      · rw [List.mem_singleton.mp e, hol] at h2
        cases h2
    have hmem : (s.heap.objs.size, oI) ∈ own := hall _ (.head _) hI₀ oI heI
    have hoff' : ∀ p ∈ Led c, p.1 ≠ s.heap.objs.size := fun p hp e => hoff p hp (by rw [e]; exact .head _)
    refine wpAny_mono (turn i v c m₁ s₁ s.heap.objs.size oI (by simpa using hP) hJ hoff' F₁ (fun p hp => ?_)) (fun _ s₃ h₃ => wpAny_mono h₃ (fun f s₂ h₂ => ?_) fun _ _ e => e) fun _ _ e => e
    · rcases List.mem_cons.mp hp with rfl | hp
      · exact N₁ _ (List.mem_append_left _ hmem)
      · exact N₁ _ (List.mem_append_right _ hp)
    · obtain ⟨rfl, h', tk, m', c', e, F', N', hoff'', hJ'⟩ := h₂
      refine ⟨rfl, h', tk, m', Led c', e, F', fun p hp => ?_, fun p hp hI => hoff'' p hp (List.mem_singleton.mp hI), c', rfl, hJ'⟩
      rcases List.mem_append.mp hp with hp | hp
      · rw [hown p hp]; exact N' _ (.head _)
      · exact N' _ (.tail _ hp)
  · rintro h' tk m' news' F' N' _ ⟨c, rfl, hJ⟩
    exact done h' tk m' c hJ F' N'
end
theorem joinOk_of {sep : Str} {ts : List Str} (h : (ts.map (·.length)).sum + ts.length * sep.length ≤ 100000) : JoinOk sep ts = true := by
  unfold JoinOk
  rw [StrLaws.joinTotal]
  have hsl : sizeLine = 16777216 := by decide +kernel
  simp only [Builtin.Str.tooLong, Bool.not_eq_true', decide_eq_false_iff_not]
  omega
theorem sum_take_le (l : List Nat) (i : Nat) : (l.take i).sum ≤ l.sum := by
  induction l generalizing i with
  | nil => simp
  | cons a l ih => cases i with
    | zero => simp
    | succ i => simp only [List.take_succ_cons, List.sum_cons]; have := ih i; omega
theorem range_size {b : Int} {n : Nat} (h : b = n) : Builtin.Range.rangeSize 0 b 1 = (n : Int) := by
  rw [rangeSize_nat]; omega
end Mine
namespace Mine
theorem ints_at {vs : List Value} {ns : List Int} (h : IntsAre vs ns) {i : Nat} {v : Value} (hv : vs[i]? = some v) : ∃ n t, v = Value.int n t ∧ ns[i]? = some n := by
  induction h generalizing i with
  | nil => simp at hv
  | cons n t _ ih =>
    cases i with
    | zero => simp at hv; exact ⟨n, t, hv.symm, rfl⟩
    | succ i => simpa using ih (by simpa using hv)
theorem strs_at {vs : List Value} {ns : List Str} (h : StrsAre vs ns) {i : Nat} {v : Value} (hv : vs[i]? = some v) : ∃ n t, v = Value.str n t ∧ ns[i]? = some n := by
  induction h generalizing i with
  | nil => simp at hv
  | cons n t _ ih =>
    cases i with
    | zero => simp at hv; exact ⟨n, t, hv.symm, rfl⟩
    | succ i => simpa using ih (by simpa using hv)
end Mine
namespace Mine
section
variable {prog : Program} {w : World} {A : Around} {E : Value → Shared → Prop} {s : Shared} {h₀ : Heap} {L : Addr} {news : List (Addr × Obj)} {Q : Value → Shared → Prop}
/-- len(xs) of a list at hand -/
theorem len_L {l : Addr} {vs : List Value} {n : Nat} {k : Int} (N : News h₀ L s.heap news) (hl : (l, listOf vs.toArray n) ∈ news) (hk : (vs.length : Int) = k) (hz : vs.length ≤ 100000) (h : Q (.int k (s.toks + 1)) { s with toks := s.toks + 1 + 1 }) :
    wpAny (model prog w) A (call (.builtin "len") [.ref l]) Q E s := by
  subst hk
  refine Calls.call_len_list (items := vs.toArray) ⟨_, N.get hl, rfl, _, rfl⟩ (by rw [List.size_toArray]; omega) ?_
  rw [List.size_toArray]
  exact h
end
end Mine
end
section
open PySem PySem.W PyProof.Rows PySem.Calls
set_option maxRecDepth 100000
set_option maxHeartbeats 4000000
namespace Mine
theorem filled3 : True := by
  w_top off
  trivial
def temptF (n : Int) : Int := if n % 8 = 0 then 30 else if n % 8 = 1 then 46 else if n % 8 = 2 then 158 else if n % 8 = 3 then 33 else if n % 8 = 4 then 174 else if n % 8 = 5 then 97 else if n % 8 = 6 then 0 else 161
theorem temptF_ok (n : Int) : OkCode (temptF n) := by
  unfold temptF OkCode OkPart
  repeat' split
  all_goals omega
theorem okLow {c : Int} (h : OkCode c) : OkCode (c.fmod 128) ∧ OkCode (c.fmod 128 + 128) := by
  have q := fm c (k := 128) (by omega)
  unfold OkCode OkPart at *
  omega
theorem okNil : ∀ c ∈ ([] : List Int), OkCode c := fun _ h => nomatch h
theorem okCons {a : Int} {l : List Int} (h : OkCode a) (r : ∀ c ∈ l, OkCode c) : ∀ c ∈ a :: l, OkCode c := by
  intro c hc
  rcases List.mem_cons.mp hc with rfl | hc
  · exact h
  · exact r c hc
theorem okTempt (f : Int → Int) (l : List Int) : ∀ c ∈ l.map (fun k => temptF (f k)), OkCode c := by
  intro c hc
  obtain ⟨x, _, rfl⟩ := List.mem_map.mp hc
  exact temptF_ok _
theorem pair_end {s : Shared} {Q : Value → Shared → Prop} {L : Addr} {h' : Heap} {m : Str → Option Value} {news : List (Addr × Obj)} {a l1 l2 : Addr} {vs1 vs2 : List Value} {ns1 ns2 : List Int} {k1 k2 : Nat} {tk' : Nat}
    (F : Fr s.heap L h' m) (N : News s.heap L h' news)
    (ret : ∀ a l1 l2 vs1 vs2 ns1 ns2 k1 k2 h' tk', s.heap.StaysIn h' → h'.get? a = some { cls := .type "tuple", data := .seq #[.ref l1, .ref l2] } → h'.get? l1 = some (listOf (List.toArray vs1) k1) → h'.get? l2 = some (listOf (List.toArray vs2) k2) →
      s.heap.get? a = none → s.heap.get? l1 = none → s.heap.get? l2 = none → l1 ≠ l2 → IntsAre vs1 ns1 → IntsAre vs2 ns2 → (∀ c ∈ ns1, OkCode c) → (∀ c ∈ ns2, OkCode c) → ns1.length ≤ 3 → ns2.length ≤ 3 → Q (.ref a) { s with heap := h', toks := tk' })
    (ma : (a, { cls := .type "tuple", data := .seq #[.ref l1, .ref l2] }) ∈ news) (m1 : (l1, listOf (List.toArray vs1) k1) ∈ news) (m2 : (l2, listOf (List.toArray vs2) k2) ∈ news)
    (d : l1 ≠ l2) (i1 : IntsAre vs1 ns1) (i2 : IntsAre vs2 ns2) (o1 : ∀ c ∈ ns1, OkCode c) (o2 : ∀ c ∈ ns2, OkCode c) (z1 : ns1.length ≤ 3) (z2 : ns2.length ≤ 3) : Q (.ref a) { s with heap := h', toks := tk' } :=
  ret a l1 l2 vs1 vs2 ns1 ns2 k1 k2 h' tk' F.keep (N.get ma) (N.get m1) (N.get m2) (N.fresh ma) (N.fresh m1) (N.fresh m2) d i1 i2 o1 o2 z1 z2
theorem tempting_call {w : World} {A : Around} {s s₀ : Shared} {mg mb : Str → Option Value} {E Q : Value → Shared → Prop} {h₀ : Heap} {L : Addr} {m : Str → Option Value} {news : List (Addr × Obj)} {n : Int} {t : Tok}
    (F : Fr h₀ L s.heap m) (N : News h₀ L s.heap news) (X : (hd.heap_39 w.params).In h₀) (T : Top hd.view_39 (looseW hd.view_39 []) (ExcName.means s₀.heap) mg mb h₀) (hh : A.handled = none) (hdp : A.depth ≤ 490) (hun : A.units ≤ 900)
    (ret : ∀ t h' tk', Fr h₀ L h' m → News h₀ L h' news → Q (.int (temptF n) t) { s with heap := h', toks := tk' }) :
    wpAny (model PySem.Challenge.rw_mq0110_01.row.prog w) A (call (.ref 49) [.int n t]) Q E s := by
  refine weak hh hdp hun ?_
  replace X := X.keeps F.keep
  replace T := T.keeps F.keep
  replace ret := fun t h' tk' st => ret t h' tk' (keepF F st) (keepN N st)
  clear F N hh hdp hun
  refine enter_def (binds := [(Str.ofString "number", Value.int n t)]) X T (by k_is) (by k_is) (by decide) (BindsTo.of_eq rfl) (locs rfl) ?_
  intro h₁ F N
  replace ret : ∀ c t h' tk', c = temptF n → s.heap.StaysIn h' → Q (.int c t) { s with heap := h', toks := tk' } := fun c t h' tk' e st => by rw [e]; exact ret t h' tk' st
  have q1 := fm n (k := 8) (by omega)
  k_steps
  all_goals exact ret _ _ _ _ (by unfold temptF; (repeat' split) <;> omega) (Fr.keep (by assumption))
theorem any_call {w : World} {A : Around} {s s₀ : Shared} {mg mb : Str → Option Value} {E Q : Value → Shared → Prop} {h₀ : Heap} {L : Addr} {m : Str → Option Value} {news : List (Addr × Obj)} {n : Int} {t : Tok}
    (F : Fr h₀ L s.heap m) (N : News h₀ L s.heap news) (X : (hd.heap_39 w.params).In h₀) (T : Top hd.view_39 (looseW hd.view_39 []) (ExcName.means s₀.heap) mg mb h₀) (hh : A.handled = none) (hdp : A.depth ≤ 490) (hun : A.units ≤ 900)
    (ret : ∀ c t h' tk', OkCode c → OkCode (c.fmod 128) → OkCode (c.fmod 128 + 128) → Fr h₀ L h' m → News h₀ L h' news → Q (.int c t) { s with heap := h', toks := tk' }) :
    wpAny (model PySem.Challenge.rw_mq0110_01.row.prog w) A (call (.ref 56) [.int n t]) Q E s := by
  refine weak hh hdp hun ?_
  replace X := X.keeps F.keep
  replace T := T.keeps F.keep
  replace ret := fun c t h' tk' hc hc1 hc2 st => ret c t h' tk' hc hc1 hc2 (keepF F st) (keepN N st)
  clear F N hh hdp hun
  refine enter_def (binds := [(Str.ofString "number", Value.int n t)]) X T (by k_is) (by k_is) (by decide) (BindsTo.of_eq rfl) (locs rfl) ?_
  intro h₁ F N
  replace ret := fun c t h' tk' hc => ret c t h' tk' hc (okLow hc).1 (okLow hc).2
  have q1 := fm n (k := 94) (by omega)
  have q2 := fm (n.fdiv 94) (k := 2) (by omega)
  k_steps
  all_goals exact ret _ _ _ _ (by unfold OkCode OkPart; omega) (Fr.keep (by assumption))
local macro_rules | `(tactic| walk_at "call ref") => `(tactic| (k_here; (with_reducible show wpAny _ _ (call (Value.ref 49) [Value.int _ _]) _ _ _); (refine' tempting_call ?k1 ?k2 ?k3 ?k4 rfl ?k5 ?k6  ?_; (case k1 => k_asm); (case k2 => k_asm); (case k3 => k_asm); (case k4 => k_asm); (case k5 => exact Nat.le_of_ble_eq_true rfl); (case k6 => exact Nat.le_of_ble_eq_true rfl); intro t' h' tk' F' N'; (try dsimp only); (try k_sweep))))
local macro_rules | `(tactic| walk_at "call ref") => `(tactic| (k_here; (with_reducible show wpAny _ _ (call (Value.ref 56) [Value.int _ _]) _ _ _); (refine' any_call ?k1 ?k2 ?k3 ?k4 rfl ?k5 ?k6  ?_; (case k1 => k_asm); (case k2 => k_asm); (case k3 => k_asm); (case k4 => k_asm); (case k5 => exact Nat.le_of_ble_eq_true rfl); (case k6 => exact Nat.le_of_ble_eq_true rfl); intro c' t' h' tk' hc' hd' he' F' N'; (try dsimp only); (try k_sweep))))
theorem pair_call {w : World} {A : Around} {s s₀ : Shared} {mg mb : Str → Option Value} {E Q : Value → Shared → Prop} {h₀ : Heap} {L : Addr} {m : Str → Option Value} {news : List (Addr × Obj)} {n : Int} {t : Tok}
    (F : Fr h₀ L s.heap m) (N : News h₀ L s.heap news) (X : (hd.heap_39 w.params).In h₀) (T : Top hd.view_39 (looseW hd.view_39 []) (ExcName.means s₀.heap) mg mb h₀) (hh : A.handled = none) (hdp : A.depth ≤ 470) (hun : A.units ≤ 700)
    (ret : ∀ a l1 l2 vs1 vs2 ns1 ns2 k1 k2 h' tk', Fr h₀ L h' m → News h₀ L h' ((a, { cls := .type "tuple", data := .seq #[.ref l1, .ref l2] }) :: (l1, listOf (List.toArray vs1) k1) :: (l2, listOf (List.toArray vs2) k2) :: news) →
      (∀ p ∈ news, p.1 ≠ l1 ∧ p.1 ≠ l2 ∧ p.1 ≠ a) → l1 ≠ l2 → IntsAre vs1 ns1 → IntsAre vs2 ns2 → (∀ c ∈ ns1, OkCode c) → (∀ c ∈ ns2, OkCode c) → ns1.length ≤ 3 → ns2.length ≤ 3 → Q (.ref a) { s with heap := h', toks := tk' }) :
    wpAny (model PySem.Challenge.rw_mq0110_01.row.prog w) A (call (.ref 61) [.int n t]) Q E s := by
  refine weak hh hdp hun ?_
  replace X := X.keeps F.keep
  replace T := T.keeps F.keep
  replace ret : ∀ a l1 l2 vs1 vs2 ns1 ns2 k1 k2 h' tk', s.heap.StaysIn h' → h'.get? a = some { cls := .type "tuple", data := .seq #[.ref l1, .ref l2] } → h'.get? l1 = some (listOf (List.toArray vs1) k1) → h'.get? l2 = some (listOf (List.toArray vs2) k2) →
      s.heap.get? a = none → s.heap.get? l1 = none → s.heap.get? l2 = none → l1 ≠ l2 → IntsAre vs1 ns1 → IntsAre vs2 ns2 → (∀ c ∈ ns1, OkCode c) → (∀ c ∈ ns2, OkCode c) → ns1.length ≤ 3 → ns2.length ≤ 3 → Q (.ref a) { s with heap := h', toks := tk' } := by
    intro a l1 l2 vs1 vs2 ns1 ns2 k1 k2 h' tk' st ha h1 h2 na n1 n2 d i1 i2 o1 o2 z1 z2
    refine ret a l1 l2 vs1 vs2 ns1 ns2 k1 k2 h' tk' (keepF F st) (addN F st ha na (addN F st h1 n1 (addN F st h2 n2 (keepN N st)))) ?_ d i1 i2 o1 o2 z1 z2
    exact fun p hp => ⟨farN N n1 p hp, farN N n2 p hp, farN N na p hp⟩
  clear F N hh hdp hun
  refine enter_defC (binds := [(Str.ofString "draw", Value.int n t)]) X T (by k_is) (by k_is) (by decide) (BindsTo.of_eq rfl) (by rfl) (by decide +kernel) ?_
  intro h₁ tk₁ cells F N Y
  obtain ⟨o, rfl, ho⟩ := CellsAre.one Y
  clear Y
  change o.data = Data.cell none at ho
  have qr := fm (n.fdiv 8) (k := 4) (by omega)
  k_steps
  all_goals (
    refine' pair_end (s := s) (by assumption) (by assumption) ret ?ma ?m1 ?m2 ?d ?i1 ?i2 ?o1 ?o2 ?z1 ?z2
    (case ma => k_mem)
    (case m1 => k_mem)
    (case m2 => k_mem)
    (case d => k_ne)
    (case i1 => first | assumption | (repeat' constructor))
    (case i2 => first | assumption | (repeat' constructor))
    (case o1 => first | exact okTempt _ _ | ((repeat' (first | exact okNil | refine okCons ?_ ?_)) <;> first | assumption | exact temptF_ok _ | (unfold OkCode OkPart; omega)))
    (case o2 => first | exact okTempt _ _ | ((repeat' (first | exact okNil | refine okCons ?_ ?_)) <;> first | assumption | exact temptF_ok _ | (unfold OkCode OkPart; omega)))
    (case z1 => first | exact Nat.le_of_ble_eq_true rfl | (simp only [List.length_map, rangeKs_length]; omega))
    (case z2 => first | exact Nat.le_of_ble_eq_true rfl | (simp only [List.length_map, rangeKs_length]; omega)))
end Mine
end
section
open PySem PySem.W PyProof.Rows PySem.Calls
set_option maxRecDepth 100000
namespace Mine
section
variable {prog : Program} {w : World} {A : Around} {E : Value → Shared → Prop} {s : Shared} {env : Env} {h₀ : Heap} {body : List Stmt} {Q : Flow → Shared → Prop} {x : Str}
def TurnV (h₀ : Heap) (L : Addr) (news : List (Addr × Obj)) (Inv : (Str → Option Value) → Prop) (Q : Flow → Shared → Prop) (s₁ : Shared) (I : Addr) (oI : Obj) (f : Flow) (s₂ : Shared) : Prop :=
  match f with
  | .ret v => Q (.ret v) s₂
  | .brk => Q .next s₂
  | _ => ∃ h' tk m', s₂ = { s₁ with heap := h', toks := tk } ∧ Fr h₀ L h' m' ∧ News h₀ L h' ((I, oI) :: news) ∧ Inv m'
/-- a for over a list of the call's own; the ledger stands; it may leave early -/
theorem for_led {l : Addr} {vs : List Value} {k : Nat} {m₀ : Str → Option Value} {news : List (Addr × Obj)} (Inv : Nat → (Str → Option Value) → Prop)
    (hh : A.handled = none) (hl : (l, listOf vs.toArray k) ∈ news) (F : Fr h₀ env.locals s.heap m₀) (N : News h₀ env.locals s.heap news) (h0 : Inv 0 m₀)
    (turn : ∀ i v m₁ s₁ I oI, (∃ h tk, s₁ = { s with heap := h, toks := tk }) → vs[i]? = some v → Inv i m₁ → (∀ p ∈ news, p.1 ≠ I) → Fr h₀ env.locals s₁.heap (fun y => if y = x then some v else m₁ y) → News h₀ env.locals s₁.heap ((I, oI) :: news) →
      wpAny (model prog w) A (execs body env) (TurnV h₀ env.locals news (Inv (i + 1)) Q s₁ I oI) E s₁)
    (done : ∀ h tk m₁, Inv vs.length m₁ → Fr h₀ env.locals h m₁ → News h₀ env.locals h news → Q .next { s with heap := h, toks := tk }) :
    wpAny (model prog w) A (pyIter (.ref l)) (fun it s₂ => LoopAtV prog w A h₀ env x body Q E it s₂) E s := by
  have zl := N _ hl
  have hls : s.heap.IsList l vs.toArray := ⟨_, zl.1, rfl, _, rfl⟩
  have hlt : l < s.heap.objs.size := Heap.lt_size zl.1
  have hne : l ≠ s.heap.objs.size := Nat.ne_of_lt hlt
  refine wpAny_pyIter_list hls ?_
  have W := Walks.list (prog := prog) (w := w) hh s.heap.objs.size l hne vs.toArray
  have hlen : vs.toArray.size = vs.length := by simp
  rw [hlen] at W
  refine ⟨_, _, _, vs.length, _, _, m₀, news, (fun i m news₁ => news₁ = news ∧ Inv i m), rfl, W, ?_, ?_, ?_, ⟨⟨_, Heap.get?_push_size _ rfl, rfl, rfl⟩, hls.at fun o e => Heap.get?_push_of_some _ e⟩, F.push _,
    (fun p hp => ⟨Heap.get?_push_of_some _ (N p hp).1, (N p hp).2⟩), ⟨rfl, h0⟩, ?_, ?_⟩
  · intro hm
    rcases List.mem_cons.mp hm with e | hm
    · exact absurd F.ns.lt (e ▸ Nat.lt_irrefl _)
    · exact zl.2.1 (List.mem_singleton.mp hm).symm
  · intro b hb
    rw [List.mem_singleton.mp hb]
    exact next_is_new F
  · intro p hp hI
    exact absurd (Heap.lt_size (N p hp).1) ((List.mem_singleton.mp hI) ▸ Nat.lt_irrefl _)
  · rintro i v m₁ news₁ s₁ own ⟨h9, tk9, rfl⟩ hin hP ⟨rfl, hJ⟩ hoff hsub hval hall hst F₁ N₁
    obtain ⟨oI, heI, _⟩ := id hst.1
    have hI₀ := next_is_new F
    have zl₁ := N₁ _ (List.mem_append_right own hl)
    have hown : ∀ p ∈ own, p = (s.heap.objs.size, oI) ∨ p = (l, listOf vs.toArray k) := by
      intro p hp
      have h1 := hval p hp
      rcases List.mem_cons.mp (hsub p hp) with e | e
      · rw [e, heI] at h1
        exact .inl (Prod.ext e (Option.some.inj h1).symm)
      · have e' := List.mem_singleton.mp e
        rw [e', zl₁.1] at h1
        exact .inr (Prod.ext e' (Option.some.inj h1).symm)
    have hmem : (s.heap.objs.size, oI) ∈ own := hall _ (.head _) hI₀ oI heI
    have hoff' : ∀ p ∈ news₁, p.1 ≠ s.heap.objs.size := fun p hp e => hoff p hp (by rw [e]; exact .head _)
    have back : ∀ h', News h₀ env.locals h' ((s.heap.objs.size, oI) :: news₁) → News h₀ env.locals h' (own ++ news₁) := by
      intro h' N' p hp
      rcases List.mem_append.mp hp with hp | hp
      · rcases hown p hp with e | e
        · rw [e]; exact N' _ (.head _)
        · rw [e]; exact N' _ (.tail _ hl)
      · exact N' _ (.tail _ hp)
    refine wpAny_mono (turn i v m₁ { s with heap := h9, toks := tk9 } s.heap.objs.size oI ⟨_, _, rfl⟩ (by simpa using hP) hJ hoff' F₁ (fun p hp => ?_)) (fun f s₂ h₂ => ?_) fun _ _ e => e
    · rcases List.mem_cons.mp hp with rfl | hp
      · exact N₁ _ (List.mem_append_left _ hmem)
      · exact N₁ _ (List.mem_append_right _ hp)
    · cases f with
      | ret v => exact .ret h₂
      | brk => exact .brk h₂
      | next =>
        obtain ⟨h', tk, m', e, F', N', hJ'⟩ := h₂
        exact .next ⟨rfl, h', tk, m', news₁, e, F', back h' N', hoff, rfl, hJ'⟩
      | cont =>
        obtain ⟨h', tk, m', e, F', N', hJ'⟩ := h₂
        exact .cont ⟨rfl, h', tk, m', news₁, e, F', back h' N', hoff, rfl, hJ'⟩
  · rintro h' tk m' news' F' N' _ ⟨rfl, hJ⟩
    exact done h' tk m' hJ F' N'
theorem mapStart (m : Str → Option Value) (a b : Str) : m = fun y => if y = a then m a else if y = b then m b else m y := by
  funext y
  by_cases h1 : y = a
  · rw [if_pos h1, h1]
  · rw [if_neg h1]
    by_cases h2 : y = b
    · rw [if_pos h2, h2]
    · rw [if_neg h2]
/-- the same where two names turn, a and b, and what a holds is told -/
theorem for_led2 {l : Addr} {vs : List Value} {k : Nat} {m₀ : Str → Option Value} {news : List (Addr × Obj)} (a b : Str) (J : Nat → Option Value → Prop)
    (hh : A.handled = none) (hl : (l, listOf vs.toArray k) ∈ news) (F : Fr h₀ env.locals s.heap m₀) (N : News h₀ env.locals s.heap news) (h0 : J 0 (m₀ a))
    (turn : ∀ i v p u s₁ I oI, (∃ h tk, s₁ = { s with heap := h, toks := tk }) → vs[i]? = some v → J i p → (∀ p ∈ news, p.1 ≠ I) → Fr h₀ env.locals s₁.heap (fun y => if y = x then some v else if y = a then p else if y = b then u else m₀ y) → News h₀ env.locals s₁.heap ((I, oI) :: news) →
      wpAny (model prog w) A (execs body env) (TurnV h₀ env.locals news (fun m' => ∃ p u, m' = (fun y => if y = a then p else if y = b then u else m₀ y) ∧ J (i + 1) p) Q s₁ I oI) E s₁)
    (done : ∀ h tk p u, J vs.length p → Fr h₀ env.locals h (fun y => if y = a then p else if y = b then u else m₀ y) → News h₀ env.locals h news → Q .next { s with heap := h, toks := tk }) :
    wpAny (model prog w) A (pyIter (.ref l)) (fun it s₂ => LoopAtV prog w A h₀ env x body Q E it s₂) E s := by
  refine for_led (fun i m' => ∃ p u, m' = (fun y => if y = a then p else if y = b then u else m₀ y) ∧ J i p) hh hl F N ⟨_, _, mapStart m₀ a b, h0⟩ ?_ ?_
  · rintro i v m₁ s₁ I oI hs hv ⟨p, u, rfl, hJ⟩ hI F₁ N₁
    exact turn i v p u s₁ I oI hs hv hJ hI F₁ N₁
  · rintro h tk m₁ ⟨p, u, rfl, hJ⟩ F₁ N₁
    exact done h tk p u hJ F₁ N₁
end
end Mine
end
section
open PySem PySem.W PyProof.Rows PySem.Calls
set_option maxRecDepth 100000
set_option maxHeartbeats 4000000
namespace Mine
theorem filled4 : True := by
  w_top off
  trivial
def partsF (ns : List Int) : List Int := ns.flatMap fun c => if c > 127 then [33, c.fmod 128] else [c]
theorem partsF_length (ns : List Int) : (partsF ns).length ≤ 2 * ns.length := by
  induction ns with
  | nil => simp [partsF]
  | cons n r ih =>
    unfold partsF at ih ⊢
    rw [List.flatMap_cons, List.length_append, List.length_cons]
    split <;> simp only [List.length_cons, List.length_nil] <;> omega
theorem partsF_snoc (ns : List Int) (c : Int) : partsF (ns ++ [c]) = partsF ns ++ (if 127 < c then [33, c.fmod 128] else [c]) := by
  unfold partsF
  rw [List.flatMap_append, List.flatMap_cons, List.flatMap_nil, List.append_nil]
theorem ints_app {vs vs' : List Value} {ns ns' : List Int} (h : IntsAre vs ns) (h' : IntsAre vs' ns') : IntsAre (vs ++ vs') (ns ++ ns') := by
  induction h with
  | nil => exact h'
  | cons n t _ ih => exact .cons n t ih
section
local macro_rules | `(tactic| walk_at "exec For Name Name cons nil") => `(tactic| (k_here; (rename Fr _ _ _ _ => lF'); (with_unfolding_all refine' For_invVF lF' ?k1 ?k2 ?_; (case k1 => exact rfl); (case k2 => exact rfl); k_whole)))
local macro_rules | `(tactic| walk_at "pyIter ref") => `(tactic| refine Halt.of ?_)
local macro_rules | `(tactic| walk_at "inplaceOp") => `(tactic| (k_here; (with_reducible show wpAny _ _ (inplaceOp Operator.Add (Value.ref _) (Value.ref _)) _ _ _); k_dflt (refine' iadd_K ?F ?N ?b ?U ?z ?_; (case F => k_asm); (case N => k_asm); (case b => k_mem); (case U => k_updF); (case z => first | assumption | (simp only [List.length_append, List.length_cons, List.length_nil]; omega)); k_whole); intro h' n' F' N'; (try dsimp only at N'); (try k_sweep)))
theorem parts_call {w : World} {A : Around} {s s₀ : Shared} {mg mb : Str → Option Value} {E Q : Value → Shared → Prop} {h₀ : Heap} {L : Addr} {m : Str → Option Value} {news : List (Addr × Obj)} {l : Addr} {vs : List Value} {ns : List Int}
    (F : Fr h₀ L s.heap m) (N : News h₀ L s.heap news) (X : (hd.heap_39 w.params).In h₀) (T : Top hd.view_39 (looseW hd.view_39 []) (ExcName.means s₀.heap) mg mb h₀) (hh : A.handled = none) (hdp : A.depth ≤ 490) (hun : A.units ≤ 900) (hl : s.heap.IsList l vs.toArray) (hi : IntsAre vs ns) (hlen : ns.length ≤ 1000)
    (ret : ∀ a vs' k h' tk', Fr h₀ L h' m → News h₀ L h' ((a, listOf (List.toArray vs') k) :: news) → (∀ p ∈ news, p.1 ≠ a) → IntsAre vs' (partsF ns) → Q (.ref a) { s with heap := h', toks := tk' }) :
    wpAny (model PySem.Challenge.rw_mq0110_01.row.prog w) A (call (.ref 68) [.ref l]) Q E s := by
  refine weak hh hdp hun ?_
  replace X := X.keeps F.keep
  replace T := T.keeps F.keep
  replace ret : ∀ a vs' k h' tk', s.heap.StaysIn h' → h'.get? a = some (listOf (List.toArray vs') k) → s.heap.get? a = none → IntsAre vs' (partsF ns) → Q (.ref a) { s with heap := h', toks := tk' } :=
    fun a vs' k h' tk' st ha na i => ret a vs' k h' tk' (keepF F st) (addN F st ha na (keepN N st)) (farN N na) i
  clear F N hh hdp hun
  refine enter_def (binds := [(Str.ofString "codes", Value.ref l)]) X T (by k_is) (by k_is) (by decide) (BindsTo.of_eq rfl) (locs rfl) ?_
  intro h₁ F N
  k_steps
  refine Halt.mk ?_
  rename_i l' _ _ h' F' N'
  refine kst_list (σ := List Value × Nat) (fun c => [(l', listOf c.1.toArray c.2)]) (fun c => [(Str.ofString "parts", .ref l')]) (fun _ => True) [] (fun pre c => IntsAre c.1 (partsF pre)) ([], 0)
    rfl hl hi F' N' trivial ?_ .nil ?_ ?_
  · intro p hp
    rcases List.mem_singleton.mp hp with rfl
    rfl
  · intro c pre post n t u h tk own e hmem hoff _ hP F₁ N₁
    obtain ⟨cv, cn⟩ := c
    clear F' N'
    dsimp only [List.cons_append, List.nil_append, List.map_cons, List.map_nil] at F₁ N₁ hoff hP
    have hz1 := hP.length
    have hz2 := partsF_length pre
    have hz3 : pre.length ≤ 1000 := by have := congrArg List.length e; simp at this; omega
    k_steps
    all_goals (
      exact invEnd (nx := [(l', listOf (List.toArray _) _)]) rfl (by assumption) (by assumption) (by exact List.forall_mem_singleton.mpr (by k_mem))
        (by exact fun p hp => List.mem_cons_of_mem _ (List.mem_cons_of_mem _ hp)) (by rfl) ⟨(_, _), by rfl, trivial, (by exact List.forall_mem_singleton.mpr rfl),
        (by
          intro z z1 z2 _
          have z3 := z2 _ (List.mem_singleton.mpr rfl)
          dsimp only at z3
          simp only [kstB, if_neg z1, if_neg z3]
          rfl),
        (by
          dsimp only
          rw [partsF_snoc]
          first
            | (rw [if_pos (by assumption)]; exact ints_app hP (.cons _ _ (.cons _ _ .nil)))
            | (rw [if_neg (by assumption)]; exact ints_app hP (.cons _ _ .nil)))⟩)
  · intro c u h tk _ hP F₁ N₁
    obtain ⟨cv, cn⟩ := c
    dsimp only [List.cons_append, List.nil_append, List.map_cons, List.map_nil] at F₁ N₁ hP
    clear F' N'
    k_steps
    all_goals exact ret _ _ _ _ _ F₁.keep (N₁.get (.head _)) (N₁.fresh (.head _)) hP
end
end Mine
end
section
open PySem PySem.W PyProof.Rows PySem.Calls
set_option maxRecDepth 100000
set_option maxHeartbeats 4000000
namespace Mine
section
variable {prog : Program} {w : World} {A : Around} {E : Value → Shared → Prop} {s : Shared} {env : Env} {h₀ : Heap} {body : List Stmt} {Q : Flow → Shared → Prop} {elts : List PySem.Expr} {x1 : Nat} {tpos : Pos}
def TurnE {σ : Type} (h₀ : Heap) (L : Addr) (Led : σ → List (Addr × Obj)) (Inv : σ → (Str → Option Value) → Prop) (s₁ : Shared) (e it : Addr) (oe oit : Obj) (f : Flow) (s₂ : Shared) : Prop :=
  f = .next ∧ ∃ h' tk m' c, s₂ = { s₁ with heap := h', toks := tk } ∧ Fr h₀ L h' m' ∧ News h₀ L h' ((e, oe) :: (it, oit) :: Led c) ∧ (∀ p ∈ Led c, p.1 ≠ e ∧ p.1 ≠ it) ∧ Inv c m'
theorem for_enum {σ : Type} {l : Addr} {vs : List Value} {k : Nat} {m₀ : Str → Option Value} (Led : σ → List (Addr × Obj)) (Inv : Nat → σ → (Str → Option Value) → Prop) (c₀ : σ)
    (hh : A.handled = none) (hl : ∀ c, (l, listOf vs.toArray k) ∈ Led c) (F : Fr h₀ env.locals s.heap m₀) (N : News h₀ env.locals s.heap (Led c₀)) (h0 : Inv 0 c₀ m₀)
    (turn : ∀ i v t T e it oe oit c m₁ h tk, vs[i]? = some v → Inv i c m₁ → (∀ p ∈ Led c, p.1 ≠ e ∧ p.1 ≠ it ∧ p.1 ≠ T) → @Ne Nat T e → @Ne Nat T it → @Ne Nat e it → Fr h₀ env.locals h m₁ →
      News h₀ env.locals h ((T, { cls := .type "tuple", data := .seq #[.int (i : Int) t, v] }) :: (e, oe) :: (it, oit) :: Led c) →
      wpAny (model prog w) A (assign (.Tuple elts x1 tpos) env (.ref T)) (fun _ s₃ => wpAny (model prog w) A (execs body env) (TurnE h₀ env.locals Led (Inv (i + 1)) { s with heap := h, toks := tk } e it oe oit) E s₃) E { s with heap := h, toks := tk })
    (done : ∀ h tk m₁ c, Inv vs.length c m₁ → Fr h₀ env.locals h m₁ → News h₀ env.locals h (Led c) → Q .next { s with heap := h, toks := tk })
    (hE : PassesOwn (model prog w) A env E := by passes_own) :
    wpAny (model prog w) A (call (.type "enumerate") [.ref l]) (fun xv s₁ => wpAny (model prog w) A (pyIter xv) (fun it s₂ =>
      codeAny (model prog w) A (.forLoop (.Tuple elts x1 tpos) it body [] env) (fun r s' => match r with | .ok f => Q f s' | .error e => cameBackBy (model prog w) A env E e s') s₂) E s₁) E s := by
  have zl := N _ (hl c₀)
  have hls : s.heap.IsList l vs.toArray := ⟨_, zl.1, rfl, _, rfl⟩
  have hlt : l < s.heap.objs.size := Heap.lt_size zl.1
  have hLlt : env.locals < s.heap.objs.size := F.ns.lt
  refine call_enumerate_list hls fun h₁ he₁ hit₁ hsz₁ hk₁ => ?_
  refine wpAny_pyIter_enum he₁ ?_
  generalize hi : s.heap.objs.size = it at *
  have hLi : env.locals ≠ it := Nat.ne_of_lt hLlt
  have hLe : env.locals ≠ it + 1 := Nat.ne_of_lt (Nat.lt_succ_of_lt hLlt)
  have fresh : ∀ a, it ≤ a → h₀.get? a = none := fun a ha => by
    cases q : h₀.get? a with
    | none => rfl
    | some o => have := Heap.lt_size (F.keep a o q); rw [hi] at this; exact absurd this (Nat.not_lt.mpr ha)
  have hi₀ := fresh it (Nat.le_refl _)
  have he₀ := fresh (it + 1) (Nat.le_succ _)
  have off₀ : ∀ p ∈ Led c₀, p.1 ≠ it + 1 ∧ p.1 ≠ it := fun p hp => by
    have := Heap.lt_size (N p hp).1
    rw [hi] at this
    exact ⟨Nat.ne_of_lt (Nat.lt_succ_of_lt this), Nat.ne_of_lt this⟩
  refine codeAny_forLoop_any
    (fun k s' => ∃ h' tk m' c i old, s' = { s with heap := h', toks := tk } ∧ IsEnum h' (it + 1) it ((i : Nat) : Int) old ∧ h'.IsListIter it l i ∧ Fr h₀ env.locals h' m' ∧ News h₀ env.locals h' (Led c) ∧ (∀ p ∈ Led c, p.1 ≠ it + 1 ∧ p.1 ≠ it) ∧ Inv i c m' ∧ i ≤ vs.length ∧ k = vs.length + 1 - i) ?_ (vs.length + 1)
    ⟨h₁, s.toks, m₀, c₀, 0, .none, rfl, he₁, hit₁, F.keeps hk₁, keepN N hk₁, off₀, h0, Nat.zero_le _, rfl⟩
  rintro k' s' ⟨h', tk, m', c, i, old, rfl, he, hit, F', N', hoff, hJ, hile, rfl⟩
  have hL' : h'.IsList l vs.toArray := ⟨_, N'.get (hl c), rfl, _, rfl⟩
  have hlne := hoff _ (hl c)
  have hne : it + 1 ≠ it := Nat.succ_ne_self _
  by_cases hlt' : i < vs.length
  · have hx : vs.toArray[i]? = some vs[i] := by simp [hlt']
    refine wpAny_pyNext_enum_item he hit hL' hx hne fun h₂ ho₂ hit₂ hT₂ hsz₂ hk₂ => ?_
    refine wpAny_letOwnedTupleGo_enum ho₂ fun h₃ he₃ hs₃ => ?_
    have hTe : h'.objs.size ≠ it + 1 := Nat.ne_of_gt (Heap.lt_size he)
    have hTi : h'.objs.size ≠ it := by obtain ⟨_, q, _⟩ := hit; exact Nat.ne_of_gt (Heap.lt_size q)
    have up : ∀ b o, b ≠ it + 1 → b ≠ it → h'.get? b = some o → h₃.get? b = some o := fun b o b1 b2 q => hs₃.extBut b o b1 (hk₂ b o b1 b2 q)
    have F₃ : Fr h₀ env.locals h₃ m' := ⟨F'.ns.at' fun o q => up _ o hLe hLi q, fun b o q => up b o (fun q' => by rw [q', he₀] at q; cases q) (fun q' => by rw [q', hi₀] at q; cases q) (F'.keep b o q), F'.above⟩
    obtain ⟨oit, hoit, hoit'⟩ := hit₂
    obtain ⟨oe, hoe, hoe'⟩ : ∃ oe, h₃.get? (it + 1) = some oe ∧ ∀ h'' : Heap, h''.get? (it + 1) = some oe → IsEnum h'' (it + 1) it ((i : Int) + 1) vs[i] := ⟨_, he₃, fun _ q => q⟩
    have hoit₃ : h₃.get? it = some oit := hs₃.extBut _ _ (Ne.symm hne) hoit
    have hT₀ : h₀.get? h'.objs.size = none := by
      cases q : h₀.get? h'.objs.size with
      | none => rfl
      | some o => exact absurd (Heap.lt_size (F'.keep _ o q)) (Nat.lt_irrefl _)
    have hTL : h'.objs.size ≠ env.locals := Nat.ne_of_gt F'.ns.lt
    have N₃ : News h₀ env.locals h₃ ((h'.objs.size, { cls := .type "tuple", data := .seq #[.int (i : Int) tk, vs[i]] }) :: (it + 1, oe) :: (it, oit) :: Led c) := by
      intro p hp
      rcases List.mem_cons.mp hp with rfl | hp
      · exact ⟨hs₃.extBut _ _ hTe hT₂, hTL, hT₀⟩
      rcases List.mem_cons.mp hp with rfl | hp
      · exact ⟨hoe, Ne.symm hLe, he₀⟩
      rcases List.mem_cons.mp hp with rfl | hp
      · exact ⟨hoit₃, Ne.symm hLi, hi₀⟩
      · exact ⟨up _ _ (hoff p hp).1 (hoff p hp).2 (N' p hp).1, (N' p hp).2⟩
    have offT : ∀ p ∈ Led c, p.1 ≠ it + 1 ∧ p.1 ≠ it ∧ p.1 ≠ h'.objs.size := fun p hp => ⟨(hoff p hp).1, (hoff p hp).2, Nat.ne_of_lt (Heap.lt_size (N' p hp).1)⟩
    refine wpAny_passesOwn hE (wpAny_mono (turn i vs[i] tk h'.objs.size (it + 1) it oe oit c m' h₃ (tk + 1) (by simp [hlt']) hJ offT hTe hTi hne F₃ N₃) (fun _ s₃ h₃' => wpAny_passesOwn hE (wpAny_mono h₃' (fun f s₄ h₄ => ?_) fun _ _ e => e)) fun _ _ e => e)
    obtain ⟨rfl, h₄', tk₄, m₄, c₄, e₄, F₄, N₄, off₄, hJ₄⟩ := h₄
    refine ⟨vs.length + 1 - (i + 1), by omega, h₄', tk₄, m₄, c₄, i + 1, vs[i], e₄, ?_, ⟨oit, (N₄ _ (.tail _ (.head _))).1, hoit'⟩, F₄, fun p hp => N₄ p (.tail _ (.tail _ hp)), off₄, hJ₄, hlt', rfl⟩
    simpa using hoe' _ (N₄ _ (.head _)).1
  · have hin : i = vs.length := by omega
    subst hin
    refine wpAny_pyNext_enum_end hh he hit hL' (by simp) fun h₂ hk₂ => wpAny_execs_nil ?_
    have up : ∀ b o, b ≠ it → h'.get? b = some o → h₂.get? b = some o := fun b o b2 q => hk₂ b o b2 q
    have F₃ : Fr h₀ env.locals h₂ m' := ⟨F'.ns.at' fun o q => up _ o hLi q, fun b o q => up b o (fun q' => by rw [q', hi₀] at q; cases q) (F'.keep b o q), F'.above⟩
    exact done h₂ tk m' c hJ F₃ fun p hp => ⟨up _ _ (hoff p hp).2 (N' p hp).1, (N' p hp).2⟩
/-- a for over a list of the call's own, one name, a ledger that turns -/
theorem for_ledS {σ : Type} {target : PySem.Expr} {l : Addr} {vs : List Value} {k : Nat} {m₀ : Str → Option Value} (Led : σ → List (Addr × Obj)) (Inv : Nat → σ → (Str → Option Value) → Prop) (c₀ : σ)
    (hh : A.handled = none) (hl : ∀ c, (l, listOf vs.toArray k) ∈ Led c) (F : Fr h₀ env.locals s.heap m₀) (N : News h₀ env.locals s.heap (Led c₀)) (h0 : Inv 0 c₀ m₀)
    (turn : ∀ i v c m₁ s₁ I oI, vs[i]? = some v → Inv i c m₁ → (∀ p ∈ Led c, p.1 ≠ I) → Fr h₀ env.locals s₁.heap m₁ → News h₀ env.locals s₁.heap ((I, oI) :: Led c) →
      wpAny (model prog w) A (assign target env v) (fun _ s₃ => wpAny (model prog w) A (execs body env) (TurnEnd h₀ env.locals Led (Inv (i + 1)) s₁ I oI) E s₃) E s₁)
    (done : ∀ h tk m₁ c, Inv vs.length c m₁ → Fr h₀ env.locals h m₁ → News h₀ env.locals h (Led c) → Q .next { s with heap := h, toks := tk }) :
    wpAny (model prog w) A (pyIter (.ref l)) (fun it s₂ => LoopAtT prog w A h₀ env target body Q E it s₂) E s := by
  have zl := N _ (hl c₀)
  have hls : s.heap.IsList l vs.toArray := ⟨_, zl.1, rfl, _, rfl⟩
  have hlt : l < s.heap.objs.size := Heap.lt_size zl.1
  have hne : l ≠ s.heap.objs.size := Nat.ne_of_lt hlt
  refine wpAny_pyIter_list hls ?_
  have W := Walks.list (prog := prog) (w := w) hh s.heap.objs.size l hne vs.toArray
  have hlen : vs.toArray.size = vs.length := by simp
  rw [hlen] at W
  refine ⟨_, _, _, vs.length, _, _, m₀, Led c₀, (fun i m news => ∃ c, news = Led c ∧ Inv i c m), rfl, W, ?_, ?_, ?_, ⟨⟨_, Heap.get?_push_size _ rfl, rfl, rfl⟩, hls.at fun o e => Heap.get?_push_of_some _ e⟩, F.push _,
    (fun p hp => ⟨Heap.get?_push_of_some _ (N p hp).1, (N p hp).2⟩), (fun i s' v Q' st hQ' => letGo_listiter st.1 hQ'), ⟨c₀, rfl, h0⟩, ?_, ?_⟩
  · intro hm
    rcases List.mem_cons.mp hm with e | hm
    · exact absurd F.ns.lt (e ▸ Nat.lt_irrefl _)
    · exact zl.2.1 (List.mem_singleton.mp hm).symm
  · intro b hb
    rw [List.mem_singleton.mp hb]
    exact next_is_new F
  · intro p hp hI
    exact absurd (Heap.lt_size (N p hp).1) ((List.mem_singleton.mp hI) ▸ Nat.lt_irrefl _)
  · rintro i v m₁ news₁ s₁ own hin hP ⟨c, rfl, hJ⟩ hoff hsub hval hall hst F₁ N₁
    obtain ⟨oI, heI, _⟩ := id hst.1
    have hI₀ := next_is_new F
    have zl₁ := N₁ _ (List.mem_append_right own (hl c))
    have hown : ∀ p ∈ own, p = (s.heap.objs.size, oI) ∨ p = (l, listOf vs.toArray k) := by
      intro p hp
      have h1 := hval p hp
      rcases List.mem_cons.mp (hsub p hp) with e | e
      · rw [e, heI] at h1
        exact .inl (Prod.ext e (Option.some.inj h1).symm)
      · have e' := List.mem_singleton.mp e
        rw [e', zl₁.1] at h1
        exact .inr (Prod.ext e' (Option.some.inj h1).symm)
    have hmem : (s.heap.objs.size, oI) ∈ own := hall _ (.head _) hI₀ oI heI
    have hoff' : ∀ p ∈ Led c, p.1 ≠ s.heap.objs.size := fun p hp e => hoff p hp (by rw [e]; exact .head _)
    refine wpAny_mono (turn i v c m₁ s₁ s.heap.objs.size oI (by simpa using hP) hJ hoff' F₁ (fun p hp => ?_)) (fun _ s₃ h₃ => wpAny_mono h₃ (fun f s₂ h₂ => ?_) fun _ _ e => e) fun _ _ e => e
    · rcases List.mem_cons.mp hp with rfl | hp
      · exact N₁ _ (List.mem_append_left _ hmem)
      · exact N₁ _ (List.mem_append_right _ hp)
    · obtain ⟨rfl, h', tk, m', c', e, F', N', hoff'', hJ'⟩ := h₂
      refine ⟨rfl, h', tk, m', Led c', e, F', fun p hp => ?_, fun p hp hI => hoff'' p hp (List.mem_singleton.mp hI), c', rfl, hJ'⟩
      rcases List.mem_append.mp hp with hp | hp
      · rcases hown p hp with e | e
        · rw [e]; exact N' _ (.head _)
        · rw [e]; exact N' _ (.tail _ (hl c'))
      · exact N' _ (.tail _ hp)
  · rintro h' tk m' news' F' N' _ ⟨c, rfl, hJ⟩
    exact done h' tk m' c hJ F' N'
end
section
open PyProof.Rows.LCg
variable {prog : Program} {w : World} {A : Around} {E : Value → Shared → Prop} {s : Shared} {h₀ : Heap} {L : Addr} {m : Str → Option Value} {env : Env}
/-- a comprehension over enumerate(xs), xs of the call's own: behind the call of enumerate -/
theorem comp_enum {elt iter : PySem.Expr} {a b : Str} {pa pb tp : Pos} {kk : Nat} {scope : Scope} {cl : List (Str × Addr)} {pos : Pos} {Q : Value → Shared → Prop} {l : Addr} {vs : List Value} {kl : Nat} {news : List (Addr × Obj)} (G : Nat → Value → Prop)
    (hh : A.handled = none) (hl : (l, listOf vs.toArray kl) ∈ news) (F : Fr h₀ L s.heap m) (N : News h₀ L s.heap news) (hsz : vs.length ≤ 100000)
    (hcell : ∀ y ∈ scope.names, y.2 ≠ .cell) (hkind : scope.kind = .function) (hxa : scope.names.lookup a = some .local) (hxb : scope.names.lookup b = some .local) (hab : ¬ a = b)
    (turn : ∀ (i : Nat) v t e oe C oC D it oit m₂ h tk ys (E' : Value → Shared → Prop), vs[i]? = some v → NsObj oC m₂ → m₂ a = some (.int (i : Int) t) → m₂ b = some v → Fr h₀ L h m → News h₀ L h ((e, oe) :: (C, oC) :: (D, lst ys) :: (it, oit) :: news) → Off3 e C D ((it, oit) :: news) → ((@Ne Nat e C) ∧ (@Ne Nat e D) ∧ (@Ne Nat C D)) →
      wpAny (model prog w) A (eval elt (compEnvC scope cl C env)) (CompEnd h₀ L m { s with heap := h, toks := tk } e oe C oC D (lst ys) (fun _ => True) (fun y news' => news' = (it, oit) :: news ∧ G i y)) E' { s with heap := h, toks := tk })
    (fin : ∀ D h tk ys, ys.length = vs.length → (∀ i y, ys[i]? = some y → G i y) → Fr h₀ L h m → News h₀ L h ((D, lst ys) :: news) → Off1 D news → Q (.ref D) { s with heap := h, toks := tk }) :
    wpAny (model prog w) A (call (.type "enumerate") [.ref l]) (fun xv s₁ => wpAny (model prog w) A (pyIter xv) (fun it s₂ => wpAny (model prog w) A (newList []) (fun acc s₃ =>
      wpAny (model prog w) A (newFunctionEnv scope env.globals cl [] env.qual none .none (some env)) (fun cenv s₄ =>
        codeAny (model prog w) A (.compStart (.ListComp elt [⟨.Tuple [.Name a pa, .Name b pb] kk tp, iter, [], 0⟩] scope pos) 0 it acc { cenv with scope := relabel scope env }) (compPost (model prog w) A E none Q acc cenv.locals) s₄) E s₃) E s₂) E s₁) E s := by
  have zl := N _ hl
  have hls : s.heap.IsList l vs.toArray := ⟨_, zl.1, rfl, _, rfl⟩
  have hLlt : @LT.lt Nat _ L s.heap.objs.size := F.ns.lt
  refine call_enumerate_list hls fun g₁ he₁ hit₁ hsz₁ hk₁ => ?_
  refine wpAny_pyIter_enum he₁ ?_
  generalize hi : s.heap.objs.size = it at *
  have hLi : L ≠ it := Nat.ne_of_lt hLlt
  have hLe : L ≠ it + 1 := Nat.ne_of_lt (Nat.lt_succ_of_lt hLlt)
  have hei : it + 1 ≠ it := Nat.succ_ne_self _
  have fresh : ∀ a, it ≤ a → h₀.get? a = none := fun a ha => by
    cases q : h₀.get? a with
    | none => rfl
    | some o => have := Heap.lt_size (F.keep a o q); rw [hi] at this; exact absurd this (Nat.not_lt.mpr ha)
  have hi₀ := fresh it (Nat.le_refl _)
  have he₀ := fresh (it + 1) (Nat.le_succ _)
  have blw : ∀ p ∈ news, @LT.lt Nat _ p.1 it := fun p hp => by have := Heap.lt_size (N p hp).1; rwa [hi] at this
  refine wpAny_newObj_type (wpAny_newFunctionEnv hcell (by intro y hy; simp at hy) (fun h₁ hns₁ hsb₁ => ?_) hkind)
  dsimp only at hns₁ hsb₁ ⊢
  generalize hH2 : g₁.push { cls := .type "list", dict := none, data := .seq ([] : List Value).toArray } = H2 at hns₁ hsb₁ ⊢
  have hC : H2.objs.size = it + 3 := by rw [← hH2, Heap.size_push, hsz₁]
  rw [hC] at hns₁ hsb₁ ⊢
  have hDsz : g₁.objs.size = it + 2 := hsz₁
  rw [hDsz]
  have old : ∀ (b : Nat) o, @LT.lt Nat _ b (it + 2) → g₁.get? b = some o → h₁.get? b = some o := fun b o hb q => hsb₁.extBut b o (neN (by omega)) (Heap.get?_push_of_some _ (hH2 ▸ Heap.get?_push_of_some _ q))
  have hacc : h₁.get? (it + 2) = some (lst []) := hsb₁.extBut _ _ (neN (by omega)) (Heap.get?_push_of_some _ (hH2 ▸ hDsz ▸ Heap.get?_push_size _ rfl))
  have hD₀ := fresh (it + 2) (by omega)
  have hC₀ := fresh (it + 3) (by omega)
  have hDL : it + 2 ≠ L := neN (by omega)
  have hCL : it + 3 ≠ L := neN (by omega)
  have hsl : sizeLine = 16777216 := by decide +kernel
  have keep₁ : ∀ b o, s.heap.get? b = some o → h₁.get? b = some o := fun b o q => old b o (by have h9 : @LT.lt Nat _ b s.heap.objs.size := Heap.lt_size q; omega) (hk₁ b o q)
  have he₁' : IsEnum h₁ (it + 1) it 0 .none := old _ _ (by omega) he₁
  have hit₁' : h₁.IsListIter it l 0 := hit₁.at fun o q => old _ _ (by omega) q
  have loop : ∀ s₃ : Shared, s₃ = { s with heap := h₁, toks := s.toks + ([] : List (Str × Value)).length } →
      codeAny (model prog w) A (.compLoop (.ListComp elt [⟨.Tuple [.Name a pa, .Name b pb] kk tp, iter, [], 0⟩] scope pos) 0 (.ref (it + 1)) (.ref (it + 2)) (compEnvC scope cl (it + 3) env))
        (compPost (model prog w) A E none Q (.ref (it + 2)) (it + 3)) s₃ := by
    rintro s₃ rfl
    refine PyProof.Rows.LCp.codeAny_compLoop_pair
      (fun k s' => ∃ h' tk i ys m' oldv, s' = { s with heap := h', toks := tk } ∧ i ≤ vs.length ∧ k = vs.length + 1 - i ∧ ys.length = i ∧ IsEnum h' (it + 1) it ((i : Nat) : Int) oldv ∧ h'.IsListIter it l i ∧ Fr h₀ L h' m ∧ h'.Ns (it + 3) m' ∧
        News h₀ L h' ((it + 2, lst ys) :: news) ∧ (∀ (j : Nat) y, ys[j]? = some y → G j y)) ?_ (vs.length + 1)
      ⟨h₁, _, 0, [], _, .none, rfl, Nat.zero_le _, rfl, rfl, he₁', hit₁', F.keeps keep₁, hns₁, fun p hp => ?_, fun j y hj => by simp at hj⟩
    · rintro k s' ⟨h', tk, i, ys, m', oldv, rfl, hile, rfl, hyl, he, hit, F', hn', N', hG⟩
      have hL' : h'.IsList l vs.toArray := ⟨_, N'.get (.tail _ hl), rfl, _, rfl⟩
      by_cases hlt : i < vs.length
      · have hx : vs.toArray[i]? = some vs[i] := by simp [hlt]
        refine wpAny_pyNext_enum_item he hit hL' hx hei fun h₂ ho₂ hit₂ hT₂ hsz₂ hk₂ => ?_
        refine wpAny_letOwnedTupleGo_enum ho₂ fun h₃ he₃ hs₃ => ?_
        have hTe : h'.objs.size ≠ it + 1 := Nat.ne_of_gt (Heap.lt_size he)
        have up : ∀ c o, c ≠ it + 1 → c ≠ it → h'.get? c = some o → h₃.get? c = some o := fun c o b1 b2 q => hs₃.extBut c o b1 (hk₂ c o b1 b2 q)
        have hn₃ : h₃.Ns (it + 3) m' := hn'.at' fun o q => up _ o (neN (by omega)) (neN (by omega)) q
        have hT₃ : h₃.IsTuple h'.objs.size #[.int (i : Int) tk, vs[i]] := ⟨_, hs₃.extBut _ _ hTe hT₂, rfl, _, rfl⟩
        refine kcp_assign (env := compEnvC scope cl (it + 3) env) hh hT₃ (lookup_relabel_local hxa) (lookup_relabel_local hxb) (by simp [compEnvC, relabel, hkind]) hn₃ fun h₄ tk₄ hn₄ hk₄ => ?_
        have hk₄' : ∀ c o, c ≠ it + 3 → h₃.get? c = some o → h₄.get? c = some o := hk₄
        obtain ⟨oC, heC, hoC⟩ := ns_obj hn₄
        obtain ⟨oit, hoit, hoit'⟩ := hit₂
        have hoit₄ : h₄.get? it = some oit := hk₄' _ _ (neN (by omega)) (hs₃.extBut _ _ (Ne.symm hei) hoit)
        obtain ⟨oe, hoe, hoe'⟩ : ∃ oe, h₄.get? (it + 1) = some oe ∧ ∀ h'' : Heap, h''.get? (it + 1) = some oe → IsEnum h'' (it + 1) it ((i : Int) + 1) vs[i] := ⟨_, hk₄' _ _ (neN (by omega)) he₃, fun _ q => q⟩
        have up₄ : ∀ c o, c ≠ it + 1 → c ≠ it → c ≠ it + 3 → h'.get? c = some o → h₄.get? c = some o := fun c o b1 b2 b3 q => hk₄' c o b3 (up c o b1 b2 q)
        have F₄ : Fr h₀ L h₄ m := ⟨F'.ns.at' fun o q => up₄ _ o hLe hLi (Ne.symm hCL) q, fun c o q => up₄ c o (fun q' => by rw [q', he₀] at q; cases q) (fun q' => by rw [q', hi₀] at q; cases q) (fun q' => by rw [q', hC₀] at q; cases q) (F'.keep c o q), F'.above⟩
        have N₄ : News h₀ L h₄ ((it + 1, oe) :: (it + 3, oC) :: (it + 2, lst ys) :: (it, oit) :: news) := by
          intro p hp
          rcases List.mem_cons.mp hp with rfl | hp
          · exact ⟨hoe, Ne.symm hLe, he₀⟩
          rcases List.mem_cons.mp hp with rfl | hp
          · exact ⟨heC, hCL, hC₀⟩
          rcases List.mem_cons.mp hp with rfl | hp
          · exact ⟨up₄ _ _ (neN (by omega)) (neN (by omega)) (neN (by omega)) (N' _ (.head _)).1, hDL, hD₀⟩
          rcases List.mem_cons.mp hp with rfl | hp
          · exact ⟨hoit₄, Ne.symm hLi, hi₀⟩
          · have hb := blw p hp
            exact ⟨up₄ _ _ (Nat.ne_of_lt (Nat.lt_succ_of_lt hb)) (Nat.ne_of_lt hb) (neN (by omega)) (N' p (.tail _ hp)).1, (N' p (.tail _ hp)).2⟩
        have off : Off3 (it + 1) (it + 3) (it + 2) ((it, oit) :: news) := Off3.of fun p hp => by
          rcases List.mem_cons.mp hp with rfl | hp
          · exact ⟨neN (by omega), neN (by omega), neN (by omega)⟩
          · have hb := blw p hp
            exact ⟨neN (by omega), neN (by omega), neN (by omega)⟩
        refine wpAny_mono (turn i vs[i] tk (it + 1) oe (it + 3) oC (it + 2) it oit _ h₄ tk₄ ys _ (by simp [hlt]) hoC (by simp [hab]) (by simp) F₄ N₄ off ⟨by omega, by omega, by omega⟩) (fun y s₄ hy => ?_) fun _ _ e => e
        obtain ⟨h₅, tk₅, news₅, rfl, F₅, N₅, off₅, _, rfl, hGy⟩ := hy
        have zD := (N₅ (it + 2, lst ys) (.tail _ (.tail _ (.head _)))).1
        have zC := (N₅ (it + 3, oC) (.tail _ (.head _))).1
        refine append_at (hsz := by show ys.toArray.size ≤ sizeLine; rw [List.size_toArray]; omega) zD fun h₆ hs₆ hD₆ => ?_
        refine ⟨vs.length + 1 - (i + 1), by omega, h₆, tk₅, i + 1, ys ++ [y], _, vs[i], rfl, hlt, rfl, by simp [hyl], ?_, ?_, F₅.change hs₆ hDL hD₀, (hoC.ns zC).sameBut hs₆ (neN (by omega)), fun p hp => ?_, fun j z hj => ?_⟩
        · have q := hs₆.extBut _ _ (show it + 1 ≠ it + 2 by omega) (N₅ _ (.head _)).1
          simpa using hoe' _ q
        · exact ⟨oit, hs₆.extBut _ _ (show it ≠ it + 2 by omega) (N₅ _ (.tail _ (.tail _ (.tail _ (.head _))))).1, hoit'⟩
        · rcases List.mem_cons.mp hp with rfl | hp
          · exact ⟨hD₆.trans (congrArg some (lst_snoc ys y)), hDL, hD₀⟩
          · have z := N₅ p (.tail _ (.tail _ (.tail _ (.tail _ hp))))
            exact ⟨hs₆.extBut _ _ (neN (by have := blw p hp; omega)) z.1, z.2⟩
        · rcases Nat.lt_trichotomy j ys.length with hj' | hj' | hj'
          · exact hG j z (by rwa [List.getElem?_append_left hj'] at hj)
          · subst hj'
            rw [List.getElem?_append_right (Nat.le_refl _)] at hj
            simp at hj
            rw [hyl]
            exact hj ▸ hGy
          · rw [List.getElem?_eq_none (by simp; omega)] at hj
            cases hj
      · obtain rfl : i = vs.length := by omega
        refine wpAny_pyNext_enum_end hh he hit hL' (by simp) fun h₂ hk₂ => ?_
        have up : ∀ c o, c ≠ it → h'.get? c = some o → h₂.get? c = some o := fun c o b2 q => hk₂ c o b2 q
        have F₂ : Fr h₀ L h₂ m := ⟨F'.ns.at' fun o q => up _ o hLi q, fun c o q => up c o (fun q' => by rw [q', hi₀] at q; cases q) (F'.keep c o q), F'.above⟩
        refine ⟨m', hn'.at' fun o q => up _ o (neN (by omega)) q, fun h'' hs'' => fin (it + 2) h'' tk ys hyl hG (F₂.change hs'' hCL hC₀) (fun p hp => ?_) ?_⟩
        · have z := N' p hp
          refine ⟨hs''.extBut _ _ ?_ (up _ _ ?_ z.1), z.2⟩
          · rcases List.mem_cons.mp hp with rfl | hp
            · show it + 2 ≠ it + 3; omega
            · exact neN (by have := blw p hp; omega)
          · rcases List.mem_cons.mp hp with rfl | hp
            · show it + 2 ≠ it; omega
            · exact Nat.ne_of_lt (blw p hp)
        · exact Off3.one (I := it + 1) (C := it + 3) (Off3.of fun p hp => by
            have hb := blw p hp
            exact ⟨neN (by omega), neN (by omega), neN (by omega)⟩)
    · rcases List.mem_cons.mp hp with rfl | hp
      · exact ⟨hacc, hDL, hD₀⟩
      · exact ⟨keep₁ _ _ (N p hp).1, (N p hp).2⟩
  exact codeAny_compStart_list (loop _ rfl) (wpAny_pyIter_enum he₁' (loop _ rfl))
end
end Mine
end
section
open PySem PySem.W PyProof.Rows PySem.Calls
set_option maxRecDepth 100000
set_option maxHeartbeats 4000000
namespace Mine
open PySem.Builtin.Str (occurrences)
def dots3 : Str := Str.ofString "..."
/-- got.find(w, i, j) -/
def findF (x y : Str) (i j : Int) : Int := match occurrences x y (fromIndex x.length i) (min (fromIndex x.length j) x.length) 1 with | k :: _ => (k : Int) | [] => -1
def loopF (got : Str) (en : Int) : List Str → Int → Bool
  | [], _ => true
  | w :: ws, st => if findF got w st en < 0 then false else loopF got en ws (findF got w st en + w.length)
def matchP (got w0 : Str) (mid : List Str) (wl : Str) : Bool :=
  Txt.startswith got w0 && (Txt.endswith got wl && (decide ((w0.length : Int) ≤ got.length - wl.length) &&
    loopF got (got.length - wl.length) ((if (w0.length : Int) ≠ 0 then [] else [w0]) ++ mid ++ (if (wl.length : Int) ≠ 0 then [] else [wl])) w0.length))
def matchL (got : Str) : List Str → Bool
  | [] => true
  | w0 :: rest => matchP got w0 rest.dropLast (rest.getLastD ⟨#[]⟩)
def matchT (want got : Str) : Bool := if (occurrences want dots3 0 want.length 1).isEmpty = true then want == got else matchL got (Txt.split want dots3)
theorem gives_find4 (x y : Str) (i j : Int) (t u v z : Tok) : Gives (Builtin.«str.find» ⟨[.str x t, .str y u, .int i v, .int j z], []⟩) (.int (findF x y i j)) := by
  unfold findF
  show Gives (match occurrences x y (fromIndex x.length i) (min (fromIndex x.length j) x.length) 1 with | k :: _ => retInt k | [] => (do rule "str.find.not-found"; retInt (-1))) _
  cases occurrences x y (fromIndex x.length i) (min (fromIndex x.length j) x.length) 1 with
  | nil => exact .rule (.of_eq rfl)
  | cons k _ => exact .of_eq rfl
section
variable {prog : Program} {w : World} {A : Around} {E : Value → Shared → Prop} {s : Shared} {h₀ : Heap} {L : Addr} {m : Str → Option Value} {news : List (Addr × Obj)}
theorem find4 {Q : Value → Shared → Prop} {x y : Str} {i j : Int} {t u v z : Tok} (hq : Q (.int (findF x y i j) s.toks) { s with toks := s.toks + 1 }) : wpAny (model prog w) A (call (.builtin "str.find") [.str x t, .str y u, .int i v, .int j z]) Q E s :=
  call_gives PySem.F.slot_str_find (typeIs_str _ _ _) PySem.F.entry_str_find (PySem.F.args_str_find_4 _ _ _ _) (gives_find4 x y i j t u v z) hq
/-- xs[k] of a list at hand -/
theorem item_pos {Q : Value → Shared → Prop} {value slice : PySem.Expr} {l : Addr} {vs : List Value} {n : Nat} {k : Int} {u : Tok} {v : Value} (N : News h₀ L s.heap news) (hl : (l, listOf vs.toArray n) ∈ news) (h0 : 0 ≤ k) (h2 : k ≤ 1000)
    (hx : vs[k.toNat]? = some v) (h : Q v s) (hs : subscripted slice false (.ref l) (.int k u) = operate [.ref l, .int k u] (getItem (.ref l) (.int k u)) := by with_unfolding_all rfl) :
    wpAny (model prog w) A (subscriptTail value slice (.ref l) (.int k u)) Q E s := by
  have hI : s.heap.IsList l vs.toArray := ⟨_, N.get hl, rfl, _, rfl⟩
  exact tail_any hI.typeIs PySem.F.slot_list_getitem.lookup (wpAny_getItem_list hI h0 (by omega) (by simpa using hx) h) hs
/-- del xs[k] -/
theorem del_K {Q : Unit → Shared → Prop} {D : Addr} {xs : List Value} {n k : Nat} {i : Int} {u : Tok} {g : Obj → List (Addr × Obj)} (F : Fr h₀ L s.heap m) (N : News h₀ L s.heap news) (U : UpdF D (listOf xs.toArray n) news g) (hfit : Builtin.List.listFitsIndex i = true)
    (hk : seqIndex? i xs.length = some k) (hz : xs.length ≤ 100000) (h : ∀ h' n', Fr h₀ L h' m → News h₀ L h' (g (listOf (xs.eraseIdx k).toArray n')) → Q () { s with heap := h' }) :
    wpAny (model prog w) A (delItem (.ref D) (.int i u)) Q E s := by
  obtain ⟨pre, post, rfl, hg, a, c⟩ := U.split
  have z := N (D, listOf xs.toArray n) (List.mem_append.mpr (.inr (.head _)))
  have hsl : sizeLine = 16777216 := by decide +kernel
  refine delItem_at (hsz := by rw [List.size_toArray]; omega) z.1 hfit (by simpa using hk) fun h' hs' hD' => ?_
  refine h h' (n + 1) (F.change hs' z.2.1 z.2.2) ?_
  rw [hg]
  exact N.setAt a c hs' (by simpa using hD')
end
end Mine
namespace Mine
theorem two_ends {α : Type} {l : List α} (h : 2 ≤ l.length) : ∃ a mid z, l = a :: (mid ++ [z]) := by
  cases l with
  | nil => simp at h
  | cons a r =>
    have hr : r ≠ [] := by rintro rfl; simp at h
    exact ⟨a, r.dropLast, r.getLast hr, by rw [List.dropLast_concat_getLast]⟩
theorem matchL_ends (got w0 wl : Str) (mid : List Str) : matchL got (w0 :: (mid ++ [wl])) = matchP got w0 mid wl := by
  simp [matchL, List.getLastD_eq_getLast?]
end Mine
namespace Mine
theorem seq_first {α : Type} (a : α) (l : List α) : seqIndex? 0 (a :: l).length = some 0 := by
  unfold seqIndex?
  have h1 : ¬ ((0 : Int) < 0) := by omega
  have h2 : (0 : Int) < ((a :: l).length : Int) := by rw [List.length_cons]; omega
  simp only [h1, if_false, h2, Int.le_refl, decide_true, Bool.and_self, if_true]
  rfl
theorem seq_last {n : Nat} (h : 0 < n) : seqIndex? (-1) n = some (n - 1) := by
  unfold seqIndex?
  have h1 : ((-1 : Int) < 0) := by omega
  have h2 : 0 ≤ (-1 : Int) + n := by omega
  have h3 : (-1 : Int) + n < n := by omega
  simp only [h1, if_true, h2, h3, decide_true, Bool.and_self]
  congr 1
  omega
theorem erase_at {α : Type} (xs : List α) (z : α) : (xs ++ [z]).eraseIdx xs.length = xs := by
  rw [List.eraseIdx_append_of_length_le (Nat.le_refl _)]
  simp
theorem erase_last {α : Type} (xs : List α) (z : α) : (xs ++ [z]).eraseIdx ((xs ++ [z]).length - 1) = xs := by
  rw [List.length_append, List.length_singleton, Nat.add_sub_cancel, erase_at]
theorem erase_last2 {α : Type} (a : α) (xs : List α) (z : α) : (a :: (xs ++ [z])).eraseIdx ((a :: (xs ++ [z])).length - 1) = a :: xs := by
  rw [List.length_cons, Nat.add_sub_cancel, List.length_append, List.length_singleton, List.eraseIdx_cons_succ, erase_at]
theorem item_last {α : Type} (xs : List α) (z : α) : (xs ++ [z])[(-1 + ((xs ++ [z]).length : Int)).toNat]? = some z := by
  have e : (-1 + ((xs ++ [z]).length : Int)).toNat = xs.length := by simp; omega
  rw [e]; simp
theorem item_last2 {α : Type} (a : α) (xs : List α) (z : α) : (a :: (xs ++ [z]))[(-1 + ((a :: (xs ++ [z])).length : Int)).toNat]? = some z := by
  have e : (-1 + ((a :: (xs ++ [z])).length : Int)).toNat = xs.length + 1 := by simp; omega
  rw [e]; simp
end Mine
namespace Mine
theorem mapTurn {a b : Str} {p p' q r q' : Option Value} {m : Str → Option Value} :
    (fun y => if y = a then p else if y = a then p' else if y = b then q else if y = a then r else if y = b then q' else m y) = fun y => if y = a then p else if y = b then q else m y := by
  funext y
  by_cases h1 : y = a
  · simp only [if_pos h1]
  · simp only [if_neg h1]
    by_cases h2 : y = b
    · simp only [if_pos h2]
    · simp only [if_neg h2]
theorem strs_values (l : List (Str × Tok)) : StrsAre (strValues l) (l.map (·.1)) := strsAre_of_values l
theorem strs_app {vs vs' : List Value} {ns ns' : List Str} (h : StrsAre vs ns) (h' : StrsAre vs' ns') : StrsAre (vs ++ vs') (ns ++ ns') := by
  induction h with
  | nil => exact h'
  | cons n t _ ih => exact .cons n t ih
theorem loopF_step {got : Str} {en st : Int} {tx : List Str} {i : Nat} {x : Str} {R : Bool} (hx : tx[i]? = some x) (h : loopF got en (tx.drop i) st = R) :
    (findF got x st en < 0 → R = false) ∧ (¬ findF got x st en < 0 → loopF got en (tx.drop (i + 1)) (findF got x st en + x.length) = R) := by
  have hi := (List.getElem?_eq_some_iff.mp hx).1
  have e : tx.drop i = x :: tx.drop (i + 1) := by
    rw [List.drop_eq_getElem_cons hi]
    rw [List.getElem?_eq_getElem hi] at hx
    rw [Option.some.inj hx]
  rw [e] at h
  unfold loopF at h
  refine ⟨fun hf => ?_, fun hf => ?_⟩
  · rw [if_pos hf] at h; exact h.symm
  · rw [if_neg hf] at h; exact h
end Mine
namespace Mine
theorem subAt_empty {x y : Str} (h : (y.length : Int) = 0) (i : Nat) : Builtin.Str.subAt x y i = true := by
  obtain ⟨c⟩ := y
  have hc : c = #[] := by
    have : c.size = 0 := by have h' : ((c.size : Nat) : Int) = 0 := h; omega
    exact Array.eq_empty_of_size_eq_zero this
  subst hc
  unfold Builtin.Str.subAt
  show (x.cps.extract i (i + 0) == #[]) = true
  simp
  omega
theorem startswith_empty {x y : Str} (h : (y.length : Int) = 0) : Txt.startswith x y = true := by
  unfold Txt.startswith
  rw [subAt_empty h, decide_eq_true (by omega)]
  rfl
theorem endswith_empty {x y : Str} (h : (y.length : Int) = 0) : Txt.endswith x y = true := by
  unfold Txt.endswith
  rw [subAt_empty h, decide_eq_true (by omega)]
  rfl
end Mine
end
section
open PySem PySem.W PyProof.Rows PySem.Calls
set_option maxRecDepth 100000
set_option maxHeartbeats 4000000
namespace Mine
theorem filled5 : True := by
  w_top off
  trivial
def frontsF (ts : List Str) : List Str := (List.range (ts.length + 1)).map fun e => Txt.join (Str.ofString "") (ts.take e)
section
local macro_rules | `(tactic| walk_at "mine never") => `(tactic| fail "never")
local macro_rules | `(tactic| walk_at "eval ListComp") => `(tactic| refine Halt.of ?_)
local macro_rules | `(tactic| walk_at "CompSrc") => `(tactic| refine Halt.of ?_)
local macro_rules | `(tactic| walk_at "CompEnd") => `(tactic| refine Halt.of ?_)
theorem fronts_call {w : World} {A : Around} {s s₀ : Shared} {mg mb : Str → Option Value} {E Q : Value → Shared → Prop} {h₀ : Heap} {L : Addr} {m : Str → Option Value} {news : List (Addr × Obj)} {l : Addr} {vs : List Value} {ts : List Str}
    (F : Fr h₀ L s.heap m) (N : News h₀ L s.heap news) (X : (hd.heap_39 w.params).In h₀) (T : Top hd.view_39 (looseW hd.view_39 []) (ExcName.means s₀.heap) mg mb h₀) (hh : A.handled = none) (hdp : A.depth ≤ 490) (hun : A.units ≤ 900) (hl : s.heap.IsList l vs.toArray) (hi : StrsAre vs ts) (hlen : ts.length ≤ 1000) (hsum : (ts.map (·.length)).sum ≤ 50000)
    (ret : ∀ a vs' k h' tk', Fr h₀ L h' m → News h₀ L h' ((a, listOf (List.toArray vs') k) :: news) → (∀ p ∈ news, p.1 ≠ a) → StrsAre vs' (frontsF ts) → Q (.ref a) { s with heap := h', toks := tk' }) :
    wpAny (model PySem.Challenge.rw_mq0110_01.row.prog w) A (call (.ref 78) [.ref l]) Q E s := by
  refine weak hh hdp hun ?_
  replace X := X.keeps F.keep
  replace T := T.keeps F.keep
  replace ret : ∀ a vs' k h' tk', s.heap.StaysIn h' → h'.get? a = some (listOf (List.toArray vs') k) → s.heap.get? a = none → StrsAre vs' (frontsF ts) → Q (.ref a) { s with heap := h', toks := tk' } :=
    fun a vs' k h' tk' st ha na i => ret a vs' k h' tk' (keepF F st) (addN F st ha na (keepN N st)) (farN N na) i
  clear F N hh hdp hun
  refine enter_defC (binds := [(Str.ofString "pieces", Value.ref l)]) X T (by k_is) (by k_is) (by decide) (BindsTo.of_eq rfl) (by rfl) (by decide +kernel) ?_
  intro h₁ tk₁ cells F N Y
  obtain ⟨o, rfl, ho⟩ := CellsAre.one Y
  clear Y
  change o.data = Data.cell (some (Value.ref l)) at ho
  k_steps
  refine Halt.mk ?_
  refine LCg.ListComp_U F (by with_unfolding_all rfl) (by decide) rfl (by decide) rfl ?_
  k_steps
  refine Halt.mk ?_
  refine LCg.CompSrc.range (n := ts.length + 1) rfl (by assumption) (by assumption) (by assumption) (small_one (by omega) (by omega) (by omega) (by omega)) (range_size (by omega)) (by rw [PySem.sizeLine_eq]; omega)
    fun g => compRest_inv (fun i y => ∃ t, y = Value.str (Txt.join (Str.ofString "") (ts.take i)) t) ?_ ?_
  · intro i v I oI C oC D m₂ h tk ys E' hin hP hC hx F₁ N₁ off ne
    obtain ⟨t, rfl⟩ := hP
    k_steps
    rename News _ _ _ _ => NN
    rename Fr _ _ _ _ => FF
    dsimp only at NN FF
    rw [Int.zero_add, slicePick_upto'] at NN
    obtain ⟨lp, rfl, hts⟩ := strsAre_values (by assumption)
    have hq : (strValues lp).toArray.toList.take i = strValues (lp.take i) := by simp [strValues, List.map_take]
    rw [hq] at NN
    refine SC.join (l := lp.take i) (texts := ts.take i) ⟨_, NN.get (.head _), rfl, _, rfl⟩ (by rw [List.map_take, hts]) (joinOk_of ?_) ?_
    · have h1 : (ts.take i).map (·.length) = (ts.map (·.length)).take i := List.map_take
      have h2 := sum_take_le (ts.map (·.length)) i
      have h3 : (ts.take i).length ≤ ts.length := List.length_take_le' _ _
      have h4 : (Str.ofString "").length = 0 := rfl
      rw [h1, h4]
      omega
    · intro t' k
      exact LCg.CompEnd.intro FF NN _ (fun p hp => List.mem_cons_of_mem _ hp) off trivial ⟨rfl, _, rfl⟩
  · intro ys hlen' hG D h tk F₁ N₁ _
    refine ret _ _ _ _ _ F₁.keep (N₁.get (.head _)) (N₁.fresh (.head _)) (strs_of ?_ ?_)
    · simp [frontsF, hlen']
    · intro i v hv
      obtain ⟨t, rfl⟩ := hG i v hv
      have hi : i < ts.length + 1 := by
        have := (List.getElem?_eq_some_iff.mp hv).1
        omega
      exact ⟨_, t, by simp [frontsF, hi], rfl⟩
end
end Mine
end
section
open PySem PySem.W PyProof.Rows PySem.Calls
set_option maxRecDepth 100000
namespace Mine
/-- a list grows at its end -/
theorem snoc_ind {α : Type} {C : List α → Prop} (h0 : C []) (hs : ∀ l a, C l → C (l ++ [a])) (l : List α) : C l := by
  generalize hn : l.length = n
  induction n generalizing l with
  | zero => rw [List.eq_nil_of_length_eq_zero hn]; exact h0
  | succ n ih =>
    have hne : l ≠ [] := by rintro rfl; cases hn
    rw [← List.dropLast_concat_getLast hne]
    exact hs _ _ (ih _ (by rw [List.length_dropLast]; omega))
inductive RowsAre : List (Addr × List Value × Nat) → List (List Int) → Prop
  | nil : RowsAre [] []
  | cons {a : Addr} {vs : List Value} {k : Nat} {ns : List Int} {rl : List (Addr × List Value × Nat)} {rs : List (List Int)} : IntsAre vs ns → RowsAre rl rs → RowsAre ((a, vs, k) :: rl) (ns :: rs)
theorem RowsAre.length {rl : List (Addr × List Value × Nat)} {rs : List (List Int)} (h : RowsAre rl rs) : rl.length = rs.length := by
  induction h with
  | nil => rfl
  | cons _ _ ih => simp [ih]
theorem RowsAre.at {rl : List (Addr × List Value × Nat)} {rs : List (List Int)} (h : RowsAre rl rs) {j : Nat} {row : List Int} (hj : rs[j]? = some row) : ∃ a v k, rl[j]? = some (a, v, k) ∧ IntsAre v row := by
  induction h generalizing j with
  | nil => simp at hj
  | cons hi _ ih =>
    cases j with
    | zero => simp at hj; subst hj; exact ⟨_, _, _, rfl, hi⟩
    | succ j => simpa using ih (by simpa using hj)
theorem RowsAre.snoc {rl : List (Addr × List Value × Nat)} {rs : List (List Int)} (h : RowsAre rl rs) {a : Addr} {v : List Value} {k : Nat} {row : List Int} (hi : IntsAre v row) : RowsAre (rl ++ [(a, v, k)]) (rs ++ [row]) := by
  induction h with
  | nil => exact .cons hi .nil
  | cons hi' _ ih => exact .cons hi' ih
/-- the least of a row and the page's end -/
def leastOf (row : List Int) (e : Int) : Int := row.foldr (fun a b => min a b) e
def dotsNext (dots part : Int) : Int := if part = 46 then dots + 1 else 0
def rowNext (page : List Int) (rows : List (List Int)) (dots part : Int) : List Int :=
  if dotsNext dots part = 3 then rangeKs (leastOf (rows.getD (rows.length - 3) []) (page.length + 1)) (page.length + 1 - leastOf (rows.getD (rows.length - 3) []) (page.length + 1)).toNat
  else ((rows.getD (rows.length - 1) []).filter fun j => page[j.toNat]? == some part).map (· + 1)
def rowsStep (page : List Int) (st : List (List Int) × Int) (part : Int) : List (List Int) × Int :=
  (st.1 ++ [rowNext page st.1 st.2 part], if dotsNext st.2 part = 3 then 0 else dotsNext st.2 part)
def rowsSt (pattern page : List Int) : List (List Int) × Int := pattern.foldl (rowsStep page) ([[0]], 0)
def rowsF (pattern page : List Int) : List (List Int) := (rowsSt pattern page).1
theorem rowsSt_snoc (P page : List Int) (q : Int) : rowsSt (P ++ [q]) page = rowsStep page (rowsSt P page) q := by
  unfold rowsSt; rw [List.foldl_append]; rfl
theorem rowsSt_length (page P : List Int) : (rowsSt P page).1.length = P.length + 1 := by
  induction P using snoc_ind with
  | h0 => rfl
  | hs l a ih => rw [rowsSt_snoc]; simp [rowsStep, ih]
theorem rowsSt_dots (page P : List Int) : 0 ≤ (rowsSt P page).2 ∧ (rowsSt P page).2 ≤ 2 ∧ (rowsSt P page).2 ≤ P.length := by
  induction P using snoc_ind with
  | h0 => simp [rowsSt]
  | hs l a ih =>
    rw [rowsSt_snoc]
    simp only [rowsStep, dotsNext, List.length_append, List.length_singleton]
    split <;> split <;> omega
theorem leastOf_nonneg {row : List Int} {e : Int} (he : 0 ≤ e) (h : ∀ x ∈ row, 0 ≤ x) : 0 ≤ leastOf row e := by
  induction row with
  | nil => exact he
  | cons a r ih =>
    have h1 := ih fun x hx => h x (.tail _ hx)
    have h2 := h a (.head _)
    show 0 ≤ min a (leastOf r e)
    omega
theorem getD_ok {rows : List (List Int)} {C : List Int → Prop} (h : ∀ row ∈ rows, C row) (h0 : C []) (j : Nat) : C (rows.getD j []) := by
  rw [List.getD_eq_getElem?_getD]
  cases e : rows[j]? with
  | none => exact h0
  | some row => exact h row (List.mem_of_getElem? e)
theorem rangeKs_nonneg {a : Int} {n : Nat} (h : 0 ≤ a) : ∀ x ∈ rangeKs a n, 0 ≤ x := by
  intro x hx
  unfold rangeKs at hx
  obtain ⟨k, _, rfl⟩ := List.mem_map.mp hx
  omega
theorem least_is {row : List Int} {e M : Int} (hM : M ∈ row ++ [e]) (hmin : ∀ a ∈ row ++ [e], M ≤ a) : M = leastOf row e := by
  induction row with
  | nil => simp at hM; exact hM
  | cons a r ih =>
    show M = min a (leastOf r e)
    by_cases hMr : M ∈ r ++ [e]
    · have h1 := ih hMr fun b hb => hmin b (.tail _ hb)
      have h2 := hmin a (.head _)
      omega
    · have hMa : M = a := by
        rcases List.mem_cons.mp hM with h | h
        · exact h
        · exact absurd h hMr
      have h3 : M ≤ leastOf r e := by
        clear ih hMr hM
        have hr : ∀ b ∈ r ++ [e], M ≤ b := fun b hb => hmin b (.tail _ hb)
        clear hmin hMa
        induction r with
        | nil => exact hr e (by simp)
        | cons b r ih2 =>
          show M ≤ min b (leastOf r e)
          have := ih2 fun c hc => hr c (.tail _ hc)
          have := hr b (.head _)
          omega
      omega
theorem rowsSt_ok (page P : List Int) : ∀ row ∈ (rowsSt P page).1, (∀ x ∈ row, 0 ≤ x) ∧ row.length ≤ page.length + 1 := by
  induction P using snoc_ind with
  | h0 => intro row hr; rcases List.mem_singleton.mp hr with rfl; exact ⟨by simp, by simp⟩
  | hs l a ih =>
    rw [rowsSt_snoc]
    intro row hr
    rcases List.mem_append.mp hr with hr | hr
    · exact ih row hr
    · rcases List.mem_singleton.mp hr with rfl
      have h3 := getD_ok (C := fun row => (∀ x ∈ row, 0 ≤ x) ∧ row.length ≤ page.length + 1) ih ⟨fun _ h => (nomatch h), Nat.zero_le _⟩ ((rowsSt l page).1.length - 3)
      have h1 := getD_ok (C := fun row => (∀ x ∈ row, 0 ≤ x) ∧ row.length ≤ page.length + 1) ih ⟨fun _ h => (nomatch h), Nat.zero_le _⟩ ((rowsSt l page).1.length - 1)
      unfold rowNext
      split
      · have h4 := leastOf_nonneg (e := page.length + 1) (by omega) h3.1
        exact ⟨rangeKs_nonneg h4, by rw [rangeKs_length]; omega⟩
      · refine ⟨fun x hx => ?_, ?_⟩
        · obtain ⟨y, hy, rfl⟩ := List.mem_map.mp hx
          have := h1.1 y (List.mem_filter.mp hy).1
          omega
        · rw [List.length_map]
          exact Nat.le_trans (List.length_filter_le _ _) h1.2
end Mine
namespace Mine
theorem rows_end {h₀ : Heap} {L R cpart cpage l₁ I D : Addr} {oI o2 o' : Obj} {s₁ : Shared} {h' : Heap} {tk n' k₂ : Nat} {m' : Str → Option Value} {newsX LR : List (Addr × Obj)} {rr ys : List Value} {rl : List (Addr × List Value × Nat)} {rows : List (List Int)} {dots n : Int} {page : List Int}
    (F : Fr h₀ L h' m') (N : News h₀ L h' newsX) (mI : (I, oI) ∈ newsX) (mp : (cpart, o2) ∈ newsX) (mg : (cpage, o') ∈ newsX) (mR : (R, listOf (rr ++ [Value.ref D]).toArray n') ∈ newsX) (mD : (D, listOf ys.toArray k₂) ∈ newsX) (mL : ∀ p ∈ LR, p ∈ newsX)
    (hLR : rl.map (fun r => (r.1, listOf (List.toArray r.2.1) r.2.2)) = LR) (hrr : rl.map (fun r => Value.ref r.1) = rr) (ho2 : ∃ v, o2.data = Data.cell v) (hrows : RowsAre rl rows) (hys : IntsAre ys (rowNext page rows dots n))
    (hfar : ∀ r ∈ rl, r.1 ≠ R ∧ r.1 ≠ cpart) (d1 : @Ne Nat D R) (d2 : @Ne Nat D cpart) (d3 : @Ne Nat D I) (i1 : @Ne Nat cpart I) (i2 : @Ne Nat cpage I) (i3 : @Ne Nat R I) (hI4 : ∀ p ∈ LR, p.1 ≠ I)
    (hm : ∃ t, m' = fun y => if y = Str.ofString "dots" then some (Value.int (rowsStep page (rows, dots) n).2 t) else if y = Str.ofString "rows" then some (Value.ref R) else if y = Str.ofString "pattern" then some (Value.ref l₁) else none) :
    TurnEnd h₀ L (fun c : Obj × List (Addr × List Value × Nat) × Nat => (cpart, c.1) :: (cpage, o') :: (R, listOf (List.toArray (c.2.1.map fun r => Value.ref r.1)) c.2.2) :: (c.2.1.map fun r => (r.1, listOf (List.toArray r.2.1) r.2.2)))
      (fun c m => (∃ v, c.1.data = Data.cell v) ∧ RowsAre c.2.1 (rowsStep page (rows, dots) n).1 ∧ (∀ r ∈ c.2.1, r.1 ≠ R ∧ r.1 ≠ cpart) ∧
        ∃ t, m = fun y => if y = Str.ofString "dots" then some (Value.int (rowsStep page (rows, dots) n).2 t) else if y = Str.ofString "rows" then some (Value.ref R) else if y = Str.ofString "pattern" then some (Value.ref l₁) else none)
      s₁ I oI .next { s₁ with heap := h', toks := tk } := by
  have e1 : (rl ++ [(D, ys, k₂)]).map (fun r => Value.ref r.1) = rr ++ [Value.ref D] := by rw [List.map_append, hrr]; rfl
  have e2 : (rl ++ [(D, ys, k₂)]).map (fun r => ((r.1, listOf (List.toArray r.2.1) r.2.2) : Addr × Obj)) = LR ++ [(D, listOf ys.toArray k₂)] := by rw [List.map_append, hLR]; rfl
  refine ⟨rfl, h', tk, m', (o2, rl ++ [(D, ys, k₂)], n'), rfl, F, ?_, ?_, ho2, hrows.snoc hys, ?_, hm⟩
  · dsimp only
    rw [e1, e2]
    intro p hp
    rcases List.mem_cons.mp hp with rfl | hp
    · exact N _ mI
    rcases List.mem_cons.mp hp with rfl | hp
    · exact N _ mp
    rcases List.mem_cons.mp hp with rfl | hp
    · exact N _ mg
    rcases List.mem_cons.mp hp with rfl | hp
    · exact N _ mR
    rcases List.mem_append.mp hp with hp | hp
    · exact N _ (mL p hp)
    · rw [List.mem_singleton.mp hp]; exact N _ mD
  · dsimp only
    rw [e1, e2]
    intro p hp
    rcases List.mem_cons.mp hp with rfl | hp
    · exact i1
    rcases List.mem_cons.mp hp with rfl | hp
    · exact i2
    rcases List.mem_cons.mp hp with rfl | hp
    · exact i3
    rcases List.mem_append.mp hp with hp | hp
    · exact hI4 p hp
    · rw [List.mem_singleton.mp hp]; exact d3
  · intro r hr
    rcases List.mem_append.mp hr with hr | hr
    · exact hfar r hr
    · rw [List.mem_singleton.mp hr]; exact ⟨d1, d2⟩
end Mine
namespace Mine
theorem dropTwice {d : Str} {a b : Option Value} {rest : Str → Option Value} : (fun y => if y = d then a else if y = d then b else rest y) = fun y => if y = d then a else rest y := by
  funext y
  by_cases h : y = d
  · rw [if_pos h, if_pos h]
  · rw [if_neg h, if_neg h, if_neg h]
theorem dropThrice {d : Str} {a b c : Option Value} {rest : Str → Option Value} : (fun y => if y = d then a else if y = d then b else if y = d then c else rest y) = fun y => if y = d then a else rest y := by
  funext y
  by_cases h : y = d
  · rw [if_pos h, if_pos h]
  · rw [if_neg h, if_neg h, if_neg h, if_neg h]
end Mine
namespace Mine
theorem slice_one {ns : List Int} {x n : Int} (hx : 0 ≤ x) : (List.take (min (x + 1).toNat ns.length - x.toNat) (List.drop x.toNat ns) = [n]) ↔ (ns[x.toNat]? == some n) = true := by
  have e : (x + 1).toNat = x.toNat + 1 := by omega
  rw [e, beq_iff_eq]
  generalize x.toNat = k
  by_cases h : k < ns.length
  · have e2 : min (k + 1) ns.length - k = 1 := by omega
    have e3 : List.take 1 (List.drop k ns) = [ns[k]] := by rw [List.drop_eq_getElem_cons h]; rfl
    rw [e2, List.getElem?_eq_getElem h, e3]
    simp
  · rw [List.getElem?_eq_none (by omega), List.drop_eq_nil_of_le (by omega)]
    simp
theorem filt_yes {row : List Int} {f : Int → Bool} {j : Nat} {x : Int} {ys : List Value} {t : Tok} (hj : row[j]? = some x) (h : f x = true) (hy : IntsAre ys (((row.take j).filter f).map (· + 1))) :
    IntsAre (ys ++ [Value.int (x + 1) t]) (((row.take (j + 1)).filter f).map (· + 1)) := by
  have e : row.take (j + 1) = row.take j ++ [x] := by simp [List.take_add_one, hj]
  rw [e, List.filter_append, List.map_append]
  have e2 : [x].filter f = [x] := by simp [h]
  rw [e2]
  exact ints_app hy (.cons _ _ .nil)
theorem filt_no {row : List Int} {f : Int → Bool} {j : Nat} {x : Int} {ys : List Value} (hj : row[j]? = some x) (h : ¬ f x = true) (hy : IntsAre ys (((row.take j).filter f).map (· + 1))) :
    IntsAre ys (((row.take (j + 1)).filter f).map (· + 1)) := by
  have e : row.take (j + 1) = row.take j ++ [x] := by simp [List.take_add_one, hj]
  rw [e, List.filter_append, List.map_append]
  have e2 : [x].filter f = [] := by simp [h]
  rw [e2]
  simpa using hy
end Mine
end
section
open PySem PySem.W PyProof.Rows PySem.Calls
set_option maxRecDepth 100000
set_option maxHeartbeats 4000000
namespace Mine
theorem filled7 : True := by
  w_top off
  trivial
section
local macro_rules | `(tactic| walk_at "exec Assert") => `(tactic| ((fail_if_success (with_reducible rename _ ≤ List.length _ => hq9)); refine Halt.of ?_))
local macro_rules | `(tactic| walk_at "exec For Name Name cons nil") => `(tactic| (k_here; (rename Fr _ _ _ _ => lF'); (with_unfolding_all refine' For_invVF lF' ?k1 ?k2 ?_; (case k1 => exact rfl); (case k2 => exact rfl); k_whole)))
local macro_rules | `(tactic| walk_at "pyIter ref") => `(tactic| refine Halt.of ?_)
local macro_rules | `(tactic| walk_at "subscriptTail Name UnaryOp ref int") => `(tactic| (k_here; k_dflt (refine' item_neg ?N ?l ?h0 ?h1 ?h2 ?x ?_ ?s; (case N => k_asm); (case l => k_mem); (case h0 => decide); (case h1 => first | omega | (simp only [List.length_append, List.length_cons, List.length_nil]; omega)); (case h2 => decide); (case x => first | exact item_last2 _ _ _ | exact item_last _ _); (case s => with_unfolding_all rfl); k_whole)))
local macro_rules | `(tactic| walk_at "subscriptTail Name Constant ref int") => `(tactic| (k_here; k_dflt (refine' item_pos ?N ?l ?h0 ?h2 ?x ?_ ?s; (case N => k_asm); (case l => k_mem); (case h0 => decide); (case h2 => decide); (case x => first | assumption | rfl); (case s => with_unfolding_all rfl); k_whole)))
local macro_rules | `(tactic| walk_at "call builtin:len") => `(tactic| (k_here; (with_reducible show wpAny _ _ (call (Value.builtin "len") [Value.ref _]) _ _ _); k_dflt (refine' len_L ?N ?l ?k ?z ?_; (case N => k_asm); (case l => k_mem); (case k => assumption); (case z => omega); k_whole)))
local macro_rules | `(tactic| walk_at "truthy str") => `(tactic| (k_here; refine P.truthy_str (by omega) ?_))
local macro_rules | `(tactic| walk_at "delItem ref int") => `(tactic| (k_here; k_dflt (refine' del_K ?F ?N ?U ?f ?k ?z ?_; (case F => k_asm); (case N => k_asm); (case U => k_updF); (case f => decide); (case k => first | exact seq_first _ _ | exact seq_last (by simp)); (case z => first | omega | (simp only [List.length_append, List.length_cons, List.length_nil]; omega)); k_whole); intro h' n' F' N'; (try simp only [List.eraseIdx_cons_zero, erase_last, erase_last2] at N'); (try k_sweep)))
local macro_rules | `(tactic| walk_at "call builtin:str.find") => `(tactic| (k_here; refine find4 ?_))
theorem match_call {w : World} {A : Around} {s s₀ : Shared} {mg mb : Str → Option Value} {E Q : Value → Shared → Prop} {h₀ : Heap} {L : Addr} {m : Str → Option Value} {news : List (Addr × Obj)} {want got : Str} {t1 t2 : Tok}
    (F : Fr h₀ L s.heap m) (N : News h₀ L s.heap news) (X : (hd.heap_39 w.params).In h₀) (T : Top hd.view_39 (looseW hd.view_39 []) (ExcName.means s₀.heap) mg mb h₀) (hh : A.handled = none) (hdp : A.depth ≤ 470) (hun : A.units ≤ 700) (hw : want.length ≤ 10000) (hg : got.length ≤ 10000) (hs : (Builtin.Str.occurrences want dots3 0 want.length 1).isEmpty = false → 2 ≤ (Txt.split want dots3).length) (hs2 : (Txt.split want dots3).length ≤ 10000)
    (ret : ∀ h' tk', Fr h₀ L h' m → News h₀ L h' news → Q (.bool (matchT want got)) { s with heap := h', toks := tk' }) :
    wpAny (model PySem.Challenge.rw_mq0110_01.row.prog w) A (call (.ref 21) [.str want t1, .str got t2]) Q E s := by
  refine weak hh hdp hun ?_
  replace X := X.keeps F.keep
  replace T := T.keeps F.keep
  replace ret := fun h' tk' st => ret h' tk' (keepF F st) (keepN N st)
  clear F N hh hdp hun
  refine enter_def (binds := [(Str.ofString "want", Value.str want t1), (Str.ofString "got", Value.str got t2)]) X T (by k_is) (by k_is) (by decide) (BindsTo.of_eq rfl) (locs rfl) ?_
  intro h₁ F N
  change _ → 2 ≤ (Txt.split want (Str.ofString "...")).length at hs
  change (Builtin.Str.occurrences want (Str.ofString "...") 0 want.length 1).isEmpty = false → _ at hs
  k_steps
  · have e : matchT want got = (want == got) := by unfold matchT; rw [if_pos (by assumption)]
    rw [e] at ret
    exact ret _ _ F.keep
  · refine Halt.mk ?_
    rename List.map _ _ = Txt.split _ _ => hlook
    rename _ = false => hocc
    have hs := hs hocc
    have e : matchT want got = matchL got (Txt.split want (Str.ofString "...")) := by unfold matchT; rw [if_neg (by rw [show dots3 = Str.ofString "..." from rfl, hocc]; exact Bool.false_ne_true)]; rfl
    rw [e, ← hlook] at ret
    clear e
    rename List (Str × Tok) => lp
    have hlp : 2 ≤ lp.length := by rw [← hlook, List.length_map] at hs; exact hs
    have hlp2 : lp.length ≤ 10000 := by rw [show dots3 = Str.ofString "..." from rfl, ← hlook, List.length_map] at hs2; exact hs2
    clear hs hs2
    rename Fr _ _ _ _ => F'
    rename News _ _ _ _ => N'
    rename ∀ a, a ∈ List.map _ _ → _ => hle
    dsimp only at F' N'
    rename Heap.IsList _ _ _ => hold
    clear hold
    rename StrsAre _ _ => hold
    clear hold
    skip
    generalize h₁.objs.size = D at F' N'
    obtain ⟨⟨w0, tw0⟩, mid, ⟨wl, twl⟩, rfl⟩ := two_ends hlp
    have hw0 : w0.length ≤ 10000 := Nat.le_trans (hle w0 (by simp)) hw
    have hwl : wl.length ≤ 10000 := Nat.le_trans (hle wl (by simp)) hw
    rw [show strValues ((w0, tw0) :: (mid ++ [(wl, twl)])) = Value.str w0 tw0 :: (strValues mid ++ [Value.str wl twl]) by simp [strValues]] at N'
    rw [show List.map (fun x => x.1) ((w0, tw0) :: (mid ++ [(wl, twl)])) = w0 :: (mid.map (·.1) ++ [wl]) by simp, matchL_ends] at ret
    have hmid : (strValues mid).length + 2 ≤ 10000 := by simpa [strValues] using hlp2
    have hlen : ((Value.str w0 tw0 :: (strValues mid ++ [Value.str wl twl])).length : Int) = ((strValues mid).length : Int) + 2 := by simp only [List.length_cons, List.length_append, List.length_nil]; omega
    have hall : ∀ a ∈ w0 :: (mid.map (·.1) ++ [wl]), a.length ≤ 10000 := fun a ha => Nat.le_trans (hle a (by simpa using ha)) hw
    clear hlook hle hocc
    k_steps
    all_goals first
      | (have e : matchP got w0 (mid.map (·.1)) wl = false := by
          unfold matchP
          first
            | (rw [show Txt.startswith got w0 = false by assumption]; rfl)
            | (rw [show Txt.endswith got wl = false by assumption]; simp)
            | (rw [decide_eq_false (by omega)]; simp)
         rw [e] at ret
         exact ret _ _ (Fr.keep (by assumption)))
      | skip
    · refine Halt.mk ?_
      have e : matchP got w0 (mid.map (·.1)) wl = loopF got ((got.length : Int) - wl.length) (mid.map (·.1)) ((w0.length : Int)) := by
        unfold matchP
        rw [show Txt.startswith got w0 = true by assumption, show Txt.endswith got wl = true by assumption, decide_eq_true (by omega), if_pos (by assumption), if_pos (by assumption)]
        simp
      rw [e] at ret
      clear e
      rename Fr _ _ _ _ => F₀
      rename News _ _ _ _ => N₀
      refine for_led2 (Str.ofString "startpos") (Str.ofString "w") (fun i p => ∃ st t, p = some (Value.int st t) ∧ loopF got ((got.length : Int) - wl.length) ((mid.map (·.1)).drop i) st = loopF got ((got.length : Int) - wl.length) (mid.map (·.1)) ((w0.length : Int))) rfl (by k_mem) F₀ N₀ ⟨_, _, rfl, rfl⟩ ?_ ?_
      · rintro i v p u s₁ I oI ⟨hh₁, tkk, rfl⟩ hv ⟨st, tst, rfl, hst⟩ hI F₁ N₁
        obtain ⟨x, tx, rfl, hx⟩ := strs_at (strs_values mid) hv
        obtain ⟨hf0, hf1⟩ := loopF_step hx hst
        have hxl : x.length ≤ 10000 := hall x (by have := List.mem_of_getElem? hx; simp only [List.mem_cons, List.mem_append, List.not_mem_nil, or_false] at this ⊢; first | exact .inr (.inl this) | exact .inr this | (rcases this with h | h; exact .inl h; exact .inr (.inl h)) | exact this)
        clear F₀ N₀
        dsimp only at F₁ N₁
        k_steps
        · rw [hf0 (by assumption)] at ret
          exact ret _ _ (Fr.keep (by assumption))
        · exact ⟨_, _, _, rfl, by assumption, by assumption, _, _, mapTurn, _, _, rfl, hf1 (by assumption)⟩
      · rintro h tk p u ⟨st, tst, rfl, hst⟩ F₁ N₁
        rw [StrsAre.length (strs_values mid), List.drop_length] at hst
        rw [← hst] at ret
        clear F₀ N₀
        k_steps
        all_goals exact ret _ _ F₁.keep
    · refine Halt.mk ?_
      have e : matchP got w0 (mid.map (·.1)) wl = loopF got ((got.length : Int)) (mid.map (·.1) ++ [wl]) ((w0.length : Int)) := by
        unfold matchP
        have hz : (wl.length : Int) = 0 := by assumption
        rw [show Txt.startswith got w0 = true by assumption, endswith_empty hz, decide_eq_true (by omega), if_pos (by assumption), if_neg (by omega), hz]
        simp
      rw [e] at ret
      clear e
      rename Fr _ _ _ _ => F₀
      rename News _ _ _ _ => N₀
      refine for_led2 (Str.ofString "startpos") (Str.ofString "w") (fun i p => ∃ st t, p = some (Value.int st t) ∧ loopF got ((got.length : Int)) ((mid.map (·.1) ++ [wl]).drop i) st = loopF got ((got.length : Int)) (mid.map (·.1) ++ [wl]) ((w0.length : Int))) rfl (by k_mem) F₀ N₀ ⟨_, _, rfl, rfl⟩ ?_ ?_
      · rintro i v p u s₁ I oI ⟨hh₁, tkk, rfl⟩ hv ⟨st, tst, rfl, hst⟩ hI F₁ N₁
        obtain ⟨x, tx, rfl, hx⟩ := strs_at (strs_app (strs_values mid) (.cons wl twl .nil)) hv
        obtain ⟨hf0, hf1⟩ := loopF_step hx hst
        have hxl : x.length ≤ 10000 := hall x (by have := List.mem_of_getElem? hx; simp only [List.mem_cons, List.mem_append, List.not_mem_nil, or_false] at this ⊢; first | exact .inr (.inl this) | exact .inr this | (rcases this with h | h; exact .inl h; exact .inr (.inl h)) | exact this)
        clear F₀ N₀
        dsimp only at F₁ N₁
        k_steps
        · rw [hf0 (by assumption)] at ret
          exact ret _ _ (Fr.keep (by assumption))
        · exact ⟨_, _, _, rfl, by assumption, by assumption, _, _, mapTurn, _, _, rfl, hf1 (by assumption)⟩
      · rintro h tk p u ⟨st, tst, rfl, hst⟩ F₁ N₁
        rw [StrsAre.length (strs_app (strs_values mid) (.cons wl twl .nil)), List.drop_length] at hst
        rw [← hst] at ret
        clear F₀ N₀
        k_steps
        all_goals exact ret _ _ F₁.keep
    · refine Halt.mk ?_
      have e : matchP got w0 (mid.map (·.1)) wl = loopF got ((got.length : Int) - wl.length) (w0 :: mid.map (·.1)) (0) := by
        unfold matchP
        have hz : (w0.length : Int) = 0 := by assumption
        rw [startswith_empty hz, show Txt.endswith got wl = true by assumption, decide_eq_true (by omega), if_neg (by omega), if_pos (by assumption), hz]
        simp
      rw [e] at ret
      clear e
      rename Fr _ _ _ _ => F₀
      rename News _ _ _ _ => N₀
      refine for_led2 (Str.ofString "startpos") (Str.ofString "w") (fun i p => ∃ st t, p = some (Value.int st t) ∧ loopF got ((got.length : Int) - wl.length) ((w0 :: mid.map (·.1)).drop i) st = loopF got ((got.length : Int) - wl.length) (w0 :: mid.map (·.1)) (0)) rfl (by k_mem) F₀ N₀ ⟨_, _, rfl, rfl⟩ ?_ ?_
      · rintro i v p u s₁ I oI ⟨hh₁, tkk, rfl⟩ hv ⟨st, tst, rfl, hst⟩ hI F₁ N₁
        obtain ⟨x, tx, rfl, hx⟩ := strs_at (.cons w0 tw0 (strs_values mid)) hv
        obtain ⟨hf0, hf1⟩ := loopF_step hx hst
        have hxl : x.length ≤ 10000 := hall x (by have := List.mem_of_getElem? hx; simp only [List.mem_cons, List.mem_append, List.not_mem_nil, or_false] at this ⊢; first | exact .inr (.inl this) | exact .inr this | (rcases this with h | h; exact .inl h; exact .inr (.inl h)) | exact this)
        clear F₀ N₀
        dsimp only at F₁ N₁
        k_steps
        · rw [hf0 (by assumption)] at ret
          exact ret _ _ (Fr.keep (by assumption))
        · exact ⟨_, _, _, rfl, by assumption, by assumption, _, _, mapTurn, _, _, rfl, hf1 (by assumption)⟩
      · rintro h tk p u ⟨st, tst, rfl, hst⟩ F₁ N₁
        rw [StrsAre.length (.cons w0 tw0 (strs_values mid)), List.drop_length] at hst
        rw [← hst] at ret
        clear F₀ N₀
        k_steps
        all_goals exact ret _ _ F₁.keep
    · refine Halt.mk ?_
      have e : matchP got w0 (mid.map (·.1)) wl = loopF got ((got.length : Int)) (w0 :: (mid.map (·.1) ++ [wl])) (0) := by
        unfold matchP
        have hz : (w0.length : Int) = 0 := by assumption
        have hz' : (wl.length : Int) = 0 := by assumption
        rw [startswith_empty hz, endswith_empty hz', decide_eq_true (by omega), if_neg (by omega), if_neg (by omega), hz, hz']
        simp
      rw [e] at ret
      clear e
      rename Fr _ _ _ _ => F₀
      rename News _ _ _ _ => N₀
      refine for_led2 (Str.ofString "startpos") (Str.ofString "w") (fun i p => ∃ st t, p = some (Value.int st t) ∧ loopF got ((got.length : Int)) ((w0 :: (mid.map (·.1) ++ [wl])).drop i) st = loopF got ((got.length : Int)) (w0 :: (mid.map (·.1) ++ [wl])) (0)) rfl (by k_mem) F₀ N₀ ⟨_, _, rfl, rfl⟩ ?_ ?_
      · rintro i v p u s₁ I oI ⟨hh₁, tkk, rfl⟩ hv ⟨st, tst, rfl, hst⟩ hI F₁ N₁
        obtain ⟨x, tx, rfl, hx⟩ := strs_at (.cons w0 tw0 (strs_app (strs_values mid) (.cons wl twl .nil))) hv
        obtain ⟨hf0, hf1⟩ := loopF_step hx hst
        have hxl : x.length ≤ 10000 := hall x (by have := List.mem_of_getElem? hx; simp only [List.mem_cons, List.mem_append, List.not_mem_nil, or_false] at this ⊢; first | exact .inr (.inl this) | exact .inr this | (rcases this with h | h; exact .inl h; exact .inr (.inl h)) | exact this)
        clear F₀ N₀
        dsimp only at F₁ N₁
        k_steps
        · rw [hf0 (by assumption)] at ret
          exact ret _ _ (Fr.keep (by assumption))
        · exact ⟨_, _, _, rfl, by assumption, by assumption, _, _, mapTurn, _, _, rfl, hf1 (by assumption)⟩
      · rintro h tk p u ⟨st, tst, rfl, hst⟩ F₁ N₁
        rw [StrsAre.length (.cons w0 tw0 (strs_app (strs_values mid) (.cons wl twl .nil))), List.drop_length] at hst
        rw [← hst] at ret
        clear F₀ N₀
        k_steps
        all_goals exact ret _ _ F₁.keep
end
end Mine
end
section
open PySem PySem.W PyProof.Rows PySem.Calls
set_option maxRecDepth 100000
set_option maxHeartbeats 4000000
namespace Mine
theorem filled6 : True := by
  w_top off
  trivial
section
local macro_rules | `(tactic| walk_at "mine never") => `(tactic| fail "never")
local macro_rules | `(tactic| walk_at "exec For Name Name cons nil") => `(tactic| (k_here; (rename Fr _ _ _ _ => lF'); (with_unfolding_all refine' For_invTF lF' ?_ ?k2; (case k2 => intro _; rfl); k_whole)))
local macro_rules | `(tactic| walk_at "pyIter ref") => `(tactic| refine Halt.of ?_)
local macro_rules | `(tactic| walk_at "eval ListComp") => `(tactic| refine Halt.of ?_)
local macro_rules | `(tactic| walk_at "CompSrcT") => `(tactic| refine Halt.of ?_)
local macro_rules | `(tactic| walk_at "CompEnd") => `(tactic| refine Halt.of ?_)
local macro_rules | `(tactic| walk_at "call type:list") => `(tactic| refine Halt.of ?_)
local macro_rules | `(tactic| walk_at "subscriptTail Name UnaryOp ref int") => `(tactic| (k_here; k_dflt (refine' item_neg ?N ?l ?h0 ?h1 ?h2 ?x ?_ ?s; (case N => k_asm); (case l => k_mem); (case h0 => decide); (case h1 => omega); (case h2 => decide); (case x => assumption); (case s => with_unfolding_all rfl); k_whole)))
local macro_rules | `(tactic| walk_at "binaryOp Add ref ref") => `(tactic| (k_here; k_dflt (refine' add_K ?F ?N ?a ?b ?z ?_; (case F => k_asm); (case N => k_asm); (case a => k_mem); (case b => k_mem); (case z => first | assumption | (simp only [List.length_append, List.length_cons, List.length_nil]; omega)); k_whole); intro D' h' F' N' l1; (try k_lt l1); (try k_sweep)))
local macro_rules | `(tactic| walk_at "call builtin:list.append") => `(tactic| (k_here; k_dflt (refine' append_L ?F ?N ?U ?z ?_; (case F => k_asm); (case N => k_asm); (case U => k_updF); (case z => first | assumption | (simp only [List.length_append, List.length_cons, List.length_nil]; omega) | omega); k_whole); intro h' n' F' N'; (try dsimp only at N'); (try k_sweep)))
local macro_rules | `(tactic| k_all) => `(tactic| assumption)
local macro_rules | `(tactic| k_mem) => `(tactic| assumption)
theorem rows_call {w : World} {A : Around} {s s₀ : Shared} {mg mb : Str → Option Value} {E Q : Value → Shared → Prop} {h₀ : Heap} {L : Addr} {m : Str → Option Value} {news : List (Addr × Obj)} {l₁ l₂ : Addr} {vs₁ vs₂ : List Value} {ns₁ ns₂ : List Int}
    (F : Fr h₀ L s.heap m) (N : News h₀ L s.heap news) (X : (hd.heap_39 w.params).In h₀) (T : Top hd.view_39 (looseW hd.view_39 []) (ExcName.means s₀.heap) mg mb h₀) (hh : A.handled = none) (hdp : A.depth ≤ 490) (hun : A.units ≤ 900) (hl₁ : s.heap.IsList l₁ vs₁.toArray) (hi₁ : IntsAre vs₁ ns₁) (hlen₁ : ns₁.length ≤ 1000) (hl₂ : s.heap.IsList l₂ vs₂.toArray) (hi₂ : IntsAre vs₂ ns₂) (hlen₂ : ns₂.length ≤ 1000)
    (ret : ∀ a (rl : List (Addr × List Value × Nat)) k h' tk', Fr h₀ L h' m → News h₀ L h' ((a, listOf (List.toArray (rl.map fun r => Value.ref r.1)) k) :: (rl.map fun r => (r.1, listOf (List.toArray r.2.1) r.2.2)) ++ news) → (∀ p ∈ news, p.1 ≠ a ∧ ∀ r ∈ rl, p.1 ≠ r.1) → (∀ r ∈ rl, r.1 ≠ a) → RowsAre rl (rowsF ns₁ ns₂) → Q (.ref a) { s with heap := h', toks := tk' }) :
    wpAny (model PySem.Challenge.rw_mq0110_01.row.prog w) A (call (.ref 73) [.ref l₁, .ref l₂]) Q E s := by
  refine weak hh hdp hun ?_
  replace X := X.keeps F.keep
  replace T := T.keeps F.keep
  replace ret : ∀ a (rl : List (Addr × List Value × Nat)) k h' tk', s.heap.StaysIn h' → h'.get? a = some (listOf (List.toArray (rl.map fun r => Value.ref r.1)) k) → (∀ r ∈ rl, h'.get? r.1 = some (listOf (List.toArray r.2.1) r.2.2)) → s.heap.get? a = none → (∀ r ∈ rl, s.heap.get? r.1 = none) →
      (∀ r ∈ rl, r.1 ≠ a) → RowsAre rl (rowsF ns₁ ns₂) → Q (.ref a) { s with heap := h', toks := tk' } := by
    intro a rl k h' tk' st ha hr na nr d i
    refine ret a rl k h' tk' (keepF F st) (addN F st ha na ?_) (fun p hp => ⟨farN N na p hp, fun r hr' => farN N (nr r hr') p hp⟩) d i
    intro p hp
    rcases List.mem_append.mp hp with hp | hp
    · obtain ⟨r, hr', rfl⟩ := List.mem_map.mp hp
      exact addN F st (hr r hr') (nr r hr') (keepN N st) _ (.head _)
    · exact keepN N st p hp
  clear F N hh hdp hun
  refine enter_defC (binds := [(Str.ofString "pattern", Value.ref l₁), (Str.ofString "page", Value.ref l₂)]) X T (by k_is) (by k_is) (by decide) (BindsTo.of_eq rfl) (by rfl) (by decide +kernel) ?_
  intro h₁ tk₁ cells F N Y
  obtain ⟨o, o', rfl, ho, ho'⟩ := CellsAre.two Y
  clear Y
  change o.data = Data.cell none at ho
  change o'.data = Data.cell (some (Value.ref l₂)) at ho'
  k_steps
  refine Halt.mk ?_
  rename_i r₀ _ q1 R _ q2 _ h' F' N'
  have e0 : rowsSt (ns₁.take 0) ns₂ = ([[0]], 0) := rfl
  refine for_base (σ := Obj × List (Addr × List Value × Nat) × Nat)
    (fun c => (s.heap.objs.size + 1 + 1, c.1) :: (s.heap.objs.size + 1, o') :: (R, listOf (List.toArray (c.2.1.map fun r => Value.ref r.1)) c.2.2) :: (c.2.1.map fun r => (r.1, listOf (List.toArray r.2.1) r.2.2)))
    (fun i c m => (∃ v, c.1.data = Data.cell v) ∧ RowsAre c.2.1 (rowsSt (ns₁.take i) ns₂).1 ∧ (∀ r ∈ c.2.1, r.1 ≠ R ∧ r.1 ≠ s.heap.objs.size + 1 + 1) ∧
      ∃ t, m = fun y => if y = Str.ofString "dots" then some (Value.int (rowsSt (ns₁.take i) ns₂).2 t) else if y = Str.ofString "rows" then some (Value.ref R) else if y = Str.ofString "pattern" then some (Value.ref l₁) else none)
    (o, [(r₀, [Value.int 0 tk₁], 0)], 0) rfl hl₁ F' ?_ ?_ ?_ ?_
  · intro p hp
    refine N' p ?_
    simp only [List.map_cons, List.map_nil, List.mem_cons, List.not_mem_nil, or_false] at hp ⊢
    rcases hp with h | h | h | h
    · exact .inr (.inr (.inl h))
    · exact .inr (.inr (.inr h))
    · exact .inl h
    · exact .inr (.inl h)
  · refine ⟨⟨_, ho⟩, .cons (.cons _ _ .nil) .nil, ?_, _, rfl⟩
    intro r hr
    rcases List.mem_singleton.mp hr with rfl
    exact ⟨by k_ne, by k_ne⟩
  · rintro i v ⟨o2, rl, k⟩ m₁ s₁ I oI hv ⟨⟨cv, ho2⟩, hrows, hfar, td, rfl⟩ hI F₁ N₁
    obtain ⟨n, tn, rfl, hn⟩ := ints_at hi₁ hv
    dsimp only at F₁ N₁ hrows hfar ho2 hI
    have hI1 : @Ne Nat (s.heap.objs.size + 1 + 1) I := hI _ (.head _)
    have hI2 : @Ne Nat (s.heap.objs.size + 1) I := hI _ (.tail _ (.head _))
    have hI3 : @Ne Nat R I := hI _ (.tail _ (.tail _ (.head _)))
    have hI4 : ∀ p ∈ rl.map (fun r => (r.1, listOf (List.toArray r.2.1) r.2.2)), p.1 ≠ I := fun p hp => hI _ (.tail _ (.tail _ (.tail _ hp)))
    have hL1 : ∀ p ∈ rl.map (fun r => (r.1, listOf (List.toArray r.2.1) r.2.2)), p.1 ≠ R := by
      intro p hp; obtain ⟨r, hr, rfl⟩ := List.mem_map.mp hp; exact (hfar r hr).1
    have hL2 : ∀ p ∈ rl.map (fun r => (r.1, listOf (List.toArray r.2.1) r.2.2)), p.1 ≠ s.heap.objs.size + 1 + 1 := by
      intro p hp; obtain ⟨r, hr, rfl⟩ := List.mem_map.mp hp; exact (hfar r hr).2
    clear hI
    generalize hLR : rl.map (fun r => (r.1, listOf (List.toArray r.2.1) r.2.2)) = LR at N₁ hI4 hL1 hL2
    generalize hrr : rl.map (fun r => Value.ref r.1) = rr at N₁
    clear F' N'
    have hlr : rl.length = (ns₁.take i).length + 1 := hrows.length.trans (rowsSt_length _ _)
    have hin : i < ns₁.length := (List.getElem?_eq_some_iff.mp hn).1
    rw [List.length_take, Nat.min_eq_left (Nat.le_of_lt hin)] at hlr
    have hrl : rr.length = i + 1 := by rw [← hrr, List.length_map, hlr]
    have hRl : (rowsSt (ns₁.take i) ns₂).1.length = i + 1 := by rw [← hrows.length, hlr]
    have hdt := rowsSt_dots ns₂ (ns₁.take i)
    rw [List.length_take, Nat.min_eq_left (Nat.le_of_lt hin)] at hdt
    have hok := rowsSt_ok ns₂ (ns₁.take i)
    have htk : ns₁.take (i + 1) = ns₁.take i ++ [n] := by simp [List.take_add_one, hn]
    rw [htk, rowsSt_snoc]
    generalize rowsSt (ns₁.take i) ns₂ = st at *
    obtain ⟨rows, dots⟩ := st
    dsimp only at *
    by_cases hA : n = 46 ∧ dots = 2
    · obtain ⟨hA1, hA2⟩ := hA
      obtain ⟨row3, hrow3⟩ : ∃ row, rows[i - 2]? = some row := ⟨_, List.getElem?_eq_getElem (by omega)⟩
      obtain ⟨a3, v3, k3, hg3, hi3⟩ := hrows.at hrow3
      have hx3 : rr[(-3 + (rr.length : Int)).toNat]? = some (Value.ref a3) := by
        have e : (-3 + (rr.length : Int)).toNat = i - 2 := by omega
        rw [e, ← hrr, List.getElem?_map, hg3]; rfl
      have hm3 : (a3, listOf (List.toArray v3) k3) ∈ LR := by rw [← hLR]; exact List.mem_map.mpr ⟨_, List.mem_of_getElem? hg3, rfl⟩
      have hok3 := hok row3 (List.mem_of_getElem? hrow3)
      have hv3 := hi3.length
      k_steps
      all_goals first | (exfalso; omega) | skip
      refine Halt.mk ?_
      rename ∀ a, a ∈ _ ++ _ → _ => hmin
      rename _ ∈ _ ++ _ => hmem
      have hleast := least_is hmem hmin
      have hpos := leastOf_nonneg (e := (ns₂.length : Int) + 1) (by omega) hok3.1
      have hub := hmin _ (List.mem_append_right _ (.head _))
      refine listRange_K rfl (by assumption) (by assumption) (by assumption) (by omega) (by omega) (by omega) (by omega) rfl ?_
      intro D h₂ tk₂ ys k₂ F₂ N₂ l₂ hys
      k_lt l₂
      k_sweep
      k_steps
      have hd3 : dotsNext dots n = 3 := by unfold dotsNext; rw [if_pos hA1]; omega
      refine rows_end (by assumption) (by assumption) (by k_mem) (by k_mem) (by k_mem) (by k_mem) (by k_mem) (by intro p hp; simp only [List.mem_cons, hp, or_true]) hLR hrr ⟨_, by assumption⟩ hrows ?_ hfar (by omega) (by omega) (by omega) hI1 hI2 hI3 hI4 ?_
      · unfold rowNext
        rw [if_pos hd3]
        have e : rows.getD (rows.length - 3) [] = row3 := by
          rw [List.getD_eq_getElem?_getD, show rows.length - 3 = i - 2 by omega, hrow3]; rfl
        rw [e, ← hleast]
        exact hys
      · have e : (rowsStep ns₂ (rows, dots) n).2 = 0 := by unfold rowsStep; rw [if_pos hd3]
        rw [e]
        exact ⟨_, dropThrice⟩
    · obtain ⟨row1, hrow1⟩ : ∃ row, rows[i]? = some row := ⟨_, List.getElem?_eq_getElem (by omega)⟩
      obtain ⟨a1, v1, k1, hg1, hi1⟩ := hrows.at hrow1
      have hx1 : rr[(-1 + (rr.length : Int)).toNat]? = some (Value.ref a1) := by
        have e : (-1 + (rr.length : Int)).toNat = i := by omega
        rw [e, ← hrr, List.getElem?_map, hg1]; rfl
      have hm1 : (a1, listOf (List.toArray v1) k1) ∈ LR := by rw [← hLR]; exact List.mem_map.mpr ⟨_, List.mem_of_getElem? hg1, rfl⟩
      have hok1 := hok row1 (List.mem_of_getElem? hrow1)
      have hv1 := hi1.length
      k_steps
      all_goals first | (exfalso; omega) | skip
      all_goals (
        refine Halt.mk ?_
        refine LCt.ListComp_T (by assumption) (by with_unfolding_all rfl) (by decide) rfl (by decide) rfl ?_
        k_steps
        refine Halt.mk ?_
        refine LCt.CompSrcT.ledger (its := List.toArray v1) rfl (by assumption) (by assumption) (by k_mem) (by rw [List.size_toArray, PySem.sizeLine_eq]; omega)
          fun g => compRestT_inv (fun j ys => IntsAre ys (((row1.take j).filter fun x => ns₂[x.toNat]? == some n).map (· + 1))) ?_ .nil ?_
        · intro j v I₂ oI₂ C oC D m₂ h tk ys E' hjn hP hJ hC hx F₂ N₂ off ne
          obtain ⟨x, tx, rfl, hx1'⟩ := ints_at hi1 (by simpa using hP)
          have hx0 := hok1.1 x (List.mem_of_getElem? hx1')
          k_steps
          · refine Halt.mk (LCg.CompEnd.intro (by assumption) (by assumption) _ (fun p hp => .tail _ (.tail _ hp)) off (.inr ⟨_, by k_mem, rfl, _, rfl⟩) ⟨rfl, filt_yes hx1' ((slice_one hx0).mp (by assumption)) hJ⟩)
          · refine Halt.mk (LCg.CompEnd.intro (by assumption) (by assumption) _ (fun p hp => .tail _ (.tail _ hp)) off (.inr ⟨_, by k_mem, rfl, _, rfl⟩) ⟨rfl, filt_no hx1' (fun hq => absurd ((slice_one hx0).mpr hq) (by assumption)) hJ⟩)
        · intro ys hJ D h tk F₂ N₂ off
          have ht : row1.take (List.toArray v1).size = row1 := by rw [List.size_toArray, hv1, List.take_length]
          rw [ht] at hJ
          simp only [LCg.Off1] at off
          k_sweep
          k_steps
          have hd3 : dotsNext dots n ≠ 3 := by unfold dotsNext; split <;> omega
          refine rows_end (by assumption) (by assumption) (by k_mem) (by k_mem) (by k_mem) (by k_mem) (by k_mem) (by intro p hp; simp only [List.mem_cons, hp, or_true]) hLR hrr ⟨_, by assumption⟩ hrows ?_ hfar (by omega) (by omega) (by omega) hI1 hI2 hI3 hI4 ?_
          · unfold rowNext
            rw [if_neg hd3]
            have e : rows.getD (rows.length - 1) [] = row1 := by
              rw [List.getD_eq_getElem?_getD, show rows.length - 1 = i by omega, hrow1]; rfl
            rw [e]
            exact hJ
          · have e : (rowsStep ns₂ (rows, dots) n).2 = dotsNext dots n := by unfold rowsStep; rw [if_neg hd3]
            rw [e]
            unfold dotsNext
            first
              | (rw [if_pos (by assumption)]; exact ⟨_, dropTwice⟩)
              | (rw [if_neg (by assumption)]; exact ⟨_, dropTwice⟩))
  · intro h tk m₁ c hInv F₁ N₁
    obtain ⟨o2, rl, k⟩ := c
    obtain ⟨_, hrows, hfar, td, rfl⟩ := hInv
    dsimp only at F₁ N₁ hrows hfar
    rw [hi₁.length, List.take_length] at hrows
    clear F' N'
    k_steps
    all_goals exact ret _ _ _ _ _ F₁.keep (N₁.get (.tail _ (.tail _ (.head _)))) (fun r hr => N₁.get (.tail _ (.tail _ (.tail _ (List.mem_map.mpr ⟨r, hr, rfl⟩))))) (N₁.fresh (.tail _ (.tail _ (.head _)))) (fun r hr => N₁.fresh (o := listOf (List.toArray r.2.1) r.2.2) (.tail _ (.tail _ (.tail _ (List.mem_map.mpr ⟨r, hr, rfl⟩))))) (fun r hr => (hfar r hr).1) hrows
end
end Mine
end
section
open PySem PySem.W PyProof.Rows PySem.Calls PySem.SeqAt PyProof.V
set_option maxRecDepth 100000
set_option maxHeartbeats 4000000
namespace Mine
theorem bools_of {vs : List Value} {ts : List Bool} (hl : vs.length = ts.length) (h : ∀ (i : Nat) v, vs[i]? = some v → ∃ x, ts[i]? = some x ∧ v = Value.bool x) : LSm.BoolsAre vs ts := by
  induction vs generalizing ts with
  | nil => cases ts with | nil => exact .nil | cons => simp at hl
  | cons v vs ih =>
    cases ts with
    | nil => simp at hl
    | cons x ts =>
      obtain ⟨y, hy, rfl⟩ := h 0 v rfl
      simp at hy
      subst hy
      exact .cons _ (ih (by simpa using hl) fun i w hw => by simpa using h (i + 1) w (by simpa using hw))
theorem bools_read {h : Heap} {vs : List Value} {bs : List Bool} (hi : LSm.BoolsAre vs bs) : ReadsAll h vs (bs.map PyData.bool) [] := by
  induction hi with
  | nil => exact ReadsAll.nil
  | cons b _ ih => exact (ReadsAll.cons (as := []) (Reads.bool b) ih : _)
/-- what the comparison of a list of bools with itself asks -/
theorem bools_self (bs : List Bool) : PyData.canLayAll0 (bs.map PyData.bool) = true ∧ PyData.depthAll (bs.map PyData.bool) ≤ 1 ∧ noMixAll (bs.map PyData.bool) (bs.map PyData.bool) = true ∧ PySem.Spec.sameAll (bs.map PyData.bool) (bs.map PyData.bool) = true := by
  induction bs with
  | nil => refine ⟨?_, ?_, ?_, ?_⟩ <;> simp [PyData.canLayAll0, PyData.depthAll, noMixAll, PySem.Spec.sameAll]
  | cons b r ih =>
    obtain ⟨i1, i2, i3, i4⟩ := ih
    rw [List.map_cons]
    refine ⟨by simp [PyData.canLayAll0, PyData.canLay0, i1], ?_, by simp [noMixAll, noMix, i3], by simp [PySem.Spec.sameAll, PySem.Spec.same, i4]⟩
    rw [PyData.depthAll, PyData.depth]
    exact Nat.max_le.mpr ⟨Nat.zero_le _, i2⟩
theorem bools_list {bs : List Bool} : shaped (.list (bs.map PyData.bool)) = true := by
  obtain ⟨i1, i2, _⟩ := bools_self bs
  refine Bool.and_eq_true_iff.mpr ⟨by rw [PyData.canLay0]; exact i1, decide_eq_true ?_⟩
  rw [PyData.depth]
  omega
theorem off1_of {D : Addr} {l : List (Addr × Obj)} (h : ∀ p ∈ l, p.1 ≠ D) : LCg.Off1 D l :=
  (LCg.Off3.of (I := D) (C := D) fun p hp => ⟨h p hp, h p hp, h p hp⟩).one
section
variable {prog : Program} {w : World} {A : Around} {E : Value → Shared → Prop} {s : Shared} {h₀ : Heap} {L : Addr} {m : Str → Option Value} {news : List (Addr × Obj)} {Q : Value → Shared → Prop}
/-- xs != ys, two lists of the same bools -/
theorem ne_bools {a b : Addr} {vs us : List Value} {k1 k2 : Nat} {bs : List Bool} (N : News h₀ L s.heap news) (ha : (a, listOf vs.toArray k1) ∈ news) (hi : LSm.BoolsAre vs bs) (hb : (b, listOf us.toArray k2) ∈ news) (hi' : LSm.BoolsAre us bs) (hu : A.units + 64 < cLine)
    (h : Q (.bool false) s) : wpAny (model prog w) A (compareOp .NotEq (.ref a) (.ref b)) Q E s :=
  ne_dataH_same (.list (N.get ha) rfl rfl (by simpa using bools_read hi)) (.list (N.get hb) rfl rfl (by simpa using bools_read hi')) bools_list bools_list hu (by simp only [noMix]; exact (bools_self bs).2.2.1) (by simp only [PySem.Spec.same]; rw [(bools_self bs).2.2.2]; exact h)
theorem offL1 {D : Addr} {x : Nat} {o : Obj} {l : List (Addr × Obj)} (h : LCg.Off1 D l) (hm : (x, o) ∈ l) : @Ne Nat x D := by
  induction l with
  | nil => cases hm
  | cons p r ih =>
    rcases List.mem_cons.mp hm with e | hm
    · rw [← e] at h; exact h.1
    · exact ih h.2 hm
theorem offL3a {D E F : Addr} {x : Nat} {o : Obj} {l : List (Addr × Obj)} (h : LCg.Off3 D E F l) (hm : (x, o) ∈ l) : @Ne Nat x D := (h.mem _ hm).1
theorem offL3b {D E F : Addr} {x : Nat} {o : Obj} {l : List (Addr × Obj)} (h : LCg.Off3 D E F l) (hm : (x, o) ∈ l) : @Ne Nat x E := (h.mem _ hm).2.1
theorem offL3c {D E F : Addr} {x : Nat} {o : Obj} {l : List (Addr × Obj)} (h : LCg.Off3 D E F l) (hm : (x, o) ∈ l) : @Ne Nat x F := (h.mem _ hm).2.2
/-- a difference that omega is not to split by -/
structure Df (a b : Nat) : Prop where
  ne : a ≠ b
theorem in_L {l : Addr} {vs : List Value} {ns : List Int} {n : Nat} {k : Int} {t : Tok} (N : News h₀ L s.heap news) (hl : (l, listOf vs.toArray n) ∈ news) (hi : IntsAre vs ns) (h : Q (.bool (decide (k ∈ ns))) s) :
    wpAny (model prog w) A (compareOp .In (.int k t) (.ref l)) Q E s := by
  refine in_list_ints ⟨_, N.get hl, rfl, _, rfl⟩ hi ?_
  have e : (ns.any (· == k)) = decide (k ∈ ns) := by
    rw [Bool.eq_iff_iff]
    simp
  rw [e]
  exact h
end
theorem parts_use {w : World} {A : Around} {s s₀ : Shared} {mg mb : Str → Option Value} {E Q : Value → Shared → Prop} {h₀ : Heap} {L : Addr} {m : Str → Option Value} {news : List (Addr × Obj)} {l : Addr} {vs : List Value} {kl : Nat} {ns : List Int}
    (F : Fr h₀ L s.heap m) (N : News h₀ L s.heap news) (X : (hd.heap_39 w.params).In h₀) (T : Top hd.view_39 (looseW hd.view_39 []) (ExcName.means s₀.heap) mg mb h₀) (hh : A.handled = none) (hdp : A.depth ≤ 490) (hun : A.units ≤ 900) (hl : (l, listOf vs.toArray kl) ∈ news) (hi : IntsAre vs ns) (hlen : ns.length ≤ 1000)
    (ret : ∀ a vs' k h' tk', Fr h₀ L h' m → News h₀ L h' ((a, listOf (List.toArray vs') k) :: news) → LCg.Off1 a news → IntsAre vs' (partsF ns) → (partsF ns).length ≤ 2 * ns.length → Q (.ref a) { s with heap := h', toks := tk' }) :
    wpAny (model PySem.Challenge.rw_mq0110_01.row.prog w) A (call (.ref 68) [.ref l]) Q E s :=
  parts_call F N X T hh hdp hun ⟨_, N.get hl, rfl, _, rfl⟩ hi hlen fun a vs' k h' tk' F' N' far i => ret a vs' k h' tk' F' N' (off1_of far) i (partsF_length ns)
theorem fronts_use {w : World} {A : Around} {s s₀ : Shared} {mg mb : Str → Option Value} {E Q : Value → Shared → Prop} {h₀ : Heap} {L : Addr} {m : Str → Option Value} {news : List (Addr × Obj)} {l : Addr} {vs : List Value} {kl : Nat} {ts : List Str}
    (F : Fr h₀ L s.heap m) (N : News h₀ L s.heap news) (X : (hd.heap_39 w.params).In h₀) (T : Top hd.view_39 (looseW hd.view_39 []) (ExcName.means s₀.heap) mg mb h₀) (hh : A.handled = none) (hdp : A.depth ≤ 490) (hun : A.units ≤ 900) (hl : (l, listOf vs.toArray kl) ∈ news) (hi : StrsAre vs ts) (hlen : ts.length ≤ 1000) (hsum : (ts.map (·.length)).sum ≤ 50000)
    (ret : ∀ a vs' k h' tk', Fr h₀ L h' m → News h₀ L h' ((a, listOf (List.toArray vs') k) :: news) → LCg.Off1 a news → StrsAre vs' (frontsF ts) → Q (.ref a) { s with heap := h', toks := tk' }) :
    wpAny (model PySem.Challenge.rw_mq0110_01.row.prog w) A (call (.ref 78) [.ref l]) Q E s :=
  fronts_call F N X T hh hdp hun ⟨_, N.get hl, rfl, _, rfl⟩ hi hlen hsum fun a vs' k h' tk' F' N' far i => ret a vs' k h' tk' F' N' (off1_of far) i
theorem rows_use {w : World} {A : Around} {s s₀ : Shared} {mg mb : Str → Option Value} {E Q : Value → Shared → Prop} {h₀ : Heap} {L : Addr} {m : Str → Option Value} {news : List (Addr × Obj)} {l₁ l₂ : Addr} {vs₁ vs₂ : List Value} {c₁ c₂ : Nat} {ns₁ ns₂ : List Int}
    (F : Fr h₀ L s.heap m) (N : News h₀ L s.heap news) (X : (hd.heap_39 w.params).In h₀) (T : Top hd.view_39 (looseW hd.view_39 []) (ExcName.means s₀.heap) mg mb h₀) (hh : A.handled = none) (hdp : A.depth ≤ 490) (hun : A.units ≤ 900) (hl₁ : (l₁, listOf vs₁.toArray c₁) ∈ news) (hi₁ : IntsAre vs₁ ns₁) (hlen₁ : ns₁.length ≤ 1000) (hl₂ : (l₂, listOf vs₂.toArray c₂) ∈ news) (hi₂ : IntsAre vs₂ ns₂) (hlen₂ : ns₂.length ≤ 1000)
    (ret : ∀ a (rl : List (Addr × List Value × Nat)) k h' tk', Fr h₀ L h' m → News h₀ L h' ((a, listOf (List.toArray (rl.map fun r => Value.ref r.1)) k) :: (news ++ (rl.map fun r => (r.1, listOf (List.toArray r.2.1) r.2.2)))) → LCg.Off1 a news →
      (∀ q ∈ news, ∀ p ∈ (rl.map fun r => ((r.1, listOf (List.toArray r.2.1) r.2.2) : Addr × Obj)), p.1 ≠ q.1) → (∀ p ∈ (rl.map fun r => ((r.1, listOf (List.toArray r.2.1) r.2.2) : Addr × Obj)), p.1 ≠ a) → RowsAre rl (rowsF ns₁ ns₂) → Q (.ref a) { s with heap := h', toks := tk' }) :
    wpAny (model PySem.Challenge.rw_mq0110_01.row.prog w) A (call (.ref 73) [.ref l₁, .ref l₂]) Q E s := by
  refine rows_call F N X T hh hdp hun ⟨_, N.get hl₁, rfl, _, rfl⟩ hi₁ hlen₁ ⟨_, N.get hl₂, rfl, _, rfl⟩ hi₂ hlen₂ fun a rl k h' tk' F' N' far d i => ?_
  refine ret a rl k h' tk' F' (fun p hp => N' p ?_) (off1_of fun p hp => (far p hp).1) ?_ ?_ i
  · rcases List.mem_cons.mp hp with rfl | hp
    · exact .head _
    · rcases List.mem_append.mp hp with hp | hp
      · exact .tail _ (List.mem_append_right _ hp)
      · exact .tail _ (List.mem_append_left _ hp)
  · intro q hq p hp
    obtain ⟨r, hr, rfl⟩ := List.mem_map.mp hp
    exact Ne.symm ((far q hq).2 r hr)
  · intro p hp
    obtain ⟨r, hr, rfl⟩ := List.mem_map.mp hp
    exact d r hr
end Mine
end
section
open PySem PySem.W PyProof.Rows PySem.Calls
namespace Mine
section
variable {α : Type}
/-- a gap before each piece -/
def MS : List (List α) → List α → Prop
  | [], g => g = []
  | w :: ws, g => ∃ x y, g = x ++ (w ++ y) ∧ MS ws y
def Mall : List (List α) → List α → Prop
  | [], _ => False
  | w :: ws, g => ∃ y, g = w ++ y ∧ MS ws y
theorem MS_snoc (c : List α) : ∀ (ws : List (List α)) (g : List α), MS (ws ++ [c]) g ↔ ∃ x y, g = x ++ (y ++ c) ∧ MS ws x
  | [], g => by
    constructor
    · rintro ⟨x, y, rfl, h⟩
      have e : y = [] := h
      subst e
      exact ⟨[], x, by simp, rfl⟩
    · rintro ⟨x, y, rfl, h⟩
      have e : x = [] := h
      subst e
      exact ⟨y, [], by simp, rfl⟩
  | w :: ws, g => by
    constructor
    · rintro ⟨x, y, rfl, h⟩
      obtain ⟨x', y', rfl, h'⟩ := (MS_snoc c ws y).mp h
      exact ⟨x ++ (w ++ x'), y', by simp, x, x', rfl, h'⟩
    · rintro ⟨x, y, rfl, x', y', rfl, h⟩
      exact ⟨x', y' ++ (y ++ c), by simp, (MS_snoc c ws _).mpr ⟨y', y, rfl, h⟩⟩
theorem Mall_snoc (c : List α) {ws : List (List α)} (hw : ws ≠ []) (g : List α) : Mall (ws ++ [c]) g ↔ ∃ x y, g = x ++ (y ++ c) ∧ Mall ws x := by
  cases ws with
  | nil => exact absurd rfl hw
  | cons w ws =>
    constructor
    · rintro ⟨y, rfl, h⟩
      obtain ⟨x', y', rfl, h'⟩ := (MS_snoc c ws y).mp h
      exact ⟨w ++ x', y', by simp, x', rfl, h'⟩
    · rintro ⟨x, y, rfl, y', rfl, h⟩
      exact ⟨y' ++ (y ++ c), by simp, (MS_snoc c ws _).mpr ⟨y', y, rfl, h⟩⟩
theorem Mall_one (c g : List α) : Mall [c] g ↔ g = c := by
  constructor
  · rintro ⟨y, rfl, h⟩
    have e : y = [] := h
    simp [e]
  · rintro rfl
    exact ⟨[], by simp, rfl⟩
theorem Mall_app (ds : List (List α)) (c : List α) (q : α) (g : List α) : Mall (ds ++ [c ++ [q]]) g ↔ ∃ g', g = g' ++ [q] ∧ Mall (ds ++ [c]) g' := by
  by_cases hd : ds = []
  · subst hd
    simp only [List.nil_append, Mall_one]
    constructor
    · rintro rfl; exact ⟨c, rfl, rfl⟩
    · rintro ⟨g', rfl, rfl⟩; rfl
  · rw [Mall_snoc _ hd]
    constructor
    · rintro ⟨x, y, rfl, h⟩
      exact ⟨x ++ (y ++ c), by simp, (Mall_snoc _ hd _).mpr ⟨x, y, rfl, h⟩⟩
    · rintro ⟨g', rfl, h⟩
      obtain ⟨x, y, rfl, h'⟩ := (Mall_snoc _ hd _).mp h
      exact ⟨x, y, by simp, h'⟩
theorem Mall_star (ws : List (List α)) (hw : ws ≠ []) (g : List α) : Mall (ws ++ [[]]) g ↔ ∃ x y, g = x ++ y ∧ Mall ws x := by
  rw [Mall_snoc _ hw]
  simp
theorem MS_grow {ws : List (List α)} (hw : ws ≠ []) (z : List α) {g : List α} (h : MS ws g) : MS ws (z ++ g) := by
  cases ws with
  | nil => exact absurd rfl hw
  | cons w ws =>
    obtain ⟨x, y, rfl, h⟩ := h
    exact ⟨z ++ x, y, by simp, h⟩
/-- the split so far: closed pieces, the piece at hand without its last dots, the dots -/
structure Sp (α : Type) where
  done : List (List α)
  cur : List α
  d : Nat
variable [DecidableEq α]
def Sp.step (dot : α) (s : Sp α) (q : α) : Sp α :=
  if q = dot then (if s.d = 2 then ⟨s.done ++ [s.cur], [], 0⟩ else ⟨s.done, s.cur, s.d + 1⟩)
  else ⟨s.done, s.cur ++ List.replicate s.d dot ++ [q], 0⟩
def Sp.last (dot : α) (s : Sp α) : List α := s.cur ++ List.replicate s.d dot
def Sp.pieces (dot : α) (s : Sp α) : List (List α) := s.done ++ [s.last dot]
def spF (dot : α) (l : List α) : Sp α := l.foldl (Sp.step dot) ⟨[], [], 0⟩
theorem spF_snoc (dot : α) (l : List α) (q : α) : spF dot (l ++ [q]) = (spF dot l).step dot q := by
  unfold spF; rw [List.foldl_append]; rfl
theorem spF_d (dot : α) (l : List α) : (spF dot l).d ≤ 2 := by
  induction l using snoc_ind with
  | h0 => simp [spF]
  | hs l a ih =>
    rw [spF_snoc]
    unfold Sp.step
    split
    · split <;> simp <;> omega
    · simp
/-- the dots at the end are the list's own last signs -/
theorem spF_back (dot : α) (l : List α) : ∃ l', l = l' ++ List.replicate (spF dot l).d dot ∧ spF dot l' = ⟨(spF dot l).done, (spF dot l).cur, 0⟩ := by
  induction l using snoc_ind with
  | h0 => exact ⟨[], rfl, rfl⟩
  | hs l a ih =>
    rw [spF_snoc]
    by_cases ha : a = dot
    · by_cases hd : (spF dot l).d = 2
      · refine ⟨l ++ [a], ?_, ?_⟩
        · simp [Sp.step, ha, hd]
        · rw [spF_snoc]; simp [Sp.step, ha, hd]
      · obtain ⟨l', e1, e2⟩ := ih
        refine ⟨l', ?_, ?_⟩
        · simp only [Sp.step, ha, hd, if_true, if_false]
          rw [List.replicate_succ', ← List.append_assoc, ← e1]
        · rw [e2]; simp [Sp.step, ha, hd]
    · refine ⟨l ++ [a], ?_, ?_⟩
      · simp [Sp.step, ha]
      · rw [spF_snoc]; simp [Sp.step, ha]
theorem pieces_plain (dot : α) (l : List α) (q : α) (h : ¬ (q = dot ∧ (spF dot l).d = 2)) : ∃ ds c, (spF dot l).pieces dot = ds ++ [c] ∧ (spF dot (l ++ [q])).pieces dot = ds ++ [c ++ [q]] := by
  refine ⟨(spF dot l).done, (spF dot l).last dot, rfl, ?_⟩
  rw [spF_snoc]
  by_cases hq : q = dot
  · have hd : ¬ (spF dot l).d = 2 := fun e => h ⟨hq, e⟩
    simp [Sp.step, Sp.pieces, Sp.last, hq, hd, List.replicate_succ']
  · simp [Sp.step, Sp.pieces, Sp.last, hq]
theorem pieces_triple (dot : α) (l : List α) (h : (spF dot l).d = 2) : ∃ l', l = l' ++ [dot, dot] ∧ (spF dot (l ++ [dot])).pieces dot = (spF dot l').pieces dot ++ [[]] := by
  obtain ⟨l', e1, e2⟩ := spF_back dot l
  refine ⟨l', ?_, ?_⟩
  · conv => lhs; rw [e1, h]
    rfl
  · rw [spF_snoc, e2]
    simp [Sp.step, Sp.pieces, Sp.last, h]
end
end Mine
end
section
open PySem PySem.W PyProof.Rows PySem.Calls
namespace Mine
theorem least_le {row : List Int} {e x : Int} (h : x ∈ row) : leastOf row e ≤ x := by
  induction row with
  | nil => cases h
  | cons a r ih =>
    show min a (leastOf r e) ≤ x
    rcases List.mem_cons.mp h with rfl | h
    · omega
    · have := ih h; omega
theorem least_mem {row : List Int} {e : Int} : leastOf row e = e ∨ leastOf row e ∈ row := by
  induction row with
  | nil => exact .inl rfl
  | cons a r ih =>
    have q : leastOf (a :: r) e = min a (leastOf r e) := rfl
    by_cases h : a ≤ leastOf r e
    · rw [q, Int.min_eq_left h]; exact .inr (.head _)
    · rw [q, Int.min_eq_right (by omega)]
      rcases ih with h | h
      · exact .inl h
      · exact .inr (.tail _ h)
theorem rangeKs_iff {a k : Int} {n : Nat} : k ∈ rangeKs a n ↔ a ≤ k ∧ k < a + n := by
  refine ⟨mem_rangeKs, fun ⟨h1, h2⟩ => ?_⟩
  exact List.mem_map.mpr ⟨(k - a).toNat, List.mem_range.mpr (by omega), by omega⟩
def RowOk (G : List Int) (row : List Int) (ws : List (List Int)) : Prop := ∀ k : Int, k ∈ row ↔ 0 ≤ k ∧ k ≤ G.length ∧ Mall ws (G.take k.toNat)
theorem pieces_ne {α : Type} [DecidableEq α] (dot : α) (s : Sp α) : s.pieces dot ≠ [] := by simp [Sp.pieces]
theorem rows_dp (G P : List Int) : (rowsSt P G).2 = ((spF (46 : Int) P).d : Nat) ∧ ∀ i row, (rowsSt P G).1[i]? = some row → RowOk G row ((spF (46 : Int) (P.take i)).pieces 46) := by
  induction P using snoc_ind with
  | h0 =>
    refine ⟨rfl, fun i row hr => ?_⟩
    have hi : i = 0 := by
      have := (List.getElem?_eq_some_iff.mp hr).1
      simp [rowsSt] at this
      exact this
    subst hi
    have e : row = [0] := by simpa [rowsSt] using hr.symm
    subst e
    intro k
    show k ∈ [0] ↔ 0 ≤ k ∧ k ≤ G.length ∧ Mall [[]] (G.take k.toNat)
    rw [Mall_one]
    constructor
    · intro h
      have : k = 0 := by simpa using h
      subst this
      exact ⟨by omega, by omega, by simp⟩
    · rintro ⟨h0, h1, h2⟩
      have := congrArg List.length h2
      rw [List.length_take, List.length_nil] at this
      have : k = 0 := by omega
      simp [this]
  | hs l a ih =>
    obtain ⟨hd, hrows⟩ := ih
    have hlen := rowsSt_length G l
    rw [rowsSt_snoc]
    have hd2 := spF_d (46 : Int) l
    have h3 : dotsNext (rowsSt l G).2 a = 3 ↔ a = 46 ∧ (spF (46 : Int) l).d = 2 := by
      unfold dotsNext
      rw [hd]
      constructor
      · intro h
        split at h
        · rename_i ha; exact ⟨ha, by omega⟩
        · omega
      · rintro ⟨rfl, h⟩
        rw [if_pos rfl, h]; rfl
    refine ⟨?_, fun i row hr => ?_⟩
    · show (if dotsNext (rowsSt l G).2 a = 3 then 0 else dotsNext (rowsSt l G).2 a) = _
      rw [spF_snoc]
      by_cases h : a = 46 ∧ (spF (46 : Int) l).d = 2
      · rw [if_pos (h3.mpr h)]
        simp [Sp.step, h.1, h.2]
      · rw [if_neg (fun q => h (h3.mp q))]
        unfold dotsNext Sp.step
        by_cases ha : a = 46
        · have hd' : ¬ (spF (46 : Int) l).d = 2 := fun q => h ⟨ha, q⟩
          rw [if_pos ha, if_pos ha, if_neg hd', hd]
          simp
        · rw [if_neg ha, if_neg ha]; rfl
    · have hr' : ((rowsSt l G).1 ++ [rowNext G (rowsSt l G).1 (rowsSt l G).2 a])[i]? = some row := hr
      by_cases hi : i < l.length + 1
      · rw [List.getElem?_append_left (by omega)] at hr'
        have := hrows i row hr'
        rwa [List.take_append_of_le_length (by omega)]
      · have hi' : i = l.length + 1 := by
          have := (List.getElem?_eq_some_iff.mp hr').1
          simp at this
          omega
        subst hi'
        rw [List.getElem?_append_right (by omega), hlen] at hr'
        have e : rowNext G (rowsSt l G).1 (rowsSt l G).2 a = row := by simpa using hr'
        have et : (l ++ [a]).take (l.length + 1) = l ++ [a] := by rw [List.take_of_length_le]; simp
        rw [et, ← e]
        unfold rowNext
        by_cases h : a = 46 ∧ (spF (46 : Int) l).d = 2
        · rw [if_pos (h3.mpr h)]
          obtain ⟨rfl, h2⟩ := h
          obtain ⟨l', el, ep⟩ := pieces_triple (46 : Int) l h2
          rw [ep]
          have hl' : l.length = l'.length + 2 := by rw [el]; simp
          obtain ⟨row3, hr3⟩ : ∃ r, (rowsSt l G).1[l'.length]? = some r := ⟨_, List.getElem?_eq_getElem (by omega)⟩
          have hg : (rowsSt l G).1.getD ((rowsSt l G).1.length - 3) [] = row3 := by
            rw [List.getD_eq_getElem?_getD, hlen, show l.length + 1 - 3 = l'.length by omega, hr3]; rfl
          have hk3 := hrows _ _ hr3
          rw [hg, show l.take l'.length = l' by rw [el]; simp] at *
          intro k
          rw [rangeKs_iff, Mall_star _ (pieces_ne _ _)]
          have hnn : 0 ≤ leastOf row3 (G.length + 1) := leastOf_nonneg (by omega) fun x hx => ((hk3 x).mp hx).1
          have hle : leastOf row3 (G.length + 1) ≤ G.length + 1 := by
            rcases least_mem (row := row3) (e := (G.length + 1 : Int)) with q | q
            · omega
            · have := ((hk3 _).mp q).2.1; omega
          constructor
          · rintro ⟨h1, h2⟩
            have hm : leastOf row3 (G.length + 1) ∈ row3 := by
              rcases least_mem (row := row3) (e := (G.length + 1 : Int)) with q | q
              · omega
              · exact q
            refine ⟨by omega, by omega, G.take (leastOf row3 (G.length + 1)).toNat, (G.take k.toNat).drop (leastOf row3 (G.length + 1)).toNat, ?_, ((hk3 _).mp hm).2.2⟩
            conv => lhs; rw [← List.take_append_drop (leastOf row3 (G.length + 1)).toNat (G.take k.toNat)]
            rw [List.take_take, Nat.min_eq_left (by omega)]
          · rintro ⟨h0, h1, x, y, exy, hx⟩
            have hxl : x.length ≤ k.toNat := by
              have := congrArg List.length exy
              simp at this
              omega
            have ex : x = G.take x.length := by
              have q : (G.take k.toNat).take x.length = x := by rw [exy]; simp
              rw [List.take_take, Nat.min_eq_left hxl] at q
              exact q.symm
            have hm : (x.length : Int) ∈ row3 := (hk3 _).mpr ⟨by omega, by omega, by rw [Int.toNat_natCast, ← ex]; exact hx⟩
            have := least_le (e := (G.length + 1 : Int)) hm
            omega
        · rw [if_neg (fun q => h (h3.mp q))]
          obtain ⟨ds, c, e1, e2⟩ := pieces_plain (46 : Int) l a h
          obtain ⟨row1, hr1⟩ : ∃ r, (rowsSt l G).1[l.length]? = some r := ⟨_, List.getElem?_eq_getElem (by omega)⟩
          have hg : (rowsSt l G).1.getD ((rowsSt l G).1.length - 1) [] = row1 := by
            rw [List.getD_eq_getElem?_getD, hlen, show l.length + 1 - 1 = l.length by omega, hr1]; rfl
          have hk1 := hrows _ _ hr1
          rw [List.take_length, e1] at hk1
          rw [hg, e2]
          intro k
          rw [Mall_app]
          constructor
          · intro hk
            obtain ⟨j, hj, rfl⟩ := List.mem_map.mp hk
            obtain ⟨hj1, hj2⟩ := List.mem_filter.mp hj
            obtain ⟨h0, h1, hm⟩ := (hk1 j).mp hj1
            have hj2' : G[j.toNat]? = some a := by simpa using hj2
            have hlt := (List.getElem?_eq_some_iff.mp hj2').1
            refine ⟨by omega, by omega, G.take j.toNat, ?_, hm⟩
            rw [show (j + 1).toNat = j.toNat + 1 by omega, List.take_add_one, hj2']
            rfl
          · rintro ⟨h0, h1, g', eg, hm⟩
            have hgl : k.toNat = g'.length + 1 := by
              have := congrArg List.length eg
              simp at this
              omega
            have hgt : g'.length < G.length := by omega
            rw [hgl, List.take_add_one] at eg
            have hsome : G[g'.length]? = some G[g'.length] := List.getElem?_eq_getElem hgt
            rw [hsome] at eg
            have eg' : G.take g'.length ++ [G[g'.length]] = g' ++ [a] := eg
            have e3 := List.append_inj' eg' rfl
            refine List.mem_map.mpr ⟨(g'.length : Int), List.mem_filter.mpr ⟨(hk1 _).mpr ⟨by omega, by omega, by rw [Int.toNat_natCast, e3.1]; exact hm⟩, ?_⟩, by omega⟩
            rw [Int.toNat_natCast, hsome]
            simpa using e3.2
end Mine
end
section
open PySem PySem.W PyProof.Rows PySem.Calls
namespace Mine
/-- the signs of a row of parts -/
def TP (P : List Int) : List Nat := P.flatMap encI
theorem TP_cons (p : Int) (P : List Int) : TP (p :: P) = encI p ++ TP P := by simp [TP]
theorem TP_app (P Q : List Int) : TP (P ++ Q) = TP P ++ TP Q := by simp [TP]
theorem enc_cases {q : Int} (h : OkPart q) : (0 ≤ q ∧ q < 32 ∧ encI q = [94, (q + 64).toNat]) ∨ ((32 ≤ q ∧ q ≤ 62 ∨ 96 ≤ q ∧ q ≤ 126) ∧ encI q = [q.toNat]) := by
  unfold OkPart at h
  unfold encI
  by_cases h32 : q < 32
  · exact .inl ⟨by omega, h32, by rw [if_pos h32]⟩
  · exact .inr ⟨by omega, by rw [if_neg h32]⟩
def AllOk (P : List Int) : Prop := ∀ p ∈ P, OkPart p
theorem AllOk.head {p : Int} {P : List Int} (h : AllOk (p :: P)) : OkPart p := h p (.head _)
theorem AllOk.tail {p : Int} {P : List Int} (h : AllOk (p :: P)) : AllOk P := fun q hq => h q (.tail _ hq)
theorem TP_prefix {P : List Int} : ∀ {G : List Int} {y : List Nat}, AllOk P → AllOk G → TP P ++ y = TP G → ∃ Y, G = P ++ Y ∧ y = TP Y := by
  induction P with
  | nil => intro G y _ _ h; exact ⟨G, rfl, h⟩
  | cons p P ih =>
    intro G y hP hG h
    rw [TP_cons] at h
    cases G with
    | nil =>
      rcases enc_cases hP.head with ⟨_, _, e⟩ | ⟨_, e⟩ <;> rw [e] at h <;> simp [TP] at h
    | cons g G =>
      rw [TP_cons] at h
      have key : p = g ∧ TP P ++ y = TP G := by
        rcases enc_cases hP.head with ⟨p0, p1, e⟩ | ⟨p0, e⟩ <;> rcases enc_cases hG.head with ⟨g0, g1, e'⟩ | ⟨g0, e'⟩ <;> rw [e, e'] at h <;> simp at h
        · exact ⟨by omega, h.2⟩
        · omega
        · omega
        · exact ⟨by omega, h.2⟩
      obtain ⟨rfl, h'⟩ := key
      obtain ⟨Y, rfl, rfl⟩ := ih hP.tail hG.tail h'
      exact ⟨Y, rfl, rfl⟩
/-- the signs begin one sign late, behind the first of two carets -/
theorem TP_mis {P : List Int} : ∀ {G : List Int} {y : List Nat}, AllOk P → AllOk G → TP P ++ y = 94 :: TP G → ∃ Y, 30 :: G = P ++ Y := by
  induction P with
  | nil => intro G y _ _ h; exact ⟨30 :: G, rfl⟩
  | cons p P ih =>
    intro G y hP hG h
    rw [TP_cons] at h
    rcases enc_cases hP.head with ⟨p0, p1, e⟩ | ⟨p0, e⟩
    · rw [e] at h
      simp at h
      cases G with
      | nil => simp [TP] at h
      | cons g G =>
        rw [TP_cons] at h
        rcases enc_cases hG.head with ⟨g0, g1, e'⟩ | ⟨g0, e'⟩
        · rw [e'] at h
          simp at h
          obtain ⟨h1, h2⟩ := h
          have hp : p = 30 := by omega
          subst hp
          cases P with
          | nil => exact ⟨g :: G, rfl⟩
          | cons p' P' =>
            have hg : g = 30 := by
              rw [TP_cons] at h2
              rcases enc_cases hP.tail.head with ⟨q0, q1, e2⟩ | ⟨q0, e2⟩
              · rw [e2] at h2; simp at h2; omega
              · rw [e2] at h2; simp at h2; omega
            subst hg
            obtain ⟨Y, hY⟩ := ih hP.tail hG.tail h2
            exact ⟨Y, by rw [List.cons_append, ← hY]⟩
        · rw [e'] at h
          simp at h
          omega
    · rw [e] at h
      simp at h
      omega
theorem TP_misEnd {P : List Int} : ∀ {G : List Int}, AllOk P → AllOk G → TP P = 94 :: TP G → False := by
  induction P with
  | nil => intro G _ _ h; simp [TP] at h
  | cons p P ih =>
    intro G hP hG h
    rw [TP_cons] at h
    rcases enc_cases hP.head with ⟨p0, p1, e⟩ | ⟨p0, e⟩
    · rw [e] at h
      simp at h
      cases G with
      | nil => simp [TP] at h
      | cons g G =>
        rw [TP_cons] at h
        rcases enc_cases hG.head with ⟨g0, g1, e'⟩ | ⟨g0, e'⟩
        · rw [e'] at h
          simp at h
          obtain ⟨h1, h2⟩ := h
          cases P with
          | nil => simp [TP] at h2
          | cons p' P' =>
            have hg : g = 30 := by
              rw [TP_cons] at h2
              rcases enc_cases hP.tail.head with ⟨q0, q1, e2⟩ | ⟨q0, e2⟩
              · rw [e2] at h2; simp at h2; omega
              · rw [e2] at h2; simp at h2; omega
            subst hg
            exact ih hP.tail hG.tail h2
        · rw [e'] at h
          simp at h
          omega
    · rw [e] at h
      simp at h
      omega
theorem TP_step {P : List Int} (hP : AllOk P) : ∀ {G : List Int} {x y : List Nat}, AllOk G → x ++ (TP P ++ y) = TP G → ∃ X Y, G = X ++ (P ++ Y) ∧ (TP X).length ≤ x.length := by
  intro G
  induction G with
  | nil =>
    intro x y hG h
    have h' : x ++ (TP P ++ y) = [] := h
    simp at h'
    obtain ⟨Y, e, _⟩ := TP_prefix (y := []) hP hG (by rw [h'.2.1]; rfl)
    exact ⟨[], Y, e, Nat.zero_le _⟩
  | cons g G ih =>
    intro x y hG h
    cases x with
    | nil =>
      obtain ⟨Y, e, _⟩ := TP_prefix hP hG h
      exact ⟨[], Y, e, Nat.zero_le _⟩
    | cons a x =>
      rw [TP_cons] at h
      rcases enc_cases hG.head with ⟨g0, g1, e⟩ | ⟨g0, e⟩
      · rw [e] at h
        simp at h
        obtain ⟨rfl, h⟩ := h
        cases x with
        | nil =>
          have h' : TP P ++ y = (g + 64).toNat :: TP G := h
          cases P with
          | nil => exact ⟨[], g :: G, rfl, Nat.zero_le _⟩
          | cons p P =>
            have hg : g = 30 := by
              rw [TP_cons] at h'
              rcases enc_cases hP.head with ⟨q0, q1, e2⟩ | ⟨q0, e2⟩
              · rw [e2] at h'; simp at h'; omega
              · rw [e2] at h'; simp at h'; omega
            subst hg
            obtain ⟨Y, hY⟩ := TP_mis hP hG.tail h'
            exact ⟨[], Y, hY, Nat.zero_le _⟩
        | cons b x =>
          simp at h
          obtain ⟨X, Y, rfl, hl⟩ := ih hG.tail h.2
          refine ⟨g :: X, Y, rfl, ?_⟩
          rw [TP_cons, e]
          simp
          omega
      · rw [e] at h
        simp at h
        obtain ⟨X, Y, rfl, hl⟩ := ih hG.tail h.2
        refine ⟨g :: X, Y, rfl, ?_⟩
        rw [TP_cons, e]
        simp
        omega
theorem TP_nil {Y : List Int} (h : AllOk Y) (e : TP Y = []) : Y = [] := by
  cases Y with
  | nil => rfl
  | cons g G =>
    rw [TP_cons] at e
    rcases enc_cases h.head with ⟨_, _, e'⟩ | ⟨_, e'⟩ <;> rw [e'] at e <;> simp at e
theorem TP_suffix {P : List Int} (hP : AllOk P) : ∀ {G : List Int} {x : List Nat}, AllOk G → x ++ TP P = TP G → ∃ X, G = X ++ P := by
  intro G
  induction G with
  | nil =>
    intro x hG h
    have h' : x ++ TP P = [] := h
    simp at h'
    exact ⟨[], by rw [TP_nil hP h'.2]; rfl⟩
  | cons g G ih =>
    intro x hG h
    cases x with
    | nil =>
      obtain ⟨Y, e, h2⟩ := TP_prefix (y := []) hP hG (by rw [List.append_nil]; exact h)
      have hY : AllOk Y := fun q hq => hG q (by rw [e]; exact List.mem_append_right _ hq)
      have := TP_nil hY h2.symm
      subst this
      exact ⟨[], by simpa using e⟩
    | cons a x =>
      rw [TP_cons] at h
      rcases enc_cases hG.head with ⟨g0, g1, e⟩ | ⟨g0, e⟩
      · rw [e] at h
        simp at h
        obtain ⟨rfl, h⟩ := h
        cases x with
        | nil =>
          have h' : TP P = (g + 64).toNat :: TP G := h
          cases P with
          | nil => simp [TP] at h'
          | cons p P =>
            have hg : g = 30 := by
              rw [TP_cons] at h'
              rcases enc_cases hP.head with ⟨q0, q1, e2⟩ | ⟨q0, e2⟩
              · rw [e2] at h'; simp at h'; omega
              · rw [e2] at h'; simp at h'; omega
            subst hg
            exact (TP_misEnd hP hG.tail h').elim
        | cons b x =>
          simp at h
          obtain ⟨X, rfl⟩ := ih hG.tail h.2
          exact ⟨g :: X, rfl⟩
      · rw [e] at h
        simp at h
        obtain ⟨X, rfl⟩ := ih hG.tail h.2
        exact ⟨g :: X, rfl⟩
theorem AllOk.app {X Y : List Int} (h : AllOk (X ++ Y)) : AllOk X ∧ AllOk Y := ⟨fun q hq => h q (List.mem_append_left _ hq), fun q hq => h q (List.mem_append_right _ hq)⟩
theorem MS_parts : ∀ {ws : List (List Int)} {G : List Int}, (∀ w ∈ ws, AllOk w) → AllOk G → (MS (ws.map TP) (TP G) ↔ MS ws G)
  | [], G, _, hG => by
    constructor
    · intro h; exact TP_nil hG h
    · intro h
      have e : G = [] := h
      subst e
      exact rfl
  | [P], G, hw, hG => by
    have hP := hw P (.head _)
    constructor
    · rintro ⟨x, y, h, hy⟩
      have e : y = [] := hy
      subst e
      rw [List.append_nil] at h
      obtain ⟨X, rfl⟩ := TP_suffix hP hG h.symm
      exact ⟨X, [], by simp, rfl⟩
    · rintro ⟨x, y, rfl, hy⟩
      have e : y = [] := hy
      subst e
      exact ⟨TP x, [], by simp [TP_app], rfl⟩
  | P :: w :: ws, G, hw, hG => by
    have hP := hw P (.head _)
    have ih : ∀ {G : List Int}, AllOk G → (MS ((w :: ws).map TP) (TP G) ↔ MS (w :: ws) G) := fun hG => MS_parts (fun v hv => hw v (.tail _ hv)) hG
    constructor
    · rintro ⟨x, y, h, hy⟩
      obtain ⟨X, Y, rfl, hl⟩ := TP_step hP hG h.symm
      have hY := hG.app.2.app.2
      refine ⟨X, Y, rfl, (ih hY).mp ?_⟩
      have hs : ∃ z, TP Y = z ++ y := by
        rw [TP_app, TP_app, ← List.append_assoc, ← List.append_assoc] at h
        have s1 : TP Y <:+ (TP X ++ TP P) ++ TP Y := ⟨_, rfl⟩
        have s2 : y <:+ (TP X ++ TP P) ++ TP Y := ⟨x ++ TP P, h.symm⟩
        have hlen := congrArg List.length h
        simp at hlen
        obtain ⟨z, hz⟩ := List.suffix_of_suffix_length_le s2 s1 (by omega)
        exact ⟨z, hz.symm⟩
      obtain ⟨z, hz⟩ := hs
      rw [hz]
      exact MS_grow (by simp) z hy
    · rintro ⟨x, y, rfl, hy⟩
      exact ⟨TP x, TP y, by simp [TP_app], (ih hG.app.2.app.2).mpr hy⟩
theorem Mall_parts {ws : List (List Int)} {G : List Int} (hw : ∀ w ∈ ws, AllOk w) (hG : AllOk G) : Mall (ws.map TP) (TP G) ↔ Mall ws G := by
  cases ws with
  | nil => exact Iff.rfl
  | cons w ws =>
    constructor
    · rintro ⟨y, h, hy⟩
      obtain ⟨Y, rfl, rfl⟩ := TP_prefix (hw w (.head _)) hG h.symm
      exact ⟨Y, rfl, (MS_parts (fun v hv => hw v (.tail _ hv)) hG.app.2).mp hy⟩
    · rintro ⟨y, rfl, hy⟩
      exact ⟨TP y, by rw [TP_app], (MS_parts (fun v hv => hw v (.tail _ hv)) hG.app.2).mpr hy⟩
end Mine
end
section
open PySem PySem.W PyProof.Rows PySem.Calls
namespace Mine
section
variable {α : Type}
/-- the pieces in order, a gap before each and one behind the last -/
def MG : List (List α) → List α → Prop
  | [], _ => True
  | w :: ws, g => ∃ x y, g = x ++ (w ++ y) ∧ MG ws y
theorem MG_grow (z : List α) : ∀ {ws : List (List α)} {g : List α}, MG ws g → MG ws (z ++ g)
  | [], _, _ => trivial
  | _ :: _, _, ⟨x, y, e, h⟩ => ⟨z ++ x, y, by rw [e, List.append_assoc], h⟩
theorem MG_iff : ∀ (ws : List (List α)) (g : List α), MG ws g ↔ ∃ a b, g = a ++ b ∧ MS ws a
  | [], g => ⟨fun _ => ⟨[], g, rfl, rfl⟩, fun _ => trivial⟩
  | w :: ws, g => by
    constructor
    · rintro ⟨x, y, rfl, h⟩
      obtain ⟨a, b, rfl, h'⟩ := (MG_iff ws y).mp h
      exact ⟨x ++ (w ++ a), b, by simp, x, a, rfl, h'⟩
    · rintro ⟨a, b, rfl, x, y, rfl, h⟩
      exact ⟨x, y ++ b, by simp, (MG_iff ws _).mpr ⟨y, b, rfl, h⟩⟩
theorem MG_nilFront (ws : List (List α)) (g : List α) : MG ([] :: ws) g ↔ MG ws g := by
  constructor
  · rintro ⟨x, y, rfl, h⟩; exact MG_grow x h
  · intro h; exact ⟨[], g, rfl, h⟩
theorem MG_nilBack : ∀ (ws : List (List α)) (g : List α), MG (ws ++ [[]]) g ↔ MG ws g
  | [], g => ⟨fun _ => trivial, fun _ => ⟨[], g, rfl, trivial⟩⟩
  | w :: ws, g => by
    constructor
    · rintro ⟨x, y, e, h⟩; exact ⟨x, y, e, (MG_nilBack ws y).mp h⟩
    · rintro ⟨x, y, e, h⟩; exact ⟨x, y, e, (MG_nilBack ws y).mpr h⟩
theorem Mall_ends (w0 wl : List α) (mid : List (List α)) (g : List α) : Mall (w0 :: (mid ++ [wl])) g ↔ ∃ z, g = w0 ++ (z ++ wl) ∧ MG mid z := by
  constructor
  · rintro ⟨y, rfl, h⟩
    obtain ⟨a, b, rfl, h'⟩ := (MS_snoc wl mid y).mp h
    exact ⟨a ++ b, by simp, (MG_iff _ _).mpr ⟨a, b, rfl, h'⟩⟩
  · rintro ⟨z, rfl, h⟩
    obtain ⟨a, b, rfl, h'⟩ := (MG_iff _ _).mp h
    exact ⟨(a ++ b) ++ wl, rfl, (MS_snoc wl mid _).mpr ⟨a, b, by simp, h'⟩⟩
end
section
open StrLaws Builtin.Str
theorem len_toList (x : Str) : x.cps.toList.length = x.length := by simp [Str.length]
theorem at_iff {x y : Str} {hi i : Nat} (hh : hi ≤ x.length) : At x y hi i ↔ ∃ a b, x.cps.toList.take hi = a ++ (y.cps.toList ++ b) ∧ a.length = i := by
  have hx := len_toList x
  have hy := len_toList y
  unfold At
  rw [subAt_eq, beq_iff_eq]
  generalize x.cps.toList = X at *
  generalize y.cps.toList = Y at *
  constructor
  · rintro ⟨h1, h2⟩
    refine ⟨X.take i, (X.take hi).drop (i + y.length), ?_, by rw [List.length_take]; omega⟩
    rw [← h2]
    have e1 : X.take i = (X.take hi).take i := by rw [List.take_take, Nat.min_eq_left (by omega)]
    have e2 : (X.drop i).take y.length = ((X.take hi).drop i).take y.length := by
      rw [List.drop_take, List.take_take, Nat.min_eq_left (by omega)]
    rw [e1, e2, ← List.drop_drop, List.take_append_drop, List.take_append_drop]
  · rintro ⟨a, b, e, rfl⟩
    have hl := congrArg List.length e
    simp only [List.length_take, List.length_append] at hl
    refine ⟨by omega, ?_⟩
    have e2 : (X.drop a.length).take y.length = ((X.take hi).drop a.length).take y.length := by
      rw [List.drop_take, List.take_take, Nat.min_eq_left (by omega)]
    rw [e2, e, List.drop_left, ← hy, List.take_left]
theorem occ1 (x y : Str) (lo hi : Nat) :
    (occurrences x y lo hi 1 = [] ∧ ∀ i, lo ≤ i → ¬ At x y hi i) ∨
    ∃ i r, occurrences x y lo hi 1 = i :: r ∧ lo ≤ i ∧ At x y hi i ∧ ∀ k, lo ≤ k → k < i → ¬ At x y hi k := by
  rw [occ_eq]
  cases occ_first x y hi 1 (Nat.le_refl 1) (List.range' lo (hi + 1 - lo)) lo fun i hm => (List.mem_range'_1.mp hm).1 with
  | inl q => exact .inl ⟨by rw [q.1], fun i hlo a => q.2 i (List.mem_range'_1.mpr ⟨hlo, by have := a.1; omega⟩) a⟩
  | inr q =>
    obtain ⟨pre, a, post, e, q0, qa, qn⟩ := q
    obtain ⟨b1, b2⟩ := range'_split_from e
    rw [← Array.getElem?_toList, ← List.head?_eq_getElem?] at q0
    obtain ⟨r, er⟩ := List.head?_eq_some_iff.mp q0
    exact .inr ⟨a, r, er, b1, qa, fun k k0 k1 => qn k (b2 k k0 k1)⟩
theorem fromIndex_nat (n k : Nat) : fromIndex n (k : Int) = k := by
  unfold fromIndex
  have h : ¬ ((k : Int) < 0) := by omega
  rw [if_neg h]
  omega
theorem find_spec (x y : Str) (st en : Nat) (he : en ≤ x.length) :
    (findF x y st en = -1 ∧ ∀ i, st ≤ i → ¬ At x y en i) ∨ ∃ i : Nat, findF x y st en = (i : Int) ∧ st ≤ i ∧ At x y en i ∧ ∀ k, st ≤ k → k < i → ¬ At x y en k := by
  unfold findF
  rw [fromIndex_nat, fromIndex_nat, Nat.min_eq_left he]
  rcases occ1 x y st en with ⟨h, hn⟩ | ⟨i, r, h, h1, h2, h3⟩
  · rw [h]; exact .inl ⟨rfl, hn⟩
  · rw [h]; exact .inr ⟨i, rfl, h1, h2, h3⟩
theorem loop_spec (got : Str) (en : Nat) (he : en ≤ got.length) : ∀ (ws : List Str) (st : Nat), st ≤ en → (loopF got en ws st = true ↔ MG (ws.map fun w => w.cps.toList) ((got.cps.toList.take en).drop st))
  | [], st, _ => ⟨fun _ => trivial, fun _ => rfl⟩
  | w :: ws, st, hs => by
    have hw := len_toList w
    have hx := len_toList got
    have hl : (got.cps.toList.take en).length = en := by rw [List.length_take]; omega
    rw [List.map_cons]
    rcases find_spec got w st en he with ⟨h, hn⟩ | ⟨i, h, h1, h2, h3⟩
    · unfold loopF
      rw [h, if_pos (by omega)]
      constructor
      · intro q; cases q
      · rintro ⟨x, y, e, _⟩
        refine absurd ((at_iff he).mpr ⟨(got.cps.toList.take en).take st ++ x, y, ?_, rfl⟩) (hn _ ?_)
        · rw [List.append_assoc, ← e, List.take_append_drop]
        · rw [List.length_append, List.length_take, hl, Nat.min_eq_left hs]; omega
    · unfold loopF
      have e0 : (i : Int) + (w.length : Int) = ((i + w.length : Nat) : Int) := by omega
      rw [h, if_neg (by omega), e0, loop_spec got en he ws (i + w.length) (by have := h2.1; omega)]
      obtain ⟨a, b, e, ha⟩ := (at_iff he).mp h2
      have eb : (got.cps.toList.take en).drop (i + w.length) = b := by
        rw [e, ← List.append_assoc, show i + w.length = (a ++ w.cps.toList).length by rw [List.length_append, ha, hw], List.drop_left]
      have ea : (got.cps.toList.take en).drop st = a.drop st ++ (w.cps.toList ++ b) := by
        rw [e, List.drop_append_of_le_length (by omega)]
      rw [eb, ea]
      constructor
      · intro q; exact ⟨_, _, rfl, q⟩
      · rintro ⟨x, y, exy, q⟩
        have hge : i ≤ st + x.length := by
          refine Nat.le_of_not_lt fun hlt => h3 (st + x.length) (by omega) hlt ((at_iff he).mpr ⟨(got.cps.toList.take en).take st ++ x, y, ?_, ?_⟩)
          · rw [List.append_assoc, ← exy, ← ea, List.take_append_drop]
          · rw [List.length_append, List.length_take, hl, Nat.min_eq_left hs]
        have hlen := congrArg List.length exy
        simp only [List.length_append, List.length_drop] at hlen
        have s1 : y <:+ a.drop st ++ (w.cps.toList ++ b) := ⟨x ++ w.cps.toList, by rw [exy, List.append_assoc]⟩
        have s2 : b <:+ a.drop st ++ (w.cps.toList ++ b) := ⟨a.drop st ++ w.cps.toList, by rw [List.append_assoc]⟩
        obtain ⟨z, hz⟩ := List.suffix_of_suffix_length_le s1 s2 (by omega)
        rw [← hz]
        exact MG_grow z q
theorem starts_iff (x y : Str) : Txt.startswith x y = true ↔ ∃ z, x.cps.toList = y.cps.toList ++ z := by
  unfold Txt.startswith
  rw [Bool.and_eq_true, decide_eq_true_iff]
  have h := at_iff (x := x) (y := y) (i := 0) (Nat.le_refl x.length)
  unfold At at h
  rw [h, ← len_toList x, List.take_length]
  constructor
  · rintro ⟨a, b, e, ha⟩
    rw [List.length_eq_zero_iff.mp ha] at e
    exact ⟨b, e⟩
  · rintro ⟨z, e⟩; exact ⟨[], z, e, rfl⟩
theorem ends_iff (x y : Str) : Txt.endswith x y = true ↔ ∃ z, x.cps.toList = z ++ y.cps.toList := by
  unfold Txt.endswith
  have hx := len_toList x
  have hy := len_toList y
  rw [Bool.and_eq_true, decide_eq_true_iff, subAt_eq, beq_iff_eq]
  constructor
  · rintro ⟨h1, h2⟩
    rw [List.take_of_length_le (by rw [List.length_drop]; omega)] at h2
    exact ⟨x.cps.toList.take (x.length - y.length), by rw [← h2, List.take_append_drop]⟩
  · rintro ⟨z, e⟩
    have hl := congrArg List.length e
    rw [List.length_append] at hl
    refine ⟨by omega, ?_⟩
    rw [e, show x.length - y.length = z.length by omega, List.drop_left, ← hy, List.take_length]
theorem empty_of_len {y : Str} (h : ¬ (y.length : Int) ≠ 0) : y.cps.toList = [] := by
  have := len_toList y
  exact List.length_eq_zero_iff.mp (by omega)
theorem matchP_spec (got w0 wl : Str) (mid : List Str) : matchP got w0 mid wl = true ↔ Mall (w0.cps.toList :: ((mid.map fun w => w.cps.toList) ++ [wl.cps.toList])) got.cps.toList := by
  have hx := len_toList got
  have h0 := len_toList w0
  have hl := len_toList wl
  unfold matchP
  rw [Mall_ends, Bool.and_eq_true, Bool.and_eq_true, Bool.and_eq_true, starts_iff, ends_iff, decide_eq_true_iff]
  have key : ∀ en : Nat, en ≤ got.length → w0.length ≤ en → (loopF got en ((if (w0.length : Int) ≠ 0 then [] else [w0]) ++ mid ++ (if (wl.length : Int) ≠ 0 then [] else [wl])) w0.length = true ↔ MG (mid.map fun w => w.cps.toList) ((got.cps.toList.take en).drop w0.length)) := by
    intro en h1 h2
    rw [loop_spec got en h1 _ _ h2]
    generalize (got.cps.toList.take en).drop w0.length = g
    rw [List.map_append, List.map_append]
    have f1 : ∀ ws : List (List Nat), MG ((if (w0.length : Int) ≠ 0 then [] else [w0]).map (fun w : Str => w.cps.toList) ++ ws) g ↔ MG ws g := by
      intro ws
      split
      · exact Iff.rfl
      · rename_i h; show MG (w0.cps.toList :: ws) g ↔ _; rw [empty_of_len h]; exact MG_nilFront ws g
    have f2 : ∀ ws : List (List Nat), MG (ws ++ (if (wl.length : Int) ≠ 0 then [] else [wl]).map (fun w : Str => w.cps.toList)) g ↔ MG ws g := by
      intro ws
      split
      · simp
      · rename_i h; show MG (ws ++ [wl.cps.toList]) g ↔ _; rw [empty_of_len h]; exact MG_nilBack ws g
    rw [f2, f1]
  constructor
  · rintro ⟨⟨z1, e1⟩, ⟨z2, e2⟩, hle, hlo⟩
    have l2 := congrArg List.length e2
    rw [List.length_append] at l2
    have een : (got.length : Int) - wl.length = ((got.length - wl.length : Nat) : Int) := by omega
    rw [een] at hlo
    refine ⟨_, ?_, (key _ (by omega) (by omega)).mp hlo⟩
    have e3 : got.cps.toList.take (got.length - wl.length) = z2 := by rw [e2, show got.length - wl.length = z2.length by omega, List.take_left]
    rw [e3]
    have e4 : z2.take w0.length = w0.cps.toList := by
      have : (got.cps.toList).take w0.length = w0.cps.toList := by rw [e1, ← h0, List.take_left]
      rw [e2, List.take_append_of_le_length (by omega)] at this
      exact this
    rw [e2]
    conv => lhs; rw [← List.take_append_drop w0.length z2, e4]
    rw [List.append_assoc]
  · rintro ⟨z, e, hz⟩
    have l := congrArg List.length e
    rw [List.length_append, List.length_append] at l
    have een : (got.length : Int) - wl.length = ((got.length - wl.length : Nat) : Int) := by omega
    refine ⟨⟨_, e⟩, ⟨w0.cps.toList ++ z, by rw [e, List.append_assoc]⟩, by omega, ?_⟩
    rw [een]
    refine (key _ (by omega) (by omega)).mpr ?_
    have e3 : (got.cps.toList.take (got.length - wl.length)).drop w0.length = z := by
      rw [e, ← List.append_assoc, show got.length - wl.length = (w0.cps.toList ++ z).length by rw [List.length_append]; omega, List.take_left, ← h0, List.drop_left]
    rw [e3]
    exact hz
end
end Mine
end
section
open PySem PySem.W PyProof.Rows PySem.Calls
namespace Mine
section
variable {α : Type} [DecidableEq α]
theorem sp_free (dot : α) (l : List α) (h : ∀ a b, l ≠ a ++ ([dot, dot, dot] ++ b)) : (spF dot l).done = [] ∧ (spF dot l).last dot = l := by
  induction l using snoc_ind with
  | h0 => exact ⟨rfl, rfl⟩
  | hs l q ih =>
    have ih := ih fun a b e => h a (b ++ [q]) (by rw [e]; simp)
    obtain ⟨h1, h2⟩ := ih
    rw [spF_snoc]
    unfold Sp.last at h2 ⊢
    unfold Sp.step
    by_cases hq : q = dot
    · by_cases hd : (spF dot l).d = 2
      · rw [hd] at h2
        generalize (spF dot l).cur = c at h2
        exact absurd (by rw [← h2, hq]; simp) (h c [])
      · rw [if_pos hq, if_neg hd]
        refine ⟨h1, ?_⟩
        show (spF dot l).cur ++ List.replicate ((spF dot l).d + 1) dot = l ++ [q]
        rw [List.replicate_succ', ← List.append_assoc, h2, hq]
    · rw [if_neg hq]
      refine ⟨h1, ?_⟩
      show (spF dot l).cur ++ List.replicate (spF dot l).d dot ++ [q] ++ [] = l ++ [q]
      rw [h2, List.append_nil]
theorem pieces_free (dot : α) (l : List α) (h : ∀ a b, l ≠ a ++ ([dot, dot, dot] ++ b)) : (spF dot l).pieces dot = [l] := by
  obtain ⟨h1, h2⟩ := sp_free dot l h
  unfold Sp.pieces
  rw [h1, h2]; rfl
theorem fold_done (dot : α) (p : List (List α)) : ∀ (r : List α) (s : Sp α), r.foldl (Sp.step dot) ⟨p ++ s.done, s.cur, s.d⟩ = ⟨p ++ (r.foldl (Sp.step dot) s).done, (r.foldl (Sp.step dot) s).cur, (r.foldl (Sp.step dot) s).d⟩
  | [], _ => rfl
  | q :: r, s => by
    rw [List.foldl_cons, List.foldl_cons]
    have e : Sp.step dot ⟨p ++ s.done, s.cur, s.d⟩ q = ⟨p ++ (s.step dot q).done, (s.step dot q).cur, (s.step dot q).d⟩ := by
      unfold Sp.step
      split
      · split
        · simp
        · rfl
      · rfl
    rw [e]
    exact fold_done dot p r (s.step dot q)
theorem pieces_cut (dot : α) (a r : List α) (h : ∀ x y, x.length < a.length → a ++ ([dot, dot, dot] ++ r) ≠ x ++ ([dot, dot, dot] ++ y)) : (spF dot (a ++ ([dot, dot, dot] ++ r))).pieces dot = a :: (spF dot r).pieces dot := by
  have hf := sp_free dot a fun x y e => h x (y ++ ([dot, dot, dot] ++ r)) (by rw [e]; simp) (by rw [e]; simp)
  have hd2 := spF_d dot a
  have hd : (spF dot a).d = 0 := by
    have h2 := hf.2
    unfold Sp.last at h2
    rcases hq : (spF dot a).d with _ | _ | _ | n
    · rfl
    · rw [hq] at h2
      generalize (spF dot a).cur = c at h2
      refine absurd ?_ (h c (dot :: r) (by rw [← h2]; simp))
      conv => lhs; rw [← h2]
      simp
    · rw [hq] at h2
      generalize (spF dot a).cur = c at h2
      refine absurd ?_ (h c (dot :: dot :: r) (by rw [← h2]; simp))
      conv => lhs; rw [← h2]
      simp [List.replicate]
    · omega
  have hc : spF dot a = ⟨[], a, 0⟩ := by
    have h2 := hf.2
    unfold Sp.last at h2
    rw [hd] at h2
    have h3 : (spF dot a).cur = a := by simpa using h2
    rcases hs : spF dot a with ⟨d1, d2, d3⟩
    rw [hs] at hd h3 hf
    have h4 : d1 = [] := hf.1
    subst h4
    have h5 : d2 = a := h3
    subst h5
    have h6 : d3 = 0 := hd
    subst h6
    rfl
  have e : spF dot (a ++ ([dot, dot, dot] ++ r)) = ⟨[a] ++ (spF dot r).done, (spF dot r).cur, (spF dot r).d⟩ := by
    unfold spF
    rw [List.foldl_append, List.foldl_append]
    have e1 : a.foldl (Sp.step dot) ⟨[], [], 0⟩ = ⟨[], a, 0⟩ := hc
    rw [e1]
    have e2 : [dot, dot, dot].foldl (Sp.step dot) ⟨[], a, 0⟩ = ⟨[a] ++ [], [], 0⟩ := by simp [Sp.step]
    rw [e2]
    exact fold_done dot [a] r ⟨[], [], 0⟩
  rw [e]
  rfl
end
section
open StrLaws Builtin.Str
theorem dots3_list : dots3.cps.toList = [46, 46, 46] := by decide +kernel
theorem dots3_len : dots3.length = 3 := by decide +kernel
theorem dots3_kind : Builtin.Str.strKind dots3 = 1 := by decide +kernel
theorem kind_pos (x : Str) : 1 ≤ Builtin.Str.strKind x := by
  unfold Builtin.Str.strKind
  split
  · omega
  · split <;> omega
theorem sub_toEnd (x : Str) (a : Nat) : (strSub x a x.length).cps.toList = x.cps.toList.drop a := by
  rw [strSub_toList]
  exact List.take_of_length_le (by rw [List.length_drop, len_toList]; omega)
theorem at_whole {x y : Str} {i : Nat} : At x y x.length i ↔ ∃ a b, x.cps.toList = a ++ (y.cps.toList ++ b) ∧ a.length = i := by
  rw [at_iff (Nat.le_refl _), ← len_toList x, List.take_length]
theorem partsFrom_pieces (x : Str) : ∀ (cuts : List Nat) (a f : Nat), a ≤ x.length → ChainG x dots3 x.length a cuts f → (∀ k, f ≤ k → ¬ At x dots3 x.length k) → (partsFrom x dots3.length a cuts).map (fun w => w.cps.toList) = (spF 46 (x.cps.toList.drop a)).pieces 46
  | [], a, f, ha, h, hn => by
    have e : f = a := h
    subst e
    show [(strSub x f x.length).cps.toList] = _
    rw [sub_toEnd, pieces_free]
    intro u v e
    refine hn (f + u.length) (by omega) (at_whole.mpr ⟨x.cps.toList.take f ++ u, v, ?_, ?_⟩)
    · rw [dots3_list, List.append_assoc, ← e, List.take_append_drop]
    · rw [List.length_append, List.length_take, len_toList, Nat.min_eq_left ha]
  | c :: r, a, f, ha, h, hn => by
    obtain ⟨h1, h2, h3, h4⟩ := h
    have hc := h2.1
    have ih := partsFrom_pieces x r (c + dots3.length) f hc h4 hn
    show (strSub x a c).cps.toList :: (partsFrom x dots3.length (c + dots3.length) r).map (fun w => w.cps.toList) = _
    rw [ih, strSub_toList]
    have hs : (x.cps.toList.drop c).take dots3.length = dots3.cps.toList := by
      have := h2.2
      rw [subAt_eq] at this
      exact eq_of_beq this
    have e1 : x.cps.toList.drop a = (x.cps.toList.drop a).take (c - a) ++ ([46, 46, 46] ++ x.cps.toList.drop (c + dots3.length)) := by
      conv => lhs; rw [← List.take_append_drop (c - a) (x.cps.toList.drop a)]
      rw [List.drop_drop, show a + (c - a) = c by omega, ← dots3_list, ← hs, ← List.drop_drop, List.take_append_drop]
    conv => rhs; rw [e1]
    rw [pieces_cut]
    intro u v hu e
    rw [← e1] at e
    rw [List.length_take] at hu
    refine h3 (a + u.length) (by omega) (by omega) (at_whole.mpr ⟨x.cps.toList.take a ++ u, v, ?_, ?_⟩)
    · rw [dots3_list, List.append_assoc, ← e, List.take_append_drop]
    · rw [List.length_append, List.length_take, len_toList, Nat.min_eq_left ha]
theorem no_dots {x : Str} (h : (occurrences x dots3 0 x.length 1).isEmpty = true) (a b : List Nat) : x.cps.toList ≠ a ++ ([46, 46, 46] ++ b) := by
  intro e
  have hA : At x dots3 x.length a.length := at_whole.mpr ⟨a, b, by rw [dots3_list]; exact e, rfl⟩
  have := (found_iff x dots3).mpr ⟨_, hA.1, hA.2⟩
  rw [h] at this
  cases this
theorem occ_more {x : Str} (h : (occurrences x dots3 0 x.length 1).isEmpty = false) : 3 ≤ x.length ∧ ∃ c r, occurrences x dots3 0 x.length (x.length + 1) = c :: r := by
  obtain ⟨i, h1, h2⟩ := (found_iff x dots3).mp (by rw [h]; rfl)
  have h3 := dots3_len
  refine ⟨by omega, ?_⟩
  rcases occ_head x dots3 (x.length + 1) (by omega) with ⟨_, hn⟩ | ⟨c, r, e, _⟩
  · exact absurd ⟨h1, h2⟩ (hn i)
  · exact ⟨c, r, e⟩
theorem split_eq {x : Str} (h : (occurrences x dots3 0 x.length 1).isEmpty = false) : Txt.split x dots3 = partsFrom x dots3.length 0 (occurrences x dots3 0 x.length (x.length + 1)) := by
  obtain ⟨h3, c, r, e⟩ := occ_more h
  unfold Txt.split
  have n1 : ¬ x.length < dots3.length := by rw [dots3_len]; omega
  have n2 : ¬ Builtin.Str.strKind x < Builtin.Str.strKind dots3 := by have := kind_pos x; rw [dots3_kind]; omega
  rw [if_neg (by rw [decide_eq_false n1, decide_eq_false n2]; decide), if_neg (by rw [e]; exact Bool.noConfusion), partsBetween_eq]
theorem split_pieces {x : Str} (h : (occurrences x dots3 0 x.length 1).isEmpty = false) : (Txt.split x dots3).map (fun w => w.cps.toList) = (spF 46 x.cps.toList).pieces 46 := by
  obtain ⟨f, hG, hn⟩ := occ_tight x dots3 (by rw [dots3_len]; omega)
  rw [split_eq h, partsFrom_pieces x _ 0 f (Nat.zero_le _) hG hn, List.drop_zero]
theorem partsFrom_len (x : Str) (w : Nat) : ∀ (cuts : List Nat) (a : Nat), (partsFrom x w a cuts).length = cuts.length + 1
  | [], _ => rfl
  | c :: r, a => by
    show (partsFrom x w (c + w) r).length + 1 = _
    rw [partsFrom_len x w r]; rfl
theorem split_two {x : Str} (h : (occurrences x dots3 0 x.length 1).isEmpty = false) : 2 ≤ (Txt.split x dots3).length := by
  obtain ⟨h3, c, r, e⟩ := occ_more h
  rw [split_eq h, partsFrom_len, e, List.length_cons]
  omega
theorem matchT_spec (want got : Str) : matchT want got = true ↔ Mall ((spF 46 want.cps.toList).pieces 46) got.cps.toList := by
  unfold matchT
  split
  · rename_i h
    rw [pieces_free _ _ (no_dots h), Mall_one, beq_iff_eq]
    constructor
    · rintro rfl; rfl
    · intro e; exact Str.ext' (Array.toList_inj.mp e.symm)
  · rename_i h
    have h' : (occurrences want dots3 0 want.length 1).isEmpty = false := by simpa using h
    rw [← split_pieces h']
    obtain ⟨a, mid, z, e⟩ := two_ends (split_two h')
    rw [e, matchL_ends, matchP_spec]
    simp
end
theorem sp_TP (P : List Int) (hP : AllOk P) : spF 46 (TP P) = ⟨(spF (46 : Int) P).done.map TP, TP (spF (46 : Int) P).cur, (spF (46 : Int) P).d⟩ := by
  induction P using snoc_ind with
  | h0 => rfl
  | hs l q ih =>
    have ih := ih hP.app.1
    have hq : OkPart q := hP.app.2 q (.head _)
    have hrep : ∀ n, TP (List.replicate n 46) = List.replicate n 46 := by
      intro n
      induction n with
      | zero => rfl
      | succ n ihn => rw [List.replicate_succ, List.replicate_succ, TP_cons, ihn]; rfl
    have hone : TP [q] = encI q := by simp [TP]
    rw [TP_app, hone, spF_snoc]
    by_cases h46 : q = 46
    · subst h46
      have e : encI 46 = [46] := by decide
      rw [e, spF_snoc, ih]
      unfold Sp.step
      rw [if_pos rfl, if_pos rfl]
      by_cases hd : (spF (46 : Int) l).d = 2
      · rw [if_pos hd, if_pos hd]; simp [TP]
      · rw [if_neg hd, if_neg hd]
    · rcases enc_cases hq with ⟨q0, q1, e⟩ | ⟨q0, e⟩
      · rw [e, show TP l ++ [94, (q + 64).toNat] = (TP l ++ [94]) ++ [(q + 64).toNat] by simp, spF_snoc, spF_snoc, ih]
        have n2 : ¬ (q + 64).toNat = 46 := by omega
        simp [Sp.step, h46, n2, TP_app, hrep, hone, e]
      · rw [e, spF_snoc, ih]
        have n2 : ¬ q.toNat = 46 := by omega
        simp [Sp.step, h46, n2, TP_app, hrep, hone, e]
theorem pieces_TP (P : List Int) (hP : AllOk P) : (spF 46 (TP P)).pieces 46 = ((spF (46 : Int) P).pieces 46).map TP := by
  have hrep : ∀ n, TP (List.replicate n 46) = List.replicate n 46 := by
    intro n
    induction n with
    | zero => rfl
    | succ n ihn => rw [List.replicate_succ, List.replicate_succ, TP_cons, ihn]; rfl
  rw [sp_TP P hP]
  simp [Sp.pieces, Sp.last, TP_app, hrep]
theorem pieces_ok (P : List Int) (hP : AllOk P) : ∀ w ∈ (spF (46 : Int) P).pieces 46, AllOk w := by
  have key : (∀ w ∈ (spF (46 : Int) P).done, AllOk w) ∧ AllOk (spF (46 : Int) P).cur := by
    induction P using snoc_ind with
    | h0 => exact ⟨fun _ h => (nomatch h), fun _ h => (nomatch h)⟩
    | hs l q ih =>
      obtain ⟨i1, i2⟩ := ih hP.app.1
      have hq : OkPart q := hP.app.2 q (.head _)
      rw [spF_snoc]
      unfold Sp.step
      split
      · split
        · refine ⟨fun w hw => ?_, fun _ h => (nomatch h)⟩
          rcases List.mem_append.mp hw with h | h
          · exact i1 w h
          · rw [List.mem_singleton.mp h]; exact i2
        · exact ⟨i1, i2⟩
      · refine ⟨i1, fun x hx => ?_⟩
        rcases List.mem_append.mp hx with h | h
        · rcases List.mem_append.mp h with h | h
          · exact i2 x h
          · rw [List.eq_of_mem_replicate h]; exact .inl ⟨by decide, by decide⟩
        · rw [List.mem_singleton.mp h]; exact hq
  intro w hw
  rcases List.mem_append.mp hw with h | h
  · exact key.1 w h
  · rw [List.mem_singleton.mp h]
    intro x hx
    rcases List.mem_append.mp hx with h | h
    · exact key.2 x h
    · rw [List.eq_of_mem_replicate h]; exact .inl ⟨by decide, by decide⟩
/-- the text of a row of codes -/
def textC (ns : List Int) : Str := Txt.join (Str.ofString "") (ns.map fun c => textOf (encC c))
theorem join_empty : ∀ ts : List Str, (Str.join (Str.ofString "") ts).cps.toList = ts.flatMap fun t => t.cps.toList
  | [] => rfl
  | [x] => by simp [Str.join]
  | x :: y :: r => by
    have ih := join_empty (y :: r)
    have e : (Str.ofString "").cps.toList = [] := by decide +kernel
    show (x ++ Str.ofString "" ++ Str.join (Str.ofString "") (y :: r)).cps.toList = _
    rw [Str.cps_append, Str.cps_append, Array.toList_append, Array.toList_append, ih, e]
    simp
theorem enc_parts {c : Int} (h : OkCode c) : encC c = TP (if c > 127 then [33, c.fmod 128] else [c]) := by
  obtain ⟨h0, h1, _⟩ := h
  unfold encC
  by_cases hc : c < 128
  · rw [if_pos hc, if_neg (by omega)]; simp [TP]
  · rw [if_neg hc, if_pos (by omega)]
    have e : c.fmod 128 = c - 128 := by
      rw [Int.fmod_eq_emod_of_nonneg _ (by decide)]; omega
    rw [e, TP_cons]
    have e2 : encI 33 = [33] := by decide
    rw [e2]
    simp [TP]
theorem textC_list {ns : List Int} (h : ∀ c ∈ ns, OkCode c) : (textC ns).cps.toList = TP (partsF ns) := by
  unfold textC Txt.join
  rw [StrLaws.glued_eq_join, join_empty]
  induction ns with
  | nil => rfl
  | cons c r ih =>
    have ih := ih fun x hx => h x (.tail _ hx)
    rw [List.map_cons, List.flatMap_cons, ih]
    unfold partsF
    rw [List.flatMap_cons, TP_app, ← enc_parts (h c (.head _))]
    rfl
theorem parts_ok {ns : List Int} (h : ∀ c ∈ ns, OkCode c) : AllOk (partsF ns) := by
  intro q hq
  obtain ⟨c, hc, hq⟩ := List.mem_flatMap.mp hq
  obtain ⟨h0, h1, h2⟩ := h c hc
  split at hq
  · have e : c.fmod 128 = c % 128 := Int.fmod_eq_emod_of_nonneg _ (by decide)
    rw [e] at hq
    simp only [List.mem_cons, List.not_mem_nil, or_false] at hq
    rcases hq with rfl | rfl
    · exact .inl ⟨by decide, by decide⟩
    · exact h2
  · have e : q = c := by simpa using hq
    have e2 : c % 128 = c := by omega
    rw [e2] at h2
    rw [e]; exact h2
theorem parts_take (ns : List Int) (i : Nat) : (partsF ns).take (partsF (ns.take i)).length = partsF (ns.take i) := by
  have e : partsF ns = partsF (ns.take i) ++ partsF (ns.drop i) := by
    conv => lhs; rw [← List.take_append_drop i ns]
    unfold partsF
    rw [List.flatMap_append]
  rw [e, List.take_left]
theorem plain_law {pn gn : List Int} (hp : ∀ c ∈ pn, OkCode c) (hg : ∀ c ∈ gn, OkCode c) {i j : Nat} (_ : i ≤ pn.length) (_ : j ≤ gn.length) {row : List Int} (hr : (rowsF (partsF pn) (partsF gn))[(partsF (pn.take i)).length]? = some row) :
    matchT (textC (pn.take i)) (textC (gn.take j)) = decide (((partsF (gn.take j)).length : Int) ∈ row) := by
  have hp' : ∀ c ∈ pn.take i, OkCode c := fun c hc => hp c (List.mem_of_mem_take hc)
  have hg' : ∀ c ∈ gn.take j, OkCode c := fun c hc => hg c (List.mem_of_mem_take hc)
  have hrow := (rows_dp (partsF gn) (partsF pn)).2 _ row hr
  rw [parts_take] at hrow
  have hk := hrow ((partsF (gn.take j)).length : Int)
  rw [Int.toNat_natCast, parts_take] at hk
  have hle : (partsF (gn.take j)).length ≤ (partsF gn).length := by
    have := congrArg List.length (parts_take gn j)
    rw [List.length_take] at this
    omega
  rw [Bool.eq_iff_iff, decide_eq_true_iff, hk, matchT_spec, textC_list hp', textC_list hg', pieces_TP _ (parts_ok hp'), Mall_parts (pieces_ok _ (parts_ok hp')) (parts_ok hg')]
  constructor
  · intro h; exact ⟨by omega, by omega, h⟩
  · exact fun h => h.2.2
theorem TP_len (P : List Int) : (TP P).length ≤ 2 * P.length := by
  induction P with
  | nil => simp [TP]
  | cons p P ih =>
    rw [TP_cons, List.length_append, List.length_cons]
    have : (encI p).length ≤ 2 := by unfold encI; split <;> simp
    omega
theorem plain_split {pn : List Int} (hp : ∀ c ∈ pn, OkCode c) (hl : pn.length ≤ 21) : (textC pn).length ≤ 10000 ∧ ((Builtin.Str.occurrences (textC pn) dots3 0 (textC pn).length 1).isEmpty = false → 2 ≤ (Txt.split (textC pn) dots3).length) ∧ (Txt.split (textC pn) dots3).length ≤ 10000 := by
  have h1 : (textC pn).length ≤ 84 := by
    have e := congrArg List.length (textC_list hp)
    rw [len_toList] at e
    have := TP_len (partsF pn)
    have := partsF_length pn
    omega
  have h2 := split_le (textC pn) dots3
  exact ⟨by omega, split_two, by omega⟩
end Mine
end
section
open PySem PySem.W PyProof.Rows PySem.Calls
set_option maxRecDepth 100000
set_option maxHeartbeats 4000000
namespace Mine
theorem filled8 : True := by
  w_top off
  trivial
theorem ok_app {a b : List Int} (h : ∀ c ∈ a, OkCode c) (h' : ∀ c ∈ b, OkCode c) : ∀ c ∈ a ++ b, OkCode c := fun c hc => (List.mem_append.mp hc).elim (h c) (h' c)
theorem okp1 {c j : Int} (h : OkCode c) : OkPart ((c + j * 256 - 512) % 128) := by
  have e : (c + j * 256 - 512) % 128 = c % 128 := by omega
  rw [e]; exact h.2.2
theorem okp2 {c : Int} (h : OkCode c) : OkPart (((c.toNat : Nat) : Int) % 128) := by
  have e : ((c.toNat : Nat) : Int) = c := by have := h.1; omega
  rw [e]; exact h.2.2
theorem mod1 {c j : Int} (h : OkCode c) : (c + j * 256 - 512) % 256 = c := by have := h.1; have := h.2.1; omega
theorem mod2 {c : Int} (h : OkCode c) : ((c.toNat : Nat) : Int) % 256 = c := by have := h.1; have := h.2.1; omega
theorem strsC {zs : List Value} {ns : List Int} (hl : zs.length = ns.length) (hG : ∀ (i : Nat) (y : Value), zs[i]? = some y → ∃ c t, ns[i]? = some c ∧ y = Value.str (textOf (encC c)) t) : StrsAre zs (ns.map fun c => textOf (encC c)) := by
  refine strs_of (by simp [hl]) fun i v hv => ?_
  obtain ⟨c, t, hc, rfl⟩ := hG i v hv
  exact ⟨_, t, by simp [hc], rfl⟩
theorem encC_len {c : Int} : (textOf (encC c)).length ≤ 3 := by
  unfold encC encI textOf
  show (List.toArray _).size ≤ 3
  split <;> split <;> simp
theorem sumC {ns : List Int} (h : ∀ c ∈ ns, OkCode c) : ((ns.map fun c => textOf (encC c)).map (·.length)).sum ≤ 3 * ns.length := by
  clear h
  induction ns with
  | nil => simp
  | cons a l ih =>
    have := encC_len (c := a)
    simp only [List.map_cons, List.sum_cons, List.length_cons] at ih ⊢
    omega
theorem partsF_take_le (ns : List Int) (i : Nat) : (partsF (ns.take i)).length ≤ (partsF ns).length := by
  conv => rhs; rw [← List.take_append_drop i ns]
  unfold partsF
  rw [List.flatMap_append, List.length_append]
  omega
theorem lawMap {a b c u1 u2 u3 p q : Option Value} :
    (fun y => if y = Str.ofString "pattern" then p else if y = Str.ofString "shown" then a else if y = Str.ofString "asked" then b else if y = Str.ofString "cell" then c else
      if y = Str.ofString "shown" then u1 else if y = Str.ofString "asked" then u2 else if y = Str.ofString "cell" then u3 else if y = Str.ofString "pattern" then p else if y = Str.ofString "script" then q else none) =
    fun y => if y = Str.ofString "shown" then a else if y = Str.ofString "asked" then b else if y = Str.ofString "cell" then c else if y = Str.ofString "pattern" then p else if y = Str.ofString "script" then q else none := by
  funext y
  by_cases e0 : y = Str.ofString "pattern"
  · subst e0; rfl
  by_cases e1 : y = Str.ofString "shown"
  · simp only [if_neg e0, if_pos e1]
  by_cases e2 : y = Str.ofString "asked"
  · simp only [if_neg e0, if_neg e1, if_pos e2]
  by_cases e3 : y = Str.ofString "cell"
  · simp only [if_neg e0, if_neg e1, if_neg e2, if_pos e3]
  simp only [if_neg e0, if_neg e1, if_neg e2, if_neg e3]
section
local macro_rules | `(tactic| walk_at "exec For Name BinOp cons nil") => `(tactic| (k_here; (rename Fr _ _ _ _ => lF'); (with_unfolding_all refine' For_invTF lF' ?_ ?k2; (case k2 => intro _; rfl); k_whole)))
local macro_rules | `(tactic| walk_at "pyIter ref") => `(tactic| refine Halt.of ?_)
local macro_rules | `(tactic| walk_at "exec Assign cons ListComp") => `(tactic| refine Halt.of ?_)
local macro_rules | `(tactic| walk_at "CompSrc") => `(tactic| refine Halt.of ?_)
local macro_rules | `(tactic| walk_at "subscriptTail Name Call ref int") => `(tactic| refine Halt.of ?_)
local macro_rules | `(tactic| walk_at "compareOp NotEq ref ref") => `(tactic| refine Halt.of ?_)
local macro_rules | `(tactic| walk_at "exec For Tuple Call cons nil") => `(tactic| refine Halt.of ?_)
local macro_rules | `(tactic| walk_at "CompEnd") => `(tactic| refine Halt.of ?_)
local macro_rules | `(tactic| walk_at "eval ListComp") => `(tactic| refine Halt.of ?_)
local macro_rules | `(tactic| walk_at "call type:enumerate") => `(tactic| refine Halt.of ?_)
local macro_rules | `(tactic| k_all) => `(tactic| assumption)
local macro_rules | `(tactic| k_mem) => `(tactic| assumption)
local macro_rules | `(tactic| walk_at "call ref") => `(tactic| (k_here; (with_reducible show wpAny _ _ (call (Value.ref 61) [Value.int _ _]) _ _ _); (refine' pair_call ?k1 ?k2 ?k3 ?k4 rfl ?k5 ?k6  ?_; (case k1 => k_asm); (case k2 => k_asm); (case k3 => k_asm); (case k4 => k_asm); (case k5 => exact Nat.le_of_ble_eq_true rfl); (case k6 => exact Nat.le_of_ble_eq_true rfl);  intro a' l1' l2' vs1' vs2' ns1' ns2' kk1' kk2' h' tk' F' N' far' d' i1' i2' o1' o2' z1' z2'; (replace far' := LCg.Off3.of far'); (replace d' := Df.mk d'); (have y1' := IntsAre.length i1'); (have y2' := IntsAre.length i2'); (try dsimp only); (try k_sweep))))
local macro_rules | `(tactic| walk_at "call ref") => `(tactic| (k_here; (with_reducible show wpAny _ _ (call (Value.ref 42) [Value.int _ _]) _ _ _); (refine' unctrl_call ?k1 ?k2 ?k3 ?k4 rfl ?k5 ?k6 (.inl ⟨_, rfl⟩) ?p ?_; (case k1 => k_asm); (case k2 => k_asm); (case k3 => k_asm); (case k4 => k_asm); (case k5 => exact Nat.le_of_ble_eq_true rfl); (case k6 => exact Nat.le_of_ble_eq_true rfl); (case p => exact okp1 (by assumption)); intro t' h' tk' F' N'; (try dsimp only); (try k_sweep))))
local macro_rules | `(tactic| walk_at "call ref") => `(tactic| (k_here; (with_reducible show wpAny _ _ (call (Value.ref 42) [Value.str _ _]) _ _ _); (refine' unctrl_call ?k1 ?k2 ?k3 ?k4 rfl ?k5 ?k6 (.inr ⟨_, _, rfl, rfl⟩) ?p ?_; (case k1 => k_asm); (case k2 => k_asm); (case k3 => k_asm); (case k4 => k_asm); (case k5 => exact Nat.le_of_ble_eq_true rfl); (case k6 => exact Nat.le_of_ble_eq_true rfl); (case p => exact okp2 (by assumption)); intro t' h' tk' F' N'; (try dsimp only); (try k_sweep))))
local macro_rules | `(tactic| walk_at "call ref") => `(tactic| (k_here; (with_reducible show wpAny _ _ (call (Value.ref 21) [Value.str _ _, Value.str _ _]) _ _ _); (refine' match_call ?k1 ?k2 ?k3 ?k4 rfl ?k5 ?k6 ?a ?b ?c ?d ?_; (case k1 => k_asm); (case k2 => k_asm); (case k3 => k_asm); (case k4 => k_asm); (case k5 => exact Nat.le_of_ble_eq_true rfl); (case k6 => exact Nat.le_of_ble_eq_true rfl); (case a => assumption); (case b => assumption); (case c => assumption); (case d => assumption); intro h' tk' F' N'; (try dsimp only); (try k_sweep))))
local macro_rules | `(tactic| walk_at "compareOp In int ref") => `(tactic| (k_here; k_dflt (refine' in_L ?N ?l ?i ?_; (case N => k_asm); (case l => k_mem); (case i => assumption); k_whole)))
local macro_rules | `(tactic| walk_at "call ref") => `(tactic| (k_here; (with_reducible show wpAny _ _ (call (Value.ref 68) [Value.ref _]) _ _ _); (refine' parts_use ?k1 ?k2 ?k3 ?k4 rfl ?k5 ?k6 ?l ?i ?z ?_; (case k1 => k_asm); (case k2 => k_asm); (case k3 => k_asm); (case k4 => k_asm); (case k5 => exact Nat.le_of_ble_eq_true rfl); (case k6 => exact Nat.le_of_ble_eq_true rfl); (case l => k_mem); (case i => assumption); (case z => first | assumption | omega | (simp only [List.length_take] at *; omega)); intro a' vs' kk' h' tk' F' N' far' i' z'; (try dsimp only); (try k_sweep))))
local macro_rules | `(tactic| walk_at "call ref") => `(tactic| (k_here; (with_reducible show wpAny _ _ (call (Value.ref 73) [Value.ref _, Value.ref _]) _ _ _); (refine' rows_use ?k1 ?k2 ?k3 ?k4 rfl ?k5 ?k6 ?l ?i ?z ?l2 ?i2 ?z2 ?_; (case k1 => k_asm); (case k2 => k_asm); (case k3 => k_asm); (case k4 => k_asm); (case k5 => exact Nat.le_of_ble_eq_true rfl); (case k6 => exact Nat.le_of_ble_eq_true rfl); (case l => k_mem); (case i => assumption); (case z => omega); (case l2 => k_mem); (case i2 => assumption); (case z2 => omega); intro a' rl' kk' h' tk' F' N' far' far2' far3' i'; (try dsimp only); (try k_sweep))))
local macro_rules | `(tactic| walk_at "call ref") => `(tactic| (k_here; (with_reducible show wpAny _ _ (call (Value.ref 78) [Value.ref _]) _ _ _); (refine' fronts_use ?k1 ?k2 ?k3 ?k4 rfl ?k5 ?k6 ?l ?i ?z ?y ?_; (case k1 => k_asm); (case k2 => k_asm); (case k3 => k_asm); (case k4 => k_asm); (case k5 => exact Nat.le_of_ble_eq_true rfl); (case k6 => exact Nat.le_of_ble_eq_true rfl); (case l => k_mem); (case i => assumption); (case z => first | assumption | omega); (case y => first | assumption | omega); intro a' vs' kk' h' tk' F' N' far' i'; (try dsimp only); (try k_sweep))))
local macro_rules | `(tactic| k_ne) => `(tactic| (refine neN ?_; (try dsimp only); first
  | exact Df.ne (by assumption) | exact Ne.symm (Df.ne (by assumption))
  | exact offL1 (by assumption) (by k_mem) | exact Ne.symm (offL1 (by assumption) (by k_mem))
  | exact offL3a (by assumption) (by k_mem) | exact offL3b (by assumption) (by k_mem) | exact offL3c (by assumption) (by k_mem)
  | exact Ne.symm (offL3a (by assumption) (by k_mem)) | exact Ne.symm (offL3b (by assumption) (by k_mem)) | exact Ne.symm (offL3c (by assumption) (by k_mem)) | omega))
local macro_rules | `(tactic| walk_at "loadName") => `(tactic| (k_here; k_dflt (refine' loadX_C ?N ?c ?m ?d ?_ ?k ?x; (case c => rfl); (case k => rfl); (case x => rfl); (case N => k_asm); (case m => k_mem); (case d => assumption); k_whole)))
local macro_rules | `(tactic| walk_at "binaryOp Add ref ref") => `(tactic| (k_here; k_dflt (refine' add_K ?F ?N ?a ?b ?z ?_; (case F => k_asm); (case N => k_asm); (case a => k_mem); (case b => k_mem); (case z => first | assumption | (simp only [List.length_append, List.length_cons, List.length_nil]; omega)); k_whole); intro D' h' F' N' l1; (try k_lt l1); (try k_sweep)))
local macro_rules | `(tactic| walk_at "inplaceOp") => `(tactic| (k_here; (with_reducible show wpAny _ _ (inplaceOp Operator.Add (Value.ref _) (Value.ref _)) _ _ _); k_dflt (refine' iadd_K ?F ?N ?b ?U ?z ?_; (case F => k_asm); (case N => k_asm); (case b => k_mem); (case U => k_updF); (case z => first | assumption | (simp only [List.length_append, List.length_cons, List.length_nil]; omega) | omega); k_whole); intro h' n' F' N'; (try dsimp only at N'); (try k_sweep)))
theorem law_code {w : World} {s s₀ : Shared} {mg mb : Str → Option Value} {R : Result → Shared → Prop} {l : Addr} {vs : List Value} {ns : List Int}
    (X : (hd.heap_39 w.params).In s.heap) (T : Top hd.view_39 (looseW hd.view_39 []) (ExcName.means s₀.heap) mg mb s.heap) (hl : s.heap.IsList l vs.toArray) (hi : IntsAre vs ns) (hlen : ns.length ≤ 63)
    (ret : ∀ L h' m' tk', Fr s.heap L h' m' → R (.ok (.ret (.bool true))) { s with heap := h', toks := tk' }) :
    codeAny (model PySem.Challenge.rw_mq0110_01.row.prog w) callerA (.call (.ref 83) ⟨[.ref l], []⟩) R s := by
  refine enter_codeC (binds := [(Str.ofString "script", Value.ref l)]) X T (by k_is) (by k_is) (by decide) (BindsTo.of_eq rfl) (by rfl) (by decide +kernel) ?_
  intro h₁ tk₁ cells F N Y
  obtain ⟨opl, owa, opa, rfl, hpl, hwa, hpa⟩ := CellsAre.three Y
  clear Y
  change opl.data = Data.cell none at hpl
  change owa.data = Data.cell none at hwa
  change opa.data = Data.cell none at hpa
  k_steps
  refine Halt.mk ?_
  rename_i P h8 q1 G h7 q2 T1 h6 q3 h5 h4 h3 oG dG S1 ws1 h2 iS1 c1 c2 q4 F4 h1 q5 Lst wsL hh FF NN iL q6
  have hwl : wsL.length ≤ 7 := by rw [iL.length, List.length_append, c1]; simp; omega
  refine for_ledS (σ := Obj × (List Value × Nat) × (List Value × Nat)) (vs := wsL)
    (fun c => (Lst, listOf wsL.toArray 0) :: (G, listOf (List.toArray c.2.2.1) c.2.2.2) :: (P, listOf (List.toArray c.2.1.1) c.2.1.2) :: (s.heap.objs.size + 1 + 1 + 1, opl) :: (s.heap.objs.size + 1 + 1, owa) :: (s.heap.objs.size + 1, c.1) :: [])
    (fun i c m => c.1.data = Data.cell (some (Value.ref G)) ∧ (∃ pn gn, IntsAre c.2.1.1 pn ∧ IntsAre c.2.2.1 gn ∧ (∀ x ∈ pn, OkCode x) ∧ (∀ x ∈ gn, OkCode x) ∧ pn.length ≤ 3 * i ∧ gn.length ≤ 3 * i) ∧
      ∃ u1 u2 u3, m = fun y => if y = Str.ofString "shown" then u1 else if y = Str.ofString "asked" then u2 else if y = Str.ofString "cell" then u3 else if y = Str.ofString "pattern" then some (Value.ref P) else if y = Str.ofString "script" then some (Value.ref l) else none)
    (oG, ([], 0), ([], 0)) rfl (fun c => .head _) FF ?_ ?_ ?_ ?_
  · intro p hp
    refine NN p ?_
    simp only [List.mem_cons, List.not_mem_nil, or_false] at hp ⊢
    rcases hp with h | h | h | h | h | h <;> simp [h]
  · refine ⟨dG, ⟨[], [], .nil, .nil, fun _ h => (nomatch h), fun _ h => (nomatch h), Nat.zero_le _, Nat.zero_le _⟩, none, none, none, ?_⟩
    funext y
    by_cases e1 : y = Str.ofString "shown"
    · subst e1; rfl
    by_cases e2 : y = Str.ofString "asked"
    · subst e2; rfl
    by_cases e3 : y = Str.ofString "cell"
    · subst e3; rfl
    simp only [if_neg e1, if_neg e2, if_neg e3]
    rfl
  · rintro i v ⟨og, ⟨pv, pk⟩, gv, gk⟩ m₁ s₁ I oI hv ⟨hog, ⟨pn, gn, hpi, hgi, hpo, hgo, hpl', hgl'⟩, u1, u2, u3, rfl⟩ hI F₁ N₁
    obtain ⟨n, tn, rfl, hn⟩ := ints_at iL hv
    have hi7 : i < wsL.length := (List.getElem?_eq_some_iff.mp hv).1
    dsimp only at F₁ N₁ hog hpi hgi hI
    replace hI := off1_of hI
    have hp1 := hpi.length
    have hg1 := hgi.length
    clear FF NN
    k_steps
    rename_i a' l1' l2' vs1' vs2' ns1' ns2' kk1 kk2 h7' tk' i1' i2' o1' o2' z1' z2' far' d1' y1' y2' h6' h5' h4' h3' n1' h2' h1' n2' h0' o' F' N' d'
    refine ⟨rfl, _, _, _, (o', (pv ++ vs1', n1'), (gv ++ vs2', n2')), rfl, F', ?_, ?_, d', ⟨pn ++ ns1', gn ++ ns2', ints_app hpi i1', ints_app hgi i2', ok_app hpo o1', ok_app hgo o2', by rw [List.length_append]; omega, by rw [List.length_append]; omega⟩, _, _, _, lawMap⟩
    · intro p hp
      refine N' p ?_
      simp only [List.mem_cons, List.not_mem_nil, or_false] at hp ⊢
      rcases hp with h | h | h | h | h | h | h <;> simp [h]
    · intro p hp
      simp only [List.mem_cons, List.not_mem_nil, or_false] at hp
      rcases hp with rfl | rfl | rfl | rfl | rfl | rfl
      · exact offL1 hI (.head _)
      · exact offL1 hI (.tail _ (.head _))
      · exact offL1 hI (.tail _ (.tail _ (.head _)))
      · exact offL1 hI (.tail _ (.tail _ (.tail _ (.head _))))
      · exact offL1 hI (.tail _ (.tail _ (.tail _ (.tail _ (.head _)))))
      · exact offL1 hI (.tail _ (.tail _ (.tail _ (.tail _ (.tail _ (.head _))))))
  · rintro h tk m₁ ⟨og, ⟨pv, pk⟩, gv, gk⟩ ⟨hog, ⟨pn, gn, hpi, hgi, hpo, hgo, hpl', hgl'⟩, u1, u2, u3, rfl⟩ F₁ N₁
    dsimp only at F₁ N₁ hog hpi hgi
    have hp1 := hpi.length
    have hg1 := hgi.length
    have hp7 : pn.length ≤ 21 := by omega
    have hg7 : gn.length ≤ 21 := by omega
    clear hpl' hgl' FF NN iL hwl iS1 c1 c2 hpa hi hlen
    k_steps
    refine Halt.mk ?_
    rename_i aP vP kP h8' t8 farP iP zP aG vG kG h7' t7 farG iG zG Rw rl kR h5' t5 F7 N7 farR far2 far3 hrows h6' F6 N6
    have hN : News s.heap s.heap.objs.size h6' ((Rw, listOf (List.toArray (rl.map fun r => Value.ref r.1)) kR) :: (G, listOf (List.toArray gv) gk) :: (P, listOf (List.toArray pv) pk) :: (s.heap.objs.size + 1 + 1 + 1, opl) :: (s.heap.objs.size + 1 + 1, owa) :: (s.heap.objs.size + 1, og) :: (rl.map fun r => (r.1, listOf (List.toArray r.2.1) r.2.2))) := by
      intro p hp
      refine N6 p ?_
      simp only [List.mem_cons, List.mem_append, List.not_mem_nil, or_false] at hp ⊢
      rcases hp with h | h | h | h | h | h | h <;> simp [h]
    have hL3 : ∀ p ∈ (rl.map fun r => ((r.1, listOf (List.toArray r.2.1) r.2.2) : Addr × Obj)), p.1 ≠ s.heap.objs.size + 1 + 1 + 1 := far2 (s.heap.objs.size + 1 + 1 + 1, opl) (by simp)
    have hL2 : ∀ p ∈ (rl.map fun r => ((r.1, listOf (List.toArray r.2.1) r.2.2) : Addr × Obj)), p.1 ≠ s.heap.objs.size + 1 + 1 := far2 (s.heap.objs.size + 1 + 1, owa) (by simp)
    have hR3 : @Ne Nat (s.heap.objs.size + 1 + 1 + 1) Rw := offL1 (o := opl) farR (by simp)
    have hR2 : @Ne Nat (s.heap.objs.size + 1 + 1) Rw := offL1 (o := owa) farR (by simp)
    replace hR3 := Df.mk hR3
    replace hR2 := Df.mk hR2
    clear N6 F7 N7 farR far2 far3 farP farG iP iG
    generalize hLR : (rl.map fun r => ((r.1, listOf (List.toArray r.2.1) r.2.2) : Addr × Obj)) = LR at hN hL3 hL2
    generalize hrr : (rl.map fun r => Value.ref r.1) = rr at hN
    refine LCg.Assign_ListComp_U F6 (by rfl) (by with_unfolding_all rfl) (by with_unfolding_all rfl) (by decide) (by rfl) (by decide) (by rfl) (by rfl) (by rfl) ?_
    k_steps
    refine Halt.mk ?_
    refine LCg.CompSrc.range (n := gn.length + 1) rfl (by assumption) (by assumption) (by assumption) (small_one (by omega) (by omega) (by omega) (by omega)) (range_size (by omega)) (by rw [PySem.sizeLine_eq]; omega)
      fun g => compRest_inv (fun i y => ∃ t, y = Value.int ((partsF (gn.take i)).length : Nat) t) ?_ ?_
    · intro i v I oI C oC D m₂ h tk ys E' hin hP hC hx F₂ N₂ off ne
      obtain ⟨t, rfl⟩ := hP
      k_steps
      refine Halt.mk ?_
      have ei : (0 + (i : Int)).toNat = i := by omega
      refine LCg.CompEnd.intro (by assumption) (by assumption) _ (fun p hp => .tail _ (.tail _ hp)) off trivial ⟨rfl, by rw [ei]; exact ⟨_, rfl⟩⟩
    · intro ys hlen' hG Sz h tk F₂ N₂ offS
      have hys : IntsAre ys ((List.range (gn.length + 1)).map fun i => ((partsF (gn.take i)).length : Int)) := by
        refine ints_of (by simp [hlen']) fun i v hv => ?_
        obtain ⟨t, rfl⟩ := hG i v hv
        have hi : i < gn.length + 1 := by
          have := (List.getElem?_eq_some_iff.mp hv).1
          omega
        exact ⟨_, t, by simp [hi], rfl⟩
      clear hG
      k_steps
      refine Halt.mk ?_
      rw [eval_ListComp]
      refine wpAny_comprehension_free (use := none) rfl (by intro _; rfl) (by with_unfolding_all rfl) (by rfl) (by decide) ?_
      change wpAny _ _ (eval (PySem.Expr.Call (PySem.Expr.Name (Str.ofString "enumerate") _) [PySem.Expr.Name (Str.ofString "page") _] [] _) _) _ _ _
      k_steps
      refine Halt.mk ?_
      refine comp_enum (fun i y => ∃ c t, gn[i]? = some c ∧ y = Value.str (textOf (encC c)) t) rfl (by k_mem) F₂ N₂ (by omega) (by decide) (by rfl) (by rfl) (by rfl) (by decide) ?_ ?_
      · intro i v t e oe C oC D it oit m₂ h tk zs E' hv hC hxa hxb F₃ N₃ off ne
        obtain ⟨c, tc, rfl, hc⟩ := ints_at hgi hv
        have hco := hgo c (List.mem_of_getElem? hc)
        k_steps
        refine Halt.mk ?_
        exact LCg.CompEnd.intro (by assumption) (by assumption) _ (fun p hp => hp) off trivial ⟨rfl, c, _, hc, by rw [mod1 hco]⟩
      · intro D h tk zs hzl hG F₃ N₃ off
        have hzs := strsC (hzl.trans hg1) hG
        have hz1 : (gn.map fun c => textOf (encC c)).length ≤ 1000 := by rw [List.length_map]; omega
        have hz2 : ((gn.map fun c => textOf (encC c)).map (·.length)).sum ≤ 50000 := Nat.le_trans (sumC hgo) (by omega)
        clear hG
        k_steps
        refine Halt.mk ?_
        rename Fr _ _ _ _ => F₄
        refine LCg.ListComp_U F₄ (by with_unfolding_all rfl) (by decide) rfl (by decide) rfl ?_
        k_steps
        refine Halt.mk ?_
        refine LCg.CompSrc.ledger (its := List.toArray pv) rfl (by assumption) (by assumption) (by k_mem) (by rw [List.size_toArray, PySem.sizeLine_eq]; omega)
          fun g => compRest_inv (fun i y => ∃ c t, pn[i]? = some c ∧ y = Value.str (textOf (encC c)) t) ?_ ?_
        · intro i v I oI C oC D m₂ h tk ws E' hin hP hC hx F₂ N₂ off ne
          obtain ⟨c, tc, rfl, hc⟩ := ints_at hpi (by simpa using hP)
          have hco := hpo c (List.mem_of_getElem? hc)
          have hc0 := hco.1
          have hc1 := hco.2.1
          k_steps
          refine Halt.mk ?_
          exact LCg.CompEnd.intro (by assumption) (by assumption) _ (fun p hp => hp) off (.inr ⟨_, by k_mem, rfl, _, rfl⟩) ⟨rfl, c, _, hc, by rw [mod2 hco]⟩
        · intro ws hwl' hG W h tk F₅ N₅ offW
          have hws := strsC (ns := pn) (by rw [hwl', List.size_toArray, hp1]) hG
          have hw1 : (pn.map fun c => textOf (encC c)).length ≤ 1000 := by rw [List.length_map]; omega
          have hw2 : ((pn.map fun c => textOf (encC c)).map (·.length)).sum ≤ 50000 := Nat.le_trans (sumC hpo) (by omega)
          clear hG
          k_steps
          refine Halt.mk ?_
          rename_i h'0 tk0 t₁0 u₁0 v₁0 a01 a00 g0 h01 tk03 h00 tk02 Gt vGt kGt h'3 tk'1 farGt iGt h'2 tk01 tk00 Wt vWt kWt h'1 tk'0 farWt iWt h'9 F9 N9
          have hM : News s.heap s.heap.objs.size h'9 ((Wt, listOf (List.toArray vWt) kWt) :: (Gt, listOf (List.toArray vGt) kGt) :: (Sz, LCg.lst ys) :: (Rw, listOf (List.toArray rr) kR) :: (P, listOf (List.toArray pv) pk) :: (s.heap.objs.size + 1 + 1 + 1, opl) :: (s.heap.objs.size + 1 + 1, owa) :: (s.heap.objs.size + 1, og) :: LR) := by
            intro p hp
            refine N9 p ?_
            simp only [List.mem_cons] at hp ⊢
            rcases hp with h | h | h | h | h | h | h | h | h <;> simp [h]
          have hS3 : Df (s.heap.objs.size + 1 + 1 + 1) Sz := ⟨offL1 (o := opl) offS (by simp)⟩
          have hS2 : Df (s.heap.objs.size + 1 + 1) Sz := ⟨offL1 (o := owa) offS (by simp)⟩
          have hG3 : Df (s.heap.objs.size + 1 + 1 + 1) Gt := ⟨offL1 (o := opl) farGt (by simp)⟩
          have hG2 : Df (s.heap.objs.size + 1 + 1) Gt := ⟨offL1 (o := owa) farGt (by simp)⟩
          have hW3 : Df (s.heap.objs.size + 1 + 1 + 1) Wt := ⟨offL1 (o := opl) farWt (by simp)⟩
          have hW2 : Df (s.heap.objs.size + 1 + 1) Wt := ⟨offL1 (o := owa) farWt (by simp)⟩
          have hP3 : Df (s.heap.objs.size + 1 + 1 + 1) P := ⟨by omega⟩
          have hP2 : Df (s.heap.objs.size + 1 + 1) P := ⟨by omega⟩
          clear N9 offS offW off farGt farWt hws hzs hz1 hz2 hw1 hw2 a00 a01
          refine wpAny_For ?_
          k_steps
          refine Halt.mk ?_
          refine for_enum (σ := Obj × Obj) (vs := vWt) (k := kWt)
            (fun c => (Wt, listOf (List.toArray vWt) kWt) :: (Gt, listOf (List.toArray vGt) kGt) :: (Sz, LCg.lst ys) :: (Rw, listOf (List.toArray rr) kR) :: (P, listOf (List.toArray pv) pk) :: (s.heap.objs.size + 1 + 1 + 1, c.1) :: (s.heap.objs.size + 1 + 1, c.2) :: (s.heap.objs.size + 1, og) :: LR)
            (fun i c m => (∃ v, c.1.data = Data.cell v) ∧ (∃ v, c.2.data = Data.cell v) ∧ ∃ u, m = fun y => if y = Str.ofString "front" then u else if y = Str.ofString "wants" then some (Value.ref Wt) else if y = Str.ofString "gots" then some (Value.ref Gt) else if y = Str.ofString "sizes" then some (Value.ref Sz) else if y = Str.ofString "rows" then some (Value.ref Rw) else if y = Str.ofString "shown" then u1 else if y = Str.ofString "asked" then u2 else if y = Str.ofString "cell" then u3 else if y = Str.ofString "pattern" then some (Value.ref P) else if y = Str.ofString "script" then some (Value.ref l) else none)
            (opl, owa) rfl (fun c => .head _) F9 hM ⟨⟨_, hpl⟩, ⟨_, hwa⟩, none, ?_⟩ ?_ ?_
          · funext y
            by_cases e1 : y = Str.ofString "front"
            · subst e1; rfl
            · simp only [if_neg e1]
          · rintro i v t T e it oe oit ⟨oP, oW⟩ m₁ h tk hv ⟨⟨cv1, hoP⟩, ⟨cv2, hoW⟩, u, rfl⟩ hoff hTe hTi hei F₁ N₁
            obtain ⟨wt, tw, rfl, hwt⟩ := strs_at iWt hv
            dsimp only at F₁ N₁ hoff hoP hoW
            replace hoff := LCg.Off3.of hoff
            replace hTe := Df.mk hTe
            replace hTi := Df.mk hTi
            replace hei := Df.mk hei
            have hiW : i < pn.length + 1 := by
              have := (List.getElem?_eq_some_iff.mp hwt).1
              simpa [frontsF] using this
            have hwe : wt = textC (pn.take i) := by
              have q : (frontsF (pn.map fun c => textOf (encC c)))[i]? = some (textC (pn.take i)) := by simp [frontsF, hiW, textC, List.map_take]
              rw [hwt] at q
              exact Option.some.inj q
            subst hwe
            obtain ⟨row, hrow⟩ : ∃ row, (rowsF (partsF pn) (partsF gn))[(partsF (pn.take i)).length]? = some row :=
              ⟨_, List.getElem?_eq_getElem (by rw [show (rowsF (partsF pn) (partsF gn)).length = _ from rowsSt_length _ _]; have := partsF_take_le pn i; omega)⟩
            obtain ⟨a1, v1, k1, hga, hi1⟩ := hrows.at hrow
            have hm1 : (a1, listOf (List.toArray v1) k1) ∈ LR := by rw [← hLR]; exact List.mem_map.mpr ⟨_, List.mem_of_getElem? hga, rfl⟩
            have hx1 : rr[(((partsF (pn.take i)).length : Nat) : Int).toNat]? = some (Value.ref a1) := by rw [Int.toNat_natCast, ← hrr, List.getElem?_map, hga]; rfl
            obtain ⟨hw1, hw2, hw3⟩ := plain_split (pn := pn.take i) (fun c hc => hpo c (List.mem_of_mem_take hc)) (Nat.le_trans (List.length_take_le' _ _) hp7)
            have hpt := partsF_take_le pn i
            have hlaw := fun j (hj : j ≤ gn.length) => plain_law hpo hgo (Nat.le_of_lt_succ hiW) hj hrow
            clear hga hwt hv iWt hrow hrows hLR hrr
            k_steps
            refine Halt.mk ?_
            refine item_pos (by assumption) (by k_mem) (Int.natCast_nonneg _) ?_ hx1 ?_
            · rw [Int.toNat_natCast]; omega
            k_steps
            refine Halt.mk ?_
            have hgl := iGt.length
            rename Fr _ _ _ _ => F₄
            rename News _ _ _ _ => N₄
            clear hpl hwa
            refine LCg.ListComp_U F₄ (by with_unfolding_all rfl) (by decide) rfl (by decide) rfl ?_
            k_steps
            refine Halt.mk ?_
            refine LCg.CompSrc.ledger (its := List.toArray vGt) rfl (by assumption) (by assumption) (by k_mem) (by rw [List.size_toArray, hgl, PySem.sizeLine_eq]; simp [frontsF]; omega)
              fun g => compRest_inv (fun j y => y = Value.bool (matchT (textC (pn.take i)) (textC (gn.take j)))) ?_ ?_
            · intro j v I oI C oC D m₂ h tk bs E' hin hP hC hx F₂ N₂ off ne
              obtain ⟨x, tx, rfl, hxj⟩ := strs_at iGt (by simpa using hP)
              have hjG : j < gn.length + 1 := by
                have := (List.getElem?_eq_some_iff.mp hxj).1
                simpa [frontsF] using this
              have hwe : x = textC (gn.take j) := by
                have q : (frontsF (gn.map fun c => textOf (encC c)))[j]? = some (textC (gn.take j)) := by simp [frontsF, hjG, textC, List.map_take]
                rw [hxj] at q
                exact Option.some.inj q
              subst hwe
              obtain ⟨hv1, _, _⟩ := plain_split (pn := gn.take j) (fun c hc => hgo c (List.mem_of_mem_take hc)) (Nat.le_trans (List.length_take_le' _ _) hg7)
              k_steps
              refine Halt.mk ?_
              exact LCg.CompEnd.intro (by assumption) (by assumption) _ (fun p hp => hp) off (.inr ⟨_, by k_mem, rfl, _, rfl⟩) ⟨rfl, rfl⟩
            · intro bs hbl hG B1 h tk F₂ N₂ offB1
              have hbs : LSm.BoolsAre bs ((List.range (gn.length + 1)).map fun j => decide (((partsF (gn.take j)).length : Int) ∈ row)) := by
                have hbl' : bs.length = gn.length + 1 := by rw [hbl, List.size_toArray, hgl]; simp [frontsF]
                refine bools_of (by simp [hbl']) fun j v hv => ?_
                have hj : j < gn.length + 1 := by
                  have := (List.getElem?_eq_some_iff.mp hv).1
                  omega
                exact ⟨_, by simp [hj], (hG j v hv).trans (congrArg Value.bool (hlaw j (by omega)))⟩
              clear hG hlaw
              k_steps
              refine Halt.mk ?_
              rename Fr _ _ _ _ => F₅
              refine LCg.ListComp_U F₅ (by with_unfolding_all rfl) (by decide) rfl (by decide) rfl ?_
              k_steps
              refine Halt.mk ?_
              refine LCg.CompSrc.ledger (its := List.toArray ys) rfl (by assumption) (by assumption) (by k_mem) (by rw [List.size_toArray, PySem.sizeLine_eq]; omega)
                fun g => compRest_inv (fun j y => y = Value.bool (decide (((partsF (gn.take j)).length : Int) ∈ row))) ?_ ?_
              · intro j v I oI C oC D m₂ h tk cs E' hin hP hC hx F₂ N₂ off ne
                obtain ⟨x, tx, rfl, hxj⟩ := ints_at hys (by simpa using hP)
                have hjG : j < gn.length + 1 := by
                  have := (List.getElem?_eq_some_iff.mp hxj).1
                  simpa using this
                have hwe : x = ((partsF (gn.take j)).length : Int) := by
                  have q : ((List.range (gn.length + 1)).map fun i => ((partsF (gn.take i)).length : Int))[j]? = some ((partsF (gn.take j)).length : Int) := by simp [hjG]
                  rw [hxj] at q
                  exact Option.some.inj q
                subst hwe
                k_steps
                refine Halt.mk ?_
                exact LCg.CompEnd.intro (by assumption) (by assumption) _ (fun p hp => hp) off (.inr ⟨_, by k_mem, rfl, _, rfl⟩) ⟨rfl, rfl⟩
              · intro cs hcl hG B2 h tk F₂ N₂ offB2
                have hcs : LSm.BoolsAre cs ((List.range (gn.length + 1)).map fun j => decide (((partsF (gn.take j)).length : Int) ∈ row)) := by
                  have hcl' : cs.length = gn.length + 1 := by rw [hcl, List.size_toArray, hlen']
                  refine bools_of (by simp [hcl']) fun j v hv => ?_
                  have hj : j < gn.length + 1 := by
                    have := (List.getElem?_eq_some_iff.mp hv).1
                    omega
                  exact ⟨_, by simp [hj], hG j v hv⟩
                clear hG
                k_steps
                refine Halt.mk ?_
                refine ne_bools (by assumption) (by k_mem) hbs (by k_mem) hcs (Nat.le_of_ble_eq_true rfl) ?_
                k_steps
                rename _ = Data.cell (some (Value.ref a1)) => dP
                rename _ = Data.cell (some (Value.str _ _)) => dW
                refine ⟨rfl, _, _, _, (_, _), rfl, F₂, ?_, ?_, ⟨_, dP⟩, ⟨_, dW⟩, some (Value.int i t), ?_⟩
                · intro p hp
                  refine N₂ p ?_
                  simp only [List.mem_cons] at hp ⊢
                  rcases hp with h | h | h | h | h | h | h | h | h | h | h <;> simp [h]
                · intro p hp
                  simp only [List.mem_cons] at hp
                  rcases hp with rfl | rfl | rfl | rfl | rfl | rfl | rfl | rfl | hp
                  · exact ⟨offL3a hoff (.head _), offL3b hoff (.head _)⟩
                  · exact ⟨offL3a hoff (.tail _ (.head _)), offL3b hoff (.tail _ (.head _))⟩
                  · exact ⟨offL3a hoff (.tail _ (.tail _ (.head _))), offL3b hoff (.tail _ (.tail _ (.head _)))⟩
                  · exact ⟨offL3a hoff (.tail _ (.tail _ (.tail _ (.head _)))), offL3b hoff (.tail _ (.tail _ (.tail _ (.head _))))⟩
                  · exact ⟨offL3a hoff (.tail _ (.tail _ (.tail _ (.tail _ (.head _))))), offL3b hoff (.tail _ (.tail _ (.tail _ (.tail _ (.head _)))))⟩
                  · exact ⟨offL3a hoff (.tail _ (.tail _ (.tail _ (.tail _ (.tail _ (.head _)))))), offL3b hoff (.tail _ (.tail _ (.tail _ (.tail _ (.tail _ (.head _))))))⟩
                  · exact ⟨offL3a hoff (.tail _ (.tail _ (.tail _ (.tail _ (.tail _ (.tail _ (.head _))))))), offL3b hoff (.tail _ (.tail _ (.tail _ (.tail _ (.tail _ (.tail _ (.head _)))))))⟩
                  · exact ⟨offL3a hoff (.tail _ (.tail _ (.tail _ (.tail _ (.tail _ (.tail _ (.tail _ (.head _)))))))), offL3b hoff (.tail _ (.tail _ (.tail _ (.tail _ (.tail _ (.tail _ (.tail _ (.head _))))))))⟩
                  · have q := hoff.mem p (by simp [hp])
                    exact ⟨q.1, q.2.1⟩
                · funext y
                  by_cases e1 : y = Str.ofString "front"
                  · simp only [if_pos e1]
                  · simp only [if_neg e1]
          · rintro h tk m₁ ⟨oP, oW⟩ ⟨_, _, u, rfl⟩ F₁ N₁
            dsimp only at F₁ N₁
            k_steps
            exact ret _ _ _ _ F₁
end
end Mine
end
section
open PySem PySem.W PyProof.Rows PySem.Calls
set_option maxRecDepth 100000
set_option maxHeartbeats 8000000
namespace Mine
theorem fin : PySem.Challenge.rw_mq0110_01.Holds := by
  refine hd ?_
  k_fill
  intro w s₀ s₁ mg mb G Y fa o pm cd doc dV kV ho hd' hcd hD hmg hg args vals as hpre hlay hrd hwl hlo
  have KX := kIn_of Y
  have X := (Ground.X G).1
  have V := (Ground.X G).2
  refine Ground.open G ?_
  intro T B D TE TW
  try (refine guard_noD D (by decide +kernel) ?_; clear D)
  have e83 : mg (Str.ofString "law") = some (Value.ref 83) := mg_of KX (Top.g T) (by k_is)
  have e84 : mg (Str.ofString "law") = some (Value.ref fa) := hmg
  rw [e83] at e84
  cases e84
  clear hmg ho hd' hcd hD e83
  wrow_args hpre hlay hrd hwl hlo
  refine enter_call ?_
  refine law_code KX T (by assumption) (by assumption) (by omega) ?_
  intro L h' m' tk' F
  refine GoodW.toG (goodW_bool F hg (raisesW_false ?_) ?_)
  · wrow_none_raised
  · wrow_post
end Mine
end
theorem PySem.Challenge.cw_mq0110_01_holds : PySem.Challenge.rw_mq0110_01.Holds :=
  Mine.fin
