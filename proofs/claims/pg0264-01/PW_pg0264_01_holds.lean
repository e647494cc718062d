import PyProof.Rows.All
import Wide.All
import OpenK.AllK
import Wide.FinOn
import PySem.Challenge.RW_pg0264_01
open PySem PySem.W PyProof.Rows
set_option Elab.async false
set_option maxRecDepth 100000
set_option maxHeartbeats 8000000
set_option linter.all false
set_option genSizeOf false
set_option genInjectivity false
namespace Mine
open_top hd for PySem.Challenge.rw_pg0264_01
end Mine
open PySem.Spec PySem.Calls
namespace Mine
theorem freshA0 : True := by
  w_top off
  trivial
noncomputable abbrev Ledger := List (Addr × Obj)
noncomputable abbrev prg : Program := PySem.Challenge.rw_pg0264_01.row.prog
noncomputable abbrev intTup2 (q : Int) (t1 : Tok) (r : Int) (t2 : Tok) (c : Nat) : Obj := { cls := .type "tuple", data := .seq #[.int q t1, .int r t2] c }

/-- out of omega's sight -/
structure Held (T : Prop) : Prop where
  go : T
theorem roomA {a b c d e : Nat} (h : a + b < e) (k : Nat.ble (c + d) b = true) : a + c + d < e := Nat.lt_of_le_of_lt (by rw [Nat.add_assoc]; exact Nat.add_le_add_left (Nat.le_of_ble_eq_true k) a) h
theorem roomC {a b e : Nat} (h : a + b < e) : a < e := Nat.lt_of_le_of_lt (Nat.le_add_right a b) h
/-- one call of the def at f, over the ledger news, with the arguments vs: R tells what comes back -/
noncomputable def Tells (w : World) (p : Program) (loose : List Str) (mean : ExcName → Option Value) (mg mb : Str → Option Value)
    (f : Addr) (d u : Nat) (news : Ledger) (vs : List Value) (R : (Value → Ledger → Prop) → Prop) : Prop :=
  ∀ (dp un : Nat) (gd : Option (List Code)) (cn : Str) (cs : Scope) (a : Addr) (ccd : Value) (cl : List (Str × Addr)) (outer : List Env) (A₀ : Around) (base h₀ : Heap) (L : Addr) (m : Str → Option Value) (s : Shared) (Q E : Value → Shared → Prop),
    Below A₀ base outer h₀ → Fr h₀ L s.heap m → (hd.heap_39 w.params).In h₀ → News h₀ L s.heap news → Top p loose mean mg mb h₀ → cs.kind = .function →
    dp + d < recursionLimit → un + u < cLine →
    R (fun v new => ∀ (h' : Heap) (tk' : Nat), Fr h₀ L h' m → News h₀ L h' new → Q v { s with heap := h', toks := tk' }) →
    wpAny (model prg w) (ktrTop dp un gd cn cs L a ccd cl outer) (call (.ref f) vs) Q E s
theorem tells_use {w : World} {p : Program} {loose : List Str} {mean : ExcName → Option Value} {mg mb : Str → Option Value}
    {f : Addr} {d u : Nat} {news : Ledger} {vs : List Value} {R : (Value → Ledger → Prop) → Prop}
    {dp un : Nat} {gd : Option (List Code)} {cn : Str} {cs : Scope} {a : Addr} {ccd : Value} {cl : List (Str × Addr)} {outer : List Env} {A₀ : Around} {base h₀ : Heap} {L : Addr} {m : Str → Option Value} {s : Shared} {Q E : Value → Shared → Prop}
    (C : Tells w p loose mean mg mb f d u news vs R)
    (B : Below A₀ base outer h₀) (F : Fr h₀ L s.heap m) (X : (hd.heap_39 w.params).In h₀) (N : News h₀ L s.heap news) (T : Top p loose mean mg mb h₀) (hk : cs.kind = .function)
    (hd : dp + d < recursionLimit) (hu : un + u < cLine)
    (h : R (fun v new => ∀ (h' : Heap) (tk' : Nat), Fr h₀ L h' m → News h₀ L h' new → Q v { s with heap := h', toks := tk' })) :
    wpAny (model prg w) (ktrTop dp un gd cn cs L a ccd cl outer) (call (.ref f) vs) Q E s :=
  C _ _ _ _ _ _ _ _ _ _ _ _ _ _ _ _ _ B F X N T hk hd hu h

theorem toNat_lt {a b : Int} (h : a < b) (h0 : 0 < b) : a.toNat < b.toNat := (Int.toNat_lt_toNat h0).mpr h
theorem mulLit {a b : Int} (h0 : -(2 ^ 64) < a) (h1 : a < 2 ^ 64) : IntMulOk a b := IntMulOk.of_left (intBits_le_64 h0 h1)
theorem mulOk_of {a b : Int} (h0 : -1000000 ≤ b) (h1 : b ≤ 1000000) : IntMulOk a b := IntMulOk.of_right (intBits_le_64 (Int.lt_of_lt_of_le (by decide) h0) (Int.lt_of_le_of_lt h1 (by decide)))
theorem mulOk_lf {a b : Int} (h0 : -1000000 ≤ a) (h1 : a ≤ 1000000) : IntMulOk a b := IntMulOk.of_left (intBits_le_64 (Int.lt_of_lt_of_le (by decide) h0) (Int.lt_of_le_of_lt h1 (by decide)))
theorem mulSd {sd x : Int} (h : sd = 1 ∨ sd = -1) : IntMulOk sd x := h.elim (fun e => e ▸ mulLit (by decide) (by decide)) (fun e => e ▸ mulLit (by decide) (by decide))
theorem mulK {a k : Int} (h : 2 ≤ k ∧ k ≤ 12) : IntMulOk a k := mulOk_of (Int.le_trans (by decide) h.1) (Int.le_trans h.2 (by decide))
theorem prod3 {α β γ : Type} {G : α × β × γ → Prop} (k : ∀ a b c, G (a, b, c)) : ∀ x, G x := fun x => k x.1 x.2.1 x.2.2
theorem prod4 {α β γ δ : Type} {G : α × β × γ × δ → Prop} (k : ∀ a b c d, G (a, b, c, d)) : ∀ x, G x := fun x => k x.1 x.2.1 x.2.2.1 x.2.2.2
theorem ex2 {α β : Type} {p : α → β → Prop} {G : Prop} (h : ∃ a b, p a b) (k : ∀ a b, p a b → G) : G := h.elim fun a h => h.elim fun b h => k a b h
theorem ex3 {α β γ : Type} {p : α → β → γ → Prop} {G : Prop} (h : ∃ a b c, p a b c) (k : ∀ a b c, p a b c → G) : G := h.elim fun a h => ex2 h fun b c h => k a b c h
theorem ints_cons {v : Value} {r : List Value} {ns : List Int} {G : Prop} (h : IntsAre (v :: r) ns) (k : ∀ d t ns', v = .int d t → ns = d :: ns' → IntsAre r ns' → G) : G := by
  cases h with
  | cons d t h => exact k d t _ rfl rfl h
theorem ints_nil {ns : List Int} (h : IntsAre [] ns) : ns = [] := by cases h; rfl
noncomputable def Stopped (P : Prop) : Prop := P
theorem stop_here {P : Prop} (h : Stopped P) : P := h
theorem Stopped.go {P : Prop} (h : P) : Stopped P := h
theorem intBits_le {x : Int} {n : Nat} (h0 : 0 ≤ x) (h : x < 2 ^ n) : Builtin.Int.intBits x ≤ n := by
  unfold Builtin.Int.intBits
  by_cases hx : x = 0
  · simp [hx]
  · have h1 : x.natAbs ≠ 0 := by omega
    have h2 : x.natAbs < 2 ^ n := by
      have : (x.natAbs : Int) < ((2 ^ n : Nat) : Int) := by push_cast; omega
      exact_mod_cast this
    have h3 := (Nat.log2_lt h1).mpr h2
    have hb : (x == 0) = false := by simpa using hx
    rw [hb]; simp; omega
theorem lt_intBits {x : Int} (h0 : 0 ≤ x) : x < 2 ^ (Builtin.Int.intBits x) := by
  unfold Builtin.Int.intBits
  by_cases hx : x = 0
  · simp [hx]
  · have hb : (x == 0) = false := by simpa using hx
    rw [hb]
    have h1 : x.natAbs < 2 ^ (x.natAbs.log2 + 1) := Nat.lt_log2_self
    have h2 : ((x.natAbs : Nat) : Int) < ((2 ^ (x.natAbs.log2 + 1) : Nat) : Int) := by exact_mod_cast h1
    have h3 : ((x.natAbs : Nat) : Int) = x := by omega
    rw [h3] at h2
    push_cast at h2
    simpa using h2
theorem intBits_pos {x : Int} (h0 : 0 < x) : 1 ≤ Builtin.Int.intBits x := by
  unfold Builtin.Int.intBits
  have hb : (x == 0) = false := by simp; omega
  rw [hb]; simp
theorem news_lt {h₀ h : Heap} {L : Addr} {news : Ledger} (N : News h₀ L h news) : AllLt h.objs.size news := allLt_of fun p hp => Heap.lt_size (N p hp).1

noncomputable def AllNe (d : Nat) : Ledger → Prop
  | [] => True
  | p :: r => ¬ (@Eq Nat p.1 d) ∧ AllNe d r
theorem lt_mem {d : Nat} {l : Ledger} {a : Addr} {o : Obj} (h : AllLt d l) (hm : (a, o) ∈ l) : @LT.lt Nat _ a d := by
  induction l with
  | nil => exact nomatch hm
  | cons q r ih =>
    rcases List.mem_cons.mp hm with e | hm
    · subst e; exact h.1
    · exact ih h.2 hm
section
variable {a d L : Nat} {o : Obj} {l : Ledger}
theorem ltNe (h : AllLt d l) (hm : (a, o) ∈ l) : ¬ (@Eq Nat a d) := Nat.ne_of_lt (lt_mem h hm)
theorem ltNe' (h : AllLt d l) (hm : (a, o) ∈ l) : ¬ (@Eq Nat d a) := Nat.ne_of_gt (lt_mem h hm)
theorem ltC1 (h : AllLt L l) (hm : (a, o) ∈ l) : ¬ (@Eq Nat a (L + 1)) := Nat.ne_of_lt (Nat.lt_succ_of_lt (lt_mem h hm))
theorem ltC2 (h : AllLt L l) (hm : (a, o) ∈ l) : ¬ (@Eq Nat a (L + 1 + 1)) := Nat.ne_of_lt (Nat.lt_succ_of_lt (Nat.lt_succ_of_lt (lt_mem h hm)))
theorem ltC3 (h : AllLt L l) (hm : (a, o) ∈ l) : ¬ (@Eq Nat a (L + 1 + 1 + 1)) := Nat.ne_of_lt (Nat.lt_succ_of_lt (Nat.lt_succ_of_lt (Nat.lt_succ_of_lt (lt_mem h hm))))
theorem ltC4 (h : AllLt L l) (hm : (a, o) ∈ l) : ¬ (@Eq Nat a (L + 1 + 1 + 1 + 1)) := Nat.ne_of_lt (Nat.lt_succ_of_lt (Nat.lt_succ_of_lt (Nat.lt_succ_of_lt (Nat.lt_succ_of_lt (lt_mem h hm)))))
theorem ltC1' (h : AllLt L l) (hm : (a, o) ∈ l) : ¬ (@Eq Nat (L + 1) a) := fun e => ltC1 h hm e.symm
theorem ltC2' (h : AllLt L l) (hm : (a, o) ∈ l) : ¬ (@Eq Nat (L + 1 + 1) a) := fun e => ltC2 h hm e.symm
theorem ltC3' (h : AllLt L l) (hm : (a, o) ∈ l) : ¬ (@Eq Nat (L + 1 + 1 + 1) a) := fun e => ltC3 h hm e.symm
theorem ltC4' (h : AllLt L l) (hm : (a, o) ∈ l) : ¬ (@Eq Nat (L + 1 + 1 + 1 + 1) a) := fun e => ltC4 h hm e.symm
theorem c12 : ¬ (@Eq Nat (L + 1) (L + 1 + 1)) := Nat.ne_of_lt (Nat.lt_succ_self _)
theorem c21 : ¬ (@Eq Nat (L + 1 + 1) (L + 1)) := fun e => c12 e.symm
theorem c13 : ¬ (@Eq Nat (L + 1) (L + 1 + 1 + 1)) := Nat.ne_of_lt (Nat.lt_succ_of_lt (Nat.lt_succ_self _))
theorem c31 : ¬ (@Eq Nat (L + 1 + 1 + 1) (L + 1)) := fun e => c13 e.symm
theorem neNe (h : AllNe d l) (hm : (a, o) ∈ l) : ¬ (@Eq Nat a d) := by
  induction l with
  | nil => exact nomatch hm
  | cons q r ih =>
    rcases List.mem_cons.mp hm with rfl | hm
    · exact h.1
    · exact ih h.2 hm
theorem neNe' (h : AllNe d l) (hm : (a, o) ∈ l) : ¬ (@Eq Nat d a) := fun e => neNe h hm e.symm
theorem not_sym (h : ¬ (@Eq Nat d a)) : ¬ (@Eq Nat a d) := fun e => h e.symm
theorem allNe_nil : AllNe d [] := trivial
theorem allNe_cons (h : ¬ (@Eq Nat a d)) (k : AllNe d l) : AllNe d ((a, o) :: l) := ⟨h, k⟩
end
theorem allNe_of {d : Addr} : ∀ {l : Ledger}, (∀ p ∈ l, p.1 ≠ d) → AllNe d l
  | [], _ => trivial
  | p :: _, h => ⟨h p (.head _), allNe_of fun q hq => h q (.tail _ hq)⟩
theorem AllNe.all {d : Addr} {l : Ledger} (h : AllNe d l) : ∀ p ∈ l, p.1 ≠ d := by
  induction l with
  | nil => intro p hp; exact nomatch hp
  | cons q r ih =>
    intro p hp
    rcases List.mem_cons.mp hp with e | hp
    · rw [e]; exact h.1
    · exact ih h.2 p hp
noncomputable def Kept (rest : Ledger) (g : Heap) : Prop := ∀ p ∈ rest, g.get? p.1 = some p.2
theorem fresh_ne {g h' : Heap} {L' D : Addr} {o : Obj} {news' rest : Ledger} (N : News g L' h' news') (hm : (D, o) ∈ news') (hR : Kept rest g) : AllNe D rest :=
  allNe_of fun p hp e => by
    have h1 := (N _ hm).2.2
    have h2 := hR p hp
    rw [e] at h2
    exact absurd (h2.symm.trans h1) (by simp)
theorem newsGlue {h₀ h : Heap} {L : Addr} {new rest : Ledger} (N : News h₀ L h new) (R : News h₀ L h rest) : News h₀ L h (new ++ rest) :=
  fun p hp => (List.mem_append.mp hp).elim (N p) (R p)
theorem newsSub {h₀ h : Heap} {L : Addr} {news news' : Ledger} (N : News h₀ L h news) (hs : ∀ p ∈ news', p ∈ news) : News h₀ L h news' := fun p hp => N p (hs p hp)
theorem newsNil {h₀ h : Heap} {L : Addr} {rest : Ledger} (N : News h₀ L h rest) : News h₀ L h ([] ++ rest) := N
theorem newsEnd {h₀ h : Heap} {L : Addr} {l : Ledger} (N : News h₀ L h l) : News h₀ L h (l ++ []) := by rw [List.append_nil]; exact N
theorem newsPut {h₀ h : Heap} {L : Addr} {e : Addr × Obj} {l rest : Ledger} (N : News h₀ L h l) (he : e ∈ l) (R : News h₀ L h rest) : News h₀ L h (e :: rest) :=
  fun p hp => (List.mem_cons.mp hp).elim (fun q => q ▸ N e he) (R p)
inductive Pick (e : Addr × Obj) : Ledger → Ledger → Prop
  | head {r} : Pick e (e :: r) r
  | tail {p r r'} : Pick e r r' → Pick e (p :: r) (p :: r')
theorem Pick.mem {e : Addr × Obj} : ∀ {l r : Ledger}, Pick e l r → ∀ p ∈ e :: r, p ∈ l
  | _, _, .head, _, h => h
  | _, _, .tail k, _, h => by
    rcases List.mem_cons.mp h with rfl | h
    · exact .tail _ (k.mem _ (.head _))
    · rcases List.mem_cons.mp h with rfl | h
      · exact .head _
      · exact .tail _ (k.mem _ (.tail _ h))
inductive Picks : Ledger → Ledger → Ledger → Prop
  | nil {l} : Picks [] l l
  | cons {e own l r rest} : Pick e l r → Picks own r rest → Picks (e :: own) l rest
theorem Picks.sub {own l rest : Ledger} (k : Picks own l rest) : ∀ p ∈ own ++ rest, p ∈ l := by
  induction k with
  | nil => exact fun _ h => h
  | cons k _ ih =>
    intro p hp
    rw [List.cons_append] at hp
    rcases List.mem_cons.mp hp with rfl | hp
    · exact k.mem _ (.head _)
    · exact k.mem _ (.tail _ (ih p hp))
theorem newsPicks {h₀ h : Heap} {L : Addr} {own l rest : Ledger} (N : News h₀ L h l) (k : Picks own l rest) : News h₀ L h (own ++ rest) := newsSub N k.sub
noncomputable def Apart (own rest : Ledger) : Prop := ∀ q ∈ own, AllNe q.1 rest
theorem apart0 {rest : Ledger} : Apart [] rest := fun _ h => nomatch h
theorem apart1 {q : Addr × Obj} {rest : Ledger} (h : AllNe q.1 rest) : Apart [q] rest := fun p hp => by rw [List.mem_singleton.mp hp]; exact h
theorem apartEnd {l : Ledger} : Apart l [] := fun _ _ => trivial
theorem apartC {q : Addr × Obj} {own rest : Ledger} (h : AllNe q.1 rest) (k : Apart own rest) : Apart (q :: own) rest := fun p hp => by
  rcases List.mem_cons.mp hp with rfl | hp
  · exact h
  · exact k p hp

section
variable {prog : Program} {w : World} {A A₀ : Around} {s : Shared} {K : Frag} {L : Addr} {h₀ base : Heap} {m mg mb : Str → Option Value} {own rest : Ledger} {p : Program} {loose : List Str} {mean : ExcName → Option Value}
/-- what is left of a call's end: the rest of the ledger stands as it stood -/
noncomputable def ThenRest (h₀ : Heap) (L : Addr) (rest : Ledger) (R : Result → Shared → Prop) (r : Result) (s' : Shared) : Prop := News h₀ L s'.heap rest → R r s'

theorem groundR {env : Env} {outer : List Env} {R : Result → Shared → Prop} (B : Below A₀ base outer h₀) (F : Fr h₀ L s.heap m) (N : News h₀ L s.heap (own ++ rest)) (ap : Apart own rest)
    (hA : A.frames = some (env :: outer)) (hf : env.frame = some L) (hke : env.scope.kind = .function) :
    Fr h₀ L (hideAll s.heap (own.map (·.1))) m ∧ Below A base (env :: outer) (hideAll s.heap (own.map (·.1))) ∧ h₀.StaysIn (hideAll s.heap (own.map (·.1))) ∧ Kept rest (hideAll s.heap (own.map (·.1))) ∧
      ∀ v s', LeaveK h₀ L m (hideAll s.heap (own.map (·.1))) (ThenRest h₀ L rest R) v s' → R (.ok (.ret v)) s' := by
  have NO : News h₀ L s.heap own := newsSub N fun p hp => List.mem_append_left _ hp
  have NR : News h₀ L s.heap rest := newsSub N fun p hp => List.mem_append_right _ hp
  obtain ⟨FG, BG, st, lv⟩ := groundX (R := ThenRest h₀ L rest R) B F NO hA hf hke
  have kept : Kept rest (hideAll s.heap (own.map (·.1))) := fun p hp => hideAll_get _ (NR p hp).1 fun hq => by
    obtain ⟨q, hq, e⟩ := List.mem_map.mp hq
    exact (ap q hq).all p hp e.symm
  refine ⟨FG, BG, st, kept, fun v s' hl => ?_⟩
  have h1 := lv v s' hl
  obtain ⟨L', m', news', F', N', k⟩ := hl
  exact h1 fun p hp => ⟨F'.keep _ _ (kept p hp), (NR p hp).2⟩

theorem codeR_plain {env : Env} {outer : List Env} {R : Result → Shared → Prop} {name qual : Str} {params : Arguments} {body : List Stmt} {scope : Scope} {cl : List (Str × Addr)} {dV kV doc pm cdv ct : Value} {an : Option Addr} {fo : Obj} {f : Addr} {args : Args} {binds : List (Str × Value)}
    (B : Below A₀ base outer h₀) (F : Fr h₀ L s.heap m) (N : News h₀ L s.heap (own ++ rest)) (ap : Apart own rest) (hlim : h₀.NoLimit) (hA : A.frames = some (env :: outer)) (hf : env.frame = some L) (hke : env.scope.kind = .function)
    (ho : s.heap.get? f = some fo) (hd : fo.data = .func (fnX name qual params body scope cl dV kV doc pm an cdv ct)) (hcd : s.heap.CodeRec cdv qual) (hroom : A.depth < recursionLimit)
    (hbind : BindsTo s (fnX name qual params body scope cl dV kV doc pm an cdv ct) args binds) (hloc : ∀ y ∈ binds, scope.names.lookup y.1 = some .local)
    (h : ∀ g L' h₁, Fr h₀ L g m → Fr g L' h₁ (fun y => binds.reverse.lookup y) → News g L' h₁ own → Below A base (env :: outer) g → h₀.StaysIn g → Kept rest g → (∀ p ∈ own, p.1 < L') →
      ∀ Q' : Flow → Shared → Prop, (∀ fl s', LeaveK h₀ L m g (ThenRest h₀ L rest R) (match fl with | .ret v => v | _ => .none) s' → Q' fl s') →
      wpAny (model prog w) (A.deeper (envX qual scope L' f cdv cl)) (execs body (envX qual scope L' f cdv cl))
        Q' (fun _ _ => False)
        { s with heap := h₁, toks := s.toks + binds.length })
    (hcell : ∀ x ∈ scope.names, x.2 ≠ .cell) (hco : scope.isCoroutine = false) (hgen : scope.isGenerator = false) (hk : scope.kind = .function) : codeAny (model prog w) A (.call (.ref f) args) R s := by
  obtain ⟨FG, BG, st, kept, lv⟩ := groundR (R := R) B F N ap hA hf hke
  have NO : News h₀ L s.heap own := newsSub N fun p hp => List.mem_append_left _ hp
  refine codeAny_call_def (fd := fnX name qual params body scope cl dV kV doc pm an cdv ct) (body := body) (binds := binds) hroom ho hd (hlim.keeps F.keep) hcd rfl hbind hcell hloc (fun h₁ hns hk₁ => ?_) hco hgen hk
  exact wpAny_mono (h _ s.heap.objs.size h₁ FG ⟨hns, fun b o e => hk₁ b o (of_hideAll _ e), Nat.le_of_eq (hideAll_size _ _)⟩
    (fun p hp => ⟨hk₁ _ _ (NO p hp).1, Nat.ne_of_lt (Heap.lt_size (NO p hp).1), hideAll_none _ (List.mem_map_of_mem hp)⟩) BG st kept (fun p hp => Heap.lt_size (NO p hp).1) _ fun _ _ x => x) (fun fl s' hl => lv _ _ hl) fun _ _ y => y.elim

theorem codeR_cells {env : Env} {outer : List Env} {R : Result → Shared → Prop} {name qual : Str} {params : Arguments} {body : List Stmt} {scope : Scope} {dV kV doc pm cdv ct : Value} {an : Option Addr} {fo : Obj} {f : Addr} {args : Args} {binds : List (Str × Value)}
    (B : Below A₀ base outer h₀) (F : Fr h₀ L s.heap m) (N : News h₀ L s.heap (own ++ rest)) (ap : Apart own rest) (hlim : h₀.NoLimit) (hA : A.frames = some (env :: outer)) (hf : env.frame = some L) (hke : env.scope.kind = .function)
    (ho : s.heap.get? f = some fo) (hd : fo.data = .func (fnX name qual params body scope [] dV kV doc pm an cdv ct)) (hcd : s.heap.CodeRec cdv qual) (hroom : A.depth < recursionLimit)
    (hbind : BindsTo s (fnX name qual params body scope [] dV kV doc pm an cdv ct) args binds)
    (hkind : ∀ n, ∀ x ∈ binds, scope.names.lookup x.1 = some .local ∨ (scope.names.lookup x.1 = some .cell ∧ ((cellsFrom n scope.names []).lookup x.1).isSome = true))
    (hnd : ((cellsFrom 0 scope.names []).map (·.1)).Nodup)
    (h : ∀ g L' h₁ tk cells, Fr h₀ L g m → Fr g L' h₁ (bindL (envOfC qual scope L' f cdv).kindOf binds fun _ => none) → News g L' h₁ (cells ++ own) →
      CellsAre (bindC (envOfC qual scope L' f cdv).kindOf binds fun _ => none) (cellsFrom (L' + 1) scope.names []) cells → Below A base (env :: outer) g → h₀.StaysIn g → Kept rest g → (∀ p ∈ own, p.1 < L') →
      ∀ Q' : Flow → Shared → Prop, (∀ fl s', LeaveK h₀ L m g (ThenRest h₀ L rest R) (match fl with | .ret v => v | _ => .none) s' → Q' fl s') →
      wpAny (model prog w) (A.deeper (envOfC qual scope L' f cdv)) (execs body (envOfC qual scope L' f cdv))
        Q' (fun _ _ => False)
        { s with heap := h₁, toks := tk })
    (hco : scope.isCoroutine = false) (hgen : scope.isGenerator = false) (hk : scope.kind = .function) : codeAny (model prog w) A (.call (.ref f) args) R s := by
  obtain ⟨FG, BG, st, kept, lv⟩ := groundR (R := R) B F N ap hA hf hke
  have NO : News h₀ L s.heap own := newsSub N fun p hp => List.mem_append_left _ hp
  refine codeAny_call_function hroom ho hd hco hgen rfl hcd (hbind _ _ _ _ ?_)
  refine wpAny_newFunctionEnv_cells hk (hkind _) fun env' he s' x => ?_
  subst he
  refine ⟨(hlim.keeps F.keep).keeps x.toInCall.keep, codeAny_func ?_⟩
  obtain ⟨h₁, tk, rfl, _⟩ := x.done
  have hk₁ := x.toInCall.keep
  obtain ⟨cells, NC, Y⟩ := Cl.news (h₀ := s.heap) (Nat.le_refl _) fun n c hm => ⟨x.cell n c (lookup_of_mem_nodup (cellsFrom_names scope.names 0 (s.heap.objs.size + 1) [] [] rfl ▸ hnd) hm), x.above n c hm⟩
  refine wpAny_mono (h _ s.heap.objs.size h₁ tk cells FG ⟨x.toInCall.ns, fun b o e => hk₁ b o (of_hideAll _ e), Nat.le_of_eq (hideAll_size _ _)⟩ (fun p hp => ?_) Y BG st kept (fun p hp => Heap.lt_size (NO p hp).1) _ fun _ _ x => x) (fun fl s' hl => lv _ _ hl) fun _ _ y => y.elim
  rcases List.mem_append.mp hp with hp | hp
  · refine ⟨(NC p hp).1, (NC p hp).2.1, ?_⟩
    cases q : (hideAll s.heap (own.map (·.1))).get? p.1 with
    | none => rfl
    | some o => have := of_hideAll _ q; rw [(NC p hp).2.2] at this; cases this
  · exact ⟨hk₁ _ _ (NO p hp).1, Nat.ne_of_lt (Heap.lt_size (NO p hp).1), hideAll_none _ (List.mem_map_of_mem hp)⟩

/-- a def of the text, entered over its own part of the ledger alone -/
theorem codeR_def {env : Env} {outer : List Env} {R : Result → Shared → Prop} {name qual : Str} {params : Arguments} {body : List Stmt} {scope : Scope} {dV kV doc pm cdv ct oc : Value} {an od : Option Addr} {osl : Array (Option Value)} {f : Addr} {args : Args} {binds : List (Str × Value)}
    (B : Below A₀ base outer h₀) (F : Fr h₀ L s.heap m) (X₀ : K.In h₀) (N : News h₀ L s.heap (own ++ rest)) (ap : Apart own rest) (T : Top p loose mean mg mb h₀) (hA : A.frames = some (env :: outer)) (hf : env.frame = some L) (hke : env.scope.kind = .function)
    (ho : K.lookup f = some ⟨oc, od, .func (fnOf name qual params body scope dV kV doc pm an cdv ct), osl⟩) (hcd : codeIn K cdv qual = true) (hroom : A.depth < recursionLimit)
    (hbind : BindsTo s (fnOf name qual params body scope dV kV doc pm an cdv ct) args binds) (hloc : ∀ y ∈ binds, scope.names.lookup y.1 = some .local)
    (h : ∀ g L' h₁, Fr h₀ L g m → Fr g L' h₁ (fun y => binds.reverse.lookup y) → News g L' h₁ own → Below A base (env :: outer) g → K.In g → Top p loose mean mg mb g → Kept rest g → (∀ p ∈ own, p.1 < L') →
      ∀ Q' : Flow → Shared → Prop, (∀ fl s', LeaveK h₀ L m g (ThenRest h₀ L rest R) (match fl with | .ret v => v | _ => .none) s' → Q' fl s') →
      wpAny (model prog w) (A.deeper (envOf qual scope L' f cdv)) (execs body (envOf qual scope L' f cdv))
        Q' (fun _ _ => False)
        { s with heap := h₁, toks := s.toks + binds.length })
    (hco : scope.isCoroutine = false) (hgen : scope.isGenerator = false) (hk : scope.kind = .function)
    (hcell : ∀ x ∈ scope.names, x.2 ≠ .cell) : codeAny (model prog w) A (.call (.ref f) args) R s :=
  codeR_plain (cl := []) B F N ap T.nolimit hA hf hke ((X₀.keeps F.keep) _ _ ho) rfl (codeRec_of (X₀.keeps F.keep) hcd) hroom hbind hloc (fun g L' h₁ FG F' N' B' st kept l => h g L' h₁ FG F' N' B' (X₀.keeps st) (T.keeps st) kept l) hcell hco hgen hk
theorem codeR_defC {env : Env} {outer : List Env} {R : Result → Shared → Prop} {name qual : Str} {params : Arguments} {body : List Stmt} {scope : Scope} {dV kV doc pm cdv ct oc : Value} {an od : Option Addr} {osl : Array (Option Value)} {f : Addr} {args : Args} {binds : List (Str × Value)}
    (B : Below A₀ base outer h₀) (F : Fr h₀ L s.heap m) (X₀ : K.In h₀) (N : News h₀ L s.heap (own ++ rest)) (ap : Apart own rest) (T : Top p loose mean mg mb h₀) (hA : A.frames = some (env :: outer)) (hf : env.frame = some L) (hke : env.scope.kind = .function)
    (ho : K.lookup f = some ⟨oc, od, .func (fnOf name qual params body scope dV kV doc pm an cdv ct), osl⟩) (hcd : codeIn K cdv qual = true) (hroom : A.depth < recursionLimit)
    (hbind : BindsTo s (fnOf name qual params body scope dV kV doc pm an cdv ct) args binds) (hkind : (binds.all fun y => scope.names.lookup y.1 == some .local || scope.names.lookup y.1 == some .cell) = true)
    (hnd : ((cellsFrom 0 scope.names []).map (·.1)).Nodup)
    (h : ∀ g L' h₁ tk cells, Fr h₀ L g m → Fr g L' h₁ (bindL (envOfC qual scope L' f cdv).kindOf binds fun _ => none) → News g L' h₁ (cells ++ own) →
      CellsAre (bindC (envOfC qual scope L' f cdv).kindOf binds fun _ => none) (cellsFrom (L' + 1) scope.names []) cells → Below A base (env :: outer) g → K.In g → Top p loose mean mg mb g → Kept rest g → (∀ p ∈ own, p.1 < L') →
      ∀ Q' : Flow → Shared → Prop, (∀ fl s', LeaveK h₀ L m g (ThenRest h₀ L rest R) (match fl with | .ret v => v | _ => .none) s' → Q' fl s') →
      wpAny (model prog w) (A.deeper (envOfC qual scope L' f cdv)) (execs body (envOfC qual scope L' f cdv))
        Q' (fun _ _ => False)
        { s with heap := h₁, toks := tk })
    (hco : scope.isCoroutine = false) (hgen : scope.isGenerator = false) (hk : scope.kind = .function) : codeAny (model prog w) A (.call (.ref f) args) R s :=
  codeR_cells B F N ap T.nolimit hA hf hke ((X₀.keeps F.keep) _ _ ho) rfl (codeRec_of (X₀.keeps F.keep) hcd) hroom hbind (kindsX hkind) hnd (fun g L' h₁ tk cells FG F' N' Y B' st kept l => h g L' h₁ tk cells FG F' N' Y B' (X₀.keeps st) (T.keeps st) kept l) hco hgen hk
/-- a def made in a body, entered over its own part of the ledger alone -/
theorem codeR_nest {env : Env} {outer : List Env} {R : Result → Shared → Prop} {name qual : Str} {params : Arguments} {body : List Stmt} {scope : Scope} {cl : List (Str × Addr)} {doc pm ctv : Value} {c' : Addr} {f : Addr} {args : Args} {binds : List (Str × Value)}
    (B : Below A₀ base outer h₀) (F : Fr h₀ L s.heap m) (X₀ : K.In h₀) (N : News h₀ L s.heap (own ++ rest)) (ap : Apart own rest) (T : Top p loose mean mg mb h₀) (hA : A.frames = some (env :: outer)) (hf : env.frame = some L) (hke : env.scope.kind = .function)
    (ho : (f, fnMade name qual params body scope cl doc pm c' ctv) ∈ own) (hcd : s.heap.CodeRec (.ref c') qual) (hroom : A.depth < recursionLimit)
    (hbind : BindsTo s (fnX name qual params body scope cl .none .none doc pm none (.ref c') ctv) args binds) (hloc : ∀ y ∈ binds, scope.names.lookup y.1 = some .local)
    (h : ∀ g L' h₁, Fr h₀ L g m → Fr g L' h₁ (fun y => binds.reverse.lookup y) → News g L' h₁ own → Below A base (env :: outer) g → K.In g → Top p loose mean mg mb g → Kept rest g → (∀ p ∈ own, p.1 < L') →
      ∀ Q' : Flow → Shared → Prop, (∀ fl s', LeaveK h₀ L m g (ThenRest h₀ L rest R) (match fl with | .ret v => v | _ => .none) s' → Q' fl s') →
      wpAny (model prog w) (A.deeper (envX qual scope L' f (.ref c') cl)) (execs body (envX qual scope L' f (.ref c') cl))
        Q' (fun _ _ => False)
        { s with heap := h₁, toks := s.toks + binds.length })
    (hco : scope.isCoroutine = false) (hgen : scope.isGenerator = false) (hk : scope.kind = .function)
    (hcell : ∀ x ∈ scope.names, x.2 ≠ .cell) : codeAny (model prog w) A (.call (.ref f) args) R s :=
  codeR_plain (cl := cl) B F N ap T.nolimit hA hf hke (N _ (List.mem_append_left _ ho)).1 rfl hcd hroom hbind hloc (fun g L' h₁ FG F' N' B' st kept l => h g L' h₁ FG F' N' B' (X₀.keeps st) (T.keeps st) kept l) hcell hco hgen hk
end
end Mine
open Mine
local macro_rules | `(tactic| mul_fits) => `(tactic| (first | assumption | exact Mine.mulLit (by decide) (by decide)))
local macro_rules | `(tactic| k_ne) => `(tactic| (refine neN ?_; (try dsimp only); (first | with_reducible assumption | exact Mine.ltNe (by with_reducible assumption) (by k_mem) | exact Mine.ltNe' (by with_reducible assumption) (by k_mem) | with_reducible exact Mine.not_sym (by assumption) | with_reducible exact Mine.Held.go (by assumption) | with_reducible exact Mine.not_sym (Mine.Held.go (by assumption)) | exact Mine.neNe (by with_reducible assumption) (by k_mem) | exact Mine.neNe' (by with_reducible assumption) (by k_mem) | with_reducible exact Mine.c12 | with_reducible exact Mine.c21 | with_reducible exact Mine.c13 | with_reducible exact Mine.c31 | exact Mine.ltC1 (by with_reducible assumption) (by k_mem) | exact Mine.ltC2 (by with_reducible assumption) (by k_mem) | exact Mine.ltC3 (by with_reducible assumption) (by k_mem) | exact Mine.ltC1' (by with_reducible assumption) (by k_mem) | exact Mine.ltC2' (by with_reducible assumption) (by k_mem) | exact Mine.ltC3' (by with_reducible assumption) (by k_mem) | exact Mine.ltC4 (by with_reducible assumption) (by k_mem) | exact Mine.ltC4' (by with_reducible assumption) (by k_mem) | omega)))
local macro_rules | `(tactic| k_lt $h:ident) => `(tactic| replace $h:ident := allLt_of $h)
local macro_rules | `(tactic| k_all) => `(tactic| exact AllNe.all (by assumption))
namespace Mine
theorem div2n1n_tells {w : World} {p : Program} {loose : List Str} {mean : ExcName → Option Value} {mg mb : Str → Option Value} (rest : Ledger) {a b n : Int} {ta tb tn : Tok}
    (ha : 0 ≤ a) (hab : a < 2 ^ 50) (hb : 0 < b) (hbb : b < 1000000000) (hn : 0 ≤ n) :
    Tells w p loose mean mg mb 21 2 16 ([] ++ rest) [.int a ta, .int b tb, .int n tn]
      (fun ok => ∀ (D : Addr) (t1 t2 : Tok) (c : Nat), AllNe D rest → ok (.ref D) ((D, intTup2 (Int.fdiv a b) t1 (Int.fmod a b) t2 c) :: rest)) := by
  unfold Tells
  intro dp un gd cn cs aa ccd cl outer A₀ base h₀ L m s Q E B F X N T hk hd hu hret
  have hbits := intBits_le ha hab
  have hs : (Builtin.Int.intBits a : Int) - n ≤ 4000 := by omega
  clear hbits
  have ap : Apart [] rest := apart0
  refine wpAny_call ?_
  (k_dflt (refine' codeR_def ?k1 ?k2 ?k3 ?k4 ?ap ?k5 ?kA ?kF ?kK ?k6 ?k7 ?k8 ?k9 ?kB ?_ ?c2 ?c3 ?c4 ?c5; (case kA => exact rfl); (case kF => exact rfl); (case kK => assumption); (case k1 => k_asm); (case k2 => k_asm); (case k3 => k_asm); (case k4 => k_asm); (case ap => assumption); (case k5 => k_asm); (case k6 => k_is); (case k7 => k_is); (case k8 => first | exact roomC hd | ktr_room); (case k9 => first | exact BindsTo.of_eq rfl | exact kp_binds (by k_in) (fun _ => rfl) | fail "no rule for these arguments"); (case c5 => decide); (case kB => exact locs rfl); (case c2 => exact rfl); (case c3 => exact rfl); (case c4 => exact rfl); k_whole; intro g' L' h' FG' F' N' B' X' T' hR' l1 Q' hQ'; (try k_lt l1); (try dsimp only); (try k_lift B'); (try k_fold)))
  k_steps
  (refine hQ' _ _ ?_; (try dsimp only); k_steps; unfold ThenRest; (rename Fr _ _ _ _ => kF9); (rename News _ _ _ _ => kN9); intro hRest; (try dsimp only))
  exact hret _ _ _ _ (fresh_ne (by assumption) (by k_mem) hR') _ _ kF9 (newsPut kN9 (by k_mem) hRest)
end Mine
namespace Mine
theorem fdiv_bits {b n : Int} (hb : 0 ≤ b) (hn : 0 < n) : 0 ≤ (b + n - 1).fdiv n ∧ (b + n - 1).fdiv n ≤ b := by
  rw [Int.fdiv_eq_ediv_of_nonneg _ (by omega)]
  constructor
  · exact Int.ediv_nonneg (by omega) (by omega)
  · have h1 : (b + n - 1) / n < b + 1 := by
      apply Int.ediv_lt_of_lt_mul hn
      have : (b + 1) * n = b * n + n := by rw [Int.add_mul, Int.one_mul]
      have h2 : b * 1 ≤ b * n := Int.mul_le_mul_of_nonneg_left (by omega) hb
      omega
    omega

noncomputable def digVal (n : Nat) : List Int → Int
  | [] => 0
  | d :: r => d + 2 ^ n * digVal n r
theorem fdiv_bits1 {b n : Int} (hb : 1 ≤ b) (hn : 0 < n) : 1 ≤ (b + n - 1).fdiv n := by
  rw [Int.fdiv_eq_ediv_of_nonneg _ (by omega)]
  have : 1 * n ≤ b + n - 1 := by omega
  exact Int.le_ediv_of_mul_le hn this
theorem digVal_zeros (n k : Nat) : digVal n (List.replicate k [(0 : Int)]).flatten = 0 := by
  induction k with
  | zero => rfl
  | succ k ih => rw [List.replicate_succ, List.flatten_cons, List.cons_append, List.nil_append, digVal, ih]; simp
theorem mem_zeros {k : Nat} {d : Int} (h : d ∈ (List.replicate k [(0 : Int)]).flatten) : d = 0 := by
  induction k with
  | zero => simp at h
  | succ k ih =>
    rw [List.replicate_succ, List.flatten_cons] at h
    rcases List.mem_append.mp h with h | h
    · exact List.mem_singleton.mp h
    · exact ih h
theorem digVal_append (n : Nat) (a b : List Int) : digVal n (a ++ b) = digVal n a + 2 ^ (n * a.length) * digVal n b := by
  induction a with
  | nil => simp [digVal]
  | cons d r ih =>
    simp only [List.cons_append, digVal, ih, List.length_cons, Nat.mul_succ, Nat.add_comm (n * r.length) n, Int.pow_add, Int.mul_add, Int.mul_assoc, Int.add_assoc]

theorem digVal_nonneg {n : Nat} {ds : List Int} (h : ∀ d ∈ ds, 0 ≤ d) : 0 ≤ digVal n ds := by
  induction ds with
  | nil => exact Int.le_refl _
  | cons d r ih =>
    have h1 := h d (.head _)
    have h2 := ih fun e he => h e (.tail _ he)
    have h3 : (0 : Int) ≤ 2 ^ n := Int.le_of_lt (Int.pow_pos (by decide))
    have h4 := Int.mul_nonneg h3 h2
    simp only [digVal]
    omega
theorem mul_ge {p v : Int} (hp : 1 ≤ p) (hv : 0 ≤ v) : v ≤ p * v := by
  have := Int.mul_le_mul_of_nonneg_right hp hv
  omega
theorem pow_ge (n : Nat) : (1 : Int) ≤ 2 ^ n := by
  have : (0 : Int) < 2 ^ n := Int.pow_pos (by decide)
  omega
theorem digVal_seg {n : Nat} {ds : List Int} (h : ∀ d ∈ ds, 0 ≤ d) (l len : Nat) : 0 ≤ digVal n ((ds.drop l).take len) ∧ digVal n ((ds.drop l).take len) ≤ digVal n ds := by
  have e1 : digVal n ds = digVal n (ds.take l) + 2 ^ (n * (ds.take l).length) * digVal n (ds.drop l) := by rw [← digVal_append, List.take_append_drop]
  have e2 : digVal n (ds.drop l) = digVal n ((ds.drop l).take len) + 2 ^ (n * ((ds.drop l).take len).length) * digVal n ((ds.drop l).drop len) := by rw [← digVal_append, List.take_append_drop]
  have a1 := digVal_nonneg (n := n) (ds := ds.take l) fun d hd => h d (List.mem_of_mem_take hd)
  have a2 := digVal_nonneg (n := n) (ds := (ds.drop l).take len) fun d hd => h d (List.mem_of_mem_drop (List.mem_of_mem_take hd))
  have a3 := digVal_nonneg (n := n) (ds := (ds.drop l).drop len) fun d hd => h d (List.mem_of_mem_drop (List.mem_of_mem_drop hd))
  have a4 := digVal_nonneg (n := n) (ds := ds.drop l) fun d hd => h d (List.mem_of_mem_drop hd)
  have b1 := mul_ge (pow_ge (n * ((ds.drop l).take len).length)) a3
  have b2 := mul_ge (pow_ge (n * (ds.take l).length)) a4
  refine ⟨a2, Int.le_trans ?_ (Int.le_trans b2 ?_)⟩
  · rw [e2]; exact Int.le_add_of_nonneg_right (Int.le_trans a3 b1)
  · rw [e1]; exact Int.le_add_of_nonneg_left a1
theorem digVal_one {n : Nat} {ds : List Int} {l : Nat} (h : l < ds.length) : digVal n ((ds.drop l).take 1) = ds.getD l 0 := by
  rw [List.drop_eq_getElem_cons h, List.take_succ_cons, List.take_zero, List.getD_eq_getElem?_getD, List.getElem?_eq_getElem h]
  simp [digVal]
theorem digVal_split {n : Nat} {ds : List Int} {l k len : Nat} (hk : k ≤ len) (h : l + k ≤ ds.length) :
    digVal n ((ds.drop l).take len) = digVal n ((ds.drop (l + k)).take (len - k)) * 2 ^ (k * n) + digVal n ((ds.drop l).take k) := by
  have e : (ds.drop l).take len = (ds.drop l).take k ++ (ds.drop (l + k)).take (len - k) := by
    have e1 : len = k + (len - k) := (Nat.add_sub_cancel' hk).symm
    conv => lhs; rw [e1, List.take_add]
    rw [List.drop_drop]
  have e2 : ((ds.drop l).take k).length = k := by rw [List.length_take, List.length_drop]; exact Nat.min_eq_left (Nat.le_sub_of_add_le' h)
  rw [e, digVal_append, e2, Nat.mul_comm n k, Int.mul_comm (2 ^ (k * n))]
  exact Int.add_comm _ _
theorem ld_step {n : Nat} {a b V r d : Int} {tds qs : List Int} (hb : 0 < b) (h1 : a = digVal n (d :: tds).reverse + 2 ^ (n * (d :: tds).length) * V) (h2 : digVal n qs.reverse * b + r = V) (x : Int) (hx : x = r * 2 ^ n + d) :
    a = digVal n tds.reverse + 2 ^ (n * tds.length) * (d + 2 ^ n * V) ∧ digVal n (qs ++ [Int.fdiv x b]).reverse * b + Int.fmod x b = d + 2 ^ n * V := by
  constructor
  · rw [h1, List.reverse_cons, digVal_append, List.length_reverse, List.length_cons, Nat.mul_succ, Int.pow_add]
    simp only [digVal, Int.mul_zero, Int.add_zero, Int.mul_add, Int.mul_assoc, Int.add_assoc]
  · rw [List.reverse_append]
    simp only [List.reverse_cons, List.reverse_nil, List.nil_append, List.cons_append, digVal]
    have e := Int.fmod_add_fdiv_mul x b
    rw [Int.add_mul, Int.mul_assoc]
    rw [← h2, Int.mul_add, Int.mul_comm (2 ^ n) r]
    omega
theorem mid_eq {l len : Nat} : ((l : Int) + (l + len)).fdiv (2 ^ Int.toNat 1) = ((l + len / 2 : Nat) : Int) := by
  have h : (2 : Int) ^ Int.toNat 1 = 2 := by decide
  have e : l + (l + len) = len + 2 * l := by rw [Nat.two_mul, ← Nat.add_assoc, Nat.add_comm]
  have e2 : (len + 2 * l) / 2 = l + len / 2 := by rw [Nat.add_mul_div_left _ _ (by decide), Nat.add_comm]
  rw [h, ← e2, ← e]
  exact (Int.ofNat_fdiv (l + (l + len)) 2).symm
theorem nat_and_high (x s : Nat) : x &&& ((x >>> s) <<< s) = (x >>> s) <<< s := by
  apply Nat.eq_of_testBit_eq
  intro i
  rw [Nat.testBit_and, Nat.testBit_shiftLeft, Nat.testBit_shiftRight]
  by_cases h : s ≤ i
  · simp [h]
  · simp [h]
theorem fdiv_pow {x : Int} {s : Nat} (h0 : 0 ≤ x) : x.fdiv (2 ^ s) = ((x.toNat >>> s : Nat) : Int) := by
  have h2 : (0 : Int) ≤ 2 ^ s := Int.le_of_lt (Int.pow_pos (by decide))
  rw [Int.fdiv_eq_ediv_of_nonneg _ h2, Nat.shiftRight_eq_div_pow]
  have e : x = ((x.toNat : Nat) : Int) := (Int.toNat_of_nonneg h0).symm
  rw [e]
  simp
theorem xor_low {x : Int} {s : Nat} (h0 : 0 ≤ x) : Builtin.bitXor x (x.fdiv (2 ^ s) * 2 ^ s) = x - x.fdiv (2 ^ s) * 2 ^ s := by
  have e1 : x.fdiv (2 ^ s) * 2 ^ s = (((x.toNat >>> s) <<< s : Nat) : Int) := by
    rw [fdiv_pow h0, Nat.shiftLeft_eq]
    simp
  rw [bitXor_and, e1]
  have e2 : Builtin.bitAnd x (((x.toNat >>> s) <<< s : Nat) : Int) = (((x.toNat >>> s) <<< s : Nat) : Int) := by
    unfold Builtin.bitAnd
    have d1 : decide (0 ≤ x) = true := by simpa using h0
    have d2 : decide ((0 : Int) ≤ (((x.toNat >>> s) <<< s : Nat) : Int)) = true := decide_eq_true (Int.natCast_nonneg _)
    rw [d1, d2]
    simp only [Int.toNat_natCast]
    rw [nat_and_high]
  rw [e2]
  omega
theorem fdiv_pow_le {x : Int} {s : Nat} (h0 : 0 ≤ x) : 0 ≤ x.fdiv (2 ^ s) ∧ x.fdiv (2 ^ s) ≤ x ∧ 0 ≤ x - x.fdiv (2 ^ s) * 2 ^ s ∧ x - x.fdiv (2 ^ s) * 2 ^ s ≤ x := by
  have h2 : (0 : Int) < 2 ^ s := Int.pow_pos (by decide)
  rw [Int.fdiv_eq_ediv_of_nonneg _ (Int.le_of_lt h2)]
  have a := Int.ediv_nonneg h0 (Int.le_of_lt h2)
  have b := Int.ediv_mul_le x (Int.ne_of_gt h2)
  have c : x / 2 ^ s ≤ x := Int.ediv_le_self _ h0
  have d : 0 ≤ x / 2 ^ s * 2 ^ s := Int.mul_nonneg a (Int.le_of_lt h2)
  exact ⟨a, c, Int.sub_nonneg.mpr b, Int.sub_le_self x d⟩
theorem set_seg {ds : List Int} {l : Nat} {x : Int} (h : l < ds.length) : ds.set l x = ds.take l ++ [x] ++ ds.drop (l + 1) := by
  rw [List.set_eq_take_append_cons_drop, if_pos h]
  simp
theorem seg_seg {ds a b : List Int} {l k1 k2 : Nat} (ha : a.length = k1) (hb : b.length = k2) (h : l + k1 + k2 ≤ ds.length) :
    ((ds.take l ++ a ++ ds.drop (l + k1)).take (l + k1) ++ b ++ (ds.take l ++ a ++ ds.drop (l + k1)).drop (l + k1 + k2)) = ds.take l ++ (a ++ b) ++ ds.drop (l + (k1 + k2)) := by
  have e : (ds.take l ++ a).length = l + k1 := by rw [List.length_append, List.length_take, ha, Nat.min_eq_left (Nat.le_trans (Nat.le_add_right l (k1 + k2)) (by rw [← Nat.add_assoc]; exact h))]
  have t : (ds.take l ++ a ++ ds.drop (l + k1)).take (l + k1) = ds.take l ++ a := by
    rw [List.take_append_of_le_length (Nat.le_of_eq e.symm), ← e, List.take_length]
  have d : (ds.take l ++ a ++ ds.drop (l + k1)).drop (l + k1 + k2) = ds.drop (l + (k1 + k2)) := by
    rw [List.drop_append, e, List.drop_eq_nil_of_le (Nat.le_trans (Nat.le_of_eq e) (Nat.le_add_right _ _)), List.nil_append, List.drop_drop, Nat.add_sub_cancel_left, Nat.add_assoc]
  rw [t, d]
  simp
end Mine
namespace Mine
noncomputable def FormOf (stored : List Str) (m₀ : Str → Option Value) (ps : List (Str × Value)) (m : Str → Option Value) : Prop :=
  (∀ p ∈ ps, m p.1 = some p.2) ∧ ∀ z, (∀ p ∈ ps, z ≠ p.1) → stored.contains z = false → m z = m₀ z
theorem FormOf.eq {stored : List Str} {m₀ m : Str → Option Value} {ps : List (Str × Value)} (h : FormOf stored m₀ ps m) :
    m = kstB (fun z => if stored.contains z then m z else m₀ z) ps := by
  funext y
  refine (kstB_eq h.1 fun hn => ?_).symm
  show (if stored.contains y = true then m y else m₀ y) = m y
  cases h3 : stored.contains y with
  | true => simp
  | false => simp only [Bool.false_eq_true, if_false]; exact (h.2 y hn h3).symm

noncomputable def TurnEnd {σ : Type} (h₀ : Heap) (L : Addr) (I : Addr) (it : Obj) (Led : σ → Ledger) (ps : σ → List (Str × Value)) (stored : List Str) (m₀ : Str → Option Value) (P : σ → Prop) (s₁ s₂ : Shared) : Prop :=
  ∃ (c' : σ) (h' : Heap) (tk : Nat) (m' : Str → Option Value) (news' : Ledger), s₂ = { s₁ with heap := h', toks := tk } ∧ Fr h₀ L h' m' ∧ News h₀ L h' news' ∧ (I, it) ∈ news' ∧ (∀ p ∈ Led c', p ∈ news') ∧ (∀ p ∈ Led c', p.1 ≠ I) ∧ FormOf stored m₀ (ps c') m' ∧ P c'
noncomputable def TurnPost {σ : Type} (h₀ : Heap) (L : Addr) (I : Addr) (it : Obj) (Led : σ → Ledger) (ps : σ → List (Str × Value)) (stored : List Str) (m₀ : Str → Option Value) (P : σ → Prop) (Q : Flow → Shared → Prop) (s₁ : Shared) (f : Flow) (s₂ : Shared) : Prop :=
  match f with
  | .ret v => Q (.ret v) s₂
  | .brk => Q .next s₂
  | _ => TurnEnd h₀ L I it Led ps stored m₀ P s₁ s₂
theorem turn_end {σ : Type} {h₀ : Heap} {L I : Addr} {it : Obj} {Led : σ → Ledger} {ps : σ → List (Str × Value)} {stored : List Str} {m₀ m' : Str → Option Value} {P : σ → Prop} {s₁ : Shared} {h' : Heap} {tk : Nat} {news' : Ledger} (c' : σ)
    (F : Fr h₀ L h' m') (N : News h₀ L h' news') (hI : (I, it) ∈ news') (hn : ∀ p ∈ Led c', p ∈ news') (ho : AllNe I (Led c')) (hk : ∀ p ∈ ps c', m' p.1 = some p.2) (hr : ∀ z, (∀ p ∈ ps c', z ≠ p.1) → stored.contains z = false → m' z = m₀ z) (hp : P c') :
    TurnEnd h₀ L I it Led ps stored m₀ P s₁ { s₁ with heap := h', toks := tk } := ⟨c', h', tk, m', news', rfl, F, N, hI, hn, ho.all, ⟨hk, hr⟩, hp⟩

section
variable {prog : Program} {w : World} {A : Around} {E : Value → Shared → Prop} {s : Shared} {env : Env} {h₀ : Heap} {x : Str} {body : List Stmt} {Q : Flow → Shared → Prop} {σ : Type}
theorem turn_unr {L I : Addr} {it : Obj} {Led : σ → Ledger} {ps : σ → List (Str × Value)} {stored : List Str} {m₀ : Str → Option Value} {P : σ → Prop} {s₁ : Shared} {R : (Str → Option Value) → Ledger → Prop} {f : Flow} {s₂ : Shared}
    (h : TurnPost h₀ L I it Led ps stored m₀ P Q s₁ f s₂) (k : ∀ c m', FormOf stored m₀ (ps c) m' → P c → R m' (Led c)) : UnrPost h₀ L s₁ I it R Q f s₂ := by
  have fin : TurnEnd h₀ L I it Led ps stored m₀ P s₁ s₂ → UnrEnd h₀ L s₁ I it R s₂ := by
    rintro ⟨c', h', tk, m', news', e, F, N, hI, hn, ho, hf, hp⟩
    refine ⟨h', tk, m', Led c', e, F, fun p hp => ?_, ho, k c' m' hf hp⟩
    rcases List.mem_cons.mp hp with rfl | hp
    · exact N _ hI
    · exact N p (hn p hp)
  cases f with
  | ret v => exact h
  | brk => exact h
  | next => exact fin h
  | cont => exact fin h

/-- for x in reversed(list): an invariant over what is to come -/
theorem rev_state {ax I : Addr} {lo : Obj} {vs : List Value} {n : Nat} {m₀ : Str → Option Value} (Led : σ → Ledger) (ps : σ → List (Str × Value)) (stored : List Str) (P : List Value → σ → Prop) (c₀ : σ)
    (hh : A.handled = none) (F : Fr h₀ env.locals s.heap m₀) (N : News h₀ env.locals s.heap ((I, revObj ax ((vs.length : Int) - 1)) :: Led c₀)) (hI : AllNe I (Led c₀)) (hmem : ∀ c, (ax, lo) ∈ Led c) (hc : lo.cls = .type "list") (hd : lo.data = .seq vs.toArray n)
    (hk : ∀ p ∈ ps c₀, m₀ p.1 = some p.2) (hp : P vs.reverse c₀)
    (turn : ∀ (v : Value) (r : List Value) (c : σ) (u : Str → Option Value) (it : Obj) h tk, it.cls = .type "list_reverseiterator" → P (v :: r) c → AllNe I (Led c) → Fr h₀ env.locals h (fun y => if y = x then some v else kstB (fun z => if stored.contains z then u z else m₀ z) (ps c) y) → News h₀ env.locals h ((I, it) :: Led c) →
      ∀ Q1 : Flow → Shared → Prop, (∀ f s₂, TurnPost h₀ env.locals I it Led ps stored m₀ (P r) Q { s with heap := h, toks := tk } f s₂ → Q1 f s₂) → wpAny (model prog w) A (execs body env) Q1 E { s with heap := h, toks := tk })
    (done : ∀ (c : σ) (u : Str → Option Value) h tk, P [] c → Fr h₀ env.locals h (kstB (fun z => if stored.contains z then u z else m₀ z) (ps c)) → News h₀ env.locals h (Led c) → Q .next { s with heap := h, toks := tk }) :
    wpAny (model prog w) A (pyIter (.ref I)) (fun it s₂ => LoopAtV prog w A h₀ env x body Q E it s₂) E s := by
  have off : ∀ l : Ledger, (∀ p ∈ l, p.1 ≠ I) → OffI I (revObj ax ((vs.length : Int) - 1)) l := fun l => by
    induction l with
    | nil => intro _; trivial
    | cons q r ih => intro h; exact ⟨.inl (h q (.head _)), ih fun p hp => h p (.tail _ hp)⟩
  refine iter_revUnr (lo := lo) (vs := vs) hh F N (off _ hI.all) (hmem c₀) hc hd ?_
  have main : ∀ (l : List Value) (c : σ) (m : Str → Option Value), P l c → FormOf stored m₀ (ps c) m → AllNe I (Led c) → RevRest prog w A E h₀ env x body Q s I (ax, lo) l m (Led c) := by
    intro l
    induction l with
    | nil =>
      intro c m hp hf _
      refine RevRest.zero fun h tk F₁ N₁ => ?_
      rw [hf.eq] at F₁
      exact done c m h tk hp F₁ N₁
    | cons v r ih =>
      intro c m hp hf ha
      refine RevRest.succ fun it h tk hit F₁ N₁ => ?_
      rw [hf.eq] at F₁
      refine wpAny_mono (turn v r c m it h tk hit hp ha F₁ N₁ _ fun _ _ x => x) (fun f s₂ q => ?_) fun _ _ e => e
      have key : TurnPost h₀ env.locals I it Led ps stored m₀ (fun c => P r c ∧ AllNe I (Led c)) Q { s with heap := h, toks := tk } f s₂ := by
        have fin : TurnEnd h₀ env.locals I it Led ps stored m₀ (P r) { s with heap := h, toks := tk } s₂ → TurnEnd h₀ env.locals I it Led ps stored m₀ (fun c => P r c ∧ AllNe I (Led c)) { s with heap := h, toks := tk } s₂ := by
          rintro ⟨c', h', tk', m', news', e, F, N, hI, hn, ho, hf, hp⟩
          exact ⟨c', h', tk', m', news', e, F, N, hI, hn, ho, hf, hp, allNe_of ho⟩
        cases f with
        | ret v => exact q
        | brk => exact q
        | next => exact fin q
        | cont => exact fin q
      exact turn_unr key fun c' m' hf' hp' => ⟨hmem c', ih c' m' hp'.1 hf' hp'.2⟩
  exact main _ c₀ m₀ hp ⟨hk, fun _ _ _ => rfl⟩ hI

/-- for x in list (of the ledger): an invariant over what is to come -/
theorem list_state {ax : Addr} {lo : Obj} {vs : List Value} {n : Nat} {m₀ : Str → Option Value} (Led : σ → Ledger) (ps : σ → List (Str × Value)) (stored : List Str) (P : List Value → σ → Prop) (c₀ : σ)
    (hh : A.handled = none) (F : Fr h₀ env.locals s.heap m₀) (N : News h₀ env.locals s.heap (Led c₀)) (hmem : ∀ c, (ax, lo) ∈ Led c) (hc : lo.cls = .type "list") (hd : lo.data = .seq vs.toArray n)
    (hk : ∀ p ∈ ps c₀, m₀ p.1 = some p.2) (hp : P vs c₀)
    (turn : ∀ (I : Addr) (v : Value) (r : List Value) (c : σ) (u : Str → Option Value) (it : Obj) h tk, it.cls = .type "list_iterator" → P (v :: r) c → AllNe I (Led c) → Fr h₀ env.locals h (fun y => if y = x then some v else kstB (fun z => if stored.contains z then u z else m₀ z) (ps c) y) → News h₀ env.locals h ((I, it) :: Led c) →
      ∀ Q1 : Flow → Shared → Prop, (∀ f s₂, TurnPost h₀ env.locals I it Led ps stored m₀ (P r) Q { s with heap := h, toks := tk } f s₂ → Q1 f s₂) → wpAny (model prog w) A (execs body env) Q1 E { s with heap := h, toks := tk })
    (done : ∀ (c : σ) (u : Str → Option Value) h tk, P [] c → Fr h₀ env.locals h (kstB (fun z => if stored.contains z then u z else m₀ z) (ps c)) → News h₀ env.locals h (Led c) → Q .next { s with heap := h, toks := tk }) :
    wpAny (model prog w) A (pyIter (.ref ax)) (fun it s₂ => LoopAtV prog w A h₀ env x body Q E it s₂) E s := by
  refine iter_listUnr (lo := lo) (vs := vs) hh F N (hmem c₀) hc hd fun I hI => ?_
  have hIa : AllNe I (Led c₀) := allNe_of fun p hp => Nat.ne_of_lt (hI p hp)
  have main : ∀ (l : List Value) (c : σ) (m : Str → Option Value), P l c → FormOf stored m₀ (ps c) m → AllNe I (Led c) → ListRest prog w A E h₀ env x body Q s I (ax, lo) l m (Led c) := by
    intro l
    induction l with
    | nil =>
      intro c m hp hf _
      refine ListRest.zero fun h tk F₁ N₁ => ?_
      rw [hf.eq] at F₁
      exact done c m h tk hp F₁ N₁
    | cons v r ih =>
      intro c m hp hf ha
      refine ListRest.succ fun it h tk hit F₁ N₁ => ?_
      rw [hf.eq] at F₁
      refine wpAny_mono (turn I v r c m it h tk hit hp ha F₁ N₁ _ fun _ _ x => x) (fun f s₂ q => ?_) fun _ _ e => e
      have key : TurnPost h₀ env.locals I it Led ps stored m₀ (fun c => P r c ∧ AllNe I (Led c)) Q { s with heap := h, toks := tk } f s₂ := by
        have fin : TurnEnd h₀ env.locals I it Led ps stored m₀ (P r) { s with heap := h, toks := tk } s₂ → TurnEnd h₀ env.locals I it Led ps stored m₀ (fun c => P r c ∧ AllNe I (Led c)) { s with heap := h, toks := tk } s₂ := by
          rintro ⟨c', h', tk', m', news', e, F, N, hI, hn, ho, hf, hp⟩
          exact ⟨c', h', tk', m', news', e, F, N, hI, hn, ho, hf, hp, allNe_of ho⟩
        cases f with
        | ret v => exact q
        | brk => exact q
        | next => exact fin q
        | cont => exact fin q
      exact turn_unr key fun c' m' hf' hp' => ⟨hmem c', ih c' m' hp'.1 hf' hp'.2⟩
  exact main _ c₀ m₀ hp ⟨hk, fun _ _ _ => rfl⟩ hIa

/-- for x in range(a, a + n): an invariant over the turns made -/
theorem range_state {r : Addr} {a₀ b₀ : Int} {t₀ u₀ v₀ : Tok} {n : Nat} {m₀ : Str → Option Value} (Led : σ → Ledger) (ps : σ → List (Str × Value)) (stored : List Str) (P : Nat → σ → Prop) (c₀ : σ)
    (hh : A.handled = none) (hr : IsRange s.heap r a₀ b₀ 1 t₀ u₀ v₀) (hsmall : Builtin.Range.small a₀ b₀ 1 = true) (hn : Builtin.Range.rangeSize a₀ b₀ 1 = (n : Int)) (F : Fr h₀ env.locals s.heap m₀) (N : News h₀ env.locals s.heap (Led c₀))
    (hk : ∀ p ∈ ps c₀, m₀ p.1 = some p.2) (hp : P 0 c₀)
    (turn : ∀ (I : Addr) (i : Nat) (t : Tok) (c : σ) (u : Str → Option Value) (it : Obj) h tk, i < n → P i c → AllNe I (Led c) → Fr h₀ env.locals h (fun y => if y = x then some (.int (a₀ + (i : Int)) t) else kstB (fun z => if stored.contains z then u z else m₀ z) (ps c) y) → News h₀ env.locals h ((I, it) :: Led c) →
      ∀ Q1 : Flow → Shared → Prop, (∀ f s₂, TurnPost h₀ env.locals I it Led ps stored m₀ (P (i + 1)) Q { s with heap := h, toks := tk } f s₂ → Q1 f s₂) → wpAny (model prog w) A (execs body env) Q1 E { s with heap := h, toks := tk })
    (done : ∀ (c : σ) (u : Str → Option Value) h tk, P n c → Fr h₀ env.locals h (kstB (fun z => if stored.contains z then u z else m₀ z) (ps c)) → News h₀ env.locals h (Led c) → Q .next { s with heap := h, toks := tk }) :
    wpAny (model prog w) A (pyIter (.ref r)) (fun it s₂ => LoopAtV prog w A h₀ env x body Q E it s₂) E s := by
  refine iter_rangeUnr hh hr hsmall hn F N fun I hI => ?_
  have hIa : AllNe I (Led c₀) := allNe_of fun p hp => Nat.ne_of_lt (hI p hp)
  have main : ∀ (k i : Nat) (c : σ) (m : Str → Option Value), i + k = n → P i c → FormOf stored m₀ (ps c) m → AllNe I (Led c) → RangeRest prog w A E h₀ env x body Q s I a₀ n k i m (Led c) := by
    intro k
    induction k with
    | zero =>
      intro i c m hi hp hf _
      refine RangeRest.zero fun h tk F₁ N₁ => ?_
      rw [hf.eq] at F₁
      have : i = n := by omega
      subst this
      exact done c m h tk hp F₁ N₁
    | succ k ih =>
      intro i c m hi hp hf ha
      refine RangeRest.succ fun t h tk F₁ N₁ => ?_
      rw [hf.eq] at F₁
      refine wpAny_mono (turn I i t c m _ h tk (by omega) hp ha F₁ N₁ _ fun _ _ x => x) (fun f s₂ q => ?_) fun _ _ e => e
      have key : TurnPost h₀ env.locals I (itR (a₀ + ((i + 1 : Nat) : Int)) ((n : Int) - ((i + 1 : Nat) : Int))) Led ps stored m₀ (fun c => P (i + 1) c ∧ AllNe I (Led c)) Q { s with heap := h, toks := tk } f s₂ := by
        have fin : TurnEnd h₀ env.locals I (itR (a₀ + ((i + 1 : Nat) : Int)) ((n : Int) - ((i + 1 : Nat) : Int))) Led ps stored m₀ (P (i + 1)) { s with heap := h, toks := tk } s₂ → TurnEnd h₀ env.locals I (itR (a₀ + ((i + 1 : Nat) : Int)) ((n : Int) - ((i + 1 : Nat) : Int))) Led ps stored m₀ (fun c => P (i + 1) c ∧ AllNe I (Led c)) { s with heap := h, toks := tk } s₂ := by
          rintro ⟨c', h', tk', m', news', e, F, N, hI, hn, ho, hf, hp⟩
          exact ⟨c', h', tk', m', news', e, F, N, hI, hn, ho, hf, hp, allNe_of ho⟩
        cases f with
        | ret v => exact q
        | brk => exact q
        | next => exact fin q
        | cont => exact fin q
      exact turn_unr key fun c' m' hf' hp' => ih (i + 1) c' m' (by omega) hp'.1 hf' hp'.2
  exact main n 0 c₀ m₀ (by omega) hp ⟨hk, fun _ _ _ => rfl⟩ hIa

/-- while: an invariant with a measure -/
noncomputable def WhilePost (h₀ : Heap) (L : Addr) (Led : σ → Ledger) (ps : σ → List (Str × Value)) (stored : List Str) (m₀ : Str → Option Value) (P : σ → Prop) (Q : Flow → Shared → Prop) (s₁ : Shared) (f : Flow) (s₂ : Shared) : Prop :=
  match f with
  | .ret v => Q (.ret v) s₂
  | .brk => Q .next s₂
  | _ => ∃ (c' : σ) (h' : Heap) (tk : Nat) (m' : Str → Option Value) (news' : Ledger), s₂ = { s₁ with heap := h', toks := tk } ∧ Fr h₀ L h' m' ∧ News h₀ L h' news' ∧ (∀ p ∈ Led c', p ∈ news') ∧ FormOf stored m₀ (ps c') m' ∧ P c'
theorem while_end {L : Addr} {Led : σ → Ledger} {ps : σ → List (Str × Value)} {stored : List Str} {m₀ m' : Str → Option Value} {P : σ → Prop} {s₁ : Shared} {h' : Heap} {tk : Nat} {news' : Ledger} (c' : σ)
    (F : Fr h₀ L h' m') (N : News h₀ L h' news') (hn : ∀ p ∈ Led c', p ∈ news') (hk : ∀ p ∈ ps c', m' p.1 = some p.2) (hr : ∀ z, (∀ p ∈ ps c', z ≠ p.1) → stored.contains z = false → m' z = m₀ z) (hp : P c') :
    WhilePost h₀ L Led ps stored m₀ P Q s₁ .next { s₁ with heap := h', toks := tk } := ⟨c', h', tk, m', news', rfl, F, N, hn, ⟨hk, hr⟩, hp⟩
theorem while_state {L : Addr} {test : Expr} {pos : Pos} {m₀ : Str → Option Value} (Led : σ → Ledger) (ps : σ → List (Str × Value)) (stored : List Str) (P : σ → Prop) (μ : σ → Nat) (c₀ : σ)
    (F : Fr h₀ L s.heap m₀) (N : News h₀ L s.heap (Led c₀)) (hk : ∀ p ∈ ps c₀, m₀ p.1 = some p.2) (hp : P c₀)
    (turn : ∀ (c : σ) (u : Str → Option Value) h tk, P c → Fr h₀ L h (kstB (fun z => if stored.contains z then u z else m₀ z) (ps c)) → News h₀ L h (Led c) →
      ∀ (Q1 : Flow → Shared → Prop) (Q2 : Shared → Prop), (∀ f s₂, WhilePost h₀ L Led ps stored m₀ (fun c' => P c' ∧ μ c' < μ c) Q { s with heap := h, toks := tk } f s₂ → Q1 f s₂) → (∀ s₂, Q .next s₂ → Q2 s₂) →
      wpAny (model prog w) A (isTrue test env (eval test env)) (fun b s₂ => if b = true then wpAny (model prog w) A (execs body env) Q1 E s₂ else Q2 s₂) E { s with heap := h, toks := tk })
    (hE : PassesOwn (model prog w) A env E) :
    wpAny (model prog w) A (exec (.While test body [] pos) env) Q E s := by
  refine While_inv2 (fun n m nx => ∃ c : σ, nx = Led c ∧ μ c = n ∧ FormOf stored m₀ (ps c) m ∧ P c) F N ⟨c₀, rfl, rfl, ⟨hk, fun _ _ _ => rfl⟩, hp⟩ ?_ hE
  rintro n m₁ nx h tk F₁ N₁ ⟨c, hnx, hsz, hf, hp'⟩
  rw [hnx] at N₁
  rw [← hsz]
  rw [hf.eq] at F₁
  refine wpAny_mono (turn c m₁ h tk hp' F₁ N₁ _ _ (fun _ _ x => x) fun _ x => x) (fun b s₂ p => ?_) fun _ _ x => x
  cases b with
  | false => simpa using p
  | true =>
    simp only [if_true] at p ⊢
    refine wpAny_mono p (fun f s₃ q => ?_) fun _ _ x => x
    cases f with
    | ret v => exact q
    | brk => exact q
    | next =>
      obtain ⟨c', h', tk', m', news', rfl, F', N', hn, hf9, hp9, hm9⟩ := q
      exact ⟨h', tk', m', Led c', μ c', rfl, F', fun p hp => N' p (hn p hp), hm9, c', rfl, rfl, hf9, hp9⟩
    | cont =>
      obtain ⟨c', h', tk', m', news', rfl, F', N', hn, hf9, hp9, hm9⟩ := q
      exact ⟨h', tk', m', Led c', μ c', rfl, F', fun p hp => N' p (hn p hp), hm9, c', rfl, rfl, hf9, hp9⟩
end
end Mine
namespace Mine
/-- the code table at P: still empty, or it holds the one code object, at a -/
noncomputable def TabOk (P ln cl : Nat) (qual : Str) (o : Obj) (a : Addr) (oc : Obj) : Prop :=
  (o = tabObj #[] ∧ a = P ∧ oc = o) ∨ (∃ vs t, o = tabObj #[rawInt ln, rawInt cl, .ref a] ∧ ¬ (@Eq Nat a P) ∧ oc.data = .fields vs ∧ vs[1]? = some (.str qual t))
theorem tabMade {P ln cl : Nat} {qual : Str} {a : Addr} {oc : Obj} {vs : Array Value} {t : Tok} (h : ¬ (@Eq Nat a P)) (h1 : oc.data = .fields vs) (h2 : vs[1]? = some (.str qual t)) : TabOk P ln cl qual (tabObj #[rawInt ln, rawInt cl, .ref a]) a oc :=
  .inr ⟨vs, t, rfl, h, h1, h2⟩
section
variable {M : Model} {A : Around} {E : Value → Shared → Prop} {s : Shared} {h₀ : Heap} {L a c P : Addr} {m mg mb : Str → Option Value} {cn : Str} {cs : Scope} {ccd : Value} {cl : List (Str × Addr)}
  {p : Program} {loose : List Str} {mean : ExcName → Option Value} {name qual : Str} {params : Arguments} {body : List Stmt} {scope : Scope} {pos : Pos} {firstLine : Nat} {clos : List (Str × Addr)}
/-- a def in a body, whether its code object stands in the table or not -/
theorem nestTab_K {Q : Value → Shared → Prop} {o1 oc1 : Obj} {a1 : Addr} {rest : Ledger} (F : Fr h₀ L s.heap m) (N : News h₀ L s.heap ([(P, o1), (a1, oc1)] ++ rest)) (T : Top p loose mean mg mb h₀) (C : CodeHd h₀ c P) (hcd : ccd = .ref c)
    (ht : TabOk P pos.line pos.col qual o1 a1 oc1) (hP : AllNe P rest) (ha : AllNe a1 rest) (hcl : closureFor scope (envX cn cs L a ccd cl) = pure clos)
    (h : ∀ f c' oc vs t ctv doc h' tk, Fr h₀ L h' m →
      News h₀ L h' ((f, fnMade name qual params body scope clos doc ((mg "__name__").getD .none) c' ctv) :: (c', oc) :: (P, tabObj #[rawInt pos.line, rawInt pos.col, .ref c']) :: rest) →
      oc.data = .fields vs → vs[1]? = some (.str qual t) → ¬ (@Eq Nat c' P) → AllNe c' rest → (∀ q ∈ (c', oc) :: (P, o1) :: rest, q.1 < f) → Q (.ref f) { s with heap := h', toks := tk }) :
    wpAny M A (makeFunction name qual params (.stmts body) scope (envX cn cs L a ccd cl) [] [] [] pos firstLine) Q E s := by
  rcases ht with ⟨rfl, rfl, rfl⟩ | ⟨vs, t, rfl, hne, hd, hv⟩
  · have N1 : News h₀ L s.heap ((a1, tabObj #[]) :: rest) := newsSub N fun p hp => List.mem_cons_of_mem _ hp
    refine nest_K F N1 T C hcd (UpdF.head hP.all) trivial rfl hcl fun f c' oc vs t ctv doc h' tk F' N' d1 d2 l1 l2 => ?_
    refine h f c' oc vs t ctv doc h' tk F' (by simpa using N') d1 d2 (Nat.ne_of_gt (l1 _ (.head _))) (allNe_of fun p hp => Nat.ne_of_lt (l1 p (.tail _ hp))) fun q hq => ?_
    rcases List.mem_cons.mp hq with rfl | hq
    · exact l2
    · exact Nat.lt_trans (l1 q hq) l2
  · refine nestHit_K F N T C hcd (.head _) (by simp [TriplesOk, rawInt]) (codeAmong_snoc [] trivial rfl) hcl fun f ctv doc h' tk F' N' l1 => ?_
    refine h f a1 oc1 vs t ctv doc h' tk F' (newsSub N' fun p hp => ?_) hd hv hne ha fun q hq => ?_
    · rcases List.mem_cons.mp hp with rfl | hp
      · exact .head _
      · rcases List.mem_cons.mp hp with rfl | hp
        · exact .tail _ (.tail _ (.head _))
        · rcases List.mem_cons.mp hp with rfl | hp
          · exact .tail _ (.head _)
          · exact .tail _ (.tail _ (.tail _ hp))
    · rcases List.mem_cons.mp hq with rfl | hq
      · exact l1 _ (.tail _ (.head _))
      · rcases List.mem_cons.mp hq with rfl | hq
        · exact l1 _ (.head _)
        · exact l1 _ (.tail _ (.tail _ hq))
end
/-- the halves of a stretch: what the two recursions reckon with, out of omega's sight -/
structure MidBox (xl xr : Int) (l len n N : Nat) : Prop where
  xl : xl = l
  xr : xr = l + len
  h1 : 1 ≤ len
  h64 : len ≤ 64
  hN : l + len ≤ N
  N64 : N ≤ 64
  hn : 0 < n
  hnb : n < 1000
theorem hf9 {len : Nat} : len / 2 + (len - len / 2) = len := Nat.add_sub_cancel' (Nat.div_le_self len 2)
theorem hf1 {len : Nat} (h : 2 ≤ len) : 1 ≤ len / 2 := Nat.div_pos h (by decide)
theorem hf2 {len : Nat} (h : 2 ≤ len) : len / 2 < len := Nat.div_lt_self (Nat.lt_of_lt_of_le (by decide) h) (by decide)
theorem hf3 {len : Nat} (h : 2 ≤ len) : 1 ≤ len - len / 2 := Nat.sub_pos_of_lt (hf2 h)
theorem hf4 {len : Nat} (h : 2 ≤ len) : len - len / 2 < len := Nat.sub_lt (Nat.lt_of_lt_of_le (by decide) h) (hf1 h)
theorem deep1 {a x len R : Nat} (h : x < len) (k : a + (len + 1) < R) : a + 1 + (x + 1) < R := by
  rw [Nat.add_assoc, Nat.add_comm 1]
  exact Nat.lt_of_le_of_lt (Nat.add_le_add_left (Nat.add_le_add_right h 1) a) k
theorem deep8 {a x len R : Nat} (h : x < len) (k : a + 8 * (len + 1) < R) : a + 3 + 8 * (x + 1) < R := by
  rw [Nat.add_assoc, Nat.add_comm 3]
  exact Nat.lt_of_le_of_lt (Nat.add_le_add_left (Nat.le_trans (Nat.add_le_add_left (by decide) _) (Nat.mul_le_mul_left 8 (Nat.add_le_add_right h 1))) a) k
theorem hf5 {len a : Nat} (h : 2 ≤ len) (k : a + (len + 1) < recursionLimit) : a + 1 + (len / 2 + 1) < recursionLimit := deep1 (hf2 h) k
theorem hf6 {len a : Nat} (h : 2 ≤ len) (k : a + (len + 1) < recursionLimit) : a + 1 + (len - len / 2 + 1) < recursionLimit := deep1 (hf4 h) k
theorem hf7 {len a : Nat} (h : 2 ≤ len) (k : a + 8 * (len + 1) < cLine) : a + 3 + 8 * (len / 2 + 1) < cLine := deep8 (hf2 h) k
theorem hf8 {len a : Nat} (h : 2 ≤ len) (k : a + 8 * (len + 1) < cLine) : a + 3 + 8 * (len - len / 2 + 1) < cLine := deep8 (hf4 h) k
namespace MidBox
variable {xl xr : Int} {l len n N : Nat}
theorem mid (b : MidBox xl xr l len n N) : (xl + xr).fdiv (2 ^ Int.toNat 1) = ((l + len / 2 : Nat) : Int) := by rw [b.xl, b.xr]; exact mid_eq
theorem less (b : MidBox xl xr l len n N) : (xl + xr).fdiv (2 ^ Int.toNat 1) - xl = ((len / 2 : Nat) : Int) := by
  rw [b.mid, b.xl, Int.natCast_add, Int.add_comm, Int.add_sub_cancel]
theorem sh (b : MidBox xl xr l len n N) : ((xl + xr).fdiv (2 ^ Int.toNat 1) - xl) * (n : Int) = ((len / 2 * n : Nat) : Int) := by
  rw [b.less, Int.natCast_mul]
theorem s2 (b : MidBox xl xr l len n N) : (((xl + xr).fdiv (2 ^ Int.toNat 1) - xl) * (n : Int)).toNat = len / 2 * n := by rw [b.sh, Int.toNat_natCast]
theorem lt (b : MidBox xl xr l len n N) : l < N := Nat.lt_of_lt_of_le (Nat.lt_add_of_pos_right b.h1) b.hN
theorem half (b : MidBox xl xr l len n N) : l + len / 2 ≤ N := Nat.le_trans (Nat.add_le_add_left (Nat.div_le_self len 2) l) b.hN
theorem bounds (b : MidBox xl xr l len n N) : (0 ≤ xl ∧ xl ≤ 64 ∧ xl < N ∧ 0 ≤ xr ∧ xr ≤ 64) ∧ (0 ≤ (xl + xr).fdiv (2 ^ Int.toNat 1) ∧ (xl + xr).fdiv (2 ^ Int.toNat 1) ≤ 64) ∧
    (0 ≤ (xl + xr).fdiv (2 ^ Int.toNat 1) - xl ∧ (xl + xr).fdiv (2 ^ Int.toNat 1) - xl ≤ 64) ∧ 0 ≤ ((xl + xr).fdiv (2 ^ Int.toNat 1) - xl) * (n : Int) ∧ ((xl + xr).fdiv (2 ^ Int.toNat 1) - xl) * (n : Int) ≤ 1000000 := by
  have h5 : len / 2 ≤ 64 := Nat.le_trans (Nat.div_le_self len 2) b.h64
  have h6 : len / 2 * n ≤ 1000000 := Nat.le_trans (Nat.mul_le_mul h5 (Nat.le_of_lt b.hnb)) (by decide)
  have h7 : xr = ((l + len : Nat) : Int) := by rw [b.xr, Int.natCast_add]
  rw [b.sh, b.less, b.mid, h7, b.xl]
  exact ⟨⟨Int.natCast_nonneg _, Int.ofNat_le.mpr (Nat.le_trans (Nat.le_of_lt b.lt) b.N64), Int.ofNat_lt.mpr b.lt, Int.natCast_nonneg _, Int.ofNat_le.mpr (Nat.le_trans b.hN b.N64)⟩,
    ⟨Int.natCast_nonneg _, Int.ofNat_le.mpr (Nat.le_trans b.half b.N64)⟩, ⟨Int.natCast_nonneg _, Int.ofNat_le.mpr h5⟩, Int.natCast_nonneg _, Int.ofNat_le.mpr h6⟩
theorem step1 (b : MidBox xl xr l len n N) : xl + 1 = xr ↔ len = 1 := by
  rw [b.xl, b.xr]
  constructor
  · intro h
    have e : ((1 : Nat) : Int) = (len : Int) := Int.add_left_cancel h
    exact (Int.ofNat.inj e).symm
  · intro h
    rw [h]; rfl
theorem one (b : MidBox xl xr l len n N) (h : xl + 1 = xr) : len = 1 := b.step1.mp h
theorem more (b : MidBox xl xr l len n N) (h : ¬ xl + 1 = xr) : 2 ≤ len := Nat.lt_of_le_of_ne b.h1 fun e => h (b.step1.mpr e.symm)
theorem toNat (b : MidBox xl xr l len n N) : xl.toNat = l := by rw [b.xl, Int.toNat_natCast]
theorem whole (b : MidBox xl xr l len n N) : l + len / 2 + (len - len / 2) ≤ N := by rw [Nat.add_assoc, hf9]; exact b.hN
theorem r1 (b : MidBox xl xr l len n N) : (xl + xr).fdiv (2 ^ Int.toNat 1) = (l : Int) + ((len / 2 : Nat) : Int) := by rw [b.mid, Int.natCast_add]
theorem r2 (b : MidBox xl xr l len n N) : xr = ((l + len / 2 : Nat) : Int) + ((len - len / 2 : Nat) : Int) := by rw [b.xr, ← Int.natCast_add, ← Int.natCast_add, Nat.add_assoc, hf9]
end MidBox
theorem seg_len {ds seg : List Int} {l len : Nat} (h : l + len ≤ ds.length) (hs : seg.length = len / 2) : (ds.take l ++ seg ++ ds.drop (l + len / 2)).length = ds.length := by
  rw [List.length_append, List.length_append, List.length_take, List.length_drop, hs, Nat.min_eq_left (Nat.le_trans (Nat.le_add_right l len) h), Nat.add_sub_cancel' (Nat.le_trans (Nat.add_le_add_left (Nat.div_le_self len 2) l) h)]
theorem abs_small {x y : Int} (h0 : 0 ≤ x) (h1 : x ≤ y) (h2 : y < 2 ^ 50) : x.natAbs < 2 ^ 64 := by
  rw [← Int.ofNat_lt, Int.natAbs_of_nonneg h0]
  exact Int.lt_of_le_of_lt h1 (Int.lt_trans h2 (by decide))
theorem btw {d x y : Int} (h : 0 ≤ d ∧ d ≤ x) (k : x ≤ y) : 0 ≤ d ∧ d ≤ y := ⟨h.1, Int.le_trans h.2 k⟩
end Mine
local macro_rules | `(tactic| walk_at "call ref") => `(tactic| refine stop_here ?_)
local macro_rules | `(tactic| walk_at "exec FunctionDef") => `(tactic| refine stop_here ?_)
namespace Mine
/-- the recursion of _int2digits: inner(x, l, l + len) writes len digits of x at l -/
noncomputable def InnerSays (w : World) (p : Program) (loose : List Str) (mean : ExcName → Option Value) (mg mb : Str → Option Value) (f D : Addr) (tl : Ledger) (n : Nat) (len : Nat) : Prop :=
  ∀ (rest : Ledger) (x xl xr : Int) (l : Nat) (tx ta tr : Tok) (vs : List Value) (ds : List Int),
    0 ≤ x → x < 2 ^ 50 → xl = l → xr = l + len → l + len ≤ ds.length → ds.length ≤ 64 → IntsAre vs ds → Apart ((D, listOf vs.toArray 0) :: tl) rest →
    Tells w p loose mean mg mb f (len + 1) (8 * (len + 1)) (((D, listOf vs.toArray 0) :: tl) ++ rest) [.int x tx, .int xl ta, .int xr tr]
      (fun ok => ∀ (seg : List Int) (vs' : List Value), seg.length = len → digVal n seg = x → (∀ d ∈ seg, 0 ≤ d ∧ d ≤ x) → IntsAre vs' (ds.take l ++ seg ++ ds.drop (l + len)) → ok .none (((D, listOf vs'.toArray 0) :: tl) ++ rest))
theorem inner_ind {w : World} {p : Program} {loose : List Str} {mean : ExcName → Option Value} {mg mb : Str → Option Value} {f D : Addr} {tl : Ledger} {n : Nat}
    (step : ∀ len, 1 ≤ len → len ≤ 64 → (∀ k, 1 ≤ k → k < len → InnerSays w p loose mean mg mb f D tl n k) → InnerSays w p loose mean mg mb f D tl n len) :
    ∀ len, 1 ≤ len → len ≤ 64 → InnerSays w p loose mean mg mb f D tl n len := by
  intro len
  induction len using Nat.strongRecOn with
  | _ len ih => exact fun h1 h2 => step len h1 h2 fun k hk hlt => ih k hlt hk (by omega)

noncomputable abbrev QI : Str := Str.ofString "_int2digits.<locals>.inner"
theorem inner_of {w : World} {p : Program} {loose : List Str} {mean : ExcName → Option Value} {mg mb : Str → Option Value} {g h : Heap} {L f c D : Addr} {fn oc : Obj} {vs : List Value} {e4 eI eA eN e30 : Addr × Obj} {n : Nat}
    (_NN : News g L h [(f, fn), (c, oc), e30, (D, listOf vs.toArray 0), e4, eI, eA, eN])
    (step : ∀ len, 1 ≤ len → len ≤ 64 → (∀ k, 1 ≤ k → k < len → InnerSays w p loose mean mg mb f D [(f, fn), (c, oc), eI, eA, eN] n k) → InnerSays w p loose mean mg mb f D [(f, fn), (c, oc), eI, eA, eN] n len) :
    ∀ len, 1 ≤ len → len ≤ 64 → InnerSays w p loose mean mg mb f D [(f, fn), (c, oc), eI, eA, eN] n len := inner_ind step
theorem ind_at {P : Nat → Prop} {xs : List Int} {k : Nat} (_e : xs.length = k) (f : ∀ len, 1 ≤ len → len ≤ 64 → P len) (h1 : 1 ≤ k) (h2 : k ≤ 64) : P k := f k h1 h2
theorem memOf {g h : Heap} {L : Addr} {l : Ledger} {a : Addr} {oc : Obj} {vs : Array Value} (_N : News g L h l) (_h : oc.data = .fields vs) (hm : (a, oc) ∈ l) : (a, oc) ∈ l := hm
theorem tabAt {P ln cl : Nat} {qual : Str} {l : Ledger} {a : Addr} {oc : Obj} {vs : Array Value} {t : Tok} (_ : (a, oc) ∈ l) (h1 : oc.data = .fields vs) (h2 : vs[1]? = some (.str qual t)) (h : ¬ (@Eq Nat a P)) : TabOk P ln cl qual (tabObj #[rawInt ln, rawInt cl, .ref a]) a oc := tabMade h h1 h2
theorem reord1 {g h : Heap} {L : Addr} {eF eC eD e4 eI eA eN e30 : Addr × Obj} (NN : News g L h [eF, eC, e30, eD, e4, eI, eA, eN]) : News g L h ((eD :: [eF, eC, eI, eA, eN]) ++ [e4, e30]) :=
  newsSub NN fun p hp => by
    simp only [List.cons_append, List.nil_append, List.mem_cons, List.not_mem_nil, or_false] at hp ⊢
    rcases hp with h | h | h | h | h | h | h | h <;> simp [h]
theorem len_box {a X : Int} {n k : Nat} (h : 0 ≤ a ∧ a < 2 ^ 50 ∧ Builtin.Int.intBits a ≤ 50 ∧ X ≤ Builtin.Int.intBits a) (hne : a ≠ 0) (h3 : 0 ≤ ((Builtin.Int.intBits a : Int) + n - 1).fdiv n → (k : Int) = ((0 + 1 : Nat) : Int) * ((Builtin.Int.intBits a : Int) + n - 1).fdiv n) (hn : 0 < n)
    (h0 : 0 ≤ ((Builtin.Int.intBits a : Int) + n - 1).fdiv n) (hX : ((Builtin.Int.intBits a : Int) + n - 1).fdiv n ≤ 50) : 1 ≤ k ∧ k ≤ 64 := by
  have hb1 := intBits_pos (x := a) (by omega)
  have hfd2 := fdiv_bits1 (b := (Builtin.Int.intBits a : Int)) (n := n) (by omega) (by omega)
  have := h3 h0
  omega
theorem len_dp {dp k : Nat} (h : k ≤ 64) (hd : dp + 70 < recursionLimit) : dp + 1 + (k + 1) < recursionLimit := by omega
theorem len_un {un k : Nat} (h : k ≤ 64) (hd : un + 600 < cLine) : un + 3 + 8 * (k + 1) < cLine := by omega
theorem len_z {ds : List Int} {k : Nat} (h : ds.length = k) : 0 + k ≤ ds.length := by omega
theorem len_64 {ds : List Int} {k : Nat} (h : ds.length = k) (h2 : k ≤ 64) : ds.length ≤ 64 := by omega
theorem len_le {ds : List Int} {k : Nat} {X : Int} (h : ds.length = k) (h3 : 0 ≤ X → (k : Int) = ((0 + 1 : Nat) : Int) * X) (h0 : 0 ≤ X) (hX : X ≤ 50) : ds.length ≤ 64 := by
  have := h3 h0
  omega
theorem int2digits_tells {w : World} {p : Program} {loose : List Str} {mean : ExcName → Option Value} {mg mb : Str → Option Value} (rest : Ledger) {a : Int} {n : Nat} {ta tn : Tok} {a1 : Addr} {o1 oc1 : Obj}
    (ha : 0 ≤ a) (hab : a < 2 ^ 50) (hn : 0 < n) (hnb : n < 1000) (ht : TabOk 30 32 4 QI o1 a1 oc1) (ap : Apart [(30, o1), (a1, oc1)] rest) :
    Tells w p loose mean mg mb 35 70 600 ([(30, o1), (a1, oc1)] ++ rest) [.int a ta, .int n tn]
      (fun ok => ∀ (D a' : Addr) (o oc : Obj) (vs : List Value) (ds : List Int), TabOk 30 32 4 QI o a' oc → AllNe D rest → AllNe a' rest → ¬ (@Eq Nat D 30) → ¬ (@Eq Nat D a') → IntsAre vs ds → digVal n ds = a → (∀ d ∈ ds, 0 ≤ d ∧ d ≤ a) → ds.length ≤ 64 →
        ok (.ref D) ((D, listOf vs.toArray 0) :: (30, o) :: (a', oc) :: rest)) := by
  unfold Tells
  intro dp un gd cn cs aa ccd cl outer A₀ base h₀ L m s Q E B F X N T hk hd hu hret
  have hbits := intBits_le ha hab
  have hfd := fdiv_bits (b := (Builtin.Int.intBits a : Int)) (n := n) (by omega) (by omega)
  obtain ⟨hfd0, hfd1⟩ := hfd
  have hX : (Builtin.Int.intBits a + n - 1 : Int).fdiv n ≤ 50 := by omega
  have hbox := Held.mk (And.intro ha (And.intro hab (And.intro hbits hfd1)))
  clear hbits hfd1 ha hab
  refine wpAny_call ?_
  (k_dflt (refine' codeR_defC ?k1 ?k2 ?k3 ?k4 ?ap ?k5 ?kA ?kF ?kK ?k6 ?k7 ?k8 ?k9 ?kB ?kD ?_ ?c2 ?c3 ?c4; (case kA => exact rfl); (case kF => exact rfl); (case kK => assumption); (case k1 => k_asm); (case k2 => k_asm); (case k3 => k_asm); (case k4 => k_asm); (case ap => assumption); (case k5 => k_asm); (case k6 => k_is); (case k7 => k_is); (case k8 => first | exact roomC hd | ktr_room); (case k9 => exact BindsTo.of_eq rfl); (case kB => exact rfl); (case kD => decide +kernel); (case c2 => exact rfl); (case c3 => exact rfl); (case c4 => exact rfl); k_whole; intro g' L' h' tk' cells' FG' F' N' Y' B' X' T' hR' l1 Q' hQ'; (try k_lt l1); k_cells Y'; (try simp only [List.cons_append, List.nil_append] at N'); (try dsimp only); (try k_lift B'); (try k_fold)))
  have C1 : CodeHd g' 34 30 := codeHd_of_K X' (by kernel_rfl)
  k_steps
  refine Stopped.go ?_
  (k_here; kn_here; k_dflt (refine' nestDef_K ?d0 ?k0 ?a0 ?_; (case d0 => exact rfl); (case k0 => exact rfl); (case a0 => exact rfl)); (k_dflt (refine' nestTab_K ?F ?N ?T ?C ?cd ?ht ?hP ?ha ?cl ?_; (case ht => assumption); (case F => k_asm); (case N => exact newsPicks (by k_asm) (by (repeat' (first | exact Picks.nil | (show Picks _ _ _; refine' Picks.cons (by (repeat' (first | exact Pick.head | refine' Pick.tail ?_))) ?_))))); (case T => k_asm); (case cd => exact rfl); (case C => kn_code); (case hP => ((try dsimp only); (repeat' (first | exact allNe_nil | refine allNe_cons ?_ ?_ | refine And.intro ?_ ?_ | k_ne)))); (case ha => ((try dsimp only); (repeat' (first | exact allNe_nil | refine allNe_cons ?_ ?_ | refine And.intro ?_ ?_ | k_ne)))); (case cl => exact rfl); k_whole); intro f' c' oc' vs' t' ct' dc' h' tk' F' N' d1' d2' n1' n2' l1; (try dsimp only at N'); (replace n1' := Held.mk n1'); (try k_lt l1)))
  k_steps
  · refine Stopped.go ?_
    rename News _ _ _ _ => NN
    have ind := inner_of (w := w) (p := p) (loose := loose) (mean := mean) (mg := mg) (mb := mb) (n := n) NN (by
      intro len hl1 hl2 ih
      unfold InnerSays
      intro rest x xl xr l tx ta tr vs ds hx0 hx1 hxl hxr hlen hds hi ap
      unfold Tells
      intro dp un gd cn cs aa ccd cl outer A₀ base h₀ L m s Q E B F X N T hk hd hu hret
      have bx : MidBox xl xr l len n ds.length := ⟨hxl, hxr, hl1, hl2, hlen, hds, hn, hnb⟩
      refine wpAny_call ?_
      (k_dflt (refine' codeR_nest ?k1 ?k2 ?k3 ?k4 ?ap ?k5 ?kA ?kF ?kK ?k6 ?k7 ?k8 ?k9 ?kB ?_ ?c2 ?c3 ?c4 ?c5; (case kA => exact rfl); (case kF => exact rfl); (case kK => assumption); (case k1 => k_asm); (case k2 => k_asm); (case k3 => k_asm); (case k4 => k_asm); (case ap => assumption); (case k5 => k_asm); (case k6 => k_mem); (case k7 => exact codeRec_news (by k_asm) (by k_mem) (by assumption) (by assumption)); (case k8 => first | exact roomC hd | ktr_room); (case k9 => exact BindsTo.of_eq rfl); (case c5 => decide); (case kB => exact locs rfl); (case c2 => exact rfl); (case c3 => exact rfl); (case c4 => exact rfl); k_whole; intro g' L' h' FG' F' N' B' X' T' hR' l1 Q' hQ'; (try k_lt l1); (try dsimp only); (try k_lift B'); (try k_fold)))
      have hf := fdiv_pow_le (x := x) (s := len / 2 * n) hx0
      have hx2 : x - x.fdiv (2 ^ (len / 2 * n)) * 2 ^ (len / 2 * n) < 2 ^ 50 := Int.lt_of_le_of_lt hf.2.2.2 hx1
      have hx3 : x.fdiv (2 ^ (len / 2 * n)) < 2 ^ 50 := Int.lt_of_le_of_lt hf.2.1 hx1
      have hs3 : (x.fdiv (2 ^ (((xl + xr).fdiv (2 ^ Int.toNat 1) - xl) * (n : Int)).toNat)).natAbs < 2 ^ 64 := by rw [bx.s2]; exact abs_small hf.1 hf.2.1 hx1
      obtain ⟨⟨b1, b2, b3, b4, b5⟩, ⟨b6, b7⟩, ⟨b8, b9⟩, b10, b11⟩ := bx.bounds
      replace hf := Held.mk hf
      replace hx2 := Held.mk hx2
      replace hx3 := Held.mk hx3
      replace hd := Held.mk hd
      replace hu := Held.mk hu
      clear hxl hxr hl1 hl2 hlen
      k_steps
      · (refine hQ' _ _ ?_; (try dsimp only); k_steps; unfold ThenRest; (rename Fr _ _ _ _ => kF9); (rename News _ _ _ _ => kN9); intro hRest; (try dsimp only))
        rename (xl + 1 = xr) => hq
        have h1 := bx.one hq
        subst h1
        refine hret [x] (vs.set xl.toNat (.int x tx)) rfl ?_ ?_ ?_ _ _ kF9 (newsGlue kN9 hRest)
        · simp [digVal]
        · intro d hd9
          rw [List.mem_singleton.mp hd9]
          exact ⟨hx0, Int.le_refl _⟩
        · rw [bx.toNat, ← set_seg bx.lt]
          exact ints_set hi l
      · refine Stopped.go ?_
        rename (xl + 1 ≠ xr) => hq
        have h2 := bx.more hq
        have hrd9 := hf5 h2 hd.go
        have hru9 := hf7 h2 hu.go
        have I1 := ih (len / 2) (hf1 h2) (hf2 h2)
        (k_dflt (refine' tells_use (I1 [] _ _ _ l _ _ _ vs ds ?q1 ?q2 bx.xl bx.r1 bx.half hds hi apartEnd) ?u28k1 ?u28k2 ?u28k3 ?u28k4 ?u28k5 ?u28kK ?u28kd ?u28ku ?u28kR; (case u28k1 => k_asm); (case u28k2 => k_asm); (case u28k3 => k_asm); (case u28k4 => exact newsEnd (by k_asm)); (case u28k5 => k_asm); (case u28kK => first | exact rfl | assumption); (case u28kd => first | exact roomA (a := dp) (c := 1) hd rfl | exact hrd9 | ktr_room); (case u28ku => first | exact roomA (a := un) (c := 3) hu rfl | exact hru9 | ktr_units)))
        case q1 => rw [bx.s2, xor_low hx0]; exact hf.go.2.2.1
        case q2 => rw [bx.s2, xor_low hx0]; exact hx2.go
        dsimp only
        intro seg1 vs1 hl1 hv1 hd1 hi1 h1 tk1 F1 N1
        simp only [List.append_nil] at N1
        replace h2 := Held.mk h2
        clear hrd9 hru9
        have hl1 := Held.mk hl1
        k_sweep
        k_steps
        refine Stopped.go ?_
        have hrd9 := hf6 h2.go hd.go
        have hru9 := hf8 h2.go hu.go
        have I2 := ih (len - len / 2) (hf3 h2.go) (hf4 h2.go)
        have hle1 := seg_len bx.hN hl1.go
        rw [bx.s2, xor_low hx0] at hv1
        rw [bx.s2, xor_low hx0] at hd1
        (k_dflt (refine' tells_use (I2 [] _ _ _ (l + len / 2) _ _ _ vs1 _ ?r1 ?r2 bx.mid bx.r2 ?r5 ?r6 hi1 apartEnd) ?u29k1 ?u29k2 ?u29k3 ?u29k4 ?u29k5 ?u29kK ?u29kd ?u29ku ?u29kR; (case u29k1 => k_asm); (case u29k2 => k_asm); (case u29k3 => k_asm); (case u29k4 => exact newsEnd (by k_asm)); (case u29k5 => k_asm); (case u29kK => first | exact rfl | assumption); (case u29kd => first | exact roomA (a := dp) (c := 1) hd rfl | exact hrd9 | ktr_room); (case u29ku => first | exact roomA (a := un) (c := 3) hu rfl | exact hru9 | ktr_units)))
        case r1 => rw [bx.s2]; exact hf.go.1
        case r2 => rw [bx.s2]; exact hx3.go
        case r5 => rw [hle1]; exact bx.whole
        case r6 => rw [hle1]; exact hds
        dsimp only
        intro seg2 vs2 hl2 hv2 hd2 hi2 h2' tk2 F2 N2
        simp only [List.append_nil] at N2
        clear hrd9 hru9 hle1
        replace hl2 := Held.mk hl2
        k_sweep
        k_steps
        (refine hQ' _ _ ?_; (try dsimp only); k_steps; unfold ThenRest; (rename Fr _ _ _ _ => kF9); (rename News _ _ _ _ => kN9); intro hRest; (try dsimp only))
        rw [bx.s2] at hv2
        rw [bx.s2] at hd2
        refine hret (seg1 ++ seg2) vs2 ?_ ?_ ?_ ?_ _ _ kF9 (newsGlue kN9 hRest)
        · rw [List.length_append, hl1.go, hl2.go]; exact hf9
        · rw [digVal_append, hv1, hv2, hl1.go, Nat.mul_comm n, Int.mul_comm (2 ^ (len / 2 * n)), Int.sub_add_cancel]
        · intro d hd9
          rcases List.mem_append.mp hd9 with h9 | h9
          · exact btw (hd1 d h9) hf.go.2.2.2
          · exact btw (hd2 d h9) hf.go.2.1
        · have e := seg_seg (ds := ds) (l := l) hl1.go hl2.go (by rw [Nat.add_assoc, hf9]; exact bx.hN)
          rw [e] at hi2
          rw [hf9] at hi2
          exact hi2)
    have NR := reord1 NN
    clear NN
    rename (a ≠ 0) => hne
    rename (List.length (List.flatten _) = _) => he1
    rename (0 ≤ Int.fdiv _ _ → _) => he3
    have hk := len_box hbox.go hne he3 hn hfd0 hX
    have I0 := ind_at he1 ind hk.1 hk.2
    replace hne := Held.mk hne
    clear he3
    have hrd9 := len_dp hk.2 hd
    have hru9 := len_un hk.2 hu
    (k_dflt (refine' tells_use (I0 [_, _] _ _ _ 0 _ _ _ _ _ hbox.go.1 hbox.go.2.1 rfl ?z3 (len_z he1) (len_64 he1 hk.2) (by assumption) ?ap) ?u1k1 ?u1k2 ?u1k3 ?u1k4 ?u1k5 ?u1kK ?u1kd ?u1ku ?u1kR; (case u1k1 => k_asm); (case u1k2 => k_asm); (case u1k3 => k_asm); (case u1k4 => k_asm); (case u1k5 => k_asm); (case u1kK => first | exact rfl | assumption); (case u1kd => first | exact roomA (a := dp) (c := 1) hd rfl | exact hrd9 | ktr_room); (case u1ku => first | exact roomA (a := un) (c := 3) hu rfl | exact hru9 | ktr_units)))
    case ap => (refine apartC ?_ (apartC ?_ (apartC ?_ (apartC ?_ (apartC ?_ (apart1 ?_))))) <;> ((try dsimp only); (repeat' (first | exact allNe_nil | refine allNe_cons ?_ ?_ | refine And.intro ?_ ?_ | k_ne))))
    case z3 => simp only [Int.natCast_zero, Int.zero_add]
    clear hrd9 hru9
    dsimp only
    intro seg vs' hls hvs hds his h1 tk1 F1 N1
    simp only [List.cons_append, List.nil_append] at N1
    k_sweep
    k_steps
    (refine hQ' _ _ ?_; (try dsimp only); k_steps; unfold ThenRest; (rename Fr _ _ _ _ => kF9); (rename News _ _ _ _ => kN9); intro hRest; (try dsimp only))
    simp only [List.take_zero, List.nil_append, Nat.zero_add] at his
    rw [List.drop_eq_nil_of_le (Nat.le_of_eq he1), List.append_nil] at his
    (rename (_ = Data.fields _) => hq1)
    (rename (_ = some (Value.str _ _)) => hq2)
    have hm9 := memOf kN9 hq1 (by k_mem)
    have hT9 := tabAt (P := 30) (ln := 32) (cl := 4) (qual := QI) hm9 hq1 hq2 (by k_ne)
    refine hret _ _ _ _ _ _ hT9 (fresh_ne (by assumption) (by k_mem) hR') (fresh_ne (by assumption) (by k_mem) hR') ?_ ?_ his hvs hds ?_ _ _ kF9 (newsPut kN9 (by k_mem) (newsPut kN9 (by k_mem) (newsPut kN9 hm9 hRest)))
    · k_ne
    · k_ne
    · rw [hls]; exact hk.2
  · (refine hQ' _ _ ?_; (try dsimp only); k_steps; unfold ThenRest; (rename Fr _ _ _ _ => kF9); (rename News _ _ _ _ => kN9); intro hRest; (try dsimp only))
    (rename (_ = Data.fields _) => hq1)
    (rename (_ = some (Value.str _ _)) => hq2)
    have hm9 := memOf kN9 hq1 (by k_mem)
    have hT9 := tabAt (P := 30) (ln := 32) (cl := 4) (qual := QI) hm9 hq1 hq2 (by k_ne)
    refine hret _ _ _ _ _ _ hT9 (fresh_ne (by assumption) (by k_mem) hR') (fresh_ne (by assumption) (by k_mem) hR') ?_ ?_ (by assumption) ?_ ?_ ?_ _ _ kF9 (newsPut kN9 (by k_mem) (newsPut kN9 (by k_mem) (newsPut kN9 hm9 hRest)))
    · k_ne
    · k_ne
    · rename (a = 0) => hz
      rw [digVal_zeros, hz]
    · rename (a = 0) => hz
      intro d hd9
      have e := mem_zeros hd9
      rw [e, hz]
      exact ⟨Int.le_refl _, Int.le_refl _⟩
    · rename (List.length (List.flatten _) = _) => he1
      rename (0 ≤ Int.fdiv _ _ → _) => he3
      exact len_le he1 he3 hfd0 hX
end Mine
namespace Mine
noncomputable abbrev QJ : Str := Str.ofString "_digits2int.<locals>.inner"
/-- the recursion of _digits2int: inner(l, l + len) reads len digits from l on -/
noncomputable def InnerReads (w : World) (p : Program) (loose : List Str) (mean : ExcName → Option Value) (mg mb : Str → Option Value) (f : Addr) (own : Ledger) (n : Nat) (ds : List Int) (len : Nat) : Prop :=
  ∀ (rest : Ledger) (xl xr : Int) (l : Nat) (ta tr : Tok), xl = l → xr = l + len → l + len ≤ ds.length → Apart own rest →
    Tells w p loose mean mg mb f (len + 1) (8 * (len + 1)) (own ++ rest) [.int xl ta, .int xr tr]
      (fun ok => ∀ t : Tok, ok (.int (digVal n ((ds.drop l).take len)) t) (own ++ rest))
theorem reads_ind {w : World} {p : Program} {loose : List Str} {mean : ExcName → Option Value} {mg mb : Str → Option Value} {f : Addr} {own : Ledger} {n : Nat} {ds : List Int}
    (step : ∀ len, 1 ≤ len → len ≤ 64 → (∀ k, 1 ≤ k → k < len → InnerReads w p loose mean mg mb f own n ds k) → InnerReads w p loose mean mg mb f own n ds len) :
    ∀ len, 1 ≤ len → len ≤ 64 → InnerReads w p loose mean mg mb f own n ds len := by
  intro len
  induction len using Nat.strongRecOn with
  | _ len ih => exact fun h1 h2 => step len h1 h2 fun k hk hlt => ih k hlt hk (by omega)
theorem rd1 {w : World} {p : Program} {loose : List Str} {mean : ExcName → Option Value} {mg mb : Str → Option Value} {g h : Heap} {L f c : Addr} {fn oc : Obj} {eI eN eD e37 eL : Addr × Obj} {n : Nat} {ds : List Int}
    (_NN : News g L h [(f, fn), (c, oc), e37, eI, eN, eD, eL])
    (step : ∀ len, 1 ≤ len → len ≤ 64 → (∀ k, 1 ≤ k → k < len → InnerReads w p loose mean mg mb f [(f, fn), (c, oc), eI, eN, eD, eL] n ds k) → InnerReads w p loose mean mg mb f [(f, fn), (c, oc), eI, eN, eD, eL] n ds len) :
    ∀ len, 1 ≤ len → len ≤ 64 → InnerReads w p loose mean mg mb f [(f, fn), (c, oc), eI, eN, eD, eL] n ds len := reads_ind step
theorem reord1x {g h : Heap} {L : Addr} {eF eC eI eN eD e37 eL : Addr × Obj} (NN : News g L h [eF, eC, e37, eI, eN, eD, eL]) : News g L h ([eF, eC, eI, eN, eD, eL] ++ [e37]) :=
  newsSub NN fun p hp => by
    simp only [List.cons_append, List.nil_append, List.mem_cons, List.not_mem_nil, or_false] at hp ⊢
    rcases hp with h | h | h | h | h | h | h <;> simp [h]
theorem read_small {n : Nat} {ds : List Int} (h0 : ∀ d ∈ ds, 0 ≤ d) (hv : digVal n ds < 2 ^ 60) (l len : Nat) : (digVal n ((ds.drop l).take len)).natAbs < 2 ^ 64 := by
  have h := digVal_seg (n := n) h0 l len
  omega
theorem len_pos {ds : List Int} (h : ds.length ≠ 0) : 1 ≤ ds.length := by omega
theorem len_dp3 {dp k : Nat} (h : k ≤ 64) (hd : dp + 70 < recursionLimit) : dp + 1 + (k + 1) < recursionLimit := by omega
theorem len_un3 {un k : Nat} (h : k ≤ 64) (hd : un + 600 < cLine) : un + 3 + 8 * (k + 1) < cLine := by omega
theorem dig_nil {n : Nat} {ds : List Int} (h : ds.length = 0) : digVal n ds = 0 := by rw [List.eq_nil_of_length_eq_zero h]; rfl
theorem digits2int_tells {w : World} {p : Program} {loose : List Str} {mean : ExcName → Option Value} {mg mb : Str → Option Value} (rest : Ledger) {n : Nat} {tn : Tok} {a1 D : Addr} {o1 oc1 : Obj} {vs : List Value} {ds : List Int} {c : Nat}
    (hn : 0 < n) (hnb : n < 1000) (hi : IntsAre vs ds) (hds : ds.length ≤ 64) (h0 : ∀ d ∈ ds, 0 ≤ d) (hv : digVal n ds < 2 ^ 60)
    (hD1 : ¬ (@Eq Nat D 37)) (hD2 : ¬ (@Eq Nat D a1)) (ht : TabOk 37 47 4 QJ o1 a1 oc1) (ap : Apart [(37, o1), (a1, oc1), (D, listOf vs.toArray c)] rest) :
    Tells w p loose mean mg mb 42 70 600 ([(37, o1), (a1, oc1), (D, listOf vs.toArray c)] ++ rest) [.ref D, .int n tn]
      (fun ok => ∀ (a' : Addr) (o oc : Obj) (t : Tok), TabOk 37 47 4 QJ o a' oc → AllNe a' rest → ¬ (@Eq Nat D a') →
        ok (.int (digVal n ds) t) ((37, o) :: (a', oc) :: (D, listOf vs.toArray c) :: rest)) := by
  unfold Tells
  intro dp un gd cn cs aa ccd cl outer A₀ base h₀ L m s Q E B F X N T hk hd hu hret
  refine wpAny_call ?_
  (k_dflt (refine' codeR_defC ?k1 ?k2 ?k3 ?k4 ?ap ?k5 ?kA ?kF ?kK ?k6 ?k7 ?k8 ?k9 ?kB ?kD ?_ ?c2 ?c3 ?c4; (case kA => exact rfl); (case kF => exact rfl); (case kK => assumption); (case k1 => k_asm); (case k2 => k_asm); (case k3 => k_asm); (case k4 => k_asm); (case ap => assumption); (case k5 => k_asm); (case k6 => k_is); (case k7 => k_is); (case k8 => first | exact roomC hd | ktr_room); (case k9 => exact BindsTo.of_eq rfl); (case kB => exact rfl); (case kD => decide +kernel); (case c2 => exact rfl); (case c3 => exact rfl); (case c4 => exact rfl); k_whole; intro g' L' h' tk' cells' FG' F' N' Y' B' X' T' hR' l1 Q' hQ'; (try k_lt l1); k_cells Y'; (try simp only [List.cons_append, List.nil_append] at N'); (try dsimp only); (try k_lift B'); (try k_fold)))
  have C1 : CodeHd g' 41 37 := codeHd_of_K X' (by kernel_rfl)
  replace hD2 := Held.mk hD2
  replace hD1 := Held.mk hD1
  k_steps
  refine Stopped.go ?_
  (k_here; kn_here; k_dflt (refine' nestDef_K ?d0 ?k0 ?a0 ?_; (case d0 => exact rfl); (case k0 => exact rfl); (case a0 => exact rfl)); (k_dflt (refine' nestTab_K ?F ?N ?T ?C ?cd ?ht ?hP ?ha ?cl ?_; (case ht => assumption); (case F => k_asm); (case N => exact newsPicks (by k_asm) (by (repeat' (first | exact Picks.nil | (show Picks _ _ _; refine' Picks.cons (by (repeat' (first | exact Pick.head | refine' Pick.tail ?_))) ?_))))); (case T => k_asm); (case cd => exact rfl); (case C => kn_code); (case hP => ((try dsimp only); (repeat' (first | exact allNe_nil | refine allNe_cons ?_ ?_ | refine And.intro ?_ ?_ | k_ne)))); (case ha => ((try dsimp only); (repeat' (first | exact allNe_nil | refine allNe_cons ?_ ?_ | refine And.intro ?_ ?_ | k_ne)))); (case cl => exact rfl); k_whole); intro f' c' oc' vs' t' ct' dc' h' tk' F' N' d1' d2' n1' n2' l1; (try dsimp only at N'); (replace n1' := Held.mk n1'); (try k_lt l1)))
  k_steps
  · refine Stopped.go ?_
    rename News _ _ _ _ => NN
    have ind := rd1 (w := w) (p := p) (loose := loose) (mean := mean) (mg := mg) (mb := mb) (n := n) (ds := ds) NN (by
      intro len hl1 hl2 ih
      unfold InnerReads
      intro rest xl xr l ta tr hxl hxr hlen ap
      unfold Tells
      intro dp un gd cn cs aa ccd cl outer A₀ base h₀ L m s Q E B F X N T hk hd hu hret
      have bx : MidBox xl xr l len n ds.length := ⟨hxl, hxr, hl1, hl2, hlen, hds, hn, hnb⟩
      refine wpAny_call ?_
      (k_dflt (refine' codeR_nest ?k1 ?k2 ?k3 ?k4 ?ap ?k5 ?kA ?kF ?kK ?k6 ?k7 ?k8 ?k9 ?kB ?_ ?c2 ?c3 ?c4 ?c5; (case kA => exact rfl); (case kF => exact rfl); (case kK => assumption); (case k1 => k_asm); (case k2 => k_asm); (case k3 => k_asm); (case k4 => k_asm); (case ap => assumption); (case k5 => k_asm); (case k6 => k_mem); (case k7 => exact codeRec_news (by k_asm) (by k_mem) (by assumption) (by assumption)); (case k8 => first | exact roomC hd | ktr_room); (case k9 => exact BindsTo.of_eq rfl); (case c5 => decide); (case kB => exact locs rfl); (case c2 => exact rfl); (case c3 => exact rfl); (case c4 => exact rfl); k_whole; intro g' L' h' FG' F' N' B' X' T' hR' l1 Q' hQ'; (try k_lt l1); (try dsimp only); (try k_lift B'); (try k_fold)))
      have hsg2 := read_small (n := n) h0 hv (l + len / 2) (len - len / 2)
      obtain ⟨⟨b1, b2, b3, b4, b5⟩, ⟨b6, b7⟩, ⟨b8, b9⟩, b10, b11⟩ := bx.bounds
      have hsg := digVal_seg (n := n) h0 (l + len / 2) (len - len / 2)
      obtain ⟨hsg0, hsg1⟩ := hsg
      replace hsg1 := Held.mk hsg1
      replace hd := Held.mk hd
      replace hu := Held.mk hu
      clear hxl hxr hl1 hl2 hlen
      k_steps
      · (refine hQ' _ _ ?_; (try dsimp only); k_steps; unfold ThenRest; (rename Fr _ _ _ _ => kF9); (rename News _ _ _ _ => kN9); intro hRest; (try dsimp only))
        rename (xl + 1 = xr) => hq
        have h1 := bx.one hq
        subst h1
        rw [bx.toNat, ← digVal_one (n := n) bx.lt]
        exact hret _ _ _ kF9 (newsGlue kN9 hRest)
      · refine Stopped.go ?_
        rename (xl + 1 ≠ xr) => hq
        have h2 := bx.more hq
        have hrd9 := hf6 h2 hd.go
        have hru9 := hf8 h2 hu.go
        have I1 := ih (len - len / 2) (hf3 h2) (hf4 h2)
        (k_dflt (refine' tells_use (I1 [] _ _ (l + len / 2) _ _ bx.mid bx.r2 bx.whole apartEnd) ?u30k1 ?u30k2 ?u30k3 ?u30k4 ?u30k5 ?u30kK ?u30kd ?u30ku ?u30kR; (case u30k1 => k_asm); (case u30k2 => k_asm); (case u30k3 => k_asm); (case u30k4 => exact newsEnd (by k_asm)); (case u30k5 => k_asm); (case u30kK => first | exact rfl | assumption); (case u30kd => first | exact roomA (a := dp) (c := 1) hd rfl | exact hrd9 | ktr_room); (case u30ku => first | exact roomA (a := un) (c := 3) hu rfl | exact hru9 | ktr_units)))
        dsimp only
        intro t1 h1 tk1 F1 N1
        simp only [List.append_nil] at N1
        replace h2 := Held.mk h2
        clear hrd9 hru9
        k_sweep
        k_steps
        refine Stopped.go ?_
        have hrd9 := hf5 h2.go hd.go
        have hru9 := hf7 h2.go hu.go
        have I2 := ih (len / 2) (hf1 h2.go) (hf2 h2.go)
        (k_dflt (refine' tells_use (I2 [] _ _ l _ _ bx.xl bx.r1 bx.half apartEnd) ?u31k1 ?u31k2 ?u31k3 ?u31k4 ?u31k5 ?u31kK ?u31kd ?u31ku ?u31kR; (case u31k1 => k_asm); (case u31k2 => k_asm); (case u31k3 => k_asm); (case u31k4 => exact newsEnd (by k_asm)); (case u31k5 => k_asm); (case u31kK => first | exact rfl | assumption); (case u31kd => first | exact roomA (a := dp) (c := 1) hd rfl | exact hrd9 | ktr_room); (case u31ku => first | exact roomA (a := un) (c := 3) hu rfl | exact hru9 | ktr_units)))
        dsimp only
        intro t2 h2' tk2 F2 N2
        simp only [List.append_nil] at N2
        clear hrd9 hru9
        k_sweep
        k_steps
        (refine hQ' _ _ ?_; (try dsimp only); k_steps; unfold ThenRest; (rename Fr _ _ _ _ => kF9); (rename News _ _ _ _ => kN9); intro hRest; (try dsimp only))
        rw [bx.s2, ← digVal_split (k := len / 2) (Nat.le_of_lt (hf2 h2.go)) bx.half]
        exact hret _ _ _ kF9 (newsGlue kN9 hRest))
    have NR := reord1x NN
    clear NN
    have I0 := ind ds.length (by omega) hds
    have hrd9 := len_dp3 hds hd
    have hru9 := len_un3 hds hu
    (k_dflt (refine' tells_use (I0 [_] _ _ 0 _ _ rfl ?z3 ?z4 ?ap) ?u2k1 ?u2k2 ?u2k3 ?u2k4 ?u2k5 ?u2kK ?u2kd ?u2ku ?u2kR; (case u2k1 => k_asm); (case u2k2 => k_asm); (case u2k3 => k_asm); (case u2k4 => k_asm); (case u2k5 => k_asm); (case u2kK => first | exact rfl | assumption); (case u2kd => first | exact roomA (a := dp) (c := 1) hd rfl | exact hrd9 | ktr_room); (case u2ku => first | exact roomA (a := un) (c := 3) hu rfl | exact hru9 | ktr_units)))
    case ap => (refine apartC ?_ (apartC ?_ (apartC ?_ (apartC ?_ (apartC ?_ (apart1 ?_))))) <;> ((try dsimp only); (repeat' (first | exact allNe_nil | refine allNe_cons ?_ ?_ | refine And.intro ?_ ?_ | k_ne))))
    case z3 => omega
    case z4 => exact Nat.le_of_eq (Nat.zero_add _)
    clear hrd9 hru9
    dsimp only
    intro t1 h1 tk1 F1 N1
    simp only [List.cons_append, List.nil_append] at N1
    k_sweep
    k_steps
    (refine hQ' _ _ ?_; (try dsimp only); k_steps; unfold ThenRest; (rename Fr _ _ _ _ => kF9); (rename News _ _ _ _ => kN9); intro hRest; (try dsimp only))
    (rename (_ = Data.fields _) => hq1)
    (rename (_ = some (Value.str _ _)) => hq2)
    have hm9 := memOf kN9 hq1 (by k_mem)
    have hT9 := tabAt (P := 37) (ln := 47) (cl := 4) (qual := QJ) hm9 hq1 hq2 (by k_ne)
    rw [List.drop_zero, List.take_length]
    refine hret _ _ _ _ hT9 (fresh_ne (by assumption) (by k_mem) hR') ?_ _ _ kF9 (newsPut kN9 (by k_mem) (newsPut kN9 hm9 (newsPut kN9 (by k_mem) hRest)))
    k_ne
  · (refine hQ' _ _ ?_; (try dsimp only); k_steps; unfold ThenRest; (rename Fr _ _ _ _ => kF9); (rename News _ _ _ _ => kN9); intro hRest; (try dsimp only))
    (rename (_ = Data.fields _) => hq1)
    (rename (_ = some (Value.str _ _)) => hq2)
    have hm9 := memOf kN9 hq1 (by k_mem)
    have hT9 := tabAt (P := 37) (ln := 47) (cl := 4) (qual := QJ) hm9 hq1 hq2 (by k_ne)
    have hz : digVal n ds = 0 := dig_nil (by omega)
    rw [← hz]
    refine hret _ _ _ _ hT9 (fresh_ne (by assumption) (by k_mem) hR') ?_ _ _ kF9 (newsPut kN9 (by k_mem) (newsPut kN9 hm9 (newsPut kN9 (by k_mem) hRest)))
    k_ne
end Mine
namespace Mine
theorem ints_snoc {vs : List Value} {ns : List Int} (h : IntsAre vs ns) (n : Int) (t : Tok) : IntsAre (vs ++ [.int n t]) (ns ++ [n]) := by
  induction h with
  | nil => exact IntsAre.cons n t IntsAre.nil
  | cons m u _ ih => exact IntsAre.cons m u ih
theorem ints_rev {vs : List Value} {ns : List Int} (h : IntsAre vs ns) : IntsAre vs.reverse ns.reverse := by
  induction h with
  | nil => exact IntsAre.nil
  | cons m u _ ih => rw [List.reverse_cons, List.reverse_cons]; exact ints_snoc ih m u
theorem shl_le {r : Int} {n : Nat} (h0 : 0 ≤ r) (h1 : r ≤ 1000000) (hn : n ≤ 20) : r * 2 ^ n ≤ 1000000 * 1048576 := by
  have e : (2 : Int) ^ n ≤ 1048576 := by
    have : 2 ^ n ≤ 2 ^ 20 := Nat.pow_le_pow_right (by decide) hn
    have h2 : ((2 ^ n : Nat) : Int) ≤ ((2 ^ 20 : Nat) : Int) := by exact_mod_cast this
    rw [Int.natCast_pow] at h2
    simpa using h2
  have p : (0 : Int) ≤ 2 ^ n := Int.le_of_lt (Int.pow_pos (by decide))
  exact Int.mul_le_mul h1 e p (by decide)
theorem sum_small {x d a : Int} (h : x ≤ 1000000 * 1048576) (hd : d ≤ a) (ha : a < 1000000) : x + d < 2 ^ 50 :=
  Int.lt_of_le_of_lt (Int.add_le_add h (Int.le_trans hd (Int.le_of_lt ha))) (by decide)
theorem ld_end {a b r0 V : Int} {n : Nat} {qs : List Int} (hb : 0 < b) (_ha : 0 ≤ a) (hr0 : 0 ≤ r0) (hq : ∀ q ∈ qs, 0 ≤ q) (h1 : a = digVal n ([] : List Int).reverse + 2 ^ (n * ([] : List Int).length) * V) (h2 : digVal n qs.reverse * b + r0 = V) :
    r0 + b * digVal n qs.reverse = a ∧ digVal n qs.reverse ≤ a := by
  rw [List.reverse_nil, digVal, List.length_nil, Nat.mul_zero, Int.pow_zero, Int.one_mul, Int.zero_add, ← h2] at h1
  rw [h1, Int.mul_comm b]
  refine ⟨Int.add_comm _ _, Int.le_trans ?_ (Int.le_add_of_nonneg_right hr0)⟩
  rw [Int.mul_comm]
  exact mul_ge hb (digVal_nonneg fun e he => hq e (List.mem_reverse.mp he))
theorem divmod_pos_tells {w : World} {p : Program} {loose : List Str} {mean : ExcName → Option Value} {mg mb : Str → Option Value} (rest : Ledger) {a b : Int} {ta tb : Tok} {a1 a2 : Addr} {o1 oc1 o2 oc2 : Obj}
    (ha : 0 ≤ a) (hab : a < 1000000) (hb : 0 < b) (hbb : b < 1000000) (ht1 : TabOk 30 32 4 QI o1 a1 oc1) (ht2 : TabOk 37 47 4 QJ o2 a2 oc2)
    (h12 : ¬ (@Eq Nat a1 a2)) (h17 : ¬ (@Eq Nat a1 37)) (h20 : ¬ (@Eq Nat a2 30))
    (ap : Apart [(30, o1), (a1, oc1), (37, o2), (a2, oc2)] rest) :
    Tells w p loose mean mg mb 49 80 700 ([(30, o1), (a1, oc1), (37, o2), (a2, oc2)] ++ rest) [.int a ta, .int b tb]
      (fun ok => ∀ (D a1' a2' : Addr) (o1' oc1' o2' oc2' : Obj) (t1 t2 : Tok) (c : Nat), TabOk 30 32 4 QI o1' a1' oc1' → TabOk 37 47 4 QJ o2' a2' oc2' → AllNe D rest → AllNe a1' rest → AllNe a2' rest →
        ¬ (@Eq Nat a1' a2') → ¬ (@Eq Nat a1' 37) → ¬ (@Eq Nat a2' 30) → ¬ (@Eq Nat D 30) → ¬ (@Eq Nat D a1') → ¬ (@Eq Nat D 37) → ¬ (@Eq Nat D a2') →
        ok (.ref D) ((D, intTup2 (a / b) t1 (a % b) t2 c) :: (30, o1') :: (a1', oc1') :: (37, o2') :: (a2', oc2') :: rest)) := by
  unfold Tells
  intro dp un gd cn cs aa ccd cl outer A₀ base h₀ L m s Q E B F X N T hk hd hu hret
  refine wpAny_call ?_
  (k_dflt (refine' codeR_def ?k1 ?k2 ?k3 ?k4 ?ap ?k5 ?kA ?kF ?kK ?k6 ?k7 ?k8 ?k9 ?kB ?_ ?c2 ?c3 ?c4 ?c5; (case kA => exact rfl); (case kF => exact rfl); (case kK => assumption); (case k1 => k_asm); (case k2 => k_asm); (case k3 => k_asm); (case k4 => k_asm); (case ap => assumption); (case k5 => k_asm); (case k6 => k_is); (case k7 => k_is); (case k8 => first | exact roomC hd | ktr_room); (case k9 => first | exact BindsTo.of_eq rfl | exact kp_binds (by k_in) (fun _ => rfl) | fail "no rule for these arguments"); (case c5 => decide); (case kB => exact locs rfl); (case c2 => exact rfl); (case c3 => exact rfl); (case c4 => exact rfl); k_whole; intro g' L' h' FG' F' N' B' X' T' hR' l1 Q' hQ'; (try k_lt l1); (try dsimp only); (try k_lift B'); (try k_fold)))
  have hnb0 := intBits_pos hb
  have hnb1 := intBits_le (x := b) (n := 20) (Int.le_of_lt hb) (Int.lt_trans hbb (by decide))
  have hnn0 : (0 : Int) ≤ (Builtin.Int.intBits b : Int) := Int.natCast_nonneg _
  have hnn1 : (Builtin.Int.intBits b : Int) ≤ 20 := Int.ofNat_le.mpr hnb1
  k_steps
  refine Stopped.go ?_
  (k_dflt (refine' tells_use (int2digits_tells _ (n := Builtin.Int.intBits b) ha (Int.lt_trans hab (by decide)) hnb0 (Nat.lt_of_le_of_lt hnb1 (by decide)) ht1 ?ap) ?u3k1 ?u3k2 ?u3k3 ?u3k4 ?u3k5 ?u3kK ?u3kd ?u3ku ?u3kR; (case u3k1 => k_asm); (case u3k2 => k_asm); (case u3k3 => k_asm); (case u3k4 => exact newsPicks (by k_asm) (by (repeat' (first | exact Picks.nil | (show Picks _ _ _; refine' Picks.cons (by (repeat' (first | exact Pick.head | refine' Pick.tail ?_))) ?_))))); (case u3k5 => k_asm); (case u3kK => first | exact rfl | assumption); (case u3kd => first | exact roomA (a := dp) (c := 1) hd rfl | exact hrd9 | ktr_room); (case u3ku => first | exact roomA (a := un) (c := 3) hu rfl | exact hru9 | ktr_units)))
  case ap => (first | exact apart0 | (refine apart1 ?_; ((try dsimp only); (repeat' (first | exact allNe_nil | refine allNe_cons ?_ ?_ | refine And.intro ?_ ?_ | k_ne)))) | (refine apartC ?_ (apart1 ?_) <;> ((try dsimp only); (repeat' (first | exact allNe_nil | refine allNe_cons ?_ ?_ | refine And.intro ?_ ?_ | k_ne)))))
  dsimp only
  intro D a1' o1' oc1' vs ds hT1 hD1 hD2 hD3 hD4 hi hv hd hl h1 tk1 F1 N1
  replace hv := Held.mk hv
  k_sweep
  k_steps
  rename Fr _ _ _ _ => FF
  rename News _ _ _ _ => NN
  rename_i lq _ l1a _ Dit _ l1b
  refine' rev_state (σ := Int × Tok × List Value × Nat) (ax := D) (lo := listOf vs.toArray 0) (vs := vs) (n := 0)
    (fun c => [(lq, listOf c.2.2.1.toArray c.2.2.2), (D, listOf vs.toArray 0), (30, o1'), (a1', oc1'), (37, o2), (a2, oc2)])
    (fun c => [(Str.ofString "r", Value.int c.1 c.2.1)]) [Str.ofString "q_digit", Str.ofString "r", Str.ofString "a_digit"]
    (fun todo c => ∃ tds qs V, IntsAre todo tds ∧ IntsAre c.2.2.1 qs ∧ (∀ d ∈ tds, 0 ≤ d ∧ d ≤ a) ∧ (∀ q ∈ qs, 0 ≤ q) ∧ tds.length + qs.length = ds.length ∧ 0 ≤ c.1 ∧ c.1 < b ∧
      a = digVal (Builtin.Int.intBits b) tds.reverse + 2 ^ (Builtin.Int.intBits b * tds.length) * V ∧ digVal (Builtin.Int.intBits b) qs.reverse * b + c.1 = V)
    (0, ?tr, [], 0) rfl FF NN ?a1 ?a2 rfl rfl ?a3 ?a4 ?a5 ?a6
  case a3 => (intro p hp; rw [List.mem_singleton.mp hp]; exact rfl)
  case a1 => ((try dsimp only); (repeat' (first | exact allNe_nil | refine allNe_cons ?_ ?_ | refine And.intro ?_ ?_ | k_ne)))
  case a2 => (intro c; k_mem)
  case a4 => exact ⟨ds.reverse, [], 0, ints_rev hi, IntsAre.nil, (fun d hd9 => hd d (List.mem_reverse.mp hd9)), (fun q hq => nomatch hq), by simp, Int.le_refl _, hb, by simp [hv.go], by simp [digVal]⟩
  case a5 =>
    clear FF NN
    intro v r c9
    revert c9
    refine prod4 ?_
    intro r0 tr qvs cn u it h9 tk9 hit hI hne F1 N1 Q1 hQ1
    refine ex3 hI ?_
    clear hI
    intro tds qs V hI
    refine ints_cons hI.1 ?_
    intro d td tds' ev en i1
    rw [en] at hI
    (have i2 := hI.2.1; have hd1 := hI.2.2.1; have hq1 := hI.2.2.2.1; have hlen := hI.2.2.2.2.1; have hr0 := hI.2.2.2.2.2.1; have hr1 := hI.2.2.2.2.2.2.1; have hV1 := hI.2.2.2.2.2.2.2.1; have hV2 := hI.2.2.2.2.2.2.2.2; clear hI)
    clear en
    dsimp only at i2 hr0 hr1 hV2 hne F1 N1
    have hd2 := hd1 d (.head _)
    have hx0 : 0 ≤ r0 * 2 ^ (Builtin.Int.intBits b) := Int.mul_nonneg hr0 (Int.le_of_lt (Int.pow_pos (by decide)))
    have hx1 : r0 * 2 ^ (Builtin.Int.intBits b) ≤ 1000000 * 1048576 := shl_le hr0 (Int.le_of_lt (Int.lt_trans hr1 hbb)) hnb1
    have hrb : r0 < 1000000 := Int.lt_trans hr1 hbb
    have hrn : r0.natAbs < 2 ^ 64 := abs_small hr0 (Int.le_refl _) (Int.lt_trans hrb (by decide))
    have hql : qs.length ≤ 64 := Nat.le_trans (Nat.le_add_left _ _) (Nat.le_trans (Nat.le_of_eq hlen) hl)
    have hqv : qvs.length = qs.length := i2.length
    replace hV1 := Held.mk hV1
    replace hV2 := Held.mk hV2
    replace hlen := Held.mk hlen
    replace hr1 := Held.mk hr1
    replace F1 : Fr g' L' h9 _ := F1
    rw [ev] at F1
    clear ev
    dsimp only [kstB] at F1
    replace N1 : News g' L' h9 _ := N1
    k_steps
    refine Stopped.go ?_
    have hxx : (r0 * 2 ^ (Int.toNat (Builtin.Int.intBits b : Int)) + d) = r0 * 2 ^ (Builtin.Int.intBits b) + d := by rw [Int.toNat_natCast]
    rw [hxx]
    (k_dflt (refine' tells_use (div2n1n_tells _ ?b1 ?b2 hb ?b3 ?b4) ?u4k1 ?u4k2 ?u4k3 ?u4k4 ?u4k5 ?u4kK ?u4kd ?u4ku ?u4kR; (case u4k1 => k_asm); (case u4k2 => k_asm); (case u4k3 => k_asm); (case u4k4 => exact newsPicks (by k_asm) (by (repeat' (first | exact Picks.nil | (show Picks _ _ _; refine' Picks.cons (by (repeat' (first | exact Pick.head | refine' Pick.tail ?_))) ?_))))); (case u4k5 => k_asm); (case u4kK => first | exact rfl | assumption); (case u4kd => first | exact roomA (a := dp) (c := 1) hd rfl | exact hrd9 | ktr_room); (case u4ku => first | exact roomA (a := un) (c := 3) hu rfl | exact hru9 | ktr_units)))
    case b1 => exact Int.add_nonneg hx0 hd2.1
    case b2 => exact sum_small hx1 hd2.2 hab
    case b3 => exact Int.lt_trans hbb (by decide)
    case b4 => exact hnn0
    dsimp only
    intro D2 t1 t2 c2 hD2 h2 tk2 F2 N2
    k_sweep
    k_steps
    ((rename Fr _ _ _ _ => F9); (rename News _ _ _ _ => N9); (try simp only [List.push_toArray] at N9))
    refine hQ1 _ _ ?_
    refine' turn_end (?cr, ?ct, ?cq, ?cc) F9 N9 (by k_mem) ?s1 ?s2 ?s3 ?s4 ?s5
    case s1 => exact (SubL.mem (by ((try dsimp only); k_subL)))
    case s3 => ((try dsimp only); intro p hp; rw [List.mem_singleton.mp hp]; exact rfl)
    case s2 => dsimp only; ((try dsimp only); (repeat' (first | exact allNe_nil | refine allNe_cons ?_ ?_ | refine And.intro ?_ ?_ | k_ne)))
    case s4 => ((try dsimp only); ksw_same)
    case s5 =>
      dsimp only
      have ld := ld_step (tds := tds') hb hV1.go hV2.go _ rfl
      have hxp : 0 ≤ r0 * 2 ^ (Builtin.Int.intBits b) + d := Int.add_nonneg hx0 hd2.1
      refine ⟨tds', qs ++ [_], _, i1, ints_snoc i2 _ _, (fun e he => hd1 e (.tail _ he)), ?_, ?_, ?_, ?_, ld.1, ld.2⟩
      · intro q hq
        rcases List.mem_append.mp hq with hq | hq
        · exact hq1 q hq
        · rw [List.mem_singleton.mp hq, Int.fdiv_eq_ediv_of_nonneg _ (Int.le_of_lt hb)]
          exact Int.ediv_nonneg hxp (Int.le_of_lt hb)
      · rw [List.length_append, ← Nat.add_assoc, Nat.add_right_comm]; exact hlen.go
      · exact Int.fmod_nonneg_of_pos _ hb
      · exact Int.fmod_lt_of_pos _ hb
  case a6 =>
    clear FF NN
    refine prod4 ?_
    intro r0 tr qvs cn u h9 tk9 hI F1 N1
    refine ex3 hI ?_
    clear hI
    intro tds qs V hI
    have en := ints_nil hI.1
    rw [en] at hI
    (have i2 := hI.2.1; have hq1 := hI.2.2.2.1; have hlen := hI.2.2.2.2.1; have hr0 := hI.2.2.2.2.2.1; have hr1 := hI.2.2.2.2.2.2.1; have hV1 := hI.2.2.2.2.2.2.2.1; have hV2 := hI.2.2.2.2.2.2.2.2; clear hI)
    clear en
    dsimp only at i2 hr0 hr1 hV2 F1 N1
    replace F1 : Fr g' L' h9 _ := F1
    replace N1 : News g' L' h9 _ := N1
    dsimp only [kstB] at F1
    have hend := ld_end hb ha hr0 hq1 hV1 hV2
    clear hV1 hV2
    have hdm := (Int.ediv_emod_unique hb).mpr ⟨hend.1, hr0, hr1⟩
    have hq3 := hend.2
    replace hend := Held.mk hend
    replace hr1 := Held.mk hr1
    have hql : qvs.length = qs.length := i2.length
    have hq9 : qs.length ≤ 64 := Nat.le_trans (Nat.le_add_left _ _) (Nat.le_trans (Nat.le_of_eq hlen) hl)
    clear hlen
    k_steps
    dsimp only
    refine kl_reverse (its := qvs.toArray) (l := qvs.reverse) F1 N1 (by simp) (by k_upd) (by rw [List.toList_toArray]; simp only [sizeLine]; omega) ?_
    intro h2 F2 N2
    k_sweep
    k_steps
    refine Stopped.go ?_
    (k_dflt (refine' tells_use (digits2int_tells _ (n := Builtin.Int.intBits b) ?d1 ?d2 (ints_rev i2) ?d3 ?d4 ?d5 ?d6 ?d7 ht2 ?ap2) ?u5k1 ?u5k2 ?u5k3 ?u5k4 ?u5k5 ?u5kK ?u5kd ?u5ku ?u5kR; (case u5k1 => k_asm); (case u5k2 => k_asm); (case u5k3 => k_asm); (case u5k4 => exact newsPicks (by k_asm) (by (repeat' (first | exact Picks.nil | (show Picks _ _ _; refine' Picks.cons (by (repeat' (first | exact Pick.head | refine' Pick.tail ?_))) ?_))))); (case u5k5 => k_asm); (case u5kK => first | exact rfl | assumption); (case u5kd => first | exact roomA (a := dp) (c := 1) hd rfl | exact hrd9 | ktr_room); (case u5ku => first | exact roomA (a := un) (c := 3) hu rfl | exact hru9 | ktr_units)))
    case ap2 => ((refine apartC ?_ (apartC ?_ (apart1 ?_))) <;> ((try dsimp only); (repeat' (first | exact allNe_nil | refine allNe_cons ?_ ?_ | refine And.intro ?_ ?_ | k_ne))))
    case d1 => exact hnb0
    case d2 => exact Nat.lt_of_le_of_lt hnb1 (by decide)
    case d3 => rw [List.length_reverse]; exact hq9
    case d4 => exact fun e he => hq1 e (List.mem_reverse.mp he)
    case d5 => exact Int.lt_of_le_of_lt hq3 (Int.lt_trans hab (by decide))
    case d6 => k_ne
    case d7 => k_ne
    dsimp only
    intro a2' o2' oc2' t3 hT2 hD5 hD6 h3 tk3 F3 N3
    k_sweep
    k_steps
    (refine hQ' _ _ ?_; (try dsimp only); k_steps; unfold ThenRest; (rename Fr _ _ _ _ => kF9); (rename News _ _ _ _ => kN9); intro hRest; (try dsimp only))
    rw [hdm.1, hdm.2] at hret
    refine hret _ _ _ _ _ _ _ _ _ _ hT1 hT2 (fresh_ne (by assumption) (by k_mem) hR') (fresh_ne (by assumption) (by k_mem) hR') (fresh_ne (by assumption) (by k_mem) hR') ?_ ?_ ?_ ?_ ?_ ?_ ?_ _ _ kF9 (newsPut kN9 (by k_mem) (newsPut kN9 (by k_mem) (newsPut kN9 (by k_mem) (newsPut kN9 (by k_mem) (newsPut kN9 (by k_mem) hRest)))))
    all_goals (first | k_ne | omega)
end Mine
namespace Mine
/-- the two code tables, as they stand in the ledger -/
noncomputable def Tabs (o1 : Obj) (a1 : Addr) (oc1 : Obj) (o2 : Obj) (a2 : Addr) (oc2 : Obj) : Prop :=
  TabOk 30 32 4 QI o1 a1 oc1 ∧ TabOk 37 47 4 QJ o2 a2 oc2 ∧ ¬ (@Eq Nat a1 a2) ∧ ¬ (@Eq Nat a1 37) ∧ ¬ (@Eq Nat a2 30)
noncomputable abbrev tabs4 (o1 : Obj) (a1 : Addr) (oc1 : Obj) (o2 : Obj) (a2 : Addr) (oc2 : Obj) : Ledger := [(30, o1), (a1, oc1), (37, o2), (a2, oc2)]
noncomputable abbrev DivRet (rest : Ledger) (a b : Int) (ok : Value → Ledger → Prop) : Prop :=
  ∀ (D a1' a2' : Addr) (o1' oc1' o2' oc2' : Obj) (t1 t2 : Tok) (c : Nat), Tabs o1' a1' oc1' o2' a2' oc2' → AllNe D rest → AllNe a1' rest → AllNe a2' rest →
    ¬ (@Eq Nat D 30) → ¬ (@Eq Nat D a1') → ¬ (@Eq Nat D 37) → ¬ (@Eq Nat D a2') →
    ok (.ref D) ((D, intTup2 (Int.fdiv a b) t1 (Int.fmod a b) t2 c) :: (30, o1') :: (a1', oc1') :: (37, o2') :: (a2', oc2') :: rest)
noncomputable def DivSays (w : World) (p : Program) (loose : List Str) (mean : ExcName → Option Value) (mg mb : Str → Option Value) (d u : Nat) (a b : Int) : Prop :=
  ∀ (rest : Ledger) (ta tb : Tok) (a1 a2 : Addr) (o1 oc1 o2 oc2 : Obj), Tabs o1 a1 oc1 o2 a2 oc2 → Apart (tabs4 o1 a1 oc1 o2 a2 oc2) rest →
    Tells w p loose mean mg mb 56 d u (tabs4 o1 a1 oc1 o2 a2 oc2 ++ rest) [.int a ta, .int b tb] (DivRet rest a b)
theorem div_pp {w : World} {p : Program} {loose : List Str} {mean : ExcName → Option Value} {mg mb : Str → Option Value} {a b : Int} (ha : 0 ≤ a) (hab : a < 1000000) (hb : 0 < b) (hbb : b < 1000000) : DivSays w p loose mean mg mb 90 800 a b := by
  intro rest ta tb a1 a2 o1 oc1 o2 oc2 hT ap
  obtain ⟨hT1, hT2, h12, h17, h20⟩ := hT
  unfold Tells
  intro dp un gd cn cs aa ccd cl outer A₀ base h₀ L m s Q E B F X N T hk hd hu hret
  have hb0 : b ≠ 0 := by omega
  have hb1 : ¬ b < 0 := by omega
  have ha1 : ¬ a < 0 := by omega
  refine wpAny_call ?_
  (k_dflt (refine' codeR_def ?k1 ?k2 ?k3 ?k4 ?ap ?k5 ?kA ?kF ?kK ?k6 ?k7 ?k8 ?k9 ?kB ?_ ?c2 ?c3 ?c4 ?c5; (case kA => exact rfl); (case kF => exact rfl); (case kK => assumption); (case k1 => k_asm); (case k2 => k_asm); (case k3 => k_asm); (case k4 => k_asm); (case ap => assumption); (case k5 => k_asm); (case k6 => k_is); (case k7 => k_is); (case k8 => first | exact roomC hd | ktr_room); (case k9 => first | exact BindsTo.of_eq rfl | exact kp_binds (by k_in) (fun _ => rfl) | fail "no rule for these arguments"); (case c5 => decide); (case kB => exact locs rfl); (case c2 => exact rfl); (case c3 => exact rfl); (case c4 => exact rfl); k_whole; intro g' L' h' FG' F' N' B' X' T' hR' l1 Q' hQ'; (try k_lt l1); (try dsimp only); (try k_lift B'); (try k_fold)))
  k_steps
  all_goals (try (exfalso; omega))
  refine Stopped.go ?_
  (k_dflt (refine' tells_use (divmod_pos_tells _ ha hab hb hbb hT1 hT2 h12 h17 h20 ?ap) ?u6k1 ?u6k2 ?u6k3 ?u6k4 ?u6k5 ?u6kK ?u6kd ?u6ku ?u6kR; (case u6k1 => k_asm); (case u6k2 => k_asm); (case u6k3 => k_asm); (case u6k4 => exact newsPicks (by k_asm) (by (repeat' (first | exact Picks.nil | (show Picks _ _ _; refine' Picks.cons (by (repeat' (first | exact Pick.head | refine' Pick.tail ?_))) ?_))))); (case u6k5 => k_asm); (case u6kK => first | exact rfl | assumption); (case u6kd => first | exact roomA (a := dp) (c := 1) hd rfl | exact hrd9 | ktr_room); (case u6ku => first | exact roomA (a := un) (c := 3) hu rfl | exact hru9 | ktr_units)))
  case ap => exact apartEnd
  dsimp only
  intro D a1' a2' o1' oc1' o2' oc2' t1 t2 c hT1' hT2' hD1 hD2 hD3 hn1 hn2 hn3 hn4 hn5 hn6 hn7 h1 tk1 F1 N1
  k_sweep
  k_steps
  (refine hQ' _ _ ?_; (try dsimp only); k_steps; unfold ThenRest; (rename Fr _ _ _ _ => kF9); (rename News _ _ _ _ => kN9); intro hRest; (try dsimp only))
  rw [← Int.fdiv_eq_ediv_of_nonneg _ (by omega), ← Int.fmod_eq_emod_of_nonneg _ (by omega)] at kN9
  refine hret _ _ _ _ _ _ _ _ _ _ ⟨hT1', hT2', hn1, hn2, hn3⟩ (fresh_ne (by assumption) (by k_mem) hR') (fresh_ne (by assumption) (by k_mem) hR') (fresh_ne (by assumption) (by k_mem) hR') hn4 hn5 hn6 hn7 _ _ kF9 (newsPut kN9 (by k_mem) (newsPut kN9 (by k_mem) (newsPut kN9 (by k_mem) (newsPut kN9 (by k_mem) (newsPut kN9 (by k_mem) hRest)))))

theorem div_use {w : World} {p : Program} {loose : List Str} {mean : ExcName → Option Value} {mg mb : Str → Option Value} {d u : Nat} {a b : Int} (D : DivSays w p loose mean mg mb d u a b) (rest : Ledger) {ta tb : Tok} {a1 a2 : Addr} {o1 oc1 o2 oc2 : Obj} (hT : Tabs o1 a1 oc1 o2 a2 oc2) (ap : Apart (tabs4 o1 a1 oc1 o2 a2 oc2) rest) :
    Tells w p loose mean mg mb 56 d u (tabs4 o1 a1 oc1 o2 a2 oc2 ++ rest) [.int a ta, .int b tb] (DivRet rest a b) := D rest ta tb a1 a2 o1 oc1 o2 oc2 hT ap
theorem fd_not {a b : Int} (hb : 0 < b) : Builtin.bitNot ((Builtin.bitNot a).fdiv b) = a.fdiv b ∧ b + Builtin.bitNot ((Builtin.bitNot a).fmod b) = a.fmod b := by
  unfold Builtin.bitNot
  rw [Int.fdiv_eq_ediv_of_nonneg _ (by omega), Int.fdiv_eq_ediv_of_nonneg _ (by omega), Int.fmod_eq_emod_of_nonneg _ (by omega), Int.fmod_eq_emod_of_nonneg _ (by omega)]
  have h1 := Int.mul_ediv_add_emod (-a - 1) b
  have h2 := Int.emod_nonneg (-a - 1) (Int.ne_of_gt hb)
  have h3 := Int.emod_lt_of_pos (-a - 1) hb
  have key := (Int.ediv_emod_unique (a := a) (r := b + (-((-a - 1) % b) - 1)) (q := -((-a - 1) / b) - 1) hb).mpr ⟨by
    rw [Int.mul_sub, Int.mul_neg, Int.mul_one]; omega, by omega, by omega⟩
  exact ⟨key.1.symm, key.2.symm⟩
theorem fd_neg {a b : Int} (hb : b < 0) : (-a).fdiv (-b) = a.fdiv b ∧ -((-a).fmod (-b)) = a.fmod b := by
  have e : (-a).fdiv (-b) = a.fdiv b := by rw [Int.neg_fdiv_neg]
  refine ⟨e, ?_⟩
  have h1 := Int.mul_fdiv_add_fmod (-a) (-b)
  have h2 := Int.mul_fdiv_add_fmod a b
  rw [e, Int.neg_mul] at h1
  omega
theorem div_np {w : World} {p : Program} {loose : List Str} {mean : ExcName → Option Value} {mg mb : Str → Option Value} {a b : Int} (ha : a < 0) (hab : -1000000 < a) (hb : 0 < b) (hbb : b < 1000000) : DivSays w p loose mean mg mb 95 820 a b := by
  intro rest ta tb a1 a2 o1 oc1 o2 oc2 hT ap
  unfold Tells
  intro dp un gd cn cs aa ccd cl outer A₀ base h₀ L m s Q E B F X N T hk hd hu hret
  have hb0 : b ≠ 0 := by omega
  have hb1 : ¬ b < 0 := by omega
  refine wpAny_call ?_
  (k_dflt (refine' codeR_def ?k1 ?k2 ?k3 ?k4 ?ap ?k5 ?kA ?kF ?kK ?k6 ?k7 ?k8 ?k9 ?kB ?_ ?c2 ?c3 ?c4 ?c5; (case kA => exact rfl); (case kF => exact rfl); (case kK => assumption); (case k1 => k_asm); (case k2 => k_asm); (case k3 => k_asm); (case k4 => k_asm); (case ap => assumption); (case k5 => k_asm); (case k6 => k_is); (case k7 => k_is); (case k8 => first | exact roomC hd | ktr_room); (case k9 => first | exact BindsTo.of_eq rfl | exact kp_binds (by k_in) (fun _ => rfl) | fail "no rule for these arguments"); (case c5 => decide); (case kB => exact locs rfl); (case c2 => exact rfl); (case c3 => exact rfl); (case c4 => exact rfl); k_whole; intro g' L' h' FG' F' N' B' X' T' hR' l1 Q' hQ'; (try k_lt l1); (try dsimp only); (try k_lift B'); (try k_fold)))
  k_steps
  all_goals (try (exfalso; omega))
  refine Stopped.go ?_
  have hnn : 0 ≤ Builtin.bitNot a ∧ Builtin.bitNot a < 1000000 := by unfold Builtin.bitNot; omega
  (k_dflt (refine' tells_use (div_use (div_pp hnn.1 hnn.2 hb hbb) _ hT apartEnd) ?u7k1 ?u7k2 ?u7k3 ?u7k4 ?u7k5 ?u7kK ?u7kd ?u7ku ?u7kR; (case u7k1 => k_asm); (case u7k2 => k_asm); (case u7k3 => k_asm); (case u7k4 => exact newsPicks (by k_asm) (by (repeat' (first | exact Picks.nil | (show Picks _ _ _; refine' Picks.cons (by (repeat' (first | exact Pick.head | refine' Pick.tail ?_))) ?_))))); (case u7k5 => k_asm); (case u7kK => first | exact rfl | assumption); (case u7kd => first | exact roomA (a := dp) (c := 1) hd rfl | exact hrd9 | ktr_room); (case u7ku => first | exact roomA (a := un) (c := 3) hu rfl | exact hru9 | ktr_units)))
  dsimp only [DivRet]
  intro D a1' a2' o1' oc1' o2' oc2' t1 t2 c hT' hD1 hD2 hD3 hn4 hn5 hn6 hn7 h1 tk1 F1 N1
  have hT9 := hT'
  obtain ⟨hT1', hT2', hn1, hn2, hn3⟩ := hT9
  k_sweep
  k_steps
  (refine hQ' _ _ ?_; (try dsimp only); k_steps; unfold ThenRest; (rename Fr _ _ _ _ => kF9); (rename News _ _ _ _ => kN9); intro hRest; (try dsimp only))
  have hfd := fd_not (a := a) hb
  rw [hfd.1, hfd.2] at kN9
  refine hret _ _ _ _ _ _ _ _ _ _ hT' (fresh_ne (by assumption) (by k_mem) hR') (fresh_ne (by assumption) (by k_mem) hR') (fresh_ne (by assumption) (by k_mem) hR') ?_ ?_ ?_ ?_ _ _ kF9 (newsPut kN9 (by k_mem) (newsPut kN9 (by k_mem) (newsPut kN9 (by k_mem) (newsPut kN9 (by k_mem) (newsPut kN9 (by k_mem) hRest)))))
  all_goals (first | k_ne | omega)
theorem div_p {w : World} {p : Program} {loose : List Str} {mean : ExcName → Option Value} {mg mb : Str → Option Value} {a b : Int} (hab0 : -1000000 < a) (hab : a < 1000000) (hb : 0 < b) (hbb : b < 1000000) : DivSays w p loose mean mg mb 95 820 a b := by
  by_cases ha : a < 0
  · exact div_np ha hab0 hb hbb
  · have h := div_pp (w := w) (p := p) (loose := loose) (mean := mean) (mg := mg) (mb := mb) (a := a) (b := b) (by omega) hab hb hbb
    intro rest ta tb a1 a2 o1 oc1 o2 oc2 hT ap
    intro dp un gd cn cs aa ccd cl outer A₀ base h₀ L m s Q E B F X N T hk hd hu hret
    exact h rest ta tb a1 a2 o1 oc1 o2 oc2 hT ap dp un gd cn cs aa ccd cl outer A₀ base h₀ L m s Q E B F X N T hk (by omega) (by omega) hret
theorem div_n {w : World} {p : Program} {loose : List Str} {mean : ExcName → Option Value} {mg mb : Str → Option Value} {a b : Int} (hab0 : -1000000 < a) (hab : a < 1000000) (hb : b < 0) (hbb : -1000000 < b) : DivSays w p loose mean mg mb 100 840 a b := by
  intro rest ta tb a1 a2 o1 oc1 o2 oc2 hT ap
  unfold Tells
  intro dp un gd cn cs aa ccd cl outer A₀ base h₀ L m s Q E B F X N T hk hd hu hret
  have hb0 : b ≠ 0 := by omega
  refine wpAny_call ?_
  (k_dflt (refine' codeR_def ?k1 ?k2 ?k3 ?k4 ?ap ?k5 ?kA ?kF ?kK ?k6 ?k7 ?k8 ?k9 ?kB ?_ ?c2 ?c3 ?c4 ?c5; (case kA => exact rfl); (case kF => exact rfl); (case kK => assumption); (case k1 => k_asm); (case k2 => k_asm); (case k3 => k_asm); (case k4 => k_asm); (case ap => assumption); (case k5 => k_asm); (case k6 => k_is); (case k7 => k_is); (case k8 => first | exact roomC hd | ktr_room); (case k9 => first | exact BindsTo.of_eq rfl | exact kp_binds (by k_in) (fun _ => rfl) | fail "no rule for these arguments"); (case c5 => decide); (case kB => exact locs rfl); (case c2 => exact rfl); (case c3 => exact rfl); (case c4 => exact rfl); k_whole; intro g' L' h' FG' F' N' B' X' T' hR' l1 Q' hQ'; (try k_lt l1); (try dsimp only); (try k_lift B'); (try k_fold)))
  k_steps
  all_goals (try (exfalso; omega))
  refine Stopped.go ?_
  (k_dflt (refine' tells_use (div_use (div_p (by omega) (by omega) (by omega) (by omega)) _ hT apartEnd) ?u8k1 ?u8k2 ?u8k3 ?u8k4 ?u8k5 ?u8kK ?u8kd ?u8ku ?u8kR; (case u8k1 => k_asm); (case u8k2 => k_asm); (case u8k3 => k_asm); (case u8k4 => exact newsPicks (by k_asm) (by (repeat' (first | exact Picks.nil | (show Picks _ _ _; refine' Picks.cons (by (repeat' (first | exact Pick.head | refine' Pick.tail ?_))) ?_))))); (case u8k5 => k_asm); (case u8kK => first | exact rfl | assumption); (case u8kd => first | exact roomA (a := dp) (c := 1) hd rfl | exact hrd9 | ktr_room); (case u8ku => first | exact roomA (a := un) (c := 3) hu rfl | exact hru9 | ktr_units)))
  dsimp only [DivRet]
  intro D a1' a2' o1' oc1' o2' oc2' t1 t2 c hT' hD1 hD2 hD3 hn4 hn5 hn6 hn7 h1 tk1 F1 N1
  have hT9 := hT'
  obtain ⟨hT1', hT2', hn1, hn2, hn3⟩ := hT9
  k_sweep
  k_steps
  (refine hQ' _ _ ?_; (try dsimp only); k_steps; unfold ThenRest; (rename Fr _ _ _ _ => kF9); (rename News _ _ _ _ => kN9); intro hRest; (try dsimp only))
  have hfd := fd_neg (a := a) hb
  rw [hfd.1, hfd.2] at kN9
  refine hret _ _ _ _ _ _ _ _ _ _ hT' (fresh_ne (by assumption) (by k_mem) hR') (fresh_ne (by assumption) (by k_mem) hR') (fresh_ne (by assumption) (by k_mem) hR') ?_ ?_ ?_ ?_ _ _ kF9 (newsPut kN9 (by k_mem) (newsPut kN9 (by k_mem) (newsPut kN9 (by k_mem) (newsPut kN9 (by k_mem) (newsPut kN9 (by k_mem) hRest)))))
  all_goals (first | k_ne | omega)
/-- int_divmod: floor division and its remainder -/
theorem div_tells {w : World} {p : Program} {loose : List Str} {mean : ExcName → Option Value} {mg mb : Str → Option Value} {a b : Int} (hab0 : -1000000 < a) (hab : a < 1000000) (hb : b ≠ 0) (hb0 : -1000000 < b) (hb1 : b < 1000000) : DivSays w p loose mean mg mb 100 840 a b := by
  by_cases hbn : b < 0
  · exact div_n hab0 hab hbn hb0
  · have h := div_p (w := w) (p := p) (loose := loose) (mean := mean) (mg := mg) (mb := mb) (a := a) (b := b) hab0 hab (by omega) hb1
    intro rest ta tb a1 a2 o1 oc1 o2 oc2 hT ap
    intro dp un gd cn cs aa ccd cl outer A₀ base h₀ L m s Q E B F X N T hk hd hu hret
    exact h rest ta tb a1 a2 o1 oc1 o2 oc2 hT ap dp un gd cn cs aa ccd cl outer A₀ base h₀ L m s Q E B F X N T hk (by omega) (by omega) hret
end Mine
namespace Mine
open PySem.AutoSeq1 (wpAny_loadPart')
open PySem.MeetsSeq PySem.MeetsSeq3 PySem.SeqAt
noncomputable abbrev pairL (a : Int) (ta : Tok) (s : Int) (ts : Tok) (c : Nat) : Obj := listOf #[.int a ta, .int s ts] c
noncomputable def TwoAre (a1 s1 a2 s2 : Int) (t1 t2 t3 t4 : Tok) (c1 c2 : Nat) (l b : Addr) (s : Shared) : Prop :=
  s.heap.get? l = some (pairL a1 t1 s1 t2 c1) ∧ s.heap.get? b = some (pairL a2 t3 s2 t4 c2)
theorem lt_int_rc {prog : Program} {w : World} {A : Around} {E : Value → Shared → Prop} {s : Shared} {a b : Int} {t u : Tok} {Q : Value → Shared → Prop} (h : Q (.bool (decide (a < b))) s) :
    wpAny (model prog w) A (richCompare .Lt (.int a t) (.int b u)) Q E s := by
  have := lt_int (prog := prog) (w := w) (A := A) (E := E) (s := s) (a := a) (b := b) (t := t) (u := u) (Q := Q) h
  exact this
noncomputable abbrev ltSpec (l b : Addr) (items items2 : Array Value) (n n2 : Nat) (r : Bool) : PySem.Spec :=
  fun _ R s => s.heap.get? l = some { cls := .type "list", dict := none, data := .seq items n, slots := #[] } ∧ s.heap.get? b = some { cls := .type "list", dict := none, data := .seq items2 n2, slots := #[] } ∧ R (.ok (.ret (.bool r))) s
theorem lt_end (l b : Addr) (items items2 : Array Value) (n n2 : Nat) (hsz : items.size = items2.size) (i : Nat) (hi : items.size ≤ i) : Meets (Builtin.«list.__eq__.loop» ⟨[.ref l, .ref b, rawInt i, rawInt 0], []⟩) (ltSpec l b items items2 n n2 false) := by
  intro prog w A R s h
  obtain ⟨hp, g, d, tk, os⟩ := s; obtain ⟨hl, hb, h⟩ := h
  wp_walk using wpAny_loadPart' hl, wpAny_loadPart' hb
  have hi1 : items[((i : Nat) : Int).toNat]? = none := by simp; omega
  have hi2 : items2[((i : Nat) : Int).toNat]? = none := by simp; omega
  rw [hi1, hi2]
  wp_walk using wpAny_loadPart' hl, wpAny_loadPart' hb
  show R (.ok (.ret (.bool (decide (items.size < items2.size))))) _
  rw [hsz]
  simpa using h
theorem lt_step (l b : Addr) (items items2 : Array Value) (n n2 : Nat) (i : Nat) (x y : Int) (t u : Tok) (hi1 : items[i]? = some (.int x t)) (hi2 : items2[i]? = some (.int y u)) (r : Bool)
    (ih : Meets (Builtin.«list.__eq__.loop» ⟨[.ref l, .ref b, rawInt (i + 1 : Nat), rawInt 0], []⟩) (ltSpec l b items items2 n n2 r)) :
    Meets (Builtin.«list.__eq__.loop» ⟨[.ref l, .ref b, rawInt i, rawInt 0], []⟩) (ltSpec l b items items2 n n2 (if x = y then r else decide (x < y))) := by
  intro prog w A R s h
  obtain ⟨hp, g, d, tk, os⟩ := s; obtain ⟨hl, hb, h⟩ := h
  wp_walk using wpAny_loadPart' hl, wpAny_loadPart' hb
  have hj1 : items[((i : Nat) : Int).toNat]? = some (.int x t) := by simpa using hi1
  have hj2 : items2[((i : Nat) : Int).toNat]? = some (.int y u) := by simpa using hi2
  have hc : ((i : Int) + 1) = ((i + 1 : Nat) : Int) := by push_cast; rfl
  rw [hj1, hj2]
  refine wpAny_bind (EqGives.int x y t u prog w _ _ _ _ ?_)
  by_cases e : x = y
  · have hb' : (x == y) = true := by simpa using e
    rw [hb']
    wp_walk
    rw [hc]
    exact ⟨plainId_quiet plain_eq_loop _, codeAny_builtin entry_eq_loop (by
        rw [Around.under_plainId plain_eq_loop _]
        exact ih prog w A R _ ⟨hl, hb, by rw [if_pos e] at h; exact h⟩)⟩
  · have hb' : (x == y) = false := by simpa using e
    rw [hb']
    rw [if_neg e] at h
    wp_walk using wpAny_loadPart' hl, wpAny_loadPart' hb
    rw [hj1, hj2]
    show wpAny (model prog w) A.in1 (do ret (← richCompare CmpOp.Lt (Value.int x t) (Value.int y u))) _ _ _
    exact wpAny_bind (lt_int_rc (wpAny_pure h))
theorem list_lt2 (l b : Addr) (a1 s1 a2 s2 : Int) (t1 t2 t3 t4 : Tok) (c1 c2 : Nat) :
    Meets (Builtin.«list.__lt__» ⟨[.ref l, .ref b], []⟩) (ltSpec l b #[.int a1 t1, .int s1 t2] #[.int a2 t3, .int s2 t4] c1 c2 (if a1 = a2 then (if s1 = s2 then false else decide (s1 < s2)) else decide (a1 < a2))) := by
  have h0 := lt_step l b _ _ c1 c2 0 a1 a2 t1 t3 rfl rfl _ (lt_step l b _ _ c1 c2 1 s1 s2 t2 t4 rfl rfl _ (lt_end l b #[.int a1 t1, .int s1 t2] #[.int a2 t3, .int s2 t4] c1 c2 rfl 2 (by simp)))
  generalize #[Value.int a1 t1, Value.int s1 t2] = items at *
  generalize #[Value.int a2 t3, Value.int s2 t4] = items2 at *
  intro prog w A R s h
  obtain ⟨hp, g, d, tk, os⟩ := s; obtain ⟨hl, hb, h⟩ := h
  have f3 := AutoSeq1.sub_list_list
  wp_walk using wpAny_loadPart' hl, wpAny_loadPart' hb
  exact ⟨plainId_quiet plain_eq_loop _, codeAny_builtin entry_eq_loop (by
    rw [Around.under_plainId plain_eq_loop _]
    exact h0 prog w A R _ ⟨hl, hb, h⟩)⟩
theorem lt_pairs {prog : Program} {w : World} {A : Around} {E : Value → Shared → Prop} {s : Shared} {l b : Addr} {a1 s1 a2 s2 : Int} {t1 t2 t3 t4 : Tok} {c1 c2 : Nat} {h₀ : Heap} {L : Addr} {news : Ledger} {Q : Value → Shared → Prop}
    (N : News h₀ L s.heap news) (h1 : (l, pairL a1 t1 s1 t2 c1) ∈ news) (h2 : (b, pairL a2 t3 s2 t4 c2) ∈ news) (hu : A.units < cLine)
    (h : Q (.bool (if a1 = a2 then (if s1 = s2 then false else decide (s1 < s2)) else decide (a1 < a2))) s) : wpAny (model prog w) A (compareOp .Lt (.ref l) (.ref b)) Q E s := by
  show wpAny (model prog w) A (richCompare .Lt (.ref l) (.ref b)) Q E s
  exact richCompare_meets_room (T := "list") ⟨_, (N _ h1).1, rfl⟩ ⟨_, (N _ h2).1, rfl⟩ PySem.F.slot_list_lt PySem.F.entry_list_lt (PySem.F.args_list_lt_2 _ _) (list_lt2 l b a1 s1 a2 s2 t1 t2 t3 t4 c1 c2) ⟨(N _ h1).1, (N _ h2).1, by simp, h⟩ hu
end Mine
section
local macro_rules | `(tactic| walk_at "compareOp Lt ref ref") => `(tactic| (k_dflt (refine' lt_pairs ?N ?a ?b ?u ?_; (case N => k_asm); (case a => k_mem); (case b => k_mem); (case u => ktr_units))))
namespace Mine
/-- is the pair (a, s) before the pair (b, t)? -/
noncomputable def ltP (a s b t : Int) : Bool := if a = b then (if s = t then false else decide (s < t)) else decide (a < b)
theorem siftdown_tells {w : World} {p : Program} {loose : List Str} {mean : ExcName → Option Value} {mg mb : Str → Option Value} (rest : Ledger) {H p1 p2 : Addr} {ch c1 c2 : Nat} {a1 s1 a2 s2 : Int} {t1 t2 t3 t4 tk0 tk1 : Tok}
    (h12 : ¬ (@Eq Nat p1 p2)) (hH1 : ¬ (@Eq Nat H p1)) (hH2 : ¬ (@Eq Nat H p2))
    (ap : Apart [(H, listOf #[.ref p1, .ref p2] ch), (p1, pairL a1 t1 s1 t2 c1), (p2, pairL a2 t3 s2 t4 c2)] rest) :
    Tells w p loose mean mg mb 104 20 200 ([(H, listOf #[.ref p1, .ref p2] ch), (p1, pairL a1 t1 s1 t2 c1), (p2, pairL a2 t3 s2 t4 c2)] ++ rest) [.ref H, .int 0 tk0, .int 1 tk1]
      (fun ok => (ltP a2 s2 a1 s1 = true → ok .none ((H, listOf #[.ref p2, .ref p1] ch) :: (p1, pairL a1 t1 s1 t2 c1) :: (p2, pairL a2 t3 s2 t4 c2) :: rest)) ∧
        (ltP a2 s2 a1 s1 = false → ok .none ((H, listOf #[.ref p1, .ref p2] ch) :: (p1, pairL a1 t1 s1 t2 c1) :: (p2, pairL a2 t3 s2 t4 c2) :: rest))) := by
  unfold Tells
  intro dp un gd cn cs aa ccd cl outer A₀ base h₀ L m s Q E B F X N T hk hd hu hret
  refine wpAny_call ?_
  (k_dflt (refine' codeR_def ?k1 ?k2 ?k3 ?k4 ?ap ?k5 ?kA ?kF ?kK ?k6 ?k7 ?k8 ?k9 ?kB ?_ ?c2 ?c3 ?c4 ?c5; (case kA => exact rfl); (case kF => exact rfl); (case kK => assumption); (case k1 => k_asm); (case k2 => k_asm); (case k3 => k_asm); (case k4 => k_asm); (case ap => assumption); (case k5 => k_asm); (case k6 => k_is); (case k7 => k_is); (case k8 => first | exact roomC hd | ktr_room); (case k9 => first | exact BindsTo.of_eq rfl | exact kp_binds (by k_in) (fun _ => rfl) | fail "no rule for these arguments"); (case c5 => decide); (case kB => exact locs rfl); (case c2 => exact rfl); (case c3 => exact rfl); (case c4 => exact rfl); k_whole; intro g' L' h' FG' F' N' B' X' T' hR' l1 Q' hQ'; (try k_lt l1); (try dsimp only); (try k_lift B'); (try k_fold)))
  k_steps
  · rename (_ = true) => hlt
    (refine hQ' _ _ ?_; (try dsimp only); k_steps; unfold ThenRest; (rename Fr _ _ _ _ => kF9); (rename News _ _ _ _ => kN9); intro hRest; (try dsimp only))
    exact hret.1 hlt _ _ kF9 (newsPut kN9 (by k_mem) (newsPut kN9 (by k_mem) (newsPut kN9 (by k_mem) hRest)))
  · rename (_ = false) => hlt
    (refine hQ' _ _ ?_; (try dsimp only); k_steps; unfold ThenRest; (rename Fr _ _ _ _ => kF9); (rename News _ _ _ _ => kN9); intro hRest; (try dsimp only))
    exact hret.2 hlt _ _ kF9 (newsPut kN9 (by k_mem) (newsPut kN9 (by k_mem) (newsPut kN9 (by k_mem) hRest)))
theorem siftup_tells {w : World} {p : Program} {loose : List Str} {mean : ExcName → Option Value} {mg mb : Str → Option Value} (rest : Ledger) {H p1 p2 : Addr} {ch c1 c2 : Nat} {a1 s1 a2 s2 : Int} {t1 t2 t3 t4 tk0 : Tok}
    (h12 : ¬ (@Eq Nat p1 p2)) (hH1 : ¬ (@Eq Nat H p1)) (hH2 : ¬ (@Eq Nat H p2))
    (ap : Apart [(H, listOf #[.ref p1, .ref p2] ch), (p1, pairL a1 t1 s1 t2 c1), (p2, pairL a2 t3 s2 t4 c2)] rest) :
    Tells w p loose mean mg mb 111 25 250 ([(H, listOf #[.ref p1, .ref p2] ch), (p1, pairL a1 t1 s1 t2 c1), (p2, pairL a2 t3 s2 t4 c2)] ++ rest) [.ref H, .int 0 tk0]
      (fun ok => (ltP a1 s1 a2 s2 = true → ok .none ((H, listOf #[.ref p1, .ref p2] ch) :: (p1, pairL a1 t1 s1 t2 c1) :: (p2, pairL a2 t3 s2 t4 c2) :: rest)) ∧
        (ltP a1 s1 a2 s2 = false → ok .none ((H, listOf #[.ref p2, .ref p1] ch) :: (p1, pairL a1 t1 s1 t2 c1) :: (p2, pairL a2 t3 s2 t4 c2) :: rest))) := by
  unfold Tells
  intro dp un gd cn cs aa ccd cl outer A₀ base h₀ L m s Q E B F X N T hk hd hu hret
  refine wpAny_call ?_
  (k_dflt (refine' codeR_def ?k1 ?k2 ?k3 ?k4 ?ap ?k5 ?kA ?kF ?kK ?k6 ?k7 ?k8 ?k9 ?kB ?_ ?c2 ?c3 ?c4 ?c5; (case kA => exact rfl); (case kF => exact rfl); (case kK => assumption); (case k1 => k_asm); (case k2 => k_asm); (case k3 => k_asm); (case k4 => k_asm); (case ap => assumption); (case k5 => k_asm); (case k6 => k_is); (case k7 => k_is); (case k8 => first | exact roomC hd | ktr_room); (case k9 => first | exact BindsTo.of_eq rfl | exact kp_binds (by k_in) (fun _ => rfl) | fail "no rule for these arguments"); (case c5 => decide); (case kB => exact locs rfl); (case c2 => exact rfl); (case c3 => exact rfl); (case c4 => exact rfl); k_whole; intro g' L' h' FG' F' N' B' X' T' hR' l1 Q' hQ'; (try k_lt l1); (try dsimp only); (try k_lift B'); (try k_fold)))
  k_steps
  refine Stopped.go ?_
  (k_dflt (refine' tells_use (siftdown_tells _ ?n1 ?n2 ?n3 ?ap1) ?u9k1 ?u9k2 ?u9k3 ?u9k4 ?u9k5 ?u9kK ?u9kd ?u9ku ?u9kR; (case u9k1 => k_asm); (case u9k2 => k_asm); (case u9k3 => k_asm); (case u9k4 => exact newsPicks (by k_asm) (by (repeat' (first | exact Picks.nil | (show Picks _ _ _; refine' Picks.cons (by (repeat' (first | exact Pick.head | refine' Pick.tail ?_))) ?_))))); (case u9k5 => k_asm); (case u9kK => first | exact rfl | assumption); (case u9kd => first | exact roomA (a := dp) (c := 1) hd rfl | exact hrd9 | ktr_room); (case u9ku => first | exact roomA (a := un) (c := 3) hu rfl | exact hru9 | ktr_units)))
  case ap1 => exact apartEnd
  case n1 => omega
  case n2 => omega
  case n3 => omega
  dsimp only
  refine ⟨fun hlt h1 tk1 F1 N1 => ?_, fun hlt h1 tk1 F1 N1 => ?_⟩
  · k_sweep
    k_steps
    (refine hQ' _ _ ?_; (try dsimp only); k_steps; unfold ThenRest; (rename Fr _ _ _ _ => kF9); (rename News _ _ _ _ => kN9); intro hRest; (try dsimp only))
    exact hret.1 hlt _ _ kF9 (newsPut kN9 (by k_mem) (newsPut kN9 (by k_mem) (newsPut kN9 (by k_mem) hRest)))
  · k_sweep
    k_steps
    (refine hQ' _ _ ?_; (try dsimp only); k_steps; unfold ThenRest; (rename Fr _ _ _ _ => kF9); (rename News _ _ _ _ => kN9); intro hRest; (try dsimp only))
    exact hret.2 hlt _ _ kF9 (newsPut kN9 (by k_mem) (newsPut kN9 (by k_mem) (newsPut kN9 (by k_mem) hRest)))
theorem heapreplace_tells {w : World} {p : Program} {loose : List Str} {mean : ExcName → Option Value} {mg mb : Str → Option Value} (rest : Ledger) {H p1 p2 p3 : Addr} {ch c2 c3 : Nat} {a2 s2 a3 s3 : Int} {t3 t4 t5 t6 : Tok}
    (h12 : ¬ (@Eq Nat p3 p2)) (hH1 : ¬ (@Eq Nat H p3)) (hH2 : ¬ (@Eq Nat H p2))
    (ap : Apart [(H, listOf #[.ref p1, .ref p2] ch), (p2, pairL a2 t3 s2 t4 c2), (p3, pairL a3 t5 s3 t6 c3)] rest) :
    Tells w p loose mean mg mb 90 30 300 ([(H, listOf #[.ref p1, .ref p2] ch), (p2, pairL a2 t3 s2 t4 c2), (p3, pairL a3 t5 s3 t6 c3)] ++ rest) [.ref H, .ref p3]
      (fun ok => (ltP a3 s3 a2 s2 = true → ok (.ref p1) ((H, listOf #[.ref p3, .ref p2] ch) :: (p2, pairL a2 t3 s2 t4 c2) :: (p3, pairL a3 t5 s3 t6 c3) :: rest)) ∧
        (ltP a3 s3 a2 s2 = false → ok (.ref p1) ((H, listOf #[.ref p2, .ref p3] ch) :: (p2, pairL a2 t3 s2 t4 c2) :: (p3, pairL a3 t5 s3 t6 c3) :: rest))) := by
  unfold Tells
  intro dp un gd cn cs aa ccd cl outer A₀ base h₀ L m s Q E B F X N T hk hd hu hret
  refine wpAny_call ?_
  (k_dflt (refine' codeR_def ?k1 ?k2 ?k3 ?k4 ?ap ?k5 ?kA ?kF ?kK ?k6 ?k7 ?k8 ?k9 ?kB ?_ ?c2 ?c3 ?c4 ?c5; (case kA => exact rfl); (case kF => exact rfl); (case kK => assumption); (case k1 => k_asm); (case k2 => k_asm); (case k3 => k_asm); (case k4 => k_asm); (case ap => assumption); (case k5 => k_asm); (case k6 => k_is); (case k7 => k_is); (case k8 => first | exact roomC hd | ktr_room); (case k9 => first | exact BindsTo.of_eq rfl | exact kp_binds (by k_in) (fun _ => rfl) | fail "no rule for these arguments"); (case c5 => decide); (case kB => exact locs rfl); (case c2 => exact rfl); (case c3 => exact rfl); (case c4 => exact rfl); k_whole; intro g' L' h' FG' F' N' B' X' T' hR' l1 Q' hQ'; (try k_lt l1); (try dsimp only); (try k_lift B'); (try k_fold)))
  k_steps
  refine Stopped.go ?_
  (k_dflt (refine' tells_use (siftup_tells _ ?n1 ?n2 ?n3 ?ap1) ?u10k1 ?u10k2 ?u10k3 ?u10k4 ?u10k5 ?u10kK ?u10kd ?u10ku ?u10kR; (case u10k1 => k_asm); (case u10k2 => k_asm); (case u10k3 => k_asm); (case u10k4 => exact newsPicks (by k_asm) (by (repeat' (first | exact Picks.nil | (show Picks _ _ _; refine' Picks.cons (by (repeat' (first | exact Pick.head | refine' Pick.tail ?_))) ?_))))); (case u10k5 => k_asm); (case u10kK => first | exact rfl | assumption); (case u10kd => first | exact roomA (a := dp) (c := 1) hd rfl | exact hrd9 | ktr_room); (case u10ku => first | exact roomA (a := un) (c := 3) hu rfl | exact hru9 | ktr_units)))
  case ap1 => exact apartEnd
  case n1 => omega
  case n2 => omega
  case n3 => omega
  dsimp only
  refine ⟨fun hlt h1 tk1 F1 N1 => ?_, fun hlt h1 tk1 F1 N1 => ?_⟩
  · k_sweep
    k_steps
    (refine hQ' _ _ ?_; (try dsimp only); k_steps; unfold ThenRest; (rename Fr _ _ _ _ => kF9); (rename News _ _ _ _ => kN9); intro hRest; (try dsimp only))
    exact hret.1 hlt _ _ kF9 (newsPut kN9 (by k_mem) (newsPut kN9 (by k_mem) (newsPut kN9 (by k_mem) hRest)))
  · k_sweep
    k_steps
    (refine hQ' _ _ ?_; (try dsimp only); k_steps; unfold ThenRest; (rename Fr _ _ _ _ => kF9); (rename News _ _ _ _ => kN9); intro hRest; (try dsimp only))
    exact hret.2 hlt _ _ kF9 (newsPut kN9 (by k_mem) (newsPut kN9 (by k_mem) (newsPut kN9 (by k_mem) hRest)))
end Mine
namespace Mine
theorem sub_ri_reversed : isSubtype (.type "range_iterator") (.type "reversed") = pure false := by rw [isSubtype_type]; kernel_rfl
noncomputable def itB (x left : Int) : Obj := { cls := .type "range_iterator", data := .fields #[rawInt x, rawInt left, rawInt (-1)] }
section
variable {prog : Program} {w : World} {A : Around} {E : Value → Shared → Prop} {s : Shared}
theorem call_range_reversed {r : Addr} {a b : Int} {t u v : Tok} {n : Nat} {Q : Value → Shared → Prop} (hr : IsRange s.heap r a b 1 t u v) (ha : -(2 ^ 62) ≤ a ∧ a < 2 ^ 62) (hb : -(2 ^ 62) ≤ b ∧ b < 2 ^ 62) (hn : Builtin.Range.rangeSize a b 1 = (n : Int)) (hn2 : n < 2 ^ 62)
    (h : Q (.ref s.heap.objs.size) { s with heap := s.heap.push (itB (a + ((n : Int) - 1)) n) }) : wpAny (model prog w) A (call (.builtin "range.__reversed__") [.ref r]) Q E s := by
  have hT : s.TypeIs (.ref r) "range" := ⟨_, hr, rfl⟩
  refine wpAny_call_entry PySem.F.slot_range_reversed hT PySem.F.entry_range_reversed ?_ (PySem.F.args_range_reversed_1 _)
  unfold Builtin.«range.__reversed__»
  refine wpAny_bind (wpAny_of_eq (a := Value.ref r) rfl ?_)
  unfold Builtin.Range.rangeFields
  refine wpAny_bind (wpAny_bind (wpAny_field hr rfl (x := .int a t) rfl ?_))
  refine wpAny_bind (wpAny_of_eq (a := some a) rfl ?_)
  refine wpAny_bind (wpAny_field hr rfl (x := .int b u) rfl ?_)
  refine wpAny_bind (wpAny_of_eq (a := some b) rfl ?_)
  refine wpAny_bind (wpAny_field hr rfl (x := .int 1 v) rfl ?_)
  refine wpAny_bind (wpAny_of_eq (a := some 1) rfl ?_)
  refine wpAny_pure ?_
  dsimp only
  rw [hn]
  have hs : (Builtin.Range.rangeFitsLong a && Builtin.Range.rangeFitsLong b && Builtin.Range.rangeFitsLong 1 && Builtin.Range.rangeFitsLong (-1) && Builtin.Range.rangeFitsLong (a - 1) && Builtin.Range.rangeFitsLong (n : Int)) = true := by
    simp only [Builtin.Range.rangeFitsLong, Bool.and_eq_true, decide_eq_true_eq]
    omega
  rw [hs]
  rw [Int.mul_one]
  show wpAny _ _ (do ret (← newFields "range_iterator" [rawInt (a + ((n : Int) - 1)), rawInt (n : Int), rawInt (-1)])) _ _ _
  unfold newFields
  exact wpAny_bind (wpAny_newObj_type (wpAny_pure ⟨_, rfl, h⟩))
theorem newClass_rev (a : Value) : Builtin.SmallTypes.newClass "reversed" ⟨[.type "reversed", a], []⟩ = pure (.type "reversed", [a]) := newClass_reversed a
theorem code_revnew_range {r : Addr} {a b : Int} {t u v : Tok} {n : Nat} {Q₁ : Value → Shared → Prop} (hr : IsRange s.heap r a b 1 t u v) (ha : -(2 ^ 62) ≤ a ∧ a < 2 ^ 62) (hb : -(2 ^ 62) ≤ b ∧ b < 2 ^ 62) (hn : Builtin.Range.rangeSize a b 1 = (n : Int)) (hn2 : n < 2 ^ 62)
    (h : Q₁ (.ref s.heap.objs.size) { s with heap := s.heap.push (itB (a + ((n : Int) - 1)) n) }) :
    codeAny (model prog w) A (.call (.builtin "reversed.__new__") ⟨[.type "reversed", .ref r], []⟩) (wants Q₁ E) s := by
  have hT : s.TypeIs (.ref r) "range" := ⟨_, hr, rfl⟩
  refine codeAny_of_tree ?_
  show wpAny _ A.in1 (do checkBuiltinCall "reversed.__new__" ⟨[.type "reversed", .ref r], []⟩; again (.builtin "reversed.__new__" ⟨[.type "reversed", .ref r], []⟩)) _ _ s
  refine wpAny_bind (wpAny_of_eq (PySem.F.newCall_reversed_1 _) (wpAny_pure ⟨plainId_quiet PySem.F.plain_reversed_new _, codeAny_builtin PySem.F.entry_reversed_new ?_⟩))
  rw [Around.under_plainId PySem.F.plain_reversed_new _]
  unfold Builtin.«reversed.__new__»
  refine wpAny_bind (wpAny_of_eq (newClass_rev _) ?_)
  try dsimp only
  refine wpAny_bind (wpAny_of_eq (a := ()) (by first | rfl | kernel_rfl) ?_)
  refine wpAny_bind (wpAny_of_eq (a := ()) (by first | rfl | kernel_rfl) ?_)
  try dsimp only
  refine wpAny_bind (wpAny_specialOf hT PySem.F.slot_range_reversed.lookup ?_)
  try dsimp only
  refine wpAny_bind (wpAny_of_eq (PySem.F.slot_range_reversed.bind _) ?_)
  try dsimp only
  first
  | rw [if_neg (show ¬ ((Value.builtin "range.__reversed__" == Value.none) = true) from Bool.false_ne_true)]
  | (show wpAny _ _ (if (Value.builtin "range.__reversed__" == Value.none) = true then _ else _) _ _ _; rw [if_neg (show ¬ ((Value.builtin "range.__reversed__" == Value.none) = true) from Bool.false_ne_true)])
  refine wpAny_bind (wpAny_rule ?_)
  refine wpAny_bind (m := runValue (.call (.builtin "range.__reversed__") ⟨[.ref r], []⟩)) (show wpAny _ _ (call (.builtin "range.__reversed__") [.ref r]) _ _ _ from call_range_reversed hr ha hb hn hn2 ?_)
  first
  | exact wpAny_pure h
  | exact wpAny_bind (wpAny_pure (wpAny_pure h))
theorem call_reversed_range {r : Addr} {a b : Int} {t u v : Tok} {n : Nat} {Q : Value → Shared → Prop} (hr : IsRange s.heap r a b 1 t u v) (ha : -(2 ^ 62) ≤ a ∧ a < 2 ^ 62) (hb : -(2 ^ 62) ≤ b ∧ b < 2 ^ 62) (hn : Builtin.Range.rangeSize a b 1 = (n : Int)) (hn2 : n < 2 ^ 62)
    (h : Q (.ref s.heap.objs.size) { s with heap := s.heap.push (itB (a + ((n : Int) - 1)) n) }) : wpAny (model prog w) A (call (.type "reversed") [.ref r]) Q E s := by
  refine callType_other (U := "range_iterator") (Q₁ := fun obj s₁ => obj = .ref s.heap.objs.size ∧ s₁ = { s with heap := s.heap.push (itB (a + ((n : Int) - 1)) n) }) (by decide +kernel) PySem.F.create_reversed ⟨_, _, PySem.F.mro_reversed⟩ PySem.F.made_reversed sub_ri_reversed (PySem.F.typeCall_reversed_1 _) (code_revnew_range hr ha hb hn hn2 ⟨rfl, rfl⟩) ?_
  rintro obj s₁ ⟨rfl, rfl⟩
  exact ⟨⟨_, Heap.get?_push_size _ rfl, rfl⟩, h⟩
theorem reversed_range_N {h₀ : Heap} {L : Addr} {m : Str → Option Value} {news : Ledger} {r : Addr} {a b : Int} {t u v : Tok} {n : Nat} {Q : Value → Shared → Prop} (hr : IsRange s.heap r a b 1 t u v) (ha : -(2 ^ 62) ≤ a ∧ a < 2 ^ 62) (hb : -(2 ^ 62) ≤ b ∧ b < 2 ^ 62) (hn : Builtin.Range.rangeSize a b 1 = (n : Int)) (hn2 : n < 2 ^ 62)
    (F : Fr h₀ L s.heap m) (N : News h₀ L s.heap news)
    (h : ∀ D h', Fr h₀ L h' m → News h₀ L h' ((D, itB (a + ((n : Int) - 1)) n) :: news) → AllNe D news → Q (.ref D) { s with heap := h' }) : wpAny (model prog w) A (call (.type "reversed") [.ref r]) Q E s :=
  call_reversed_range hr ha hb hn hn2 (h _ _ (F.push _) (News.push F N _) (allNe_of fun p hp => Nat.ne_of_lt (Heap.lt_size (N p hp).1)))
variable {env : Env} {h₀ : Heap} {x : Str} {body : List Stmt} {Q : Flow → Shared → Prop}
/-- the loop over a range iterator that gives one item -/
theorem iter_one {I : Addr} {a : Int} {m₀ : Str → Option Value} {news : Ledger}
    (hh : A.handled = none) (F : Fr h₀ env.locals s.heap m₀) (N : News h₀ env.locals s.heap ((I, itB a 1) :: news)) (hI : AllNe I news)
    (turn : ∀ (t : Tok) (it : Obj) h tk, Fr h₀ env.locals h (fun y => if y = x then some (.int a t) else m₀ y) → News h₀ env.locals h ((I, it) :: news) →
      wpAny (model prog w) A (execs body env) (UnrPost h₀ env.locals { s with heap := h, toks := tk } I it (fun m' n' => ∀ h tk, Fr h₀ env.locals h m' → News h₀ env.locals h n' → Q .next { s with heap := h, toks := tk }) Q) E { s with heap := h, toks := tk }) :
    wpAny (model prog w) A (pyIter (.ref I)) (fun it s₂ => LoopAtV prog w A h₀ env x body Q E it s₂) E s := by
  have hIx := N _ (List.mem_cons_self ..)
  have hoff : ∀ p ∈ news, p.1 ≠ I := hI.all
  have hit : IsRangeIter s.heap I a 1 (-1) := hIx.1
  refine wpAny_pyIter_rangeiter hit ?_
  have W := Walks.range (prog := prog) (w := w) hh I a (-1) 1
  let J : Nat → (Str → Option Value) → Ledger → Prop := fun i m₁ news₁ => if i = 0 then m₁ = m₀ ∧ news₁ = news else ∀ h tk, Fr h₀ env.locals h m₁ → News h₀ env.locals h news₁ → Q .next { s with heap := h, toks := tk }
  refine ⟨I, _, _, 1, _, _, m₀, news, J, rfl, W, ?_, ?_, ?_, ?_, F, (fun p hp => N p (List.mem_cons_of_mem _ hp)), ⟨rfl, rfl⟩, ?_, ?_⟩
  · intro hmm
    exact hIx.2.1 (List.mem_singleton.mp hmm).symm
  · intro b hb
    rw [List.mem_singleton.mp hb]
    exact hIx.2.2
  · intro p hp hI
    exact hoff p hp (List.mem_singleton.mp hI)
  · show IsRangeIter s.heap I (a + ((0 : Nat) : Int) * (-1)) (((1 : Nat) : Int) - ((0 : Nat) : Int)) (-1)
    simpa using hit
  · rintro i v m₁ news₁ s₁ own ⟨hh', tk', rfl⟩ hin ⟨t, rfl⟩ hJ hofs hown hget hall hst F₁ N₁
    have hi0 : i = 0 := by omega
    subst hi0
    obtain ⟨rfl, rfl⟩ : m₁ = m₀ ∧ news₁ = news := hJ
    have hst' : hh'.get? I = some { cls := .type "range_iterator", dict := none, data := .fields #[rawInt (a + ((0 + 1 : Nat) : Int) * (-1)), rawInt (((1 : Nat) : Int) - ((0 + 1 : Nat) : Int)), rawInt (-1)], slots := #[] } := hst
    have hmemI := hall I (List.mem_singleton.mpr rfl) hIx.2.2 _ hst'
    have e1 : a + ((0 : Nat) : Int) * (-1) = a := by simp
    rw [e1] at F₁
    have N₂ : News h₀ env.locals hh' ((I, ({ cls := .type "range_iterator", dict := none, data := .fields #[rawInt (a + ((0 + 1 : Nat) : Int) * (-1)), rawInt (((1 : Nat) : Int) - ((0 + 1 : Nat) : Int)), rawInt (-1)], slots := #[] } : Obj)) :: news₁) := fun p hp => by
      rcases List.mem_cons.mp hp with rfl | hp
      · exact N₁ _ (List.mem_append_left _ hmemI)
      · exact N₁ _ (List.mem_append_right _ hp)
    refine wpAny_mono (turn t _ hh' tk' F₁ N₂) (fun f s₂ p => ?_) fun _ _ e => e
    have fin : UnrEnd h₀ env.locals { s with heap := hh', toks := tk' } I { cls := .type "range_iterator", dict := none, data := .fields #[rawInt (a + ((0 + 1 : Nat) : Int) * (-1)), rawInt (((1 : Nat) : Int) - ((0 + 1 : Nat) : Int)), rawInt (-1)], slots := #[] } (fun m' n' => ∀ h tk, Fr h₀ env.locals h m' → News h₀ env.locals h n' → Q .next { s with heap := h, toks := tk }) s₂ →
        LoopStepU h₀ env.locals [I] own (J (0 + 1)) { s with heap := hh', toks := tk' } .next s₂ := by
      rintro ⟨h', tk, m', news', e, F', N', ho, r⟩
      refine ⟨rfl, h', tk, m', news', e, F', fun p hp => ?_, fun p hp hI => ho p hp (List.mem_singleton.mp hI), r⟩
      rcases List.mem_append.mp hp with hp | hp
      · have h2 : hh'.get? p.1 = some p.2 := hget p hp
        have h1 : p.1 = I := List.mem_singleton.mp (hown p hp)
        have h3 : p = (I, ({ cls := .type "range_iterator", dict := none, data := .fields #[rawInt (a + ((0 + 1 : Nat) : Int) * (-1)), rawInt (((1 : Nat) : Int) - ((0 + 1 : Nat) : Int)), rawInt (-1)], slots := #[] } : Obj)) := by
          rw [h1, hst'] at h2
          exact Prod.ext h1 (Option.some.inj h2).symm
        rw [h3]; exact N' _ (List.mem_cons_self ..)
      · exact N' _ (List.mem_cons_of_mem _ hp)
    cases f with
    | ret v => exact .ret p
    | brk => exact .brk p
    | next => exact .next (fin p)
    | cont => exact .cont (fin p)
  · rintro h' tk m' news' F' N' _ hJ
    exact hJ h' tk F' N'
end
end Mine
namespace Mine
theorem unr_done {h₀ : Heap} {L I : Addr} {it : Obj} {rest : (Str → Option Value) → Ledger → Prop} {s₁ : Shared} {h' : Heap} {tk : Nat} {m' : Str → Option Value} {all : Ledger} (F : Fr h₀ L h' m') (N : News h₀ L h' all) (news' : Ledger)
    (hI : (I, it) ∈ all) (sub : SubL news' all) (off : AllNe I news') (r : rest m' news') : UnrEnd h₀ L s₁ I it rest { s₁ with heap := h', toks := tk } :=
  UnrEnd.intro F N news' (fun p hp => by
    rcases List.mem_cons.mp hp with rfl | hp
    · exact hI
    · exact sub.mem p hp) off.all r
theorem heapify_tells {w : World} {p : Program} {loose : List Str} {mean : ExcName → Option Value} {mg mb : Str → Option Value} (rest : Ledger) {H p1 p2 : Addr} {ch c1 c2 : Nat} {a1 s1 a2 s2 : Int} {t1 t2 t3 t4 : Tok}
    (h12 : ¬ (@Eq Nat p1 p2)) (hH1 : ¬ (@Eq Nat H p1)) (hH2 : ¬ (@Eq Nat H p2))
    (ap : Apart [(H, listOf #[.ref p1, .ref p2] ch), (p1, pairL a1 t1 s1 t2 c1), (p2, pairL a2 t3 s2 t4 c2)] rest) :
    Tells w p loose mean mg mb 97 30 300 ([(H, listOf #[.ref p1, .ref p2] ch), (p1, pairL a1 t1 s1 t2 c1), (p2, pairL a2 t3 s2 t4 c2)] ++ rest) [.ref H]
      (fun ok => (ltP a1 s1 a2 s2 = true → ok .none ((H, listOf #[.ref p1, .ref p2] ch) :: (p1, pairL a1 t1 s1 t2 c1) :: (p2, pairL a2 t3 s2 t4 c2) :: rest)) ∧
        (ltP a1 s1 a2 s2 = false → ok .none ((H, listOf #[.ref p2, .ref p1] ch) :: (p1, pairL a1 t1 s1 t2 c1) :: (p2, pairL a2 t3 s2 t4 c2) :: rest))) := by
  unfold Tells
  intro dp un gd cn cs aa ccd cl outer A₀ base h₀ L m s Q E B F X N T hk hd hu hret
  refine wpAny_call ?_
  (k_dflt (refine' codeR_def ?k1 ?k2 ?k3 ?k4 ?ap ?k5 ?kA ?kF ?kK ?k6 ?k7 ?k8 ?k9 ?kB ?_ ?c2 ?c3 ?c4 ?c5; (case kA => exact rfl); (case kF => exact rfl); (case kK => assumption); (case k1 => k_asm); (case k2 => k_asm); (case k3 => k_asm); (case k4 => k_asm); (case ap => assumption); (case k5 => k_asm); (case k6 => k_is); (case k7 => k_is); (case k8 => first | exact roomC hd | ktr_room); (case k9 => first | exact BindsTo.of_eq rfl | exact kp_binds (by k_in) (fun _ => rfl) | fail "no rule for these arguments"); (case c5 => decide); (case kB => exact locs rfl); (case c2 => exact rfl); (case c3 => exact rfl); (case c4 => exact rfl); k_whole; intro g' L' h' FG' F' N' B' X' T' hR' l1 Q' hQ'; (try k_lt l1); (try dsimp only); (try k_lift B'); (try k_fold)))
  k_steps
  rename IsRange _ _ _ _ _ _ _ _ => hrg
  rename Fr _ _ _ _ => FF
  rename News _ _ _ _ => NN
  refine reversed_range_N (n := 1) hrg ⟨by decide, by decide⟩ ⟨by decide, by decide⟩ (by decide) (by decide) FF NN ?_
  intro D h1 F1 N1 hD
  clear FF NN
  dsimp only
  refine iter_one rfl F1 N1 hD ?_
  clear F1 N1
  intro t it h2 tk2 F2 N2
  replace F2 : Fr g' L' h2 _ := F2
  replace N2 : News g' L' h2 _ := N2
  k_steps
  refine Stopped.go ?_
  (k_dflt (refine' tells_use (siftup_tells _ ?n1 ?n2 ?n3 ?ap1) ?u11k1 ?u11k2 ?u11k3 ?u11k4 ?u11k5 ?u11kK ?u11kd ?u11ku ?u11kR; (case u11k1 => k_asm); (case u11k2 => k_asm); (case u11k3 => k_asm); (case u11k4 => exact newsPicks (by k_asm) (by (repeat' (first | exact Picks.nil | (show Picks _ _ _; refine' Picks.cons (by (repeat' (first | exact Pick.head | refine' Pick.tail ?_))) ?_))))); (case u11k5 => k_asm); (case u11kK => first | exact rfl | assumption); (case u11kd => first | exact roomA (a := dp) (c := 1) hd rfl | exact hrd9 | ktr_room); (case u11ku => first | exact roomA (a := un) (c := 3) hu rfl | exact hru9 | ktr_units)))
  case ap1 => ((refine apartC ?_ (apartC ?_ (apart1 ?_))) <;> ((try dsimp only); (repeat' (first | exact allNe_nil | refine allNe_cons ?_ ?_ | refine And.intro ?_ ?_ | k_ne))))
  case n1 => omega
  case n2 => omega
  case n3 => omega
  dsimp only
  refine ⟨fun hlt h3 tk3 F3 N3 => ?_, fun hlt h3 tk3 F3 N3 => ?_⟩
  · k_sweep
    k_steps
    refine unr_done F3 N3 [(H, listOf #[.ref p1, .ref p2] ch), (p1, pairL a1 t1 s1 t2 c1), (p2, pairL a2 t3 s2 t4 c2)] (by k_mem) (by k_subL) ?_ ?_
    · ((try dsimp only); (repeat' (first | exact allNe_nil | refine allNe_cons ?_ ?_ | refine And.intro ?_ ?_ | k_ne)))
    · intro h4 tk4 F4 N4
      (try dsimp only)
      replace F4 : Fr g' L' h4 _ := F4
      replace N4 : News g' L' h4 _ := N4
      k_sweep
      k_steps
      (refine hQ' _ _ ?_; (try dsimp only); k_steps; unfold ThenRest; (rename Fr _ _ _ _ => kF9); (rename News _ _ _ _ => kN9); intro hRest; (try dsimp only))
      exact hret.1 hlt _ _ kF9 (newsPut kN9 (by k_mem) (newsPut kN9 (by k_mem) (newsPut kN9 (by k_mem) hRest)))
  · k_sweep
    k_steps
    refine unr_done F3 N3 [(H, listOf #[.ref p2, .ref p1] ch), (p1, pairL a1 t1 s1 t2 c1), (p2, pairL a2 t3 s2 t4 c2)] (by k_mem) (by k_subL) ?_ ?_
    · ((try dsimp only); (repeat' (first | exact allNe_nil | refine allNe_cons ?_ ?_ | refine And.intro ?_ ?_ | k_ne)))
    · intro h4 tk4 F4 N4
      (try dsimp only)
      replace F4 : Fr g' L' h4 _ := F4
      replace N4 : News g' L' h4 _ := N4
      k_sweep
      k_steps
      (refine hQ' _ _ ?_; (try dsimp only); k_steps; unfold ThenRest; (rename Fr _ _ _ _ => kF9); (rename News _ _ _ _ => kN9); intro hRest; (try dsimp only))
      exact hret.2 hlt _ _ kF9 (newsPut kN9 (by k_mem) (newsPut kN9 (by k_mem) (newsPut kN9 (by k_mem) hRest)))
end Mine
end
local macro_rules | `(tactic| walk_at "exec While Compare cons nil") => `(tactic| refine stop_here ?_)
local macro_rules | `(tactic| walk_at "nothing here") => `(tactic| skip)
namespace Mine
theorem mid_ge {lo hj m : Nat} (hm : (lo + hj) / 2 = m) (h : lo < hj) : lo ≤ m := hm ▸ (Nat.le_div_iff_mul_le (by decide)).mpr (by rw [Nat.mul_two]; exact Nat.add_le_add_left (Nat.le_of_lt h) _)
theorem mid_lt {lo hj m : Nat} (hm : (lo + hj) / 2 = m) (h : lo < hj) : m < hj := hm ▸ (Nat.div_lt_iff_lt_mul (by decide)).mpr (by rw [Nat.mul_two]; exact Nat.add_lt_add_right h _)
theorem mid_in {lo hj m n : Nat} (hm : (lo + hj) / 2 = m) (h : (lo : Int) < hj) (hn : hj ≤ n) : (m : Int) < n := Int.ofNat_lt.mpr (Nat.lt_of_lt_of_le (mid_lt hm (Int.ofNat_lt.mp h)) hn)
theorem mid_cast {lo hj m : Nat} (hm : (lo + hj) / 2 = m) : ((lo : Int) + (hj : Int)).fdiv 2 = (m : Int) := hm ▸ (Int.ofNat_fdiv (lo + hj) 2).symm
theorem room_lo {lo hj m f : Nat} (hm : (lo + hj) / 2 = m) (h : lo < hj) (hf : hj ≤ f + 1 + lo) : m ≤ f + lo := Nat.le_of_lt_succ (Nat.lt_of_lt_of_le (mid_lt hm h) (by rw [Nat.succ_eq_add_one, Nat.add_right_comm]; exact hf))
theorem room_hi {lo hj m f : Nat} (hm : (lo + hj) / 2 = m) (h : lo < hj) (hf : hj ≤ f + 1 + lo) : hj ≤ f + (m + 1) := Nat.le_trans hf (by rw [Nat.add_assoc, Nat.add_comm 1]; exact Nat.add_le_add_left (Nat.add_le_add_right (mid_ge hm h) 1) f)
theorem none_left {lo hj : Nat} {P : Prop} (h : lo < hj) (hf : hj ≤ 0 + lo) : P := absurd h (Nat.not_lt.mpr (Nat.zero_add lo ▸ hf))
noncomputable def bisR (ns : List Int) (x : Int) : Nat → Nat → Nat → Nat
  | 0, lo, _ => lo
  | f + 1, lo, hi => if lo < hi then (if x < ns.getD ((lo + hi) / 2) 0 then bisR ns x f lo ((lo + hi) / 2) else bisR ns x f ((lo + hi) / 2 + 1) hi) else lo
theorem bisR_lo {ns : List Int} {x : Int} {f lo hj m : Nat} (hm : (lo + hj) / 2 = m) (h : lo < hj) (hx : x < ns.getD m 0) : bisR ns x (f + 1) lo hj = bisR ns x f lo m := by
  subst hm; rw [bisR, if_pos h, if_pos hx]
theorem bisR_hi {ns : List Int} {x : Int} {f lo hj m : Nat} (hm : (lo + hj) / 2 = m) (h : lo < hj) (hx : ¬ x < ns.getD m 0) : bisR ns x (f + 1) lo hj = bisR ns x f (m + 1) hj := by
  subst hm; rw [bisR, if_pos h, if_neg hx]
theorem bisR_end {ns : List Int} {x : Int} {lo hj : Nat} (h : ¬ (lo : Int) < hj) : ∀ f : Nat, bisR ns x f lo hj = lo
  | 0 => rfl
  | f + 1 => by rw [bisR, if_neg fun k => h (Int.ofNat_lt.mpr k)]
theorem bisect_right_tells {w : World} {p : Program} {loose : List Str} {mean : ExcName → Option Value} {mg mb : Str → Option Value} (rest : Ledger) {R : Addr} {vs : List Value} {ns : List Int} {c : Nat} {x : Int} {tx : Tok}
    (hi : IntsAre vs ns) (hlen : ns.length ≤ 1000) (ap : Apart [(R, listOf vs.toArray c)] rest) :
    Tells w p loose mean mg mb 65 5 50 ([(R, listOf vs.toArray c)] ++ rest) [.ref R, .int x tx]
      (fun ok => ∀ t : Tok, ok (.int (bisR ns x ns.length 0 ns.length : Nat) t) ((R, listOf vs.toArray c) :: rest)) := by
  unfold Tells
  intro dp un gd cn cs aa ccd cl outer A₀ base h₀ L m s Q E B F X N T hk hd hu hret
  refine wpAny_call ?_
  (k_dflt (refine' codeR_def ?k1 ?k2 ?k3 ?k4 ?ap ?k5 ?kA ?kF ?kK ?k6 ?k7 ?k8 ?k9 ?kB ?_ ?c2 ?c3 ?c4 ?c5; (case kA => exact rfl); (case kF => exact rfl); (case kK => assumption); (case k1 => k_asm); (case k2 => k_asm); (case k3 => k_asm); (case k4 => k_asm); (case ap => assumption); (case k5 => k_asm); (case k6 => k_is); (case k7 => k_is); (case k8 => first | exact roomC hd | ktr_room); (case k9 => first | exact BindsTo.of_eq rfl | exact kp_binds (by k_in) (fun _ => rfl) | fail "no rule for these arguments"); (case c5 => decide); (case kB => exact locs rfl); (case c2 => exact rfl); (case c3 => exact rfl); (case c4 => exact rfl); k_whole; intro g' L' h' FG' F' N' B' X' T' hR' l1 Q' hQ'; (try k_lt l1); (try dsimp only); (try k_lift B'); (try k_fold)))
  k_steps
  refine Stopped.go ?_
  rename Fr _ _ _ _ => FF
  rename News _ _ _ _ => NN
  refine' while_state (σ := Nat × Tok × Nat × Tok) (fun _ => [(R, listOf vs.toArray c)]) (fun c => [(Str.ofString "lo", Value.int (c.1 : Int) c.2.1), (Str.ofString "hi", Value.int (c.2.2.1 : Int) c.2.2.2)])
    [Str.ofString "lo", Str.ofString "hi", Str.ofString "mid"]
    (fun c => c.2.2.1 ≤ ns.length ∧ ∃ f : Nat, c.2.2.1 ≤ f + c.1 ∧ bisR ns x f c.1 c.2.2.1 = bisR ns x ns.length 0 ns.length)
    (fun c => c.2.2.1 - c.1) (0, ?t1, ns.length, ?t2) FF NN ?a1 ?a2 ?a3 ?a4
  case a4 => first | passes_own | with_unfolding_all passes_own
  case a1 =>
    intro p hp
    rcases List.mem_cons.mp hp with e | hp
    · rw [e]; exact rfl
    · rw [List.mem_singleton.mp hp]; exact rfl
  case a2 => exact ⟨Nat.le_refl _, ns.length, Nat.le_add_right _ _, rfl⟩
  case a3 =>
    clear FF NN
    refine prod4 ?_
    intro lo tl hj th u h9 tk9 hI F1 N1 Q1 Q2 hQ1 hQ2
    dsimp only at hI F1 N1
    have hle := hI.1
    refine hI.2.elim ?_
    clear hI
    intro f hI
    have hf := hI.1
    have hb := hI.2
    clear hI
    dsimp only [kstB] at F1
    refine Exists.elim (show ∃ m, (lo + hj) / 2 = m from ⟨_, rfl⟩) ?_
    intro m hm
    have hmid := mid_cast hm
    replace hm := Held.mk hm
    replace hf := Held.mk hf
    k_steps
    · ((rename Fr _ _ _ _ => F9); (rename News _ _ _ _ => N9); (try simp only [List.push_toArray] at N9))
      rename_i hlt _ _ hx9 _
      rw [hmid, Int.toNat_natCast] at hx9
      (try rw [hmid] at F9)
      refine hQ1 _ _ ?_
      refine' while_end (lo, ?x2, m, ?x4) F9 N9 ?s1 ?s3 ?s4 ?s5
      case s1 => exact (SubL.mem (by ((try dsimp only); k_subL)))
      case s3 => ((try dsimp only); intro p hp; rcases List.mem_cons.mp hp with e | hp; (rw [e]; exact rfl); rw [List.mem_singleton.mp hp]; exact rfl)
      case s4 => ((try dsimp only); ksw_same)
      case s5 =>
        dsimp only
        replace hlt := Int.ofNat_lt.mp hlt
        cases f with
        | zero => exact none_left hlt hf.go
        | succ f => exact ⟨⟨Nat.le_trans (Nat.le_of_lt (mid_lt hm.go hlt)) hle, f, room_lo hm.go hlt hf.go, (bisR_lo hm.go hlt hx9).symm.trans hb⟩, Nat.sub_lt_sub_right (mid_ge hm.go hlt) (mid_lt hm.go hlt)⟩
    · ((rename Fr _ _ _ _ => F9); (rename News _ _ _ _ => N9); (try simp only [List.push_toArray] at N9))
      rename_i hlt _ _ hx9 _
      rw [hmid, Int.toNat_natCast] at hx9
      (try rw [hmid] at F9)
      refine hQ1 _ _ ?_
      refine' while_end (m + 1, ?y2, hj, ?y4) F9 N9 ?z1 ?z3 ?z4 ?z5
      case z1 => exact (SubL.mem (by ((try dsimp only); k_subL)))
      case z3 => ((try dsimp only); intro p hp; rcases List.mem_cons.mp hp with e | hp; (rw [e]; exact rfl); rw [List.mem_singleton.mp hp]; exact rfl)
      case z4 => ((try dsimp only); ksw_same)
      case z5 =>
        dsimp only
        replace hlt := Int.ofNat_lt.mp hlt
        cases f with
        | zero => exact none_left hlt hf.go
        | succ f => exact ⟨⟨hle, f, room_hi hm.go hlt hf.go, (bisR_hi hm.go hlt hx9).symm.trans hb⟩, Nat.sub_lt_sub_left hlt (Nat.lt_succ_of_le (mid_ge hm.go hlt))⟩
    · refine hQ2 _ ?_
      (try dsimp only)
      k_steps
      (refine hQ' _ _ ?_; (try dsimp only); k_steps; unfold ThenRest; (rename Fr _ _ _ _ => kF9); (rename News _ _ _ _ => kN9); intro hRest; (try dsimp only))
      rename (¬ (lo : Int) < _) => hlt
      rw [← hb, bisR_end hlt f] at hret
      exact hret _ _ _ kF9 (newsPut kN9 (by k_mem) hRest)
end Mine
namespace Mine
noncomputable def bisL (ns : List Int) (x : Int) : Nat → Nat → Nat → Nat
  | 0, lo, _ => lo
  | f + 1, lo, hi => if lo < hi then (if ns.getD ((lo + hi) / 2) 0 < x then bisL ns x f ((lo + hi) / 2 + 1) hi else bisL ns x f lo ((lo + hi) / 2)) else lo
theorem bisL_hi {ns : List Int} {x : Int} {f lo hj m : Nat} (hm : (lo + hj) / 2 = m) (h : lo < hj) (hx : ns.getD m 0 < x) : bisL ns x (f + 1) lo hj = bisL ns x f (m + 1) hj := by
  subst hm; rw [bisL, if_pos h, if_pos hx]
theorem bisL_lo {ns : List Int} {x : Int} {f lo hj m : Nat} (hm : (lo + hj) / 2 = m) (h : lo < hj) (hx : ¬ ns.getD m 0 < x) : bisL ns x (f + 1) lo hj = bisL ns x f lo m := by
  subst hm; rw [bisL, if_pos h, if_neg hx]
theorem bisL_end {ns : List Int} {x : Int} {lo hj : Nat} (h : ¬ (lo : Int) < hj) : ∀ f : Nat, bisL ns x f lo hj = lo
  | 0 => rfl
  | f + 1 => by rw [bisL, if_neg fun k => h (Int.ofNat_lt.mpr k)]
theorem bisect_left_tells {w : World} {p : Program} {loose : List Str} {mean : ExcName → Option Value} {mg mb : Str → Option Value} (rest : Ledger) {R : Addr} {vs : List Value} {ns : List Int} {c : Nat} {x : Int} {tx t0 : Tok}
    (hi : IntsAre vs ns) (hlen : ns.length ≤ 1000) (ap : Apart [(R, listOf vs.toArray c)] rest) :
    Tells w p loose mean mg mb 83 5 50 ([(R, listOf vs.toArray c)] ++ rest) [.ref R, .int x tx, .int 0 t0, .none]
      (fun ok => ∀ t : Tok, ok (.int (bisL ns x ns.length 0 ns.length : Nat) t) ((R, listOf vs.toArray c) :: rest)) := by
  unfold Tells
  intro dp un gd cn cs aa ccd cl outer A₀ base h₀ L m s Q E B F X N T hk hd hu hret
  refine wpAny_call ?_
  (k_dflt (refine' codeR_def ?k1 ?k2 ?k3 ?k4 ?ap ?k5 ?kA ?kF ?kK ?k6 ?k7 ?k8 ?k9 ?kB ?_ ?c2 ?c3 ?c4 ?c5; (case kA => exact rfl); (case kF => exact rfl); (case kK => assumption); (case k1 => k_asm); (case k2 => k_asm); (case k3 => k_asm); (case k4 => k_asm); (case ap => assumption); (case k5 => k_asm); (case k6 => k_is); (case k7 => k_is); (case k8 => first | exact roomC hd | ktr_room); (case k9 => first | exact BindsTo.of_eq rfl | exact kp_binds (by k_in) (fun _ => rfl) | fail "no rule for these arguments"); (case c5 => decide); (case kB => exact locs rfl); (case c2 => exact rfl); (case c3 => exact rfl); (case c4 => exact rfl); k_whole; intro g' L' h' FG' F' N' B' X' T' hR' l1 Q' hQ'; (try k_lt l1); (try dsimp only); (try k_lift B'); (try k_fold)))
  k_steps
  refine Stopped.go ?_
  rename Fr _ _ _ _ => FF
  rename News _ _ _ _ => NN
  refine' while_state (σ := Nat × Tok × Nat × Tok) (fun _ => [(R, listOf vs.toArray c)]) (fun c => [(Str.ofString "lo", Value.int (c.1 : Int) c.2.1), (Str.ofString "hi", Value.int (c.2.2.1 : Int) c.2.2.2)])
    [Str.ofString "lo", Str.ofString "hi", Str.ofString "mid"]
    (fun c => c.2.2.1 ≤ ns.length ∧ ∃ f : Nat, c.2.2.1 ≤ f + c.1 ∧ bisL ns x f c.1 c.2.2.1 = bisL ns x ns.length 0 ns.length)
    (fun c => c.2.2.1 - c.1) (0, ?t1, ns.length, ?t2) FF NN ?a1 ?a2 ?a3 ?a4
  case a4 => first | passes_own | with_unfolding_all passes_own
  case a1 =>
    intro p hp
    rcases List.mem_cons.mp hp with e | hp
    · rw [e]; exact rfl
    · rw [List.mem_singleton.mp hp]; exact rfl
  case a2 => exact ⟨Nat.le_refl _, ns.length, Nat.le_add_right _ _, rfl⟩
  case a3 =>
    clear FF NN
    refine prod4 ?_
    intro lo tl hj th u h9 tk9 hI F1 N1 Q1 Q2 hQ1 hQ2
    dsimp only at hI F1 N1
    have hle := hI.1
    refine hI.2.elim ?_
    clear hI
    intro f hI
    have hf := hI.1
    have hb := hI.2
    clear hI
    dsimp only [kstB] at F1
    refine Exists.elim (show ∃ m, (lo + hj) / 2 = m from ⟨_, rfl⟩) ?_
    intro m hm
    have hmid := mid_cast hm
    replace hm := Held.mk hm
    replace hf := Held.mk hf
    k_steps
    · ((rename Fr _ _ _ _ => F9); (rename News _ _ _ _ => N9); (try simp only [List.push_toArray] at N9))
      rename_i hlt _ _ hx9 _
      rw [hmid, Int.toNat_natCast] at hx9
      (try rw [hmid] at F9)
      refine hQ1 _ _ ?_
      refine' while_end (m + 1, ?x2, hj, ?x4) F9 N9 ?s1 ?s3 ?s4 ?s5
      case s1 => exact (SubL.mem (by ((try dsimp only); k_subL)))
      case s3 => ((try dsimp only); intro p hp; rcases List.mem_cons.mp hp with e | hp; (rw [e]; exact rfl); rw [List.mem_singleton.mp hp]; exact rfl)
      case s4 => ((try dsimp only); ksw_same)
      case s5 =>
        dsimp only
        replace hlt := Int.ofNat_lt.mp hlt
        cases f with
        | zero => exact none_left hlt hf.go
        | succ f => exact ⟨⟨hle, f, room_hi hm.go hlt hf.go, (bisL_hi hm.go hlt hx9).symm.trans hb⟩, Nat.sub_lt_sub_left hlt (Nat.lt_succ_of_le (mid_ge hm.go hlt))⟩
    · ((rename Fr _ _ _ _ => F9); (rename News _ _ _ _ => N9); (try simp only [List.push_toArray] at N9))
      rename_i hlt _ _ hx9 _
      rw [hmid, Int.toNat_natCast] at hx9
      (try rw [hmid] at F9)
      refine hQ1 _ _ ?_
      refine' while_end (lo, ?y2, m, ?y4) F9 N9 ?z1 ?z3 ?z4 ?z5
      case z1 => exact (SubL.mem (by ((try dsimp only); k_subL)))
      case z3 => ((try dsimp only); intro p hp; rcases List.mem_cons.mp hp with e | hp; (rw [e]; exact rfl); rw [List.mem_singleton.mp hp]; exact rfl)
      case z4 => ((try dsimp only); ksw_same)
      case z5 =>
        dsimp only
        replace hlt := Int.ofNat_lt.mp hlt
        cases f with
        | zero => exact none_left hlt hf.go
        | succ f => exact ⟨⟨Nat.le_trans (Nat.le_of_lt (mid_lt hm.go hlt)) hle, f, room_lo hm.go hlt hf.go, (bisL_lo hm.go hlt hx9).symm.trans hb⟩, Nat.sub_lt_sub_right (mid_ge hm.go hlt) (mid_lt hm.go hlt)⟩
    · refine hQ2 _ ?_
      (try dsimp only)
      k_steps
      (refine hQ' _ _ ?_; (try dsimp only); k_steps; unfold ThenRest; (rename Fr _ _ _ _ => kF9); (rename News _ _ _ _ => kN9); intro hRest; (try dsimp only))
      rename (¬ (lo : Int) < _) => hlt
      rw [← hb, bisL_end hlt f] at hret
      exact hret _ _ _ kF9 (newsPut kN9 (by k_mem) hRest)
end Mine
section
local macro_rules | `(tactic| k_ne) => `(tactic| (refine neN ?_; (try dsimp only); (rename (_ ∧ _) => z); obtain ⟨⟨_, _, _⟩, _, _, _⟩ := z; with_reducible assumption))
namespace Mine
theorem sum_le {a b c d k : Int} (e : a + b = c + d) (hd : d < k) (hb : 0 ≤ b) : a ≤ c + k :=
  Int.le_trans (Int.le_add_of_nonneg_right hb) (e ▸ Int.add_le_add_left (Int.le_of_lt hd) c)
theorem add_sub1 (a b : Int) : a + 1 + (b - 1) = a + b := by omega
theorem step_fold (h k : Int) (xs : List Int) : ∀ acc : List Int, List.foldl (fun l' k' => if h.fmod k' = 0 ∧ k.fmod k' = 0 then l' ++ [k'] else if h.fmod k' = 0 ∧ ¬k.fmod k' = 0 then l' else l') acc xs = acc ++ xs.filter (fun d => decide (h.fmod d = 0 ∧ k.fmod d = 0)) := by
  induction xs with
  | nil => intro acc; simp
  | cons d r ih =>
    intro acc
    rw [List.foldl_cons, ih]
    by_cases hd : h.fmod d = 0 ∧ k.fmod d = 0
    · rw [if_pos hd, List.filter_cons_of_pos (by simpa using hd)]
      simp
    · rw [if_neg hd, List.filter_cons_of_neg (by simpa using hd)]
      split <;> rfl
theorem step_none {h k : Int} (hk0 : 2 ≤ k) (hk1 : k ≤ 20) (e : decide (List.foldl (fun l' k' => if h.fmod k' = 0 ∧ k.fmod k' = 0 then l' ++ [k'] else if h.fmod k' = 0 ∧ ¬k.fmod k' = 0 then l' else l') [] (rangeKs 2 (k + 1 - 2).toNat) = []) = true) :
    ∀ d : Int, 2 ≤ d → d ≤ k → ¬ (h % d = 0 ∧ k % d = 0) := by
  intro d h2 hdk hd
  have e := of_decide_eq_true e
  rw [step_fold, List.nil_append, List.filter_eq_nil_iff] at e
  have hm : d ∈ rangeKs 2 (k + 1 - 2).toNat := List.mem_map.mpr ⟨(d - 2).toNat, List.mem_range.mpr (by omega), by omega⟩
  have := e d hm
  rw [Int.fmod_eq_emod_of_nonneg _ (by omega), Int.fmod_eq_emod_of_nonneg _ (by omega)] at this
  simp at this
  exact this hd.1 hd.2
theorem step_some {h k : Int} (hk0 : 2 ≤ k) (e : decide (List.foldl (fun l' k' => if h.fmod k' = 0 ∧ k.fmod k' = 0 then l' ++ [k'] else if h.fmod k' = 0 ∧ ¬k.fmod k' = 0 then l' else l') [] (rangeKs 2 (k + 1 - 2).toNat) = []) = false) :
    (1 - (h + 1)) % k = (1 - h) % k - 1 ∧ 1 ≤ (1 - h) % k := by
  have e := of_decide_eq_false e
  rw [step_fold, List.nil_append] at e
  have hne : ∃ d ∈ rangeKs 2 (k + 1 - 2).toNat, h.fmod d = 0 ∧ k.fmod d = 0 := by
    by_cases hx : ∃ d ∈ rangeKs 2 (k + 1 - 2).toNat, h.fmod d = 0 ∧ k.fmod d = 0
    · exact hx
    · exfalso
      refine e (List.filter_eq_nil_iff.mpr fun d hd hh => hx ⟨d, hd, by simpa using hh⟩)
  obtain ⟨d, hd, h1, h2⟩ := hne
  have hb := mem_rangeKs hd
  rw [Int.fmod_eq_emod_of_nonneg _ (by omega)] at h1
  rw [Int.fmod_eq_emod_of_nonneg _ (by omega)] at h2
  have m0 := Int.emod_nonneg (1 - h) (show k ≠ 0 by omega)
  have m1 := Int.emod_lt_of_pos (1 - h) (show 0 < k by omega)
  have hpos : (1 - h) % k ≠ 0 := by
    intro hz
    have d1 : d ∣ h := Int.dvd_of_emod_eq_zero h1
    have d2 : d ∣ k := Int.dvd_of_emod_eq_zero h2
    have d3 : d ∣ 1 - h := Int.dvd_trans d2 (Int.dvd_of_emod_eq_zero hz)
    have d4 : d ∣ 1 := by
      have := Int.dvd_add d3 d1
      rwa [Int.sub_add_cancel] at this
    have := Int.le_of_dvd (by decide) d4
    omega
  refine ⟨?_, by omega⟩
  have e2 : (1 - (h + 1)) = (1 - h) % k - 1 + k * ((1 - h) / k) := by
    have := Int.mul_ediv_add_emod (1 - h) k
    omega
  rw [e2, Int.add_mul_emod_self_left]
  exact Int.emod_eq_of_lt (by omega) (by omega)
theorem law_step_tells {w : World} {p : Program} {loose : List Str} {mean : ExcName → Option Value} {mg mb : Str → Option Value} (rest : Ledger) {h k : Int} {th tk0 : Tok} (hh0 : -1000 ≤ h) (hh1 : h ≤ 1000) (hk0 : 2 ≤ k) (hk1 : k ≤ 20) :
    Tells w p loose mean mg mb 116 20 200 ([] ++ rest) [.int h th, .int k tk0]
      (fun ok => ∀ (h' : Int) (t : Tok), h ≤ h' → h' ≤ h + k → (∀ d : Int, 2 ≤ d → d ≤ k → ¬ (h' % d = 0 ∧ k % d = 0)) → ok (.int h' t) rest) := by
  unfold Tells
  intro dp un gd cn cs aa ccd cl outer A₀ base h₀ L m s Q E B F X N T hk hd hu hret
  have ap : Apart [] rest := apart0
  refine wpAny_call ?_
  (k_dflt (refine' codeR_defC ?k1 ?k2 ?k3 ?k4 ?ap ?k5 ?kA ?kF ?kK ?k6 ?k7 ?k8 ?k9 ?kB ?kD ?_ ?c2 ?c3 ?c4; (case kA => exact rfl); (case kF => exact rfl); (case kK => assumption); (case k1 => k_asm); (case k2 => k_asm); (case k3 => k_asm); (case k4 => k_asm); (case ap => assumption); (case k5 => k_asm); (case k6 => k_is); (case k7 => k_is); (case k8 => first | exact roomC hd | ktr_room); (case k9 => exact BindsTo.of_eq rfl); (case kB => exact rfl); (case kD => decide +kernel); (case c2 => exact rfl); (case c3 => exact rfl); (case c4 => exact rfl); k_whole; intro g' L' h' tk' cells' FG' F' N' Y' B' X' T' hR' l1 Q' hQ'; (try k_lt l1); k_cells Y'; (try simp only [List.cons_append, List.nil_append] at N'); (try dsimp only); (try k_lift B'); (try k_fold)))
  k_steps
  refine Stopped.go ?_
  rename_i okc ohc dkc dhc
  rename Fr _ _ _ _ => FF
  rename News _ _ _ _ => NN
  replace dkc : okc.data = .cell (some (.int k tk0)) := dkc
  replace dhc : ohc.data = .cell (some (.int h th)) := dhc
  refine' while_state (σ := Int × Tok × Obj) (fun c => [(L' + 1 + 1, okc), (L' + 1, c.2.2)]) (fun _ => []) []
    (fun c => c.2.2.data = .cell (some (.int c.1 c.2.1)) ∧ h ≤ c.1 ∧ c.1 + (1 - c.1) % k = h + (1 - h) % k) (fun c => ((1 - c.1) % k).toNat) (h, th, ohc) FF NN ?a1 ?a2 ?a3 ?a4
  case a4 => first | passes_own | with_unfolding_all passes_own
  case a1 => exact fun p hp => nomatch hp
  case a2 => exact ⟨dhc, Int.le_refl _, rfl⟩
  case a3 =>
    clear FF NN dhc
    refine prod3 ?_
    intro h1 th1 oh1 u h9 tk9 hI F1 N1 Q1 Q2 hQ1 hQ2
    (have dhc := hI.1; have hle := hI.2.1; have hsum := hI.2.2; clear hI)
    dsimp only at dhc hle hsum F1 N1 ⊢
    dsimp only [kstB] at F1
    have hk9 : 0 < k := Int.lt_of_lt_of_le (by decide) hk0
    have hhk : h1 ≤ h + k := sum_le hsum (Int.emod_lt_of_pos (1 - h) hk9) (Int.emod_nonneg (1 - h1) (Int.ne_of_gt hk9))
    have hhb : h1 ≤ 2000 := Int.le_trans hhk (Int.le_trans (Int.add_le_add hh1 hk1) (by decide))
    replace hsum := Held.mk hsum
    replace hk9 := Held.mk hk9
    replace hhk := Held.mk hhk
    k_steps
    · rename (decide _ = true) => hdec
      have hn := step_none hk0 hk1 hdec
      refine hQ2 _ ?_
      (try dsimp only)
      k_steps
      (refine hQ' _ _ ?_; (try dsimp only); k_steps; unfold ThenRest; (rename Fr _ _ _ _ => kF9); (rename News _ _ _ _ => kN9); intro hRest; (try dsimp only))
      exact hret _ _ hle hhk.go hn _ _ kF9 hRest
    · rename (decide _ = false) => hdec
      have hn := step_some hk0 hdec
      clear hdec
      ((rename Fr _ _ _ _ => F9); (rename News _ _ _ _ => N9); (try simp only [List.push_toArray] at N9))
      rename_i _ on dn
      obtain ⟨tkn, dn⟩ : ∃ t, on.data = .cell (some (.int (h1 + 1) t)) := ⟨_, dn⟩
      refine hQ1 _ _ ?_
      refine' while_end (h1 + 1, tkn, on) F9 N9 ?s1 ?s3 ?s4 ?s5
      case s1 => exact (SubL.mem (by ((try dsimp only); k_subL)))
      case s3 => exact fun p hp => nomatch hp
      case s4 => ((try dsimp only); ksw_same)
      case s5 =>
        refine ⟨⟨dn, Int.le_add_one hle, ?_⟩, ?_⟩
        · dsimp only; rw [hn.1, add_sub1]; exact hsum.go
        · dsimp only; rw [hn.1]; exact toNat_lt (Int.sub_lt_self _ (by decide)) hn.2
end Mine
end
namespace Mine
/-- where the two code tables stand -/
structure TSt where
  o1 : Obj
  a1 : Addr
  c1 : Obj
  o2 : Obj
  a2 : Addr
  c2 : Obj
noncomputable abbrev TSt.led (x : TSt) : Ledger := [(30, x.o1), (x.a1, x.c1), (37, x.o2), (x.a2, x.c2)]
noncomputable abbrev TSt.ok (x : TSt) : Prop := Tabs x.o1 x.a1 x.c1 x.o2 x.a2 x.c2
noncomputable def qRun : Nat → Int → Int → Int → Int → Int × Int
  | 0, told, sign, _, _ => (told, sign)
  | f + 1, told, sign, upper, lower => if lower = 0 then (told, sign) else qRun f (told + sign * upper.fdiv lower) (-sign) lower (upper.fmod lower)
noncomputable def byQ (g k back : Int) : Int :=
  (k - 1) * (k - 2) - g - back - k * (qRun g.toNat 0 1 k g).1 + (if (qRun g.toNat 0 1 k g).2 = -1 then 3 * k else k)
structure QSt where
  x : TSt
  told : Int
  sign : Int
  upper : Int
  lower : Int
  t1 : Tok
  t2 : Tok
  t3 : Tok
  t4 : Tok
noncomputable def QInv (g k : Int) (c : QSt) : Prop :=
  c.x.ok ∧ 0 ≤ c.lower ∧ c.lower < c.upper ∧ c.upper < 100 ∧ c.lower ≤ g ∧ (c.sign = 1 ∨ c.sign = -1) ∧ -(100 * (g - c.lower)) ≤ c.told ∧ c.told ≤ 100 * (g - c.lower) ∧
    ∃ f : Nat, c.lower ≤ f ∧ qRun f c.told c.sign c.upper c.lower = qRun g.toNat 0 1 k g
theorem quo_bound {u l : Int} (h0 : 0 < l) (h1 : l < u) (h2 : u < 100) : 0 ≤ u.fdiv l ∧ u.fdiv l < 100 ∧ 0 ≤ u.fmod l ∧ u.fmod l < l := by
  rw [Int.fdiv_eq_ediv_of_nonneg _ (by omega), Int.fmod_eq_emod_of_nonneg _ (by omega)]
  exact ⟨Int.ediv_nonneg (by omega) (by omega), Int.lt_of_le_of_lt (Int.ediv_le_self _ (by omega)) h2, Int.emod_nonneg _ (by omega), Int.emod_lt_of_pos _ h0⟩
theorem sq_box {s q : Int} (h : s = 1 ∨ s = -1) (q0 : 0 ≤ q) (q1 : q < 100) : -100 ≤ s * q ∧ s * q ≤ 100 := by
  rcases h with rfl | rfl <;> omega
theorem told_lo {g l m t x : Int} (h : -(100 * (g - l)) ≤ t) (hx : -100 ≤ x) (hm : m < l) : -(100 * (g - m)) ≤ t + x := by omega
theorem told_hi {g l m t x : Int} (h : t ≤ 100 * (g - l)) (hx : x ≤ 100) (hm : m < l) : t + x ≤ 100 * (g - m) := by omega
theorem qRun_end {g k : Int} {c : QSt} (h : ∃ f : Nat, c.lower ≤ f ∧ qRun f c.told c.sign c.upper c.lower = qRun g.toNat 0 1 k g) (hl : c.lower = 0) : qRun g.toNat 0 1 k g = (c.told, c.sign) := by
  obtain ⟨f, -, e⟩ := h
  rw [← e]
  cases f with
  | zero => rfl
  | succ f => rw [qRun, if_pos hl]
theorem by_quotients_tells {w : World} {p : Program} {loose : List Str} {mean : ExcName → Option Value} {mg mb : Str → Option Value} (rest : Ledger) {g k back : Int} {tg tk0 tb : Tok} {x : TSt} (hg0 : 0 ≤ g) (hg1 : g < k) (hk1 : k < 100) (hb0 : 0 ≤ back) (hb1 : back < 1000) (hT : x.ok) (ap : Apart x.led rest) :
    Tells w p loose mean mg mb 144 120 1000 (x.led ++ rest) [.int g tg, .int k tk0, .int back tb]
      (fun ok => ∀ (x' : TSt) (t : Tok), x'.ok → AllNe x'.a1 rest → AllNe x'.a2 rest → ok (.int (byQ g k back) t) (x'.led ++ rest)) := by
  unfold Tells
  intro dp un gd cn cs aa ccd cl outer A₀ base h₀ L m s Q E B F X N T hk hd hu hret
  refine wpAny_call ?_
  (k_dflt (refine' codeR_def ?k1 ?k2 ?k3 ?k4 ?ap ?k5 ?kA ?kF ?kK ?k6 ?k7 ?k8 ?k9 ?kB ?_ ?c2 ?c3 ?c4 ?c5; (case kA => exact rfl); (case kF => exact rfl); (case kK => assumption); (case k1 => k_asm); (case k2 => k_asm); (case k3 => k_asm); (case k4 => k_asm); (case ap => assumption); (case k5 => k_asm); (case k6 => k_is); (case k7 => k_is); (case k8 => first | exact roomC hd | ktr_room); (case k9 => first | exact BindsTo.of_eq rfl | exact kp_binds (by k_in) (fun _ => rfl) | fail "no rule for these arguments"); (case c5 => decide); (case kB => exact locs rfl); (case c2 => exact rfl); (case c3 => exact rfl); (case c4 => exact rfl); k_whole; intro g' L' h' FG' F' N' B' X' T' hR' l1 Q' hQ'; (try k_lt l1); (try dsimp only); (try k_lift B'); (try k_fold)))
  k_steps
  refine Stopped.go ?_
  rename Fr _ _ _ _ => FF
  rename News _ _ _ _ => NN
  refine' while_state (σ := QSt) (fun c => c.x.led) (fun c => [(Str.ofString "told", Value.int c.told c.t1), (Str.ofString "sign", Value.int c.sign c.t2), (Str.ofString "upper", Value.int c.upper c.t3), (Str.ofString "lower", Value.int c.lower c.t4)])
    [Str.ofString "told", Str.ofString "sign", Str.ofString "upper", Str.ofString "lower", Str.ofString "q", Str.ofString "r"] (QInv g k) (fun c => c.lower.toNat) ⟨x, 0, 1, k, g, ?t1, ?t2, ?t3, ?t4⟩ FF NN ?a1 ?a2 ?a3 ?a4
  case a4 => first | passes_own | with_unfolding_all passes_own
  case a1 => ((try dsimp only); intro p hp; rcases List.mem_cons.mp hp with e | hp; (rw [e]; exact rfl); rcases List.mem_cons.mp hp with e | hp; (rw [e]; exact rfl); rcases List.mem_cons.mp hp with e | hp; (rw [e]; exact rfl); rw [List.mem_singleton.mp hp]; exact rfl)
  case a2 => exact ⟨hT, hg0, hg1, hk1, Int.le_refl _, .inl rfl, by dsimp only; omega, by dsimp only; omega, g.toNat, by dsimp only; omega, rfl⟩
  case a3 =>
    clear FF NN hT
    intro c u h9 tk9 hI F1 N1 Q1 Q2 hQ1 hQ2
    (have hT := hI.1; have p0 := hI.2.1; have p1 := hI.2.2.1; have p2 := hI.2.2.2.1; have p3 := hI.2.2.2.2.1; have p4 := hI.2.2.2.2.2.1; have p5 := hI.2.2.2.2.2.2.1; have p6 := hI.2.2.2.2.2.2.2.1; have hf := hI.2.2.2.2.2.2.2.2; clear hI)
    dsimp only [TSt.led] at F1 N1
    dsimp only [TSt.ok] at hT
    dsimp only [kstB] at F1
    have hu2 : c.upper < 100 := p2
    replace p3 := Held.mk p3
    replace p4 := Held.mk p4
    replace p5 := Held.mk p5
    replace p6 := Held.mk p6
    have hm1 : IntMulOk (k - 1) (k - 2) := mulOk_of (by omega) (by omega)
    have hm2 : IntMulOk k c.told := mulOk_lf (by omega) (by omega)
    have hm3 : ∀ z : Int, IntMulOk c.sign z := fun z => mulSd p4.go
    k_steps
    · refine Stopped.go ?_
      rename (c.lower ≠ 0) => hl0
      have hlp : 0 < c.lower := Int.lt_iff_le_and_ne.mpr ⟨p0, Ne.symm hl0⟩
      replace hl0 := Held.mk hl0
      (k_dflt (refine' tells_use (div_use (div_tells (a := c.upper) (b := c.lower) (by omega) (by omega) hl0.go (by omega) (by omega)) _ hT apartEnd) ?u12k1 ?u12k2 ?u12k3 ?u12k4 ?u12k5 ?u12kK ?u12kd ?u12ku ?u12kR; (case u12k1 => k_asm); (case u12k2 => k_asm); (case u12k3 => k_asm); (case u12k4 => exact newsPicks (by k_asm) (by (repeat' (first | exact Picks.nil | (show Picks _ _ _; refine' Picks.cons (by (repeat' (first | exact Pick.head | refine' Pick.tail ?_))) ?_))))); (case u12k5 => k_asm); (case u12kK => first | exact rfl | assumption); (case u12kd => first | exact roomA (a := dp) (c := 1) hd rfl | exact hrd9 | ktr_room); (case u12ku => first | exact roomA (a := un) (c := 3) hu rfl | exact hru9 | ktr_units)))
      dsimp only [DivRet]
      intro D a1' a2' o1' oc1' o2' oc2' v1 v2 cc hT' hD1 hD2 hD3 hn4 hn5 hn6 hn7 h1 tk1 F2 N2
      replace hn4 := Held.mk hn4
      replace hn5 := Held.mk hn5
      replace hn6 := Held.mk hn6
      replace hn7 := Held.mk hn7
      have hqb := quo_bound (u := c.upper) (l := c.lower) hlp p1 p2
      (have q0 := hqb.1; have q1 := hqb.2.1; have r0 := hqb.2.2.1; have r1 := hqb.2.2.2; clear hqb)
      have hm4 := hm3 (c.upper.fdiv c.lower)
      k_sweep
      k_steps
      ((rename Fr _ _ _ _ => F9); (rename News _ _ _ _ => N9); (try simp only [List.push_toArray] at N9))
      refine hQ1 _ _ ?_
      refine' while_end (⟨⟨_, a1', _, _, a2', _⟩, ?c1, ?c2, ?c3, ?c4, ?c5, ?c6, ?c7, ?c8⟩ : QSt) F9 N9 ?s1 ?s3 ?s4 ?s5
      case s1 => exact SubL.mem (by (dsimp only [TSt.led]; k_subL))
      case s3 => ((try dsimp only); intro p hp; rcases List.mem_cons.mp hp with e | hp; (rw [e]; exact rfl); rcases List.mem_cons.mp hp with e | hp; (rw [e]; exact rfl); rcases List.mem_cons.mp hp with e | hp; (rw [e]; exact rfl); rw [List.mem_singleton.mp hp]; exact rfl)
      case s4 => ((try dsimp only); ksw_same)
      case s5 =>
        dsimp only
        refine hf.elim ?_
        intro f hf
        have hsq := sq_box p4.go q0 q1
        cases f with
        | zero => exact absurd hf.1 (Int.not_le.mpr hlp)
        | succ f =>
          have p8 := hf.2
          simp only [qRun, if_neg hl0.go] at p8
          exact ⟨⟨hT', r0, r1, Int.lt_trans p1 hu2, Int.le_trans (Int.le_of_lt r1) p3.go, p4.go.symm.imp (fun e => by rw [e]; rfl) (fun e => by rw [e]), told_lo p5.go hsq.1 r1, told_hi p6.go hsq.2 r1, f, Int.le_of_lt_add_one (Int.lt_of_lt_of_le r1 hf.1), p8⟩, toNat_lt r1 hlp⟩
    · rename (c.lower = 0) => hl
      refine hQ2 _ ?_
      (try dsimp only)
      k_steps
      · rename (c.sign = -1) => hs
        rename (c.lower = 0) => hl
        (refine hQ' _ _ ?_; (try dsimp only); k_steps; unfold ThenRest; (rename Fr _ _ _ _ => kF9); (rename News _ _ _ _ => kN9); intro hRest; (try dsimp only))
        have hq := qRun_end hf hl
        unfold byQ at hret
        rw [hq] at hret
        simp only [if_pos hs] at hret
        exact hret c.x _ hT (fresh_ne (by assumption) (by k_mem) hR') (fresh_ne (by assumption) (by k_mem) hR') _ _ kF9 (newsPut kN9 (by k_mem) (newsPut kN9 (by k_mem) (newsPut kN9 (by k_mem) (newsPut kN9 (by k_mem) hRest))))
      · rename (c.sign ≠ -1) => hs
        rename (c.lower = 0) => hl
        (refine hQ' _ _ ?_; (try dsimp only); k_steps; unfold ThenRest; (rename Fr _ _ _ _ => kF9); (rename News _ _ _ _ => kN9); intro hRest; (try dsimp only))
        have hq := qRun_end hf hl
        unfold byQ at hret
        rw [hq] at hret
        simp only [if_neg hs] at hret
        exact hret c.x _ hT (fresh_ne (by assumption) (by k_mem) hR') (fresh_ne (by assumption) (by k_mem) hR') _ _ kF9 (newsPut kN9 (by k_mem) (newsPut kN9 (by k_mem) (newsPut kN9 (by k_mem) (newsPut kN9 (by k_mem) hRest))))
end Mine
local macro_rules | `(tactic| walk_at "pyIter ref") => `(tactic| refine stop_here ?_)
namespace Mine
theorem bisL_le {ns : List Int} {x : Int} : ∀ (f lo hi : Nat), lo ≤ hi → bisL ns x f lo hi ≤ hi := by
  intro f
  induction f with
  | zero => intro lo hi h; exact h
  | succ f ih =>
    intro lo hi h
    simp only [bisL]
    split
    · split
      · exact ih _ _ (mid_lt rfl (by assumption))
      · exact Nat.le_trans (ih _ _ (mid_ge rfl (by assumption))) (Nat.le_of_lt (mid_lt rfl (by assumption)))
    · exact h
theorem ints_take {vs : List Value} {ns : List Int} (h : IntsAre vs ns) : ∀ k : Nat, IntsAre (vs.take k) (ns.take k) := by
  induction h with
  | nil => intro k; simp; exact IntsAre.nil
  | cons n t _ ih =>
    intro k
    cases k with
    | zero => exact IntsAre.nil
    | succ k => exact IntsAre.cons n t (ih k)
theorem ints_drop {vs : List Value} {ns : List Int} (h : IntsAre vs ns) : ∀ k : Nat, IntsAre (vs.drop k) (ns.drop k) := by
  induction h with
  | nil => intro k; simp; exact IntsAre.nil
  | cons n t h' ih =>
    intro k
    cases k with
    | zero => exact IntsAre.cons n t h'
    | succ k => exact ih k
theorem insort_left_tells {w : World} {p : Program} {loose : List Str} {mean : ExcName → Option Value} {mg mb : Str → Option Value} (rest : Ledger) {R : Addr} {vs : List Value} {ns : List Int} {c : Nat} {x : Int} {tx : Tok}
    (hi : IntsAre vs ns) (hlen : ns.length ≤ 1000) (ap : Apart [(R, listOf vs.toArray c)] rest) :
    Tells w p loose mean mg mb 74 10 100 ([(R, listOf vs.toArray c)] ++ rest) [.ref R, .int x tx]
      (fun ok => ∀ (vs' : List Value) (c' : Nat), IntsAre vs' (ns.take (bisL ns x ns.length 0 ns.length) ++ x :: ns.drop (bisL ns x ns.length 0 ns.length)) → ok .none ((R, listOf vs'.toArray c') :: rest)) := by
  unfold Tells
  intro dp un gd cn cs aa ccd cl outer A₀ base h₀ L m s Q E B F X N T hk hd hu hret
  refine wpAny_call ?_
  (k_dflt (refine' codeR_def ?k1 ?k2 ?k3 ?k4 ?ap ?k5 ?kA ?kF ?kK ?k6 ?k7 ?k8 ?k9 ?kB ?_ ?c2 ?c3 ?c4 ?c5; (case kA => exact rfl); (case kF => exact rfl); (case kK => assumption); (case k1 => k_asm); (case k2 => k_asm); (case k3 => k_asm); (case k4 => k_asm); (case ap => assumption); (case k5 => k_asm); (case k6 => k_is); (case k7 => k_is); (case k8 => first | exact roomC hd | ktr_room); (case k9 => first | exact BindsTo.of_eq rfl | exact kp_binds (by k_in) (fun _ => rfl) | fail "no rule for these arguments"); (case c5 => decide); (case kB => exact locs rfl); (case c2 => exact rfl); (case c3 => exact rfl); (case c4 => exact rfl); k_whole; intro g' L' h' FG' F' N' B' X' T' hR' l1 Q' hQ'; (try k_lt l1); (try dsimp only); (try k_lift B'); (try k_fold)))
  k_steps
  refine Stopped.go ?_
  (k_dflt (refine' tells_use (bisect_left_tells _ hi hlen ?ap1) ?u13k1 ?u13k2 ?u13k3 ?u13k4 ?u13k5 ?u13kK ?u13kd ?u13ku ?u13kR; (case u13k1 => k_asm); (case u13k2 => k_asm); (case u13k3 => k_asm); (case u13k4 => exact newsPicks (by k_asm) (by (repeat' (first | exact Picks.nil | (show Picks _ _ _; refine' Picks.cons (by (repeat' (first | exact Pick.head | refine' Pick.tail ?_))) ?_))))); (case u13k5 => k_asm); (case u13kK => first | exact rfl | assumption); (case u13kd => first | exact roomA (a := dp) (c := 1) hd rfl | exact hrd9 | ktr_room); (case u13ku => first | exact roomA (a := un) (c := 3) hu rfl | exact hru9 | ktr_units)))
  case ap1 => exact apartEnd
  dsimp only
  intro t1 h1 tk1 F1 N1
  k_sweep
  k_steps
  rename Fr _ _ _ _ => FF
  rename News _ _ _ _ => NN
  have hk1 : bisL ns x ns.length 0 ns.length ≤ ns.length := bisL_le _ _ _ (Nat.zero_le _)
  have hvl : vs.length = ns.length := hi.length
  generalize hk9 : bisL ns x ns.length 0 ns.length = k at *
  refine kl_insert (its := vs.toArray) (l := vs.take k ++ .int x tx :: vs.drop k) FF NN (by simp only [Builtin.List.listFitsIndex, Bool.and_eq_true, decide_eq_true_eq]; omega) ?e (by k_upd) (by rw [List.toList_toArray]; simp only [sizeLine]; omega) ?_
  case e =>
    unfold kl_ins
    rw [List.toList_toArray, if_neg (show ¬ ((k : Int) < 0) by omega), Int.toNat_natCast, Nat.min_eq_left (by omega)]
  intro h2 F2 N2
  k_sweep
  k_steps
  (refine hQ' _ _ ?_; (try dsimp only); k_steps; unfold ThenRest; (rename Fr _ _ _ _ => kF9); (rename News _ _ _ _ => kN9); intro hRest; (try dsimp only))
  exact hret _ _ ((ints_take hi k).append (IntsAre.cons x tx (ints_drop hi k))) _ _ kF9 (newsPut kN9 (by k_mem) hRest)
end Mine
namespace Mine
noncomputable def ooStep (st : List Int × Int) (x : Int) : List Int × Int :=
  (st.1.take (bisL st.1 x st.1.length 0 st.1.length) ++ x :: st.1.drop (bisL st.1 x st.1.length 0 st.1.length), st.2 + st.1.length - (bisR st.1 x st.1.length 0 st.1.length : Nat))
noncomputable def ooOf (ns : List Int) : List Int × Int := ns.foldl ooStep ([], 0)
theorem len_put {l : List Int} {x : Int} {k : Nat} (h : k ≤ l.length) : (l.take k ++ x :: l.drop k).length = l.length + 1 := by
  rw [List.length_append, List.length_take, List.length_cons, List.length_drop, Nat.min_eq_left h, ← Nat.add_assoc, Nat.add_sub_cancel' h]
theorem out_of_order_tells {w : World} {p : Program} {loose : List Str} {mean : ExcName → Option Value} {mg mb : Str → Option Value} (rest : Ledger) {R : Addr} {vs : List Value} {ns : List Int} {c : Nat}
    (hi : IntsAre vs ns) (hlen : ns.length ≤ 100) (ap : Apart [(R, listOf vs.toArray c)] rest) :
    Tells w p loose mean mg mb 123 20 200 ([(R, listOf vs.toArray c)] ++ rest) [.ref R]
      (fun ok => ∀ (D R2 : Addr) (vs' : List Value) (c' c2 : Nat) (t : Tok), IntsAre vs' (ooOf ns).1 → AllNe D rest → AllNe R2 rest → ¬ (@Eq Nat D R2) → ¬ (@Eq Nat D R) → ¬ (@Eq Nat R2 R) →
        ok (.ref D) ((D, { cls := .type "tuple", data := .seq #[.ref R2, .int (ooOf ns).2 t] c2 }) :: (R2, listOf vs'.toArray c') :: (R, listOf vs.toArray c) :: rest)) := by
  unfold Tells
  intro dp un gd cn cs aa ccd cl outer A₀ base h₀ L m s Q E B F X N T hk hd hu hret
  refine wpAny_call ?_
  (k_dflt (refine' codeR_def ?k1 ?k2 ?k3 ?k4 ?ap ?k5 ?kA ?kF ?kK ?k6 ?k7 ?k8 ?k9 ?kB ?_ ?c2 ?c3 ?c4 ?c5; (case kA => exact rfl); (case kF => exact rfl); (case kK => assumption); (case k1 => k_asm); (case k2 => k_asm); (case k3 => k_asm); (case k4 => k_asm); (case ap => assumption); (case k5 => k_asm); (case k6 => k_is); (case k7 => k_is); (case k8 => first | exact roomC hd | ktr_room); (case k9 => first | exact BindsTo.of_eq rfl | exact kp_binds (by k_in) (fun _ => rfl) | fail "no rule for these arguments"); (case c5 => decide); (case kB => exact locs rfl); (case c2 => exact rfl); (case c3 => exact rfl); (case c4 => exact rfl); k_whole; intro g' L' h' FG' F' N' B' X' T' hR' l1 Q' hQ'; (try k_lt l1); (try dsimp only); (try k_lift B'); (try k_fold)))
  k_steps
  refine Stopped.go ?_
  rename Fr _ _ _ _ => FF
  rename News _ _ _ _ => NN
  rename IntsAre vs ns => hi
  rename_i lr _ l1r _ _
  refine' list_state (σ := List Value × Nat × Int × Tok) (ax := R) (lo := listOf vs.toArray c) (vs := vs) (n := c)
    (fun a => [(lr, listOf a.1.toArray a.2.1), (R, listOf vs.toArray c)]) (fun a => [(Str.ofString "count", Value.int a.2.2.1 a.2.2.2)]) [Str.ofString "count", Str.ofString "rest"]
    (fun todo a => ∃ tns st, IntsAre todo tns ∧ IntsAre a.1 st.1 ∧ a.2.2.1 = st.2 ∧ tns.foldl ooStep st = ooOf ns ∧ st.1.length + tns.length = ns.length)
    ([], 0, 0, ?t1) rfl FF NN ?a1 rfl rfl ?a2 ?a3 ?a4 ?a5
  case a1 => intro a; k_mem
  case a2 => ((try dsimp only); intro p hp; rw [List.mem_singleton.mp hp]; exact rfl)
  case a3 => exact ⟨ns, ([], 0), hi, IntsAre.nil, rfl, rfl, by simp⟩
  case a4 =>
    clear FF NN
    intro I v r c9
    revert c9
    refine prod4 ?_
    intro rvs cn9 cnt tc u it h9 tk9 hit hI hne F1 N1 Q1 hQ1
    refine ex2 hI ?_
    clear hI
    intro tns st hI
    refine ints_cons hI.1 ?_
    intro d td tns' ev en i1
    rw [en] at hI
    have i2 := hI.2.1
    have e1 := hI.2.2.1
    have hfo := hI.2.2.2.1
    have hln := hI.2.2.2.2
    clear hI en
    dsimp only at i2 e1 hne F1 N1
    replace F1 : Fr g' L' h9 _ := F1
    rw [ev] at F1
    clear ev
    replace N1 : News g' L' h9 _ := N1
    dsimp only [kstB] at F1
    have hrl : rvs.length = st.1.length := i2.length
    have hs9 : st.1.length ≤ 100 := Nat.le_trans (hln ▸ Nat.le_add_right _ _) hlen
    replace hln := Held.mk hln
    replace e1 := Held.mk e1
    k_steps
    refine Stopped.go ?_
    (k_dflt (refine' tells_use (bisect_right_tells _ i2 ?l1 ?ap1) ?u14k1 ?u14k2 ?u14k3 ?u14k4 ?u14k5 ?u14kK ?u14kd ?u14ku ?u14kR; (case u14k1 => k_asm); (case u14k2 => k_asm); (case u14k3 => k_asm); (case u14k4 => exact newsPicks (by k_asm) (by (repeat' (first | exact Picks.nil | (show Picks _ _ _; refine' Picks.cons (by (repeat' (first | exact Pick.head | refine' Pick.tail ?_))) ?_))))); (case u14k5 => k_asm); (case u14kK => first | exact rfl | assumption); (case u14kd => first | exact roomA (a := dp) (c := 1) hd rfl | exact hrd9 | ktr_room); (case u14ku => first | exact roomA (a := un) (c := 3) hu rfl | exact hru9 | ktr_units)))
    case l1 => exact Nat.le_trans hs9 (by decide)
    case ap1 => (first | exact apart0 | (refine apart1 ?_; ((try dsimp only); (repeat' (first | exact allNe_nil | refine allNe_cons ?_ ?_ | refine And.intro ?_ ?_ | k_ne)))) | (refine apartC ?_ (apart1 ?_) <;> ((try dsimp only); (repeat' (first | exact allNe_nil | refine allNe_cons ?_ ?_ | refine And.intro ?_ ?_ | k_ne)))))
    dsimp only
    intro t1 h1 tk1 F2 N2
    k_sweep
    k_steps
    refine Stopped.go ?_
    (k_dflt (refine' tells_use (insort_left_tells _ i2 ?l2 ?ap2) ?u15k1 ?u15k2 ?u15k3 ?u15k4 ?u15k5 ?u15kK ?u15kd ?u15ku ?u15kR; (case u15k1 => k_asm); (case u15k2 => k_asm); (case u15k3 => k_asm); (case u15k4 => exact newsPicks (by k_asm) (by (repeat' (first | exact Picks.nil | (show Picks _ _ _; refine' Picks.cons (by (repeat' (first | exact Pick.head | refine' Pick.tail ?_))) ?_))))); (case u15k5 => k_asm); (case u15kK => first | exact rfl | assumption); (case u15kd => first | exact roomA (a := dp) (c := 1) hd rfl | exact hrd9 | ktr_room); (case u15ku => first | exact roomA (a := un) (c := 3) hu rfl | exact hru9 | ktr_units)))
    case l2 => exact Nat.le_trans hs9 (by decide)
    case ap2 => (first | exact apart0 | (refine apart1 ?_; ((try dsimp only); (repeat' (first | exact allNe_nil | refine allNe_cons ?_ ?_ | refine And.intro ?_ ?_ | k_ne)))) | (refine apartC ?_ (apart1 ?_) <;> ((try dsimp only); (repeat' (first | exact allNe_nil | refine allNe_cons ?_ ?_ | refine And.intro ?_ ?_ | k_ne)))))
    dsimp only
    intro vs2 c2 i3 h2 tk2 F3 N3
    k_sweep
    k_steps
    ((rename Fr _ _ _ _ => F9); (rename News _ _ _ _ => N9); (try simp only [List.push_toArray] at N9))
    refine hQ1 _ _ ?_
    refine' turn_end (?c1, ?c2, ?c3, ?c4) F9 N9 (by k_mem) ?s1 ?s2 ?s3 ?s4 ?s5
    case s1 => exact (SubL.mem (by ((try dsimp only); k_subL)))
    case s3 => ((try dsimp only); intro p hp; rw [List.mem_singleton.mp hp]; exact rfl)
    case s2 => (try dsimp only); ((try dsimp only); (repeat' (first | exact allNe_nil | refine allNe_cons ?_ ?_ | refine And.intro ?_ ?_ | k_ne)))
    case s4 => ((try dsimp only); ksw_same)
    case s5 =>
      dsimp only
      refine ⟨tns', ooStep st d, i1, i3, ?_, hfo, ?_⟩
      · simp only [ooStep]; rw [e1.go]; try rfl
      · have hb := bisL_le (ns := st.1) (x := d) st.1.length 0 st.1.length (Nat.zero_le _)
        simp only [ooStep]
        rw [len_put hb, Nat.add_assoc, Nat.add_comm 1]
        exact hln.go
  case a5 =>
    clear FF NN
    refine prod4 ?_
    intro rvs cn9 cnt tc u h9 tk9 hI F1 N1
    refine ex2 hI ?_
    clear hI
    intro tns st hI
    have en := ints_nil hI.1
    rw [en] at hI
    have i2 := hI.2.1
    have e1 := hI.2.2.1
    have hst : st = ooOf ns := hI.2.2.2.1
    clear hI
    dsimp only at i2 e1 F1 N1
    rw [e1] at F1
    rw [hst] at i2 F1
    clear e1 hst en
    replace F1 : Fr g' L' h9 _ := F1
    replace N1 : News g' L' h9 _ := N1
    dsimp only [kstB] at F1
    k_steps
    (refine hQ' _ _ ?_; (try dsimp only); k_steps; unfold ThenRest; (rename Fr _ _ _ _ => kF9); (rename News _ _ _ _ => kN9); intro hRest; (try dsimp only))
    refine hret _ lr _ _ _ _ i2 (fresh_ne (by assumption) (by k_mem) hR') (fresh_ne (by assumption) (by k_mem) hR') ?_ ?_ ?_ _ _ kF9 (newsPut kN9 (by k_mem) (newsPut kN9 (by k_mem) (newsPut kN9 (by k_mem) hRest)))
    all_goals (first | k_ne | omega)
end Mine
namespace Mine
structure WoSt where
  a : Int
  s : Int
  b : Int
  t : Int
  pas : Int
  told : List Int
noncomputable def woStep (g : Int) (w : WoSt) : WoSt :=
  if ltP (w.a + w.s) w.s w.b w.t = true then ⟨w.a + w.s, w.s, w.b, w.t, if w.s = g then w.pas else w.pas + 1, if w.s = g then w.told ++ [w.pas] else w.told⟩
  else ⟨w.b, w.t, w.a + w.s, w.s, if w.s = g then w.pas else w.pas + 1, if w.s = g then w.told ++ [w.pas] else w.told⟩
noncomputable def woInit (g k : Int) : WoSt := if ltP k k g g = true then ⟨k, k, g, g, 0, [0]⟩ else ⟨g, g, k, k, 0, [0]⟩
noncomputable def woN (g k : Int) : Nat → WoSt
  | 0 => woInit g k
  | n + 1 => woStep g (woN g k n)
structure WSt where
  p : Addr
  q : Addr
  a : Int
  s : Int
  b : Int
  t : Int
  t1 : Tok
  t2 : Tok
  t3 : Tok
  t4 : Tok
  c1 : Nat
  c2 : Nat
  ch : Nat
  tv : List Value
  tc : Nat
  pas : Int
  tp : Tok
noncomputable def wled (Tl H : Addr) (c : WSt) : Ledger := [(Tl, listOf c.tv.toArray c.tc), (H, listOf #[.ref c.p, .ref c.q] c.ch), (c.p, pairL c.a c.t1 c.s c.t2 c.c1), (c.q, pairL c.b c.t3 c.t c.t4 c.c2)]
noncomputable def WInv (g k : Int) (Tl H : Addr) (i : Nat) (c : WSt) : Prop :=
  ∃ told : List Int, IntsAre c.tv told ∧ woN g k i = ⟨c.a, c.s, c.b, c.t, c.pas, told⟩ ∧ told.length ≤ i + 1 ∧ ¬ (@Eq Nat c.p c.q) ∧ ¬ (@Eq Nat H c.p) ∧ ¬ (@Eq Nat H c.q) ∧ ¬ (@Eq Nat Tl c.p) ∧ ¬ (@Eq Nat Tl c.q) ∧ ¬ (@Eq Nat Tl H)
theorem IsTwo.one (t : Tok) : IntsAre [.int 0 t] [0] := IntsAre.cons 0 t IntsAre.nil
theorem both_way {σ : Type} {b : Bool} {c1 c2 : σ} {l1 l2 : Ledger} {g : Heap} {L : Addr} {m : Str → Option Value} {G : Heap → Nat → Prop} (led : σ → Ledger) (ok : σ → Prop) (h1 : b = true → ok c1) (h2 : b = false → ok c2)
    (s1 : ∀ p ∈ led c1, p ∈ l1) (s2 : ∀ p ∈ led c2, p ∈ l2) (k : ∀ c h3 tk3, ok c → Fr g L h3 m → News g L h3 (led c) → G h3 tk3) :
    (b = true → ∀ h3 tk3, Fr g L h3 m → News g L h3 l1 → G h3 tk3) ∧ (b = false → ∀ h3 tk3, Fr g L h3 m → News g L h3 l2 → G h3 tk3) :=
  ⟨fun e h3 tk3 F N => k c1 h3 tk3 (h1 e) F (newsSub N s1), fun e h3 tk3 F N => k c2 h3 tk3 (h2 e) F (newsSub N s2)⟩
theorem wo_len {g k : Int} {i n : Nat} (hg : g < 100) (hk : k < 100) (hi : i < (g + k - 2).toNat) (hn : n ≤ i + 1) : n ≤ 1000 := by
  have h1 := Int.lt_toNat.mp hi
  omega
theorem wo_snoc {l : List Int} {z : Int} {i : Nat} (h : l.length ≤ i + 1) : (l ++ [z]).length ≤ i + 1 + 1 := by
  rw [List.length_append]; exact Nat.add_le_add_right h 1
theorem woven_tells {w : World} {p : Program} {loose : List Str} {mean : ExcName → Option Value} {mg mb : Str → Option Value} (rest : Ledger) {g k : Int} {tg tk0 : Tok} (hg0 : 0 ≤ g) (hg1 : g < 100) (hk0 : 2 ≤ k) (hk1 : k < 100) :
    Tells w p loose mean mg mb 130 40 400 ([] ++ rest) [.int g tg, .int k tk0]
      (fun ok => ∀ (D : Addr) (vs : List Value) (c : Nat), IntsAre vs (woN g k (g + k - 2).toNat).told → AllNe D rest → ok (.ref D) ((D, listOf vs.toArray c) :: rest)) := by
  unfold Tells
  intro dp un gd cn cs aa ccd cl outer A₀ base h₀ L m s Q E B F X N T hk hd hu hret
  have ap : Apart [] rest := apart0
  refine wpAny_call ?_
  (k_dflt (refine' codeR_def ?k1 ?k2 ?k3 ?k4 ?ap ?k5 ?kA ?kF ?kK ?k6 ?k7 ?k8 ?k9 ?kB ?_ ?c2 ?c3 ?c4 ?c5; (case kA => exact rfl); (case kF => exact rfl); (case kK => assumption); (case k1 => k_asm); (case k2 => k_asm); (case k3 => k_asm); (case k4 => k_asm); (case ap => assumption); (case k5 => k_asm); (case k6 => k_is); (case k7 => k_is); (case k8 => first | exact roomC hd | ktr_room); (case k9 => first | exact BindsTo.of_eq rfl | exact kp_binds (by k_in) (fun _ => rfl) | fail "no rule for these arguments"); (case c5 => decide); (case kB => exact locs rfl); (case c2 => exact rfl); (case c3 => exact rfl); (case c4 => exact rfl); k_whole; intro g' L' h' FG' F' N' B' X' T' hR' l1 Q' hQ'; (try k_lt l1); (try dsimp only); (try k_lift B'); (try k_fold)))
  k_steps
  refine Stopped.go ?_
  (k_dflt (refine' tells_use (heapify_tells _ ?n1 ?n2 ?n3 ?ap1) ?u16k1 ?u16k2 ?u16k3 ?u16k4 ?u16k5 ?u16kK ?u16kd ?u16ku ?u16kR; (case u16k1 => k_asm); (case u16k2 => k_asm); (case u16k3 => k_asm); (case u16k4 => exact newsPicks (by k_asm) (by (repeat' (first | exact Picks.nil | (show Picks _ _ _; refine' Picks.cons (by (repeat' (first | exact Pick.head | refine' Pick.tail ?_))) ?_))))); (case u16k5 => k_asm); (case u16kK => first | exact rfl | assumption); (case u16kd => first | exact roomA (a := dp) (c := 1) hd rfl | exact hrd9 | ktr_room); (case u16ku => first | exact roomA (a := un) (c := 3) hu rfl | exact hru9 | ktr_units)))
  case ap1 => exact apartEnd
  case n1 => k_ne
  case n2 => k_ne
  case n3 => k_ne
  dsimp only
  rename_i pA _ lp qA _ lq Hh _ lH _ _ _
  refine both_way (σ := WSt) (c1 := ⟨pA, qA, k, k, g, g, tk0, tk0, tg, tg, 0, 0, 0, [], 0, 0, tg⟩) (c2 := ⟨qA, pA, g, g, k, k, tg, tg, tk0, tk0, 0, 0, 0, [], 0, 0, tg⟩)
    (fun c => [(Hh, listOf #[.ref c.p, .ref c.q] c.ch), (c.p, pairL c.a c.t1 c.s c.t2 c.c1), (c.q, pairL c.b c.t3 c.t c.t4 c.c2)])
    (fun c => woInit g k = ⟨c.a, c.s, c.b, c.t, 0, [0]⟩ ∧ ¬ (@Eq Nat c.p c.q) ∧ ¬ (@Eq Nat Hh c.p) ∧ ¬ (@Eq Nat Hh c.q)) ?h1 ?h2 ?s1 ?s2 ?rest
  case h1 => exact fun hlt => ⟨if_pos hlt, by dsimp only; k_ne, by dsimp only; k_ne, by dsimp only; k_ne⟩
  case h2 => exact fun hlt => ⟨if_neg (by rw [hlt]; exact Bool.false_ne_true), by dsimp only; k_ne, by dsimp only; k_ne, by dsimp only; k_ne⟩
  case s1 => exact SubL.mem (by (dsimp only; k_subL))
  case s2 => exact SubL.mem (by (dsimp only; k_subL))
  clear lp lq lH
  rename News _ _ _ _ => NO
  clear NO
  rintro ⟨pA, qA, x1, x2, x3, x4, y1, y2, y3, y4, z1, z2, z3, _, _, _, _⟩ h3 tk3 hI F3 N3
  (have hw0 := hI.1; have m1 := hI.2.1; have m2 := hI.2.2.1; have m3 := hI.2.2.2; clear hI)
  dsimp only at hw0 m1 m2 m3 N3
  k_sweep
  k_steps
  refine Stopped.go ?_
  rename IsRange _ _ _ _ _ _ _ _ => hrg
  rename Fr _ _ _ _ => FF
  rename News _ _ _ _ => NN
  rename_i Tl _ lT _ _ _ _ _ _ _ _ _ _
  have NL : ∀ tp : Tok, News g' L' _ (wled Tl Hh ⟨pA, qA, x1, x2, x3, x4, y1, y2, y3, y4, z1, z2, z3, [.int 0 tk3], 0, 0, tp⟩) := fun tp => newsSub NN (SubL.mem (by (dsimp only [wled]; k_subL)))
  refine' range_state (σ := WSt) (n := (g + k - 2).toNat) (wled Tl Hh) (fun c => [(Str.ofString "passed", Value.int c.pas c.tp)])
    [Str.ofString "passed", Str.ofString "turn", Str.ofString "at", Str.ofString "step"] (WInv g k Tl Hh) ⟨pA, qA, x1, x2, x3, x4, y1, y2, y3, y4, z1, z2, z3, [.int 0 tk3], 0, 0, ?tp⟩ rfl hrg ?a0 ?a1 FF (NL ?tp) ?a2 ?a3 ?a4 ?a5
  case a0 => exact small_one (by omega) (by omega) (by omega) (by omega)
  case a1 => rw [rangeSize_nat, Int.sub_zero]
  case a2 => ((try dsimp only); intro p hp; rw [List.mem_singleton.mp hp]; exact rfl)
  case a3 => exact ⟨[0], IsTwo.one _, hw0, by simp, m1, m2, m3, by dsimp only; k_ne, by dsimp only; k_ne, by k_ne⟩
  case a4 =>
    clear FF NN NL
    intro I i tki c u it h9 tk9 hin hI hne F1 N1 Q1 hQ1
    refine hI.elim ?_
    clear hI
    intro told hI
    (have i1 := hI.1; have hw := hI.2.1; have hln := hI.2.2.1; have n1 := hI.2.2.2.1; have n2 := hI.2.2.2.2.1; have n3 := hI.2.2.2.2.2.1; have n4 := hI.2.2.2.2.2.2.1; have n5 := hI.2.2.2.2.2.2.2.1; have n6 := hI.2.2.2.2.2.2.2.2; clear hI)
    have htl : told.length ≤ 1000 := wo_len hg1 hk1 hin hln
    replace hln := Held.mk hln
    replace hw := Held.mk hw
    replace F1 : Fr g' L' h9 _ := F1
    replace N1 : News g' L' h9 _ := N1
    dsimp only [kstB, wled] at F1 N1 hne
    k_steps
    · refine Stopped.go ?_
      rename (_ = g) => hsg
      (k_dflt (refine' tells_use (heapreplace_tells _ ?ua1 ?ua2 ?ua3 ?ua4) ?u17k1 ?u17k2 ?u17k3 ?u17k4 ?u17k5 ?u17kK ?u17kd ?u17ku ?u17kR; (case u17k1 => k_asm); (case u17k2 => k_asm); (case u17k3 => k_asm); (case u17k4 => exact newsPicks (by k_asm) (by (repeat' (first | exact Picks.nil | (show Picks _ _ _; refine' Picks.cons (by (repeat' (first | exact Pick.head | refine' Pick.tail ?_))) ?_))))); (case u17k5 => k_asm); (case u17kK => first | exact rfl | assumption); (case u17kd => first | exact roomA (a := dp) (c := 1) hd rfl | exact hrd9 | ktr_room); (case u17ku => first | exact roomA (a := un) (c := 3) hu rfl | exact hru9 | ktr_units)))
      case ua4 => ((refine apartC ?_ (apartC ?_ (apart1 ?_))) <;> ((try dsimp only); (repeat' (first | exact allNe_nil | refine allNe_cons ?_ ?_ | refine And.intro ?_ ?_ | k_ne))))
      case ua1 => k_ne
      case ua2 => k_ne
      case ua3 => k_ne
      dsimp only
      refine ⟨fun hlt2 h3 tk3 F3 N3 => ?_, fun hlt2 h3 tk3 F3 N3 => ?_⟩
      · k_sweep
        k_steps
        ((rename Fr _ _ _ _ => F9); (rename News _ _ _ _ => N9); (try simp only [List.push_toArray] at N9))
        refine hQ1 _ _ ?_
        refine' turn_end (⟨?uaap, ?uaaq, ?uaaa, ?uaas, ?uaab, ?uaat, ?uaat1, ?uaat2, ?uaat3, ?uaat4, ?uaac1, ?uaac2, ?uaach, ?uaatv, ?uaatc, ?uaapas, ?uaatp⟩ : WSt) F9 N9 (by k_mem) ?uaax1 ?uaax2 ?uaax3 ?uaax4 ?uaax5
        case uaax1 => exact SubL.mem (by (dsimp only [wled]; k_subL))
        case uaax3 => ((try dsimp only); intro p hp; rw [List.mem_singleton.mp hp]; exact rfl)
        case uaax2 => dsimp only [wled]; ((try dsimp only); (repeat' (first | exact allNe_nil | refine allNe_cons ?_ ?_ | refine And.intro ?_ ?_ | k_ne)))
        case uaax4 => ((try dsimp only); ksw_same)
        case uaax5 =>
          refine ⟨_, i1.append (IntsAre.cons _ _ IntsAre.nil), ?_, ?_, ?_, ?_, ?_, ?_, ?_, ?_⟩
          · show woStep g (woN g k i) = _
            rw [hw.go]
            simp only [woStep]
            rw [if_pos hlt2, if_pos hsg, if_pos hsg]
          · exact wo_snoc hln.go
          all_goals ((try dsimp only); k_ne)
      · k_sweep
        k_steps
        ((rename Fr _ _ _ _ => F9); (rename News _ _ _ _ => N9); (try simp only [List.push_toArray] at N9))
        refine hQ1 _ _ ?_
        refine' turn_end (⟨?uabp, ?uabq, ?uaba, ?uabs, ?uabb, ?uabt, ?uabt1, ?uabt2, ?uabt3, ?uabt4, ?uabc1, ?uabc2, ?uabch, ?uabtv, ?uabtc, ?uabpas, ?uabtp⟩ : WSt) F9 N9 (by k_mem) ?uabx1 ?uabx2 ?uabx3 ?uabx4 ?uabx5
        case uabx1 => exact SubL.mem (by (dsimp only [wled]; k_subL))
        case uabx3 => ((try dsimp only); intro p hp; rw [List.mem_singleton.mp hp]; exact rfl)
        case uabx2 => dsimp only [wled]; ((try dsimp only); (repeat' (first | exact allNe_nil | refine allNe_cons ?_ ?_ | refine And.intro ?_ ?_ | k_ne)))
        case uabx4 => ((try dsimp only); ksw_same)
        case uabx5 =>
          refine ⟨_, i1.append (IntsAre.cons _ _ IntsAre.nil), ?_, ?_, ?_, ?_, ?_, ?_, ?_, ?_⟩
          · show woStep g (woN g k i) = _
            rw [hw.go]
            simp only [woStep]
            rw [if_neg (by rw [hlt2]; exact Bool.false_ne_true), if_pos hsg, if_pos hsg]
          · exact wo_snoc hln.go
          all_goals ((try dsimp only); k_ne)
    · refine Stopped.go ?_
      rename (_ ≠ g) => hsg
      (k_dflt (refine' tells_use (heapreplace_tells _ ?ub1 ?ub2 ?ub3 ?ub4) ?u18k1 ?u18k2 ?u18k3 ?u18k4 ?u18k5 ?u18kK ?u18kd ?u18ku ?u18kR; (case u18k1 => k_asm); (case u18k2 => k_asm); (case u18k3 => k_asm); (case u18k4 => exact newsPicks (by k_asm) (by (repeat' (first | exact Picks.nil | (show Picks _ _ _; refine' Picks.cons (by (repeat' (first | exact Pick.head | refine' Pick.tail ?_))) ?_))))); (case u18k5 => k_asm); (case u18kK => first | exact rfl | assumption); (case u18kd => first | exact roomA (a := dp) (c := 1) hd rfl | exact hrd9 | ktr_room); (case u18ku => first | exact roomA (a := un) (c := 3) hu rfl | exact hru9 | ktr_units)))
      case ub4 => ((refine apartC ?_ (apartC ?_ (apart1 ?_))) <;> ((try dsimp only); (repeat' (first | exact allNe_nil | refine allNe_cons ?_ ?_ | refine And.intro ?_ ?_ | k_ne))))
      case ub1 => k_ne
      case ub2 => k_ne
      case ub3 => k_ne
      dsimp only
      refine ⟨fun hlt2 h3 tk3 F3 N3 => ?_, fun hlt2 h3 tk3 F3 N3 => ?_⟩
      · k_sweep
        k_steps
        ((rename Fr _ _ _ _ => F9); (rename News _ _ _ _ => N9); (try simp only [List.push_toArray] at N9))
        refine hQ1 _ _ ?_
        refine' turn_end (⟨?ubap, ?ubaq, ?ubaa, ?ubas, ?ubab, ?ubat, ?ubat1, ?ubat2, ?ubat3, ?ubat4, ?ubac1, ?ubac2, ?ubach, ?ubatv, ?ubatc, ?ubapas, ?ubatp⟩ : WSt) F9 N9 (by k_mem) ?ubax1 ?ubax2 ?ubax3 ?ubax4 ?ubax5
        case ubax1 => exact SubL.mem (by (dsimp only [wled]; k_subL))
        case ubax3 => ((try dsimp only); intro p hp; rw [List.mem_singleton.mp hp]; exact rfl)
        case ubax2 => dsimp only [wled]; ((try dsimp only); (repeat' (first | exact allNe_nil | refine allNe_cons ?_ ?_ | refine And.intro ?_ ?_ | k_ne)))
        case ubax4 => ((try dsimp only); ksw_same)
        case ubax5 =>
          refine ⟨_, i1, ?_, ?_, ?_, ?_, ?_, ?_, ?_, ?_⟩
          · show woStep g (woN g k i) = _
            rw [hw.go]
            simp only [woStep]
            rw [if_pos hlt2, if_neg hsg, if_neg hsg]
          · exact Nat.le_succ_of_le hln.go
          all_goals ((try dsimp only); k_ne)
      · k_sweep
        k_steps
        ((rename Fr _ _ _ _ => F9); (rename News _ _ _ _ => N9); (try simp only [List.push_toArray] at N9))
        refine hQ1 _ _ ?_
        refine' turn_end (⟨?ubbp, ?ubbq, ?ubba, ?ubbs, ?ubbb, ?ubbt, ?ubbt1, ?ubbt2, ?ubbt3, ?ubbt4, ?ubbc1, ?ubbc2, ?ubbch, ?ubbtv, ?ubbtc, ?ubbpas, ?ubbtp⟩ : WSt) F9 N9 (by k_mem) ?ubbx1 ?ubbx2 ?ubbx3 ?ubbx4 ?ubbx5
        case ubbx1 => exact SubL.mem (by (dsimp only [wled]; k_subL))
        case ubbx3 => ((try dsimp only); intro p hp; rw [List.mem_singleton.mp hp]; exact rfl)
        case ubbx2 => dsimp only [wled]; ((try dsimp only); (repeat' (first | exact allNe_nil | refine allNe_cons ?_ ?_ | refine And.intro ?_ ?_ | k_ne)))
        case ubbx4 => ((try dsimp only); ksw_same)
        case ubbx5 =>
          refine ⟨_, i1, ?_, ?_, ?_, ?_, ?_, ?_, ?_, ?_⟩
          · show woStep g (woN g k i) = _
            rw [hw.go]
            simp only [woStep]
            rw [if_neg (by rw [hlt2]; exact Bool.false_ne_true), if_neg hsg, if_neg hsg]
          · exact Nat.le_succ_of_le hln.go
          all_goals ((try dsimp only); k_ne)
  case a5 =>
    clear FF NN NL
    intro c u h9 tk9 hI F1 N1
    refine hI.elim ?_
    clear hI
    intro told hI
    (have i1 := hI.1; have hw := hI.2.1; have n1 := hI.2.2.2.1; have n2 := hI.2.2.2.2.1; have n3 := hI.2.2.2.2.2.1; have n4 := hI.2.2.2.2.2.2.1; have n5 := hI.2.2.2.2.2.2.2.1; have n6 := hI.2.2.2.2.2.2.2.2; clear hI)
    replace F1 : Fr g' L' h9 _ := F1
    replace N1 : News g' L' h9 _ := N1
    dsimp only [kstB, wled] at F1 N1
    k_steps
    (refine hQ' _ _ ?_; (try dsimp only); k_steps; unfold ThenRest; (rename Fr _ _ _ _ => kF9); (rename News _ _ _ _ => kN9); intro hRest; (try dsimp only))
    rw [hw] at hret
    exact hret _ _ _ i1 (fresh_ne (by assumption) (by k_mem) hR') _ _ kF9 (newsPut kN9 (by k_mem) hRest)
end Mine
namespace Mine
section
variable {prog : Program} {w : World} {A : Around} {E : Value → Shared → Prop} {s : Shared} {env : Env} {h₀ : Heap} {target : Expr} {body : List Stmt} {Q : Flow → Shared → Prop}
theorem letGo_reviter {I t : Addr} {i : Int} {v : Value} {Q' : Unit → Shared → Prop} {s' : Shared} (hit : s'.heap.IsRevIter I t i) (h : Q' () s') :
    wpAny (model prog w) A (letOwnedTupleGo target (.ref I) v) Q' E s' := by
  obtain ⟨o, ho, hc, hd⟩ := hit
  unfold letOwnedTupleGo
  cases target <;> first
    | exact wpAny_pure h
    | (cases v <;> first
        | exact wpAny_pure h
        | (refine wpAny_bind (wpAny_load ho ?_)
           rw [hc, hd]
           exact wpAny_pure h))
theorem walks_lt {A : Around} {I : Addr} {fp wr : List Addr} {n : Nat} {P : Nat → Value → Prop} {St : Nat → Heap → Prop} (W : Walks prog w A I fp wr n P St) : Walks prog w A I fp wr n (fun i v => i < n ∧ P i v) St where
  sub := W.sub
  frame := W.frame
  item := fun i s Q E hi x hQ => W.item i s Q E hi x fun v h' tk hP st hk => hQ v h' tk ⟨hi, hP⟩ st hk
  done := W.done
  self := W.self
theorem iter_revTurns {ax I : Addr} {lo : Obj} {vs : List Value} {n : Nat} {m₀ : Str → Option Value} {news : List (Addr × Obj)}
    (hh : A.handled = none) (F : Fr h₀ env.locals s.heap m₀) (N : News h₀ env.locals s.heap ((I, revObj ax ((vs.length : Int) - 1)) :: news)) (hoff : ∀ p ∈ news, p.1 ≠ I) (hm : (ax, lo) ∈ news) (hc : lo.cls = .type "list") (hd : lo.data = .seq vs.toArray n)
    (rest : ItemsRest prog w A E h₀ env target body Q s [(I, "list_reverseiterator")] [(ax, lo)] (vs.reverse.map .val) m₀ news) :
    wpAny (model prog w) A (pyIter (.ref I)) (fun it s₂ => TurnsAt prog w A h₀ env target body Q E it s₂) E s := by
  have hIx := N _ (List.mem_cons_self ..)
  have hax := N _ (List.mem_cons_of_mem _ hm)
  have hl : s.heap.IsList ax vs.toArray := ⟨lo, hax.1, hc, n, hd⟩
  have hne : ax ≠ I := hoff _ hm
  have hit : s.heap.IsRevIter I ax ((vs.length : Int) - 1) := ⟨_, hIx.1, rfl, rfl⟩
  have hlen : vs.toArray.size = vs.length := by simp
  refine wpAny_pyIter_revIter hit ?_
  refine ktu_core (hp := s.heap) (tk0 := s.toks) (keep := [(ax, lo)]) (KTurns.ofWalks (walks_lt (Walks.listRev hh I ax hne vs.toArray)) fun i v s Q E st q => letGo_reviter st.2.1 q) (by simp) (fun i v h hp => ⟨.val v, ?_, rfl⟩) (fun i h st => ?_) (fun b hb => ?_) (fun b hb => by simpa using hb) (fun b hb => ?_) ?_ (fun p hp hI => ?_) ?_ F (fun p hp => N p (List.mem_cons_of_mem _ hp)) (And.intro hm trivial) rest
  · have hp' : vs.toArray[vs.toArray.size - 1 - i]? = some v := hp.2
    have hi : i < vs.length := by have := hp.1; omega
    rw [List.getElem?_map, List.getElem?_reverse hi]
    rw [hlen] at hp'
    have : vs[vs.length - 1 - i]? = some v := by simpa using hp'
    rw [this]; rfl
  · obtain ⟨it, hit, hic, _⟩ := st.2.1
    exact ⟨[(I, it)], ⟨⟨rfl, hic⟩, trivial⟩, fun p hp => by rw [List.mem_singleton.mp hp]; exact hit⟩
  · have hb' : b = I := by simpa using hb
    rw [hb']
    exact ⟨List.mem_cons_self .., hIx.2.2⟩
  · have hb' : b = I ∨ b = ax := by simpa using hb
    rcases hb' with e | e
    · exact .inl (by simp [e])
    · exact .inr ⟨lo, by simp [e]⟩
  · intro hI
    rcases List.mem_cons.mp hI with e | hI
    · exact hIx.2.1 e.symm
    · exact hax.2.1 (List.mem_singleton.mp hI).symm
  · exact hoff p hp (List.mem_singleton.mp hI)
  · rw [hlen]
    have e : (vs.length : Int) - 1 - ((0 : Nat) : Int) = (vs.length : Int) - 1 := by omega
    refine ⟨Nat.zero_le _, ?_, hl⟩
    rw [e]
    exact hit
/-- for a, b in reversed(list): an invariant over what is to come -/
theorem revT_state {σ : Type} {ax I : Addr} {lo : Obj} {vs : List Value} {n : Nat} {m₀ : Str → Option Value} (Led : σ → Ledger) (ps : σ → List (Str × Value)) (stored : List Str) (P : List Value → σ → Prop) (c₀ : σ)
    (hh : A.handled = none) (F : Fr h₀ env.locals s.heap m₀) (N : News h₀ env.locals s.heap ((I, revObj ax ((vs.length : Int) - 1)) :: Led c₀)) (hI : AllNe I (Led c₀)) (hmem : ∀ c, (ax, lo) ∈ Led c) (hc : lo.cls = .type "list") (hd : lo.data = .seq vs.toArray n)
    (hk : ∀ p ∈ ps c₀, m₀ p.1 = some p.2) (hp : P vs.reverse c₀)
    (turn : ∀ (v : Value) (r : List Value) (c : σ) (u : Str → Option Value) (it : Obj) h tk, it.cls = .type "list_reverseiterator" → P (v :: r) c → AllNe I (Led c) → Fr h₀ env.locals h (kstB (fun z => if stored.contains z then u z else m₀ z) (ps c)) → News h₀ env.locals h ((I, it) :: Led c) →
      ∀ Q1 : Flow → Shared → Prop, (∀ f s₂, TurnPost h₀ env.locals I it Led ps stored m₀ (P r) Q { s with heap := h, toks := tk } f s₂ → Q1 f s₂) →
      wpAny (model prog w) A (assign target env v) (fun _ s₂ => wpAny (model prog w) A (execs body env) Q1 E s₂) E { s with heap := h, toks := tk })
    (done : ∀ (c : σ) (u : Str → Option Value) h tk, P [] c → Fr h₀ env.locals h (kstB (fun z => if stored.contains z then u z else m₀ z) (ps c)) → News h₀ env.locals h (Led c) → Q .next { s with heap := h, toks := tk }) :
    wpAny (model prog w) A (pyIter (.ref I)) (fun it s₂ => TurnsAt prog w A h₀ env target body Q E it s₂) E s := by
  refine iter_revTurns (lo := lo) (vs := vs) hh F N hI.all (hmem c₀) hc hd ?_
  have main : ∀ (l : List Value) (c : σ) (m : Str → Option Value), P l c → FormOf stored m₀ (ps c) m → AllNe I (Led c) → ItemsRest prog w A E h₀ env target body Q s [(I, "list_reverseiterator")] [(ax, lo)] (l.map .val) m (Led c) := by
    intro l
    induction l with
    | nil =>
      intro c m hp hf _
      refine ItemsRest.zero fun h tk F₁ N₁ => ?_
      rw [hf.eq] at F₁
      exact done c m h tk hp F₁ N₁
    | cons v r ih =>
      intro c m hp hf ha
      refine ItemsRest.val fun h tk F₁ => AllObj.cons fun it hit => AllObj.nil fun N₁ => ?_
      rw [hf.eq] at F₁
      refine wpAny_mono (turn v r c m it h tk hit hp ha F₁ N₁ _ fun _ _ x => x) (fun _ s₂ q => wpAny_mono q (fun f s₃ q => ?_) fun _ _ e => e) fun _ _ e => e
      have fin : ∀ s₃, TurnEnd h₀ env.locals I it Led ps stored m₀ (P r) { s with heap := h, toks := tk } s₃ → UnrEndW h₀ env.locals { s with heap := h, toks := tk } [(I, it)] (fun m' n' => SubL [(ax, lo)] n' ∧ ItemsRest prog w A E h₀ env target body Q s [(I, "list_reverseiterator")] [(ax, lo)] (r.map .val) m' n') s₃ := by
        rintro s₃ ⟨c', h', tk', m', news', e, F, N, hI, hn, ho, hf, hp⟩
        refine ⟨h', tk', m', Led c', e, F, fun p hp => ?_, fun p hp q hq => ?_, And.intro (hmem c') trivial, ih c' m' hp hf (allNe_of ho)⟩
        · rcases List.mem_cons.mp hp with rfl | hp
          · exact N _ hI
          · exact N p (hn p hp)
        · rw [List.mem_singleton.mp hq]
          exact ho p hp
      cases f with
      | ret v => exact q
      | brk => exact q
      | next => exact fin _ q
      | cont => exact fin _ q
  exact main _ c₀ m₀ hp ⟨hk, fun _ _ _ => rfl⟩ hI
end
end Mine
section
local macro_rules | `(tactic| walk_at "exec For Tuple Call cons nil") => `(tactic| (k_here; (rename Fr _ _ _ _ => lF'); (with_unfolding_all refine' For_turns lF' ?_; k_whole)))
namespace Mine
theorem mem_h {a : Addr × Obj} {l : Ledger} : a ∈ a :: l := List.Mem.head _
theorem mem_t {a b : Addr × Obj} {l : Ledger} (h : a ∈ l) : a ∈ b :: l := List.Mem.tail _ h
theorem sub_id {l : Ledger} : ∀ p ∈ l, p ∈ l := fun _ h => h
theorem sub_cons {e : Addr × Obj} {r l : Ledger} (h : e ∈ l) (k : ∀ p ∈ r, p ∈ l) : ∀ p ∈ e :: r, p ∈ l := fun p hp => by
  rcases List.mem_cons.mp hp with rfl | hp
  · exact h
  · exact k p hp
theorem sub_skip {e : Addr × Obj} {r l : Ledger} (k : ∀ p ∈ r, p ∈ l) : ∀ p ∈ r, p ∈ e :: l := fun p hp => List.mem_cons_of_mem _ (k p hp)
theorem allNe_lt {d : Addr} : ∀ {l : Ledger}, AllLt d l → AllNe d l
  | [], _ => trivial
  | _ :: _, h => ⟨Nat.ne_of_lt h.1, allNe_lt h.2⟩
inductive Tups : List Value → List (Int × Int) → Ledger → Prop
  | nil : Tups [] [] []
  | cons {T : Addr} {a b : Int} {t1 t2 : Tok} {c : Nat} {vs ns tl} : Tups vs ns tl → Tups (.ref T :: vs) ((a, b) :: ns) ((T, intTup2 a t1 b t2 c) :: tl)
noncomputable def eRun : Nat → Int → Int → List (Int × Int) → List (Int × Int)
  | 0, _, _, l => l
  | f + 1, h, k, l => if 1 < k then eRun f k (h.fmod k) ((h.fmod k, k) :: l) else l
noncomputable def eSafe : List (Int × Int) → Int → Prop
  | [], _ => True
  | (a, b) :: r, c => (0 < a ∧ a < 1000 ∧ 0 < b ∧ b < 1000 ∧ -1000000 < (a - 1) * (b - 1) * (a + b - 1) - 4 * b * c ∧ (a - 1) * (b - 1) * (a + b - 1) - 4 * b * c < 1000000) ∧ eSafe r (((a - 1) * (b - 1) * (a + b - 1) - 4 * b * c).fdiv (4 * a))
noncomputable def eCount : List (Int × Int) → Int → Int
  | [], c => c
  | (a, b) :: r, c => if ((a - 1) * (b - 1) * (a + b - 1) - 4 * b * c).fmod (4 * a) = 0 then eCount r (((a - 1) * (b - 1) * (a + b - 1) - 4 * b * c).fdiv (4 * a)) else -1
noncomputable def byE (h k : Int) : Int := eCount (eRun k.toNat h k []) 0
theorem fm_bound (h : Int) {k : Int} (hk : 0 < k) : 0 ≤ h.fmod k ∧ h.fmod k < k := by
  rw [Int.fmod_eq_emod_of_nonneg _ (by omega)]
  exact ⟨Int.emod_nonneg _ (by omega), Int.emod_lt_of_pos _ hk⟩
structure ESt where
  x : TSt
  h : Int
  k : Int
  vs : List Value
  ns : List (Int × Int)
  tl : Ledger
  c : Nat
  t1 : Tok
  t2 : Tok
structure FSt where
  x : TSt
  n : Int
  ns : List (Int × Int)
  tl : Ledger
  t : Tok
theorem ESt.all {G : ESt → Prop} (k : ∀ o1 b1 oc1 o2 b2 oc2 h k vs ns tl c t1 t2, G ⟨⟨o1, b1, oc1, o2, b2, oc2⟩, h, k, vs, ns, tl, c, t1, t2⟩) : ∀ c, G c :=
  fun c => k c.x.o1 c.x.a1 c.x.c1 c.x.o2 c.x.a2 c.x.c2 c.h c.k c.vs c.ns c.tl c.c c.t1 c.t2
theorem FSt.all {G : FSt → Prop} (k : ∀ o1 b1 oc1 o2 b2 oc2 n ns tl t, G ⟨⟨o1, b1, oc1, o2, b2, oc2⟩, n, ns, tl, t⟩) : ∀ c, G c :=
  fun c => k c.x.o1 c.x.a1 c.x.c1 c.x.o2 c.x.a2 c.x.c2 c.n c.ns c.tl c.t
theorem tups_cons {v : Value} {r : List Value} {ns : List (Int × Int)} {tl : Ledger} {G : Prop} (h : Tups (v :: r) ns tl)
    (k : ∀ T a b t1 t2 c ns' tl', v = .ref T → ns = (a, b) :: ns' → tl = (T, intTup2 a t1 b t2 c) :: tl' → Tups r ns' tl' → G) : G := by
  cases h with
  | cons h => exact k _ _ _ _ _ _ _ _ rfl rfl rfl h
theorem tups_nil {ns : List (Int × Int)} {tl : Ledger} (h : Tups [] ns tl) : ns = [] ∧ tl = [] := by cases h; exact ⟨rfl, rfl⟩
theorem len_of {n : Nat} {k : Int} (h0 : 0 ≤ k) (h : (n : Int) + k ≤ 100) : n ≤ 100 := Int.ofNat_le.mp (Int.le_trans (Int.le_add_of_nonneg_right h0) h)
theorem room_k {n : Nat} {k r : Int} (h : (n : Int) + k ≤ 100) (hr : r < k) : ((n + 1 : Nat) : Int) + r ≤ 100 := by omega
theorem four_box {a : Int} (h0 : 0 < a) (h1 : a < 1000) : 0 < 4 * a ∧ 4 * a < 1000000 := by omega
theorem mul_less {x b : Int} (h0 : 0 < b) (h1 : b < 1000) : IntMulOk x (b - 1) := mulOk_of (by omega) (by omega)
theorem mul_both {x a b : Int} (a0 : 0 < a) (a1 : a < 1000) (h0 : 0 < b) (h1 : b < 1000) : IntMulOk x (a + b - 1) := mulOk_of (by omega) (by omega)
theorem eRun_end {h1 k1 : Int} {ns res : List (Int × Int)} (h : ∃ f : Nat, k1 ≤ f ∧ eRun f h1 k1 ns = res) (hl : ¬ 1 < k1) : res = ns := by
  obtain ⟨f, -, e⟩ := h
  rw [← e]
  cases f with
  | zero => rfl
  | succ f => rw [eRun, if_neg hl]
noncomputable def EInv (R : Addr) (h k : Int) (c : ESt) : Prop :=
  c.x.ok ∧ Tups c.vs c.ns c.tl ∧ -1000000 < c.h ∧ c.h < 1000000 ∧ 0 ≤ c.k ∧ c.k < 100 ∧ (AllNe R c.tl ∧ AllNe 30 c.tl ∧ AllNe c.x.a1 c.tl ∧ AllNe 37 c.tl ∧ AllNe c.x.a2 c.tl) ∧ (¬ (@Eq Nat R c.x.a1) ∧ ¬ (@Eq Nat R c.x.a2)) ∧
    (c.vs.length : Int) + c.k ≤ 100 ∧ ∃ f : Nat, c.k ≤ f ∧ eRun f c.h c.k c.ns = eRun k.toNat h k []
noncomputable def FInv (R : Addr) (z : Int) (todo : List Value) (c : FSt) : Prop :=
  c.x.ok ∧ Tups todo c.ns c.tl ∧ (AllNe R c.tl ∧ AllNe 30 c.tl ∧ AllNe c.x.a1 c.tl ∧ AllNe 37 c.tl ∧ AllNe c.x.a2 c.tl) ∧ (¬ (@Eq Nat R c.x.a1) ∧ ¬ (@Eq Nat R c.x.a2)) ∧ eSafe c.ns c.n ∧ eCount c.ns c.n = z
theorem by_euclid_tells {w : World} {p : Program} {loose : List Str} {mean : ExcName → Option Value} {mg mb : Str → Option Value} (rest : Ledger) {h k : Int} {th tk0 : Tok} {x : TSt} (hh0 : -1000000 < h) (hh1 : h < 1000000) (hk1 : 1 < k) (hkk : k < 100) (hsafe : eSafe (eRun k.toNat h k []) 0) (hT : x.ok) (ap : Apart x.led rest) :
    Tells w p loose mean mg mb 137 120 2000 (x.led ++ rest) [.int h th, .int k tk0]
      (fun ok => ∀ (x' : TSt) (t : Tok), x'.ok → AllNe x'.a1 rest → AllNe x'.a2 rest → ok (.int (byE h k) t) (x'.led ++ rest)) := by
  obtain ⟨o1, b1, oc1, o2, b2, oc2⟩ := x
  dsimp only [TSt.led, TSt.ok] at hT ap ⊢
  unfold Tells
  intro dp un gd cn cs aa ccd cl outer A₀ base h₀ L m s Q E B F X N T hk hd hu hret
  refine wpAny_call ?_
  (k_dflt (refine' codeR_def ?k1 ?k2 ?k3 ?k4 ?ap ?k5 ?kA ?kF ?kK ?k6 ?k7 ?k8 ?k9 ?kB ?_ ?c2 ?c3 ?c4 ?c5; (case kA => exact rfl); (case kF => exact rfl); (case kK => assumption); (case k1 => k_asm); (case k2 => k_asm); (case k3 => k_asm); (case k4 => k_asm); (case ap => assumption); (case k5 => k_asm); (case k6 => k_is); (case k7 => k_is); (case k8 => first | exact roomC hd | ktr_room); (case k9 => first | exact BindsTo.of_eq rfl | exact kp_binds (by k_in) (fun _ => rfl) | fail "no rule for these arguments"); (case c5 => decide); (case kB => exact locs rfl); (case c2 => exact rfl); (case c3 => exact rfl); (case c4 => exact rfl); k_whole; intro g' L' h' FG' F' N' B' X' T' hR' l1 Q' hQ'; (try k_lt l1); (try dsimp only); (try k_lift B'); (try k_fold)))
  k_steps
  refine Stopped.go ?_
  ((rename Fr _ _ _ _ => F9); (rename News _ _ _ _ => N9); (try simp only [List.push_toArray] at N9))
  rename_i R _ lR _
  refine' while_state (σ := ESt) (fun c => (R, listOf c.vs.reverse.toArray c.c) :: (30, c.x.o1) :: (c.x.a1, c.x.c1) :: (37, c.x.o2) :: (c.x.a2, c.x.c2) :: c.tl) (fun c => [(Str.ofString "h", Value.int c.h c.t1), (Str.ofString "k", Value.int c.k c.t2)])
    [Str.ofString "h", Str.ofString "k", Str.ofString "rest"] (EInv R h k) (fun c => c.k.toNat) ⟨⟨o1, b1, oc1, o2, b2, oc2⟩, h, k, [], [], [], ?t0, ?t1, ?t2⟩ F9 N9 ?a1 ?a2 ?a3 ?a4
  case a4 => first | passes_own | with_unfolding_all passes_own
  case a1 => ((try dsimp only); intro p hp; rcases List.mem_cons.mp hp with e | hp; (rw [e]; exact rfl); rw [List.mem_singleton.mp hp]; exact rfl)
  case a2 => exact ⟨hT, .nil, hh0, hh1, by dsimp only; omega, hkk, ⟨trivial, trivial, trivial, trivial, trivial⟩, ⟨by dsimp only; k_ne, by dsimp only; k_ne⟩, by simp; omega, k.toNat, by dsimp only; omega, rfl⟩
  case a3 =>
    clear F9 N9 hT
    refine ESt.all ?_
    intro o1 b1 oc1 o2 b2 oc2 h1 k1 vs ns tl cc u1 u2 u h9 tk9 hI F1 N1 Q1 Q2 hQ1 hQ2
    (have hT := hI.1; have hV := hI.2.1; have p0 := hI.2.2.1; have p1 := hI.2.2.2.1; have p2 := hI.2.2.2.2.1; have p3 := hI.2.2.2.2.2.1; have q1 := hI.2.2.2.2.2.2.1.1; have q2 := hI.2.2.2.2.2.2.1.2.1; have q3 := hI.2.2.2.2.2.2.1.2.2.1; have q4 := hI.2.2.2.2.2.2.1.2.2.2.1; have q5 := hI.2.2.2.2.2.2.1.2.2.2.2; have q6 := hI.2.2.2.2.2.2.2.1.1; have q7 := hI.2.2.2.2.2.2.2.1.2; have p6 := hI.2.2.2.2.2.2.2.2.1; have hf := hI.2.2.2.2.2.2.2.2.2; clear hI)
    dsimp only [TSt.ok] at hT hV p0 p1 p2 p3 hf p6 q1 q2 q3 q4 q5 q6 q7 F1 N1
    dsimp only [kstB] at F1
    have hvl : vs.reverse.length ≤ 100 := by rw [List.length_reverse]; exact len_of p2 p6
    replace p6 := Held.mk p6
    k_steps
    · refine Stopped.go ?_
      rename (1 < k1) => hl0
      have hk0 : 0 < k1 := Int.lt_trans (by decide) hl0
      (k_dflt (refine' tells_use (div_use (div_tells (a := h1) (b := k1) p0 p1 (Int.ne_of_gt hk0) (Int.lt_trans (by decide) hk0) (Int.lt_trans p3 (by decide))) _ hT ?ap) ?u19k1 ?u19k2 ?u19k3 ?u19k4 ?u19k5 ?u19kK ?u19kd ?u19ku ?u19kR; (case u19k1 => k_asm); (case u19k2 => k_asm); (case u19k3 => k_asm); (case u19k4 => exact newsPicks (by k_asm) (by (repeat' (first | exact Picks.nil | (show Picks _ _ _; refine' Picks.cons (by (repeat' (first | exact Pick.head | refine' Pick.tail ?_))) ?_))))); (case u19k5 => k_asm); (case u19kK => first | exact rfl | assumption); (case u19kd => first | exact roomA (a := dp) (c := 1) hd rfl | exact hrd9 | ktr_room); (case u19ku => first | exact roomA (a := un) (c := 3) hu rfl | exact hru9 | ktr_units)))
      case ap => ((refine apartC ?_ (apartC ?_ (apartC ?_ (apart1 ?_)))) <;> ((try dsimp only); (repeat' (first | exact allNe_nil | with_reducible assumption | refine allNe_cons ?_ ?_ | refine And.intro ?_ ?_ | k_ne))))
      dsimp only [DivRet]
      intro D a1' a2' o1' oc1' o2' oc2' v1 v2 cw hT' hD1 hD2 hD3 hn4 hn5 hn6 hn7 hh tk1 F2 N2
      (have hu1 := hT'.2.2.1; have hu2 := hT'.2.2.2.1; have hu3 := hT'.2.2.2.2)
      (have hd1 := hD1.2; replace hD1 := hD1.1)
      (have hd2 := hD2.2; replace hD2 := hD2.1)
      (have hd3 := hD3.2; replace hD3 := hD3.1)
      have hr := fm_bound h1 hk0
      (have r0 := hr.1; have r1 := hr.2; clear hr)
      k_sweep
      k_steps
      ((rename Fr _ _ _ _ => F9); (rename News _ _ _ _ => N9); (try simp only [List.push_toArray] at N9))
      rename AllLt _ _ => hlt
      have hlt8 := allNe_lt hlt.2.2.2.2.2.2
      simp only [← List.reverse_cons] at N9
      refine hQ1 _ _ ?_
      refine' while_end (⟨⟨_, a1', _, _, a2', _⟩, _, _, .ref ?T :: vs, (h1.fmod k1, k1) :: ns, (?T, intTup2 (h1.fmod k1) _ k1 _ _) :: tl, _, _, _⟩ : ESt) F9 N9 ?s1 ?s3 ?s4 ?s5
      case s1 => ((try dsimp only); (repeat' (first | (refine sub_cons (by (first | ((repeat' (first | (with_reducible exact mem_h) | (with_reducible refine mem_t ?_))); done) | k_mem)) ?_) | (with_reducible exact sub_id) | refine sub_skip ?_)))
      case s3 => ((try dsimp only); intro p hp; rcases List.mem_cons.mp hp with e | hp; (rw [e]; exact rfl); rw [List.mem_singleton.mp hp]; exact rfl)
      case s4 => ((try dsimp only); ksw_same)
      case s5 =>
        refine hf.elim ?_
        intro f hf
        cases f with
        | zero => exact absurd hf.1 (Int.not_le.mpr hk0)
        | succ f =>
          have p5 := hf.2
          simp only [eRun, if_pos hl0] at p5
          refine ⟨⟨hT', .cons hV, Int.lt_trans (by decide) hk0, Int.lt_trans p3 (by decide), r0, Int.lt_trans r1 p3, ⟨?_, ?_, ?_, ?_, ?_⟩, ⟨hD2, hD3⟩, room_k p6.go r1, f, Int.le_of_lt_add_one (Int.lt_of_lt_of_le r1 hf.1), p5⟩, toNat_lt r1 hk0⟩
          · (dsimp only; ((try dsimp only); (repeat' (first | exact allNe_nil | with_reducible assumption | refine allNe_cons ?_ ?_ | refine And.intro ?_ ?_ | k_ne))))
          · (dsimp only; ((try dsimp only); (repeat' (first | exact allNe_nil | with_reducible assumption | refine allNe_cons ?_ ?_ | refine And.intro ?_ ?_ | k_ne))))
          · (dsimp only; ((try dsimp only); (repeat' (first | exact allNe_nil | with_reducible assumption | refine allNe_cons ?_ ?_ | refine And.intro ?_ ?_ | k_ne))))
          · (dsimp only; ((try dsimp only); (repeat' (first | exact allNe_nil | with_reducible assumption | refine allNe_cons ?_ ?_ | refine And.intro ?_ ?_ | k_ne))))
          · (dsimp only; ((try dsimp only); (repeat' (first | exact allNe_nil | with_reducible assumption | refine allNe_cons ?_ ?_ | refine And.intro ?_ ?_ | k_ne))))
    · rename (¬ 1 < k1) => hl0
      refine hQ2 _ ?_
      (try dsimp only)
      k_steps
      refine Stopped.go ?_
      ((rename Fr _ _ _ _ => F9); (rename News _ _ _ _ => N9); (try simp only [List.push_toArray] at N9))
      have hns := eRun_end hf hl0
      rw [hns] at hsafe
      refine' revT_state (σ := FSt) (lo := listOf vs.reverse.toArray cc) (vs := vs.reverse) (fun c => (R, listOf vs.reverse.toArray cc) :: (30, c.x.o1) :: (c.x.a1, c.x.c1) :: (37, c.x.o2) :: (c.x.a2, c.x.c2) :: c.tl) (fun c => [(Str.ofString "count", Value.int c.n c.t)])
        [Str.ofString "count", Str.ofString "a", Str.ofString "b", Str.ofString "left"] (FInv R (byE h k)) ⟨⟨o1, b1, oc1, o2, b2, oc2⟩, 0, ns, tl, ?t3⟩ ?g0 F9 N9 ?g1 ?g2 ?g3 ?g4 ?g5 ?g6 ?g7 ?g8
      case g0 => exact rfl
      case g1 =>
        rename AllLt _ _ => hlt
        have hlt7 := allNe_lt hlt.2.2.2.2.2
        ((try dsimp only); (repeat' (first | exact allNe_nil | with_reducible assumption | refine allNe_cons ?_ ?_ | refine And.intro ?_ ?_ | k_ne)))
      case g2 => intro c; exact List.Mem.head _
      case g3 => exact rfl
      case g4 => exact rfl
      case g5 => ((try dsimp only); intro p hp; rw [List.mem_singleton.mp hp]; exact rfl)
      case g6 => exact ⟨hT, by rw [List.reverse_reverse]; exact hV, ⟨q1, q2, q3, q4, q5⟩, ⟨q6, q7⟩, hsafe, by unfold byE; rw [hns]⟩
      case g7 =>
        clear F9 N9 hT q1 q2 q3 q4 q5 q6 q7 hV hns hsafe hf
        (try clear F1)
        (try clear N1)
        intro v r c9
        revert c9
        refine FSt.all ?_
        intro o1 b1 oc1 o2 b2 oc2 n ns tl u3 u it h9 tk9 hit hI9 hI F1 N1 Q1 hQ1
        refine tups_cons hI9.2.1 ?_
        intro T a b w1 w2 cz ns' tl' ev en et hV
        have hT := hI9.1
        have hq := hI9.2.2.1
        have hq67 := hI9.2.2.2.1
        have hs := hI9.2.2.2.2.1
        have hc := hI9.2.2.2.2.2
        clear hI9
        dsimp only [TSt.ok] at hT hq hq67 hs hc hI F1 N1 en et
        rw [en] at hs hc
        rw [et] at hq hI N1
        clear en et
        dsimp only [kstB] at F1
        (have q1 := hq.1.1; have z1 := hq.1.2; have q2 := hq.2.1.1; have z2 := hq.2.1.2; have q3 := hq.2.2.1.1; have z3 := hq.2.2.1.2; have q4 := hq.2.2.2.1.1; have z4 := hq.2.2.2.1.2; have q5 := hq.2.2.2.2.1; have z5 := hq.2.2.2.2.2; clear hq)
        (have q6 := hq67.1; have q7 := hq67.2; clear hq67)
        (have i1 := hI.1; have i2 := hI.2.1; have i3 := hI.2.2.1; have i4 := hI.2.2.2.1; have i5 := hI.2.2.2.2.1; have i6 := hI.2.2.2.2.2.1; have i7 := hI.2.2.2.2.2.2; clear hI)
        (have s1 := hs.1.1; have s2 := hs.1.2.1; have s5 := hs.1.2.2.1; have s6 := hs.1.2.2.2.1; have s3 := hs.1.2.2.2.2.1; have s4 := hs.1.2.2.2.2.2; replace hs := hs.2)
        rw [ev]
        clear ev
        have hb4 := four_box s5 s6
        have ha4 := four_box s1 s2
        have hm1 : IntMulOk (a - 1) (b - 1) := mul_less s5 s6
        have hm2 : IntMulOk ((a - 1) * (b - 1)) (a + b - 1) := mul_both s1 s2 s5 s6
        have hm4 : IntMulOk (4 * b) n := mulOk_lf (Int.le_trans (by decide) (Int.le_of_lt hb4.1)) (Int.le_of_lt hb4.2)
        k_steps
        refine Stopped.go ?_
        (k_dflt (refine' tells_use (div_use (div_tells s3 s4 (Int.ne_of_gt ha4.1) (Int.lt_trans (by decide) ha4.1) ha4.2) _ hT ?aq) ?u20k1 ?u20k2 ?u20k3 ?u20k4 ?u20k5 ?u20kK ?u20kd ?u20ku ?u20kR; (case u20k1 => k_asm); (case u20k2 => k_asm); (case u20k3 => k_asm); (case u20k4 => exact newsPicks (by k_asm) (by (repeat' (first | exact Picks.nil | (show Picks _ _ _; refine' Picks.cons (by (repeat' (first | exact Pick.head | refine' Pick.tail ?_))) ?_))))); (case u20k5 => k_asm); (case u20kK => first | exact rfl | assumption); (case u20kd => first | exact roomA (a := dp) (c := 1) hd rfl | exact hrd9 | ktr_room); (case u20ku => first | exact roomA (a := un) (c := 3) hu rfl | exact hru9 | ktr_units)))
        case aq => ((refine apartC ?_ (apartC ?_ (apartC ?_ (apart1 ?_)))) <;> ((try dsimp only); (repeat' (first | exact allNe_nil | with_reducible assumption | refine allNe_cons ?_ ?_ | refine And.intro ?_ ?_ | k_ne))))
        dsimp only [DivRet]
        intro D a1' a2' o1' oc1' o2' oc2' v1 v2 cw hT' hD1 hD2 hD3 hn4 hn5 hn6 hn7 hh tk1 F2 N2
        (have hu1 := hT'.2.2.1; have hu2 := hT'.2.2.2.1; have hu3 := hT'.2.2.2.2)
        (have d11 := hD1.1; have d12 := hD1.2.1; have d13 := hD1.2.2.1; have d14 := hD1.2.2.2; clear hD1)
        (have d21 := hD2.1; have d22 := hD2.2.1; have d23 := hD2.2.2.1; have d24 := hD2.2.2.2; clear hD2)
        (have d31 := hD3.1; have d32 := hD3.2.1; have d33 := hD3.2.2.1; have d34 := hD3.2.2.2; clear hD3)
        k_sweep
        k_steps
        · rename (_ ≠ (0 : Int)) => hl
          refine hQ1 _ _ ?_
          dsimp only [TurnPost]
          k_steps
          (refine hQ' _ _ ?_; (try dsimp only); k_steps; unfold ThenRest; (rename Fr _ _ _ _ => kF9); (rename News _ _ _ _ => kN9); intro hRest; (try dsimp only))
          simp only [eCount, if_neg hl] at hc
          rw [← hc] at hret
          exact hret ⟨o1', a1', oc1', o2', a2', oc2'⟩ _ hT' (fresh_ne (by assumption) (by k_mem) hR') (fresh_ne (by assumption) (by k_mem) hR') _ _ kF9 (newsPut kN9 (by k_mem) (newsPut kN9 (by k_mem) (newsPut kN9 (by k_mem) (newsPut kN9 (by k_mem) hRest))))
        · rename (Int.fmod _ _ = (0 : Int)) => hl
          ((rename Fr _ _ _ _ => F9); (rename News _ _ _ _ => N9); (try simp only [List.push_toArray] at N9))
          refine hQ1 _ _ ?_
          refine' turn_end (⟨⟨_, a1', _, _, a2', _⟩, _, ns', tl', _⟩ : FSt) F9 N9 ?e1 ?e2 ?e3 ?e4 ?e5 ?e6
          case e1 => k_mem
          case e2 => ((try dsimp only); (repeat' (first | (refine sub_cons (by (first | ((repeat' (first | (with_reducible exact mem_h) | (with_reducible refine mem_t ?_))); done) | k_mem)) ?_) | (with_reducible exact sub_id) | refine sub_skip ?_)))
          case e3 => ((try dsimp only); (repeat' (first | exact allNe_nil | with_reducible assumption | refine allNe_cons ?_ ?_ | refine And.intro ?_ ?_ | k_ne)))
          case e4 => ((try dsimp only); intro p hp; rw [List.mem_singleton.mp hp]; exact rfl)
          case e5 => ((try dsimp only); ksw_same)
          case e6 => exact ⟨hT', hV, ⟨z1, z2, d24, z4, d34⟩, ⟨d22, d32⟩, hs, by simpa only [eCount, if_pos hl] using hc⟩
      case g8 =>
        refine FSt.all ?_
        intro o1 b1 oc1 o2 b2 oc2 n ns tl u3 u h9 tk9 hI F1 N1
        have hT := hI.1
        have hc := hI.2.2.2.2.2
        have hV := tups_nil hI.2.1
        clear hI
        dsimp only [TSt.ok] at hT hc hV F1 N1
        rw [hV.1] at hc
        rw [hV.2] at N1
        dsimp only [eCount] at hc
        clear hV
        dsimp only [kstB] at F1
        clear F9 N9
        k_steps
        (refine hQ' _ _ ?_; (try dsimp only); k_steps; unfold ThenRest; (rename Fr _ _ _ _ => kF9); (rename News _ _ _ _ => kN9); intro hRest; (try dsimp only))
        rw [← hc] at hret
        exact hret ⟨o1, b1, oc1, o2, b2, oc2⟩ _ hT (fresh_ne (by assumption) (by k_mem) hR') (fresh_ne (by assumption) (by k_mem) hR') _ _ kF9 (newsPut kN9 (by k_mem) (newsPut kN9 (by k_mem) (newsPut kN9 (by k_mem) (newsPut kN9 (by k_mem) hRest))))
end Mine
end
namespace Mine
section
variable {prog : Program} {w : World} {A : Around} {h₀ : Heap} {L : Addr} {m : Str → Option Value} {env : Env} {σ : Type}
noncomputable def CompTurn (h₀ : Heap) (L : Addr) (m : Str → Option Value) (s : Shared) (I : Addr) (oI : Obj) (C : Addr) (oC : Obj) (D : Addr) (oD : Obj) (Led : σ → Ledger) (J : Value → σ → Prop) (y : Value) (s₂ : Shared) : Prop :=
  ∃ (c' : σ) (h' : Heap) (tk : Nat) (news' : Ledger), s₂ = { s with heap := h', toks := tk } ∧ Fr h₀ L h' m ∧ News h₀ L h' news' ∧ (∀ p ∈ (I, oI) :: (C, oC) :: (D, oD) :: Led c', p ∈ news') ∧ LCg.Off3 I C D (Led c') ∧ J y c'
/-- a comprehension with one name: an invariant over the turns made -/
theorem comp_state {elt : Expr} {x : Str} {scope : Scope} {cl : List (Str × Addr)} {s : Shared} {S : Ledger → Prop} {P : Nat → Value → Prop} {Fin : List Value → Ledger → Prop} {n : Nat}
    (Led : σ → Ledger) (J : Nat → List Value → σ → Prop) (c₀ : σ) (hS : ∀ c, S (Led c)) (h0 : J 0 [] c₀)
    (turn : ∀ (i : Nat) (v : Value) (ys : List Value) (c : σ) I oI C oC D m₂ h tk (E' : Value → Shared → Prop), i < n → J i ys c → P i v → LCg.NsObj oC m₂ → m₂ x = some v → Fr h₀ L h m → News h₀ L h ((I, oI) :: (C, oC) :: (D, LCg.lst ys) :: Led c) → LCg.Off3 I C D (Led c) → ((@Ne Nat I C) ∧ (@Ne Nat I D) ∧ (@Ne Nat C D)) →
      wpAny (model prog w) A (eval elt (compEnvC scope cl C env)) (CompTurn h₀ L m { s with heap := h, toks := tk } I oI C oC D (LCg.lst ys) Led (fun y c' => J (i + 1) (ys ++ [y]) c')) E' { s with heap := h, toks := tk })
    (done : ∀ (c : σ) (ys : List Value), J n ys c → Fin ys (Led c)) :
    LCg.CompRest prog w A h₀ L m env elt x scope cl s S P Fin n 0 [] (Led c₀) := by
  have main : ∀ (k i : Nat) (ys : List Value) (c : σ), i + k = n → J i ys c → LCg.CompRest prog w A h₀ L m env elt x scope cl s S P Fin k i ys (Led c) := by
    intro k
    induction k with
    | zero =>
      intro i ys c hi hj
      have : i = n := by omega
      subst this
      exact done c ys hj
    | succ k ih =>
      intro i ys c hi hj v I oI C oC D m₂ h tk E' hp hns hx F N off hne
      refine wpAny_mono (turn i v ys c I oI C oC D m₂ h tk E' (by omega) hj hp hns hx F N off hne) (fun y s₂ q => ?_) fun _ _ e => e
      obtain ⟨c', h', tk', news', e, F', N', sub, off', hj'⟩ := q
      exact ⟨h', tk', Led c', e, F', fun p hp => N' p (sub p hp), off', hS c', ih (i + 1) (ys ++ [y]) c' (by omega) hj'⟩
  exact main n 0 [] c₀ (by omega) h0
end
/-- no way of raising, and a free end -/
theorem hideQE {α : Type} {M : Model} {A : Around} {t : Sem α} {Q : α → Shared → Prop} {E : Value → Shared → Prop} {s : Shared}
    (h : ∀ Q' : α → Shared → Prop, (∀ v s', Q v s' → Q' v s') → wpAny M A t Q' (fun _ _ => False) s) : wpAny M A t Q E s :=
  wpAny_mono (h Q fun _ _ x => x) (fun _ _ x => x) fun _ _ x => x.elim
end Mine
namespace Mine
theorem Tups.snoc {T : Addr} {a b : Int} {t1 t2 : Tok} {c : Nat} : ∀ {vs ns tl}, Tups vs ns tl → Tups (vs ++ [.ref T]) (ns ++ [(a, b)]) (tl ++ [(T, intTup2 a t1 b t2 c)])
  | _, _, _, .nil => .cons .nil
  | _, _, _, .cons h => .cons h.snoc
theorem Tups.len : ∀ {vs ns tl}, Tups vs ns tl → vs.length = ns.length
  | _, _, _, .nil => rfl
  | _, _, _, .cons h => by simp [h.len]
theorem Tups.at : ∀ {vs ns tl}, Tups vs ns tl → ∀ (i : Nat) (v : Value), vs[i]? = some v → ∃ (T : Addr) (a b : Int) (t1 t2 : Tok) (c : Nat), v = .ref T ∧ ns[i]? = some (a, b) ∧ (T, intTup2 a t1 b t2 c) ∈ tl
  | _, _, _, .nil, i, v, h => by simp at h
  | _, _, _, .cons k, 0, v, h => by
    simp at h
    exact ⟨_, _, _, _, _, _, h.symm, rfl, .head _⟩
  | _, _, _, .cons k, i + 1, v, h => by
    obtain ⟨T, a, b, t1, t2, c, e1, e2, m⟩ := k.at i v (by simpa using h)
    exact ⟨T, a, b, t1, t2, c, e1, by simpa using e2, .tail _ m⟩
theorem AllNe.snoc {d : Addr} {e : Addr × Obj} : ∀ {l : Ledger}, AllNe d l → ¬ (@Eq Nat e.1 d) → AllNe d (l ++ [e])
  | [], _, h => ⟨h, trivial⟩
  | _ :: _, k, h => ⟨k.1, AllNe.snoc k.2 h⟩
theorem sub_snoc {tl l : Ledger} {e : Addr × Obj} (h : ∀ p ∈ tl, p ∈ l) (he : e ∈ l) : ∀ p ∈ tl ++ [e], p ∈ l := fun p hp => by
  rcases List.mem_append.mp hp with hp | hp
  · exact h p hp
  · rw [List.mem_singleton.mp hp]; exact he
theorem off3_ne {I C D : Addr} : ∀ {l : Ledger}, LCg.Off3 I C D l → AllNe I l ∧ AllNe C l ∧ AllNe D l
  | [], _ => ⟨trivial, trivial, trivial⟩
  | _ :: _, h => let k := off3_ne h.2; ⟨⟨h.1.1, k.1⟩, ⟨h.1.2.1, k.2.1⟩, ⟨h.1.2.2, k.2.2⟩⟩
theorem off3_of {I C D : Addr} : ∀ {l : Ledger}, AllNe I l → AllNe C l → AllNe D l → LCg.Off3 I C D l
  | [], _, _, _ => trivial
  | _ :: _, h, k, q => ⟨⟨h.1, k.1, q.1⟩, off3_of h.2 k.2 q.2⟩
theorem off1_ne {D : Addr} : ∀ {l : Ledger}, LCg.Off1 D l → AllNe D l
  | [], _ => trivial
  | _ :: _, h => ⟨h.1, off1_ne h.2⟩
theorem mul_box {a b : Int} {A B : Nat} (ha : a.natAbs ≤ A) (hb : b.natAbs ≤ B) : -((A * B : Nat) : Int) ≤ a * b ∧ a * b ≤ ((A * B : Nat) : Int) := by
  have h : (a * b).natAbs ≤ A * B := by rw [Int.natAbs_mul]; exact Nat.mul_le_mul ha hb
  omega
theorem jh_box {a h : Int} (h0 : 0 ≤ a) (h1 : a ≤ 12) (h2 : -112 ≤ h) (h3 : h ≤ 112) : -1344 ≤ a * h ∧ a * h ≤ 1344 := mul_box (A := 12) (B := 112) (by omega) (by omega)
theorem sk_box {sd k : Int} (hs : sd = 1 ∨ sd = -1) (h0 : 2 ≤ k) (h1 : k ≤ 12) : sd * k ≠ 0 ∧ -12 ≤ sd * k ∧ sd * k ≤ 12 := by
  rcases hs with rfl | rfl <;> omega
noncomputable def pairOf (h m : Int) (j : Int) : Int × Int := ((j * h).fdiv m, (j * h).fmod m)
noncomputable def pairsOf (h m : Int) (i : Nat) : List (Int × Int) := (rangeKs 0 i).map (pairOf h m)
theorem pairsOf_succ (h m : Int) (i : Nat) : pairsOf h m (i + 1) = pairsOf h m i ++ [(((0 + (i : Int)) * h).fdiv m, ((0 + (i : Int)) * h).fmod m)] := by
  unfold pairsOf rangeKs
  rw [List.range_succ]
  simp [pairOf]
/-- the state while pairs is built -/
structure PSt where
  x : TSt
  ns : List (Int × Int)
  tl : Ledger
noncomputable abbrev lawLed (L : Nat) (x : TSt) (oP oS oH oK : Obj) (tl : Ledger) : Ledger := (30, x.o1) :: (x.a1, x.c1) :: (37, x.o2) :: (x.a2, x.c2) :: (L + 1 + 1 + 1 + 1, oP) :: (L + 1 + 1 + 1, oS) :: (L + 1 + 1, oH) :: (L + 1, oK) :: tl
noncomputable def TailOk (L : Nat) (x : TSt) (tl : Ledger) : Prop :=
  AllNe 30 tl ∧ AllNe x.a1 tl ∧ AllNe 37 tl ∧ AllNe x.a2 tl ∧ AllNe (L + 1 + 1 + 1 + 1) tl ∧ AllNe (L + 1 + 1 + 1) tl ∧ AllNe (L + 1 + 1) tl ∧ AllNe (L + 1) tl
noncomputable def AddrOk (L : Nat) (x : TSt) : Prop :=
  (¬ (@Eq Nat x.a1 (L + 1 + 1 + 1 + 1)) ∧ ¬ (@Eq Nat x.a1 (L + 1 + 1 + 1)) ∧ ¬ (@Eq Nat x.a1 (L + 1 + 1)) ∧ ¬ (@Eq Nat x.a1 (L + 1))) ∧
  ¬ (@Eq Nat x.a2 (L + 1 + 1 + 1 + 1)) ∧ ¬ (@Eq Nat x.a2 (L + 1 + 1 + 1)) ∧ ¬ (@Eq Nat x.a2 (L + 1 + 1)) ∧ ¬ (@Eq Nat x.a2 (L + 1))
structure LowOk (L : Nat) : Prop where
  a : 37 < L
  b : 30 < L
theorem addrOk0 {L : Nat} (h : LowOk L) {o1 c1 o2 c2 : Obj} : AddrOk L ⟨o1, 30, c1, o2, 37, c2⟩ := by
  obtain ⟨h1, h2⟩ := h
  refine ⟨⟨?_, ?_, ?_, ?_⟩, ?_, ?_, ?_, ?_⟩ <;> (dsimp only; omega)
theorem tabs0 : Tabs (tabObj #[]) 30 (tabObj #[]) (tabObj #[]) 37 (tabObj #[]) := ⟨.inl ⟨rfl, rfl, rfl⟩, .inl ⟨rfl, rfl, rfl⟩, by decide, by decide, by decide⟩
theorem tailOk0 {L : Nat} {x : TSt} : TailOk L x [] := ⟨trivial, trivial, trivial, trivial, trivial, trivial, trivial, trivial⟩
theorem ne_symm {a b : Nat} (h : ¬ (@Eq Nat a b)) : ¬ (@Eq Nat b a) := fun e => h e.symm
section
variable {L I C D : Nat} {o1 oc1 o2 oc2 oI oC oD oP oS oH oK : Obj} {b1 b2 : Nat} {tl : Ledger}
/-- at a turn of pairs: the tables stand apart from the rest -/
theorem turn_apart (hlow : LowOk L) (hA : AddrOk L ⟨o1, b1, oc1, o2, b2, oc2⟩) (hT : TailOk L ⟨o1, b1, oc1, o2, b2, oc2⟩ tl)
    (off : LCg.Off3 I C D (lawLed L ⟨o1, b1, oc1, o2, b2, oc2⟩ oP oS oH oK tl)) :
    Apart (tabs4 o1 b1 oc1 o2 b2 oc2) ((I, oI) :: (C, oC) :: (D, oD) :: (L + 1 + 1 + 1 + 1, oP) :: (L + 1 + 1 + 1, oS) :: (L + 1 + 1, oH) :: (L + 1, oK) :: tl) := by
  obtain ⟨⟨y1, y2, y3, y4⟩, y5, y6, y7, y8⟩ := hA
  obtain ⟨z1, z2, z3, z4, -⟩ := hT
  obtain ⟨⟨a1, a2, a3⟩, ⟨a4, a5, a6⟩, ⟨a7, a8, a9⟩, ⟨a10, a11, a12⟩, -⟩ := off
  obtain ⟨h1, h2⟩ := hlow
  refine apartC ⟨ne_symm a1, ne_symm a2, ne_symm a3, ?_, ?_, ?_, ?_, z1⟩ (apartC ⟨ne_symm a4, ne_symm a5, ne_symm a6, ne_symm y1, ne_symm y2, ne_symm y3, ne_symm y4, z2⟩ (apartC ⟨ne_symm a7, ne_symm a8, ne_symm a9, ?_, ?_, ?_, ?_, z3⟩ (apart1 ⟨ne_symm a10, ne_symm a11, ne_symm a12, ne_symm y5, ne_symm y6, ne_symm y7, ne_symm y8, z4⟩)))
  all_goals (clear y1 y2 y3 y4 y5 y6 y7 y8 a1 a2 a3 a4 a5 a6 a7 a8 a9 a10 a11 a12; dsimp only; omega)
theorem turn_next {T : Nat} {t : Obj} (hlow : LowOk L) (hT : TailOk L ⟨o1, b1, oc1, o2, b2, oc2⟩ tl) (off : LCg.Off3 I C D (lawLed L ⟨o1, b1, oc1, o2, b2, oc2⟩ oP oS oH oK tl)) {o1' oc1' o2' oc2' : Obj} {b1' b2' : Nat}
    (hD1 : AllNe T ((I, oI) :: (C, oC) :: (D, oD) :: (L + 1 + 1 + 1 + 1, oP) :: (L + 1 + 1 + 1, oS) :: (L + 1 + 1, oH) :: (L + 1, oK) :: tl))
    (hD2 : AllNe b1' ((I, oI) :: (C, oC) :: (D, oD) :: (L + 1 + 1 + 1 + 1, oP) :: (L + 1 + 1 + 1, oS) :: (L + 1 + 1, oH) :: (L + 1, oK) :: tl))
    (hD3 : AllNe b2' ((I, oI) :: (C, oC) :: (D, oD) :: (L + 1 + 1 + 1 + 1, oP) :: (L + 1 + 1 + 1, oS) :: (L + 1 + 1, oH) :: (L + 1, oK) :: tl))
    (h1 : ¬ (@Eq Nat T 30)) (h2 : ¬ (@Eq Nat T b1')) (h3 : ¬ (@Eq Nat T 37)) (h4 : ¬ (@Eq Nat T b2')) :
    AddrOk L ⟨o1', b1', oc1', o2', b2', oc2'⟩ ∧ TailOk L ⟨o1', b1', oc1', o2', b2', oc2'⟩ (tl ++ [(T, t)]) ∧ LCg.Off3 I C D (lawLed L ⟨o1', b1', oc1', o2', b2', oc2'⟩ oP oS oH oK (tl ++ [(T, t)])) := by
  obtain ⟨z1, z2, z3, z4, z5, z6, z7, z8⟩ := hT
  obtain ⟨a1, -, a3, -, a5, a6, a7, a8, a9⟩ := off
  obtain ⟨u1, u2, u3, u4, u5, u6, u7, u8⟩ := hD1
  obtain ⟨v1, v2, v3, v4, v5, v6, v7, v8⟩ := hD2
  obtain ⟨w1, w2, w3, w4, w5, w6, w7, w8⟩ := hD3
  obtain ⟨c1, c2, c3⟩ := off3_ne a9
  refine ⟨⟨⟨ne_symm v4, ne_symm v5, ne_symm v6, ne_symm v7⟩, ne_symm w4, ne_symm w5, ne_symm w6, ne_symm w7⟩,
    ⟨z1.snoc h1, v8.snoc h2, z3.snoc h3, w8.snoc h4, z5.snoc (ne_symm u4), z6.snoc (ne_symm u5), z7.snoc (ne_symm u6), z8.snoc (ne_symm u7)⟩,
    a1, ⟨ne_symm v1, ne_symm v2, ne_symm v3⟩, a3, ⟨ne_symm w1, ne_symm w2, ne_symm w3⟩, a5, a6, a7, a8, off3_of (c1.snoc (ne_symm u1)) (c2.snoc (ne_symm u2)) (c3.snoc (ne_symm u3))⟩
end
end Mine
namespace Mine
section
variable {prog : Program} {w : World} {A : Around} {h₀ : Heap} {L : Addr} {m : Str → Option Value} {env : Env}
noncomputable def IntTurn (h₀ : Heap) (L : Addr) (m : Str → Option Value) (s : Shared) (led : Ledger) (z : Int) (y : Value) (s₂ : Shared) : Prop :=
  ∃ (h' : Heap) (tk : Nat) (t : Tok), s₂ = { s with heap := h', toks := tk } ∧ y = .int z t ∧ Fr h₀ L h' m ∧ News h₀ L h' led
theorem int_turn {s : Shared} {led led' : Ledger} {z z' : Int} {h' : Heap} {tk : Nat} {t : Tok} (F : Fr h₀ L h' m) (N : News h₀ L h' led') (e : z' = z) (sub : ∀ p ∈ led, p ∈ led') : IntTurn h₀ L m s led z (.int z' t) { s with heap := h', toks := tk } :=
  ⟨h', tk, t, rfl, by rw [e], F, newsSub N sub⟩
/-- [elt for a, b in pairs]: ints of a list of tuples of ints -/
theorem pairInts {elt : Expr} {x x₂ : Str} {scope : Scope} {cl : List (Str × Addr)} {s : Shared} {S : Ledger → Prop} {Fin : List Value → Ledger → Prop} {news tl : Ledger} {vs : List Value} {ns : List (Int × Int)}
    (g : Int × Int → Int) (hV : Tups vs ns tl) (hsub : ∀ p ∈ tl, p ∈ news) (hS : S news)
    (turn : ∀ (a b : Int) (t1 t2 : Tok) I oI C oC D m₂ ys h tk (E' : Value → Shared → Prop), (a, b) ∈ ns → LCg.NsObj oC m₂ → m₂ x = some (.int a t1) → m₂ x₂ = some (.int b t2) → Fr h₀ L h m → News h₀ L h ((I, oI) :: (C, oC) :: (D, LCg.lst ys) :: news) → LCg.Off3 I C D news →
      wpAny (model prog w) A (eval elt (compEnvC scope cl C env)) (IntTurn h₀ L m { s with heap := h, toks := tk } ((I, oI) :: (C, oC) :: (D, LCg.lst ys) :: news) (g (a, b))) E' { s with heap := h, toks := tk })
    (fin : ∀ ys, IntsAre ys (ns.map g) → Fin ys news) :
    LCp.CompRestP prog w A h₀ L m env elt x x₂ scope cl s S (fun i v => vs.toArray[i]? = some v) Fin vs.toArray.size 0 [] news := by
  have main : ∀ (k i : Nat) (ys : List Value), i + k = vs.length → IntsAre ys ((ns.take i).map g) → LCp.CompRestP prog w A h₀ L m env elt x x₂ scope cl s S (fun i v => vs.toArray[i]? = some v) Fin k i ys news := by
    intro k
    induction k with
    | zero =>
      intro i ys hi hy
      have e : i = ns.length := by rw [← hV.len]; omega
      rw [e, List.take_length] at hy
      exact fin ys hy
    | succ k ih =>
      intro i ys hi hy v hv
      obtain ⟨T, a, b, t1, t2, c, e1, e2, hm⟩ := hV.at i v (by simpa using hv)
      refine ⟨T, _, .int a t1, .int b t2, c, e1, hsub _ hm, rfl, rfl, ?_⟩
      intro I oI C oC D m₂ h tk E' hC hx hx2 F N off hne
      refine wpAny_mono (turn a b t1 t2 I oI C oC D m₂ ys h tk E' (List.mem_of_getElem? e2) hC hx hx2 F N off) (fun y s₂ q => ?_) fun _ _ e => e
      obtain ⟨h', tk', t, e, hy', F', N'⟩ := q
      refine ⟨h', tk', news, e, F', N', off, hS, ?_⟩
      rw [hy']
      refine ih (i + 1) _ (by omega) ?_
      rw [List.take_add_one, e2]
      simpa using IntsAre.append hy (.cons (g (a, b)) t .nil)
  have e : vs.toArray.size = vs.length := by simp
  rw [e]
  exact main vs.length 0 [] (by omega) (by simp only [List.take_zero, List.map_nil]; exact .nil)
/-- [elt for x in range(n)]: ints -/
theorem rangeInts {elt : Expr} {x : Str} {scope : Scope} {cl : List (Str × Addr)} {s : Shared} {S : Ledger → Prop} {Fin : List Value → Ledger → Prop} {news : Ledger} {n : Nat}
    (g : Int → Int) (hS : S news)
    (turn : ∀ (i : Nat) (t : Tok) I oI C oC D m₂ ys h tk (E' : Value → Shared → Prop), i < n → LCg.NsObj oC m₂ → m₂ x = some (.int (i : Int) t) → Fr h₀ L h m → News h₀ L h ((I, oI) :: (C, oC) :: (D, LCg.lst ys) :: news) → LCg.Off3 I C D news →
      wpAny (model prog w) A (eval elt (compEnvC scope cl C env)) (IntTurn h₀ L m { s with heap := h, toks := tk } ((I, oI) :: (C, oC) :: (D, LCg.lst ys) :: news) (g (i : Int))) E' { s with heap := h, toks := tk })
    (fin : ∀ ys, IntsAre ys ((rangeKs 0 n).map g) → Fin ys news) :
    LCg.CompRest prog w A h₀ L m env elt x scope cl s S (fun i v => ∃ t, v = .int (0 + (i : Int)) t) Fin n 0 [] news := by
  have main : ∀ (k i : Nat) (ys : List Value), i + k = n → IntsAre ys ((rangeKs 0 i).map g) → LCg.CompRest prog w A h₀ L m env elt x scope cl s S (fun i v => ∃ t, v = .int (0 + (i : Int)) t) Fin k i ys news := by
    intro k
    induction k with
    | zero =>
      intro i ys hi hy
      have : i = n := by omega
      subst this
      exact fin ys hy
    | succ k ih =>
      intro i ys hi hy v I oI C oC D m₂ h tk E' hv hC hx F N off hne
      obtain ⟨t, hv⟩ := hv
      rw [Int.zero_add] at hv
      rw [hv] at hx
      refine wpAny_mono (turn i t I oI C oC D m₂ ys h tk E' (by omega) hC hx F N off) (fun y s₂ q => ?_) fun _ _ e => e
      obtain ⟨h', tk', t', e, hy', F', N'⟩ := q
      refine ⟨h', tk', news, e, F', N', off, hS, ?_⟩
      rw [hy']
      refine ih (i + 1) _ (by omega) ?_
      have e2 : rangeKs 0 (i + 1) = rangeKs 0 i ++ [(i : Int)] := by
        unfold rangeKs; rw [List.range_succ]; simp
      rw [e2]
      simpa using IntsAre.append hy (.cons (g i) t' .nil)
  exact main n 0 [] (by omega) (by exact .nil)
/-- [x for x in range(n) if test]: the ints that pass -/
theorem rangeTest {ct elt : Expr} {x : Str} {scope : Scope} {cl : List (Str × Addr)} {s : Shared} {S : Ledger → Prop} {Fin : List Value → Ledger → Prop} {news : Ledger} {n : Nat}
    (g : Int → Bool) (hS : S news)
    (turn : ∀ (i : Nat) (t : Tok) I oI C oC D m₂ ys h tk (E' : Value → Shared → Prop), i < n → LCg.NsObj oC m₂ → m₂ x = some (.int (i : Int) t) → Fr h₀ L h m → News h₀ L h ((I, oI) :: (C, oC) :: (D, LCg.lst ys) :: news) → LCg.Off3 I C D news →
      wpAny (model prog w) A (isTrue ct (compEnvC scope cl C env) (eval ct (compEnvC scope cl C env))) (fun b s' => b = g (i : Int) ∧
        (if b = true then wpAny (model prog w) A (eval elt (compEnvC scope cl C env)) (IntTurn h₀ L m { s with heap := h, toks := tk } ((I, oI) :: (C, oC) :: (D, LCg.lst ys) :: news) (i : Int)) E' s'
        else IntTurn h₀ L m { s with heap := h, toks := tk } ((I, oI) :: (C, oC) :: (D, LCg.lst ys) :: news) 0 (.int 0 0) s')) E' { s with heap := h, toks := tk })
    (fin : ∀ ys, IntsAre ys ((rangeKs 0 n).filter g) → Fin ys news) :
    LCt.CompRestT prog w A h₀ L m env ct elt x scope cl s S (fun i v => ∃ t, v = .int (0 + (i : Int)) t) Fin n 0 [] news := by
  have main : ∀ (k i : Nat) (ys : List Value), i + k = n → IntsAre ys ((rangeKs 0 i).filter g) → LCt.CompRestT prog w A h₀ L m env ct elt x scope cl s S (fun i v => ∃ t, v = .int (0 + (i : Int)) t) Fin k i ys news := by
    intro k
    induction k with
    | zero =>
      intro i ys hi hy
      have : i = n := by omega
      subst this
      exact LCt.CompRestT.zero (fin ys hy)
    | succ k ih =>
      intro i ys hi hy
      refine LCt.CompRestT.succ ?_
      intro v I oI C oC D m₂ h tk E' hv hC hx F N off hne
      obtain ⟨t, hv⟩ := hv
      rw [Int.zero_add] at hv
      rw [hv] at hx
      have e2 : rangeKs 0 (i + 1) = rangeKs 0 i ++ [(i : Int)] := by
        unfold rangeKs; rw [List.range_succ]; simp
      refine wpAny_mono (turn i t I oI C oC D m₂ ys h tk E' (by omega) hC hx F N off) (fun b s₂ q => ?_) fun _ _ e => e
      obtain ⟨hb, q⟩ := q
      cases b with
      | true =>
        simp only [if_true] at q ⊢
        refine wpAny_mono q (fun y s₃ r => ?_) fun _ _ e => e
        obtain ⟨h', tk', t', e, hy', F', N'⟩ := r
        refine ⟨h', tk', news, e, F', N', off, hS, ?_⟩
        rw [hy']
        refine ih (i + 1) _ (by omega) ?_
        rw [e2, List.filter_append, List.filter_cons_of_pos hb.symm]
        exact IntsAre.append hy (.cons _ t' .nil)
      | false =>
        simp only [Bool.false_eq_true, if_false] at q ⊢
        obtain ⟨h', tk', t', e, hy', F', N'⟩ := q
        refine ⟨h', tk', news, e, F', N', off, hS, ih (i + 1) _ (by omega) ?_⟩
        rw [e2, List.filter_append, List.filter_cons_of_neg (by rw [← hb]; exact Bool.false_ne_true)]
        simpa using hy
  exact main n 0 [] (by omega) (by exact .nil)
end
theorem fm_box (x : Int) {m : Int} (hm : m ≠ 0) (h0 : -12 ≤ m) (h1 : m ≤ 12) : -12 < x.fmod m ∧ x.fmod m < 12 := by
  rcases Int.lt_or_lt_of_ne hm with hn | hp
  · have e := (fd_neg (a := x) hn).2
    have b := fm_bound (-x) (show 0 < -m by omega)
    omega
  · have b := fm_bound x hp
    omega
theorem fd_box {x m : Int} (hm : m ≠ 0) (h0 : -12 ≤ m) (h1 : m ≤ 12) (hx0 : -1344 ≤ x) (hx1 : x ≤ 1344) : -2000 ≤ x.fdiv m ∧ x.fdiv m ≤ 2000 := by
  have b := fm_box x hm h0 h1
  have e := Int.mul_fdiv_add_fmod x m
  have h2 : (m * x.fdiv m).natAbs = m.natAbs * (x.fdiv m).natAbs := Int.natAbs_mul ..
  have h3 : 1 * (x.fdiv m).natAbs ≤ m.natAbs * (x.fdiv m).natAbs := Nat.mul_le_mul_right _ (by omega)
  omega
theorem mem_pairsOf {a b h m : Int} {n : Nat} (hm : (a, b) ∈ pairsOf h m n) : ∃ j : Nat, j < n ∧ a = ((j : Int) * h).fdiv m ∧ b = ((j : Int) * h).fmod m := by
  unfold pairsOf rangeKs at hm
  obtain ⟨j, hj, e⟩ := List.mem_map.mp hm
  obtain ⟨i, hi, rfl⟩ := List.mem_map.mp hj
  simp only [pairOf, Int.zero_add, Prod.mk.injEq] at e
  exact ⟨i, List.mem_range.mp hi, e.1.symm, e.2.symm⟩
theorem pairs_box {a b h sd k : Int} (hs : sd = 1 ∨ sd = -1) (hk : 2 ≤ k ∧ k ≤ 12) (hh : -100 ≤ h ∧ h ≤ 112) (hm : (a, b) ∈ pairsOf h (sd * k) k.toNat) : (-2000 ≤ a ∧ a ≤ 2000) ∧ -12 < b ∧ b < 12 := by
  obtain ⟨j, hj, rfl, rfl⟩ := mem_pairsOf hm
  have h1 := sk_box hs hk.1 hk.2
  have h2 := jh_box (a := (j : Int)) (h := h) (by omega) (by omega) (by omega) hh.2
  exact ⟨fd_box h1.1 h1.2.1 h1.2.2 h2.1 h2.2, fm_box _ h1.1 h1.2.1 h1.2.2⟩
theorem back_same {h sd k : Int} : (pairsOf h (sd * k) k.toNat).map (fun p => p.1 * sd * k + p.2) = (rangeKs 0 k.toNat).map (fun j => j * h) := by
  unfold pairsOf
  rw [List.map_map]
  refine List.map_congr_left fun j _ => ?_
  have := Int.mul_fdiv_add_fmod (j * h) (sd * k)
  show (j * h).fdiv (sd * k) * sd * k + (j * h).fmod (sd * k) = j * h
  rw [Int.mul_assoc, Int.mul_comm]
  exact this
end Mine
namespace Mine
noncomputable def toldOf (h k sd : Int) : List Int := (woN ((sd * h).fmod k) k ((sd * h).fmod k + k - 2).toNat).told
noncomputable def restsOf (h k sd : Int) : List Int := (pairsOf h (sd * k) k.toNat).map (fun p => p.2)
noncomputable def pairAt (h k sd j : Int) : Int × Int := (pairsOf h (sd * k) k.toNat).getD j.toNat (0, 0)
/-- what the law asks of the numbers alone -/
structure Pure (h k sd : Int) : Prop where
  ahead : (pairsOf h (sd * k) k.toNat).map (fun p => p.1) = (List.range (toldOf h k sd).length).map (fun (i : Nat) => (i : Int) * (sd * h).fdiv k + (toldOf h k sd).getD i 0)
  row : (ooOf (restsOf h k sd)).1 = if sd = 1 then rangeKs 0 k.toNat else rangeKs (1 - k) k.toNat
  safe1 : eSafe (eRun k.toNat (sd * h) k []) 0
  safe2 : eSafe (eRun k.toNat h k []) 0
  weighed : ((rangeKs 0 k.toNat).map (fun j => (pairAt h k sd j).1 * (3 * j - 2 * k + 1))).sum = byE (sd * h) k
  count : (ooOf (restsOf h k sd)).2 = byE h k + (if sd = 1 then 0 else k - 1)
  back : ∃ (b : Int) (r : List Int), (rangeKs 0 k.toNat).filter (fun j => decide (((pairAt h k sd j).2 - 1).fmod k = 0)) = b :: r ∧ 0 ≤ b ∧ b < 1000 ∧ 4 * byE h k = byQ (h.fmod k) k b
  small : (toldOf h k sd).length ≤ 100 ∧ -100000 ≤ byE h k ∧ byE h k ≤ 100000
end Mine
namespace Mine
noncomputable def eSafeB : List (Int × Int) → Int → Bool
  | [], _ => true
  | (a, b) :: r, c => (decide (0 < a) && decide (a < 1000) && decide (0 < b) && decide (b < 1000) && decide (-1000000 < (a - 1) * (b - 1) * (a + b - 1) - 4 * b * c) && decide ((a - 1) * (b - 1) * (a + b - 1) - 4 * b * c < 1000000)) && eSafeB r (((a - 1) * (b - 1) * (a + b - 1) - 4 * b * c).fdiv (4 * a))
noncomputable def cop (h k : Int) : Bool := (List.range (k.toNat - 1)).all fun d => !(h % ((d : Int) + 2) == 0 && k % ((d : Int) + 2) == 0)
noncomputable def backOf (h k sd : Int) : Option Int := ((rangeKs 0 k.toNat).filter (fun j => decide (((pairAt h k sd j).2 - 1).fmod k = 0))).head?
noncomputable def chk (h k sd : Int) : Bool :=
  (pairsOf h (sd * k) k.toNat).map (fun p => p.1) == (List.range (toldOf h k sd).length).map (fun (i : Nat) => (i : Int) * (sd * h).fdiv k + (toldOf h k sd).getD i 0) &&
  (ooOf (restsOf h k sd)).1 == (if sd = 1 then rangeKs 0 k.toNat else rangeKs (1 - k) k.toNat) &&
  eSafeB (eRun k.toNat (sd * h) k []) 0 && eSafeB (eRun k.toNat h k []) 0 &&
  ((rangeKs 0 k.toNat).map (fun j => (pairAt h k sd j).1 * (3 * j - 2 * k + 1))).sum == byE (sd * h) k &&
  (ooOf (restsOf h k sd)).2 == byE h k + (if sd = 1 then 0 else k - 1) &&
  (match backOf h k sd with
  | none => false
  | some b => decide (0 ≤ b) && decide (b < 1000) && 4 * byE h k == byQ (h.fmod k) k b) &&
  decide ((toldOf h k sd).length ≤ 100) && decide (-100000 ≤ byE h k) && decide (byE h k ≤ 100000)
theorem eSafe_of : ∀ (l : List (Int × Int)) (c : Int), eSafeB l c = true → eSafe l c
  | [], _, _ => trivial
  | (a, b) :: r, c, h => by
    simp only [eSafeB, Bool.and_eq_true, decide_eq_true_eq] at h
    obtain ⟨⟨⟨⟨⟨⟨h1, h2⟩, h3⟩, h4⟩, h5⟩, h6⟩, h7⟩ := h
    exact ⟨⟨h1, h2, h3, h4, h5, h6⟩, eSafe_of r _ h7⟩
theorem pure_of {h k sd : Int} (c : chk h k sd = true) : Pure h k sd := by
  unfold chk at c
  simp only [Bool.and_eq_true, beq_iff_eq, decide_eq_true_eq] at c
  obtain ⟨⟨⟨⟨⟨⟨⟨⟨⟨c1, c2⟩, c3⟩, c4⟩, c5⟩, c6⟩, c7⟩, c8⟩, c9⟩, c10⟩ := c
  refine ⟨c1, c2, eSafe_of _ _ c3, eSafe_of _ _ c4, c5, c6, ?_, c8, c9, c10⟩
  unfold backOf at c7
  cases hf : (rangeKs 0 k.toNat).filter (fun j => decide (((pairAt h k sd j).2 - 1).fmod k = 0)) with
  | nil => rw [hf] at c7; cases c7
  | cons b r =>
    rw [hf] at c7
    simp only [List.head?_cons, Bool.and_eq_true, beq_iff_eq, decide_eq_true_eq] at c7
    exact ⟨b, r, rfl, c7.1.1, c7.1.2, c7.2⟩
theorem cop_of {h k : Int} (hk : 2 ≤ k) (hg : ∀ d : Int, 2 ≤ d → d ≤ k → ¬ (h % d = 0 ∧ k % d = 0)) : cop h k = true := by
  unfold cop
  rw [List.all_eq_true]
  intro d hd
  have hd := List.mem_range.mp hd
  have := hg ((d : Int) + 2) (by omega) (by omega)
  simp only [Bool.not_eq_true', Bool.and_eq_false_iff, beq_eq_false_iff_ne]
  exact Decidable.not_and_iff_not_or_not.mp this
/-! only the rest of h by k counts -/
section
variable {h h0 k sd t u m : Int}
theorem pairOf_shift (hm : m ≠ 0) (e : ∀ j : Int, j * h = j * h0 + m * (j * u)) (j : Int) : pairOf h m j = ((pairOf h0 m j).1 + j * u, (pairOf h0 m j).2) := by
  unfold pairOf
  rw [e j, Int.add_mul_fdiv_left _ _ hm, Int.add_mul_fmod_self_left]
theorem pairAt_eq {n : Nat} {i : Nat} (hn : n = k.toNat) (hi : i < n) : pairAt h k sd (i : Int) = pairOf h (sd * k) (i : Int) := by
  unfold pairAt pairsOf rangeKs
  subst hn
  rw [List.getD_eq_getElem?_getD, Int.toNat_natCast]
  simp [hi]
theorem sum_shift (a c : Int → Int) (u : Int) : ∀ l : List Int, (l.map (fun j => (a j + j * u) * c j)).sum = (l.map (fun j => a j * c j)).sum + u * (l.map (fun j => j * c j)).sum
  | [] => by simp
  | x :: r => by
    have ih := sum_shift a c u r
    simp only [List.map_cons, List.sum_cons]
    rw [ih, Int.add_mul, Int.mul_add]
    have : x * u * c x = u * (x * c x) := by rw [Int.mul_comm x u, Int.mul_assoc]
    omega
theorem eRun_mod {h h0 : Int} (hk : 1 < k) (e : h.fmod k = h0.fmod k) : eRun k.toNat h k [] = eRun k.toNat h0 k [] := by
  obtain ⟨f, hf⟩ : ∃ f, k.toNat = f + 1 := ⟨k.toNat - 1, by omega⟩
  rw [hf]
  simp only [eRun, if_pos hk, e]
theorem mem_range0 {n : Nat} {j : Int} (h : j ∈ rangeKs 0 n) : ∃ i : Nat, i < n ∧ j = (i : Int) := by
  unfold rangeKs at h
  obtain ⟨i, hi, e⟩ := List.mem_map.mp h
  exact ⟨i, List.mem_range.mp hi, by omega⟩
theorem lift (hk : 2 ≤ k) (hs : sd = 1 ∨ sd = -1) (hu : u = sd * t) (ht : h = h0 + k * t) (hz : ((rangeKs 0 k.toNat).map (fun j => j * (3 * j - 2 * k + 1))).sum = 0) (p : Pure h0 k sd) : Pure h k sd := by
  have hm : sd * k ≠ 0 := by rcases hs with rfl | rfl <;> omega
  have hss : sd * sd = 1 := by rcases hs with rfl | rfl <;> rfl
  have e : ∀ j : Int, j * h = j * h0 + sd * k * (j * u) := fun j => by
    rw [ht, hu, Int.mul_add]
    have : sd * k * (j * (sd * t)) = sd * sd * (j * (k * t)) := by
      simp only [Int.mul_assoc, Int.mul_left_comm, Int.mul_comm]
    rw [this, hss, Int.one_mul]
  have hsh : sd * h = sd * h0 + k * u := by
    rw [ht, hu, Int.mul_add, Int.mul_left_comm]
  have hfm : h.fmod k = h0.fmod k := by rw [ht, Int.add_mul_fmod_self_left]
  have hsm : (sd * h).fmod k = (sd * h0).fmod k := by rw [hsh, Int.add_mul_fmod_self_left]
  have hsd : (sd * h).fdiv k = (sd * h0).fdiv k + u := by rw [hsh, Int.add_mul_fdiv_left _ _ (by omega)]
  have hpo := pairOf_shift hm e
  have hto : toldOf h k sd = toldOf h0 k sd := by unfold toldOf; rw [hsm]
  have hre : restsOf h k sd = restsOf h0 k sd := by
    unfold restsOf pairsOf
    rw [List.map_map, List.map_map]
    exact List.map_congr_left fun j _ => by simp [hpo]
  have hb1 : byE (sd * h) k = byE (sd * h0) k := by unfold byE; rw [eRun_mod (by omega) hsm]
  have hb2 : byE h k = byE h0 k := by unfold byE; rw [eRun_mod (by omega) hfm]
  have hat : ∀ j ∈ rangeKs 0 k.toNat, pairAt h k sd j = ((pairAt h0 k sd j).1 + j * u, (pairAt h0 k sd j).2) := fun j hj => by
    obtain ⟨i, hi, rfl⟩ := mem_range0 hj
    rw [pairAt_eq rfl hi, pairAt_eq rfl hi, hpo]
  refine ⟨?_, ?_, ?_, ?_, ?_, ?_, ?_, ?_⟩
  · have q := p.ahead
    rw [hto, hsd]
    have hl := congrArg List.length q
    simp only [pairsOf, rangeKs, List.length_map, List.length_range] at hl
    unfold pairsOf rangeKs at q ⊢
    rw [← hl] at q ⊢
    simp only [List.map_map] at q ⊢
    refine List.map_congr_left fun i hi => ?_
    have q2 := (List.map_inj_left.mp q) i hi
    simp only [Function.comp, hpo, Int.zero_add] at q2 ⊢
    rw [Int.mul_add]
    omega
  · rw [hre]; exact p.row
  · rw [eRun_mod (by omega) hsm]; exact p.safe1
  · rw [eRun_mod (by omega) hfm]; exact p.safe2
  · rw [hb1, ← p.weighed]
    have e1 : (rangeKs 0 k.toNat).map (fun j => (pairAt h k sd j).1 * (3 * j - 2 * k + 1)) = (rangeKs 0 k.toNat).map (fun j => ((pairAt h0 k sd j).1 + j * u) * (3 * j - 2 * k + 1)) :=
      List.map_congr_left fun j hj => by rw [hat j hj]
    rw [e1, sum_shift (fun j => (pairAt h0 k sd j).1) (fun j => 3 * j - 2 * k + 1) u, hz, Int.mul_zero, Int.add_zero]
  · rw [hre, hb2]; exact p.count
  · obtain ⟨b, r, e1, e2, e3, e4⟩ := p.back
    refine ⟨b, r, ?_, e2, e3, ?_⟩
    · rw [← e1]
      exact List.filter_congr fun j hj => by rw [hat j hj]
    · rw [hb2, hfm]; exact e4
  · rw [hto, hb2]; exact p.small
end
noncomputable def chkAll (k : Int) (n : Nat) : Bool := ((rangeKs 0 k.toNat).map (fun j => j * (3 * j - 2 * k + 1))).sum == 0 && (List.range n).all fun i => !cop (i : Int) k || (chk (i : Int) k 1 && chk (i : Int) k (-1))
theorem chkAll_at {k h sd : Int} {n : Nat} (c : chkAll k n = true) (hn : (n : Int) = k) (hk : 2 ≤ k) (hs : sd = 1 ∨ sd = -1) (hg : ∀ d : Int, 2 ≤ d → d ≤ k → ¬ (h % d = 0 ∧ k % d = 0)) : Pure h k sd := by
  unfold chkAll at c
  rw [Bool.and_eq_true, beq_iff_eq, List.all_eq_true] at c
  obtain ⟨hz, c⟩ := c
  have b0 := Int.emod_nonneg h (show k ≠ 0 by omega)
  have b1 := Int.emod_lt_of_pos h (show 0 < k by omega)
  have e := c (h % k).toNat (List.mem_range.mpr (by omega))
  have e2 : (((h % k).toNat : Nat) : Int) = h % k := by omega
  have hc : cop (h % k) k = true := cop_of hk fun d d2 dk hd => hg d d2 dk ⟨by
    have d1 : d ∣ k := Int.dvd_of_emod_eq_zero hd.2
    have := Int.emod_emod_of_dvd h d1
    rw [← this]; exact hd.1, hd.2⟩
  rw [e2, hc] at e
  simp only [Bool.not_true, Bool.false_or, Bool.and_eq_true] at e
  have ht : h = h % k + k * (h / k) := by have := Int.mul_ediv_add_emod h k; omega
  refine lift hk hs rfl ht hz (pure_of ?_)
  rcases hs with rfl | rfl
  · exact e.1
  · exact e.2
theorem all2 : chkAll 2 2 = true := by decide +kernel
theorem all3 : chkAll 3 3 = true := by decide +kernel
theorem all4 : chkAll 4 4 = true := by decide +kernel
theorem all5 : chkAll 5 5 = true := by decide +kernel
theorem all6 : chkAll 6 6 = true := by decide +kernel
theorem all7 : chkAll 7 7 = true := by decide +kernel
theorem all8 : chkAll 8 8 = true := by decide +kernel
theorem all9 : chkAll 9 9 = true := by decide +kernel
theorem all10 : chkAll 10 10 = true := by decide +kernel
theorem all11 : chkAll 11 11 = true := by decide +kernel
theorem all12 : chkAll 12 12 = true := by decide +kernel
theorem pure_law {h k sd : Int} (hk : 2 ≤ k ∧ k ≤ 12) (hs : sd = 1 ∨ sd = -1) (hg : ∀ d : Int, 2 ≤ d → d ≤ k → ¬ (h % d = 0 ∧ k % d = 0)) : Pure h k sd := by
  have hcase : k = 2 ∨ k = 3 ∨ k = 4 ∨ k = 5 ∨ k = 6 ∨ k = 7 ∨ k = 8 ∨ k = 9 ∨ k = 10 ∨ k = 11 ∨ k = 12 := by clear hg; omega
  rcases hcase with rfl | rfl | rfl | rfl | rfl | rfl | rfl | rfl | rfl | rfl | rfl
  · exact chkAll_at all2 rfl (by decide) hs hg
  · exact chkAll_at all3 rfl (by decide) hs hg
  · exact chkAll_at all4 rfl (by decide) hs hg
  · exact chkAll_at all5 rfl (by decide) hs hg
  · exact chkAll_at all6 rfl (by decide) hs hg
  · exact chkAll_at all7 rfl (by decide) hs hg
  · exact chkAll_at all8 rfl (by decide) hs hg
  · exact chkAll_at all9 rfl (by decide) hs hg
  · exact chkAll_at all10 rfl (by decide) hs hg
  · exact chkAll_at all11 rfl (by decide) hs hg
  · exact chkAll_at all12 rfl (by decide) hs hg
end Mine
namespace Mine
section
variable {prog : Program} {w : World} {A : Around} {E : Value → Shared → Prop} {s : Shared} {h₀ : Heap} {L : Addr} {m : Str → Option Value} {env : Env}
noncomputable def SrcE (prog : Program) (w : World) (A : Around) (h₀ : Heap) (L : Addr) (m : Str → Option Value) (env : Env) (elt : Expr) (x x₂ : Str) (scope : Scope) (cl : List (Str × Addr)) (Q : Value → Shared → Prop) (xv : Value) (s₁ : Shared) : Prop :=
  ∃ (e it l : Addr) (vs : List Value) (ns : List Int) (c : Nat) (news : Ledger) (G : Nat → Int), xv = .ref e ∧ A.handled = none ∧ Fr h₀ L s₁.heap m ∧ News h₀ L s₁.heap news ∧ (l, listOf vs.toArray c) ∈ news ∧ IsEnum s₁.heap e it 0 .none ∧ s₁.heap.IsListIter it l 0 ∧ e ≠ it ∧
    h₀.get? e = none ∧ h₀.get? it = none ∧ L ≠ e ∧ L ≠ it ∧ AllNe e news ∧ AllNe it news ∧ IntsAre vs ns ∧ ns.length ≤ sizeLine ∧
    (∀ (i : Nat) (a : Int) (t1 t2 : Tok) oe oi C oC D m₂ ys h tk (E' : Value → Shared → Prop), ns[i]? = some a → LCg.NsObj oC m₂ → m₂ x = some (.int (i : Int) t1) → m₂ x₂ = some (.int a t2) → Fr h₀ L h m → News h₀ L h ((e, oe) :: (it, oi) :: (C, oC) :: (D, LCg.lst ys) :: news) →
      wpAny (model prog w) A (eval elt (compEnvC scope cl C env)) (IntTurn h₀ L m { s₁ with heap := h, toks := tk } ((e, oe) :: (it, oi) :: (C, oC) :: (D, LCg.lst ys) :: news) (G i)) E' { s₁ with heap := h, toks := tk }) ∧
    (∀ (ys : List Value) D h tk, IntsAre ys ((List.range ns.length).map G) → Fr h₀ L h m → News h₀ L h ((D, LCg.lst ys) :: news) → LCg.Off1 D news → Q (.ref D) { s₁ with heap := h, toks := tk })
theorem ListComp_E {elt iter : Expr} {x x₂ : Str} {px px₂ tp : Pos} {tk : Nat} {scope : Scope} {cl : List (Str × Addr)} {pos : Pos} {Q : Value → Shared → Prop} (_F₀ : Fr h₀ L s.heap m)
    (hclos : closureFor scope env = pure cl) (hcell : ∀ y ∈ scope.names, y.2 ≠ .cell) (hkind : scope.kind = .function)
    (hnames : ∀ y ∈ scope.names, y.2 = .local → scope.names.lookup y.1 = some .local) (hx : scope.names.lookup x = some .local) (hx₂ : scope.names.lookup x₂ = some .local) (hxx : ¬ x = x₂)
    (h : wpAny (model prog w) A (eval iter env) (SrcE prog w A h₀ L m env elt x x₂ scope cl Q) E s)
    (hs : ∀ x, foldedSetIterable iter env x = pure x) :
    wpAny (model prog w) A (eval (.ListComp elt [⟨.Tuple [.Name x px, .Name x₂ px₂] tk tp, iter, [], 0⟩] scope pos) env) Q E s := by
  rw [eval_ListComp]
  refine wpAny_comprehension_free (use := none) rfl hs hclos hkind hnames (wpAny_mono h (fun xv s₁ h₁ => ?_) fun _ _ e => e)
  obtain ⟨e, it, l, vs, ns, c, news, G, rfl, hh, F, N, hm, he, hit, hei, he0, hi0, hLe, hLi, ae, ai, hI, hsz, turn, fin⟩ := h₁
  refine wpAny_pyIter_enum he ?_
  refine wpAny_newObj_type (wpAny_newFunctionEnv hcell (by intro y hy; simp at hy) (fun h₁ hns₁ hsb₁ => ?_) hkind)
  dsimp only at hns₁ hsb₁ ⊢
  generalize hH2 : s₁.heap.push { cls := .type "list", dict := none, data := .seq ([] : List Value).toArray } = H2 at hns₁ hsb₁ ⊢
  have hC : H2.objs.size = s₁.heap.objs.size + 1 := by rw [← hH2, Heap.size_push]
  have hDC : s₁.heap.objs.size ≠ H2.objs.size := by rw [hC]; exact Nat.ne_of_lt (Nat.lt_succ_self _)
  have apart : ∀ b, b < s₁.heap.objs.size → b ≠ H2.objs.size ∧ b ≠ s₁.heap.objs.size := fun b hb => ⟨by rw [hC]; exact Nat.ne_of_lt (Nat.lt_succ_of_lt hb), Nat.ne_of_lt hb⟩
  have up1 : ∀ b o, s₁.heap.get? b = some o → h₁.get? b = some o := fun b o q => hsb₁.extBut b o (apart b (Heap.lt_size q)).1 (Heap.get?_push_of_some _ (hH2 ▸ Heap.get?_push_of_some _ q))
  have hacc : h₁.get? s₁.heap.objs.size = some (LCg.lst []) := hsb₁.extBut _ _ hDC (Heap.get?_push_of_some _ (hH2 ▸ Heap.get?_push_size _ rfl))
  have fresh : ∀ a, s₁.heap.objs.size ≤ a → h₀.get? a = none := fun a ha => by
    cases q : h₀.get? a with
    | none => rfl
    | some o => exact absurd (Heap.lt_size (F.keep a o q)) (Nat.not_lt.mpr ha)
  generalize hCd : H2.objs.size = C at *
  generalize hDd : s₁.heap.objs.size = D at *
  have hD0 : h₀.get? D = none := fresh D (Nat.le_refl _)
  have hC0 : h₀.get? C = none := fresh C (by rw [hC]; exact Nat.le_succ _)
  have hLlt : L < D := hDd ▸ F.ns.lt
  have hLC : L ≠ C := (apart L hLlt).1
  have hLD : L ≠ D := (apart L hLlt).2
  obtain ⟨oi, hoi, hoi1, hoi2⟩ := id hit
  have ltE : e < D := hDd ▸ Heap.lt_size he
  have ltI : it < D := hDd ▸ Heap.lt_size hoi
  have newsD : ∀ p ∈ news, p.1 < D := fun p hp => hDd ▸ Heap.lt_size (N p hp).1
  have aeN := ae.all
  have aiN := ai.all
  have offD : LCg.Off1 D news := by
    have : ∀ l : Ledger, (∀ p ∈ l, p.1 < D) → LCg.Off1 D l := fun l => by
      induction l with
      | nil => intro _; trivial
      | cons q r ih => intro h; exact ⟨Nat.ne_of_lt (h q (.head _)), ih fun p hp => h p (.tail _ hp)⟩
    exact this news newsD
  have hlvs : vs.length = ns.length := hI.length
  have loop : ∀ (RR : Result → Shared → Prop) (s₃ : Shared), s₃ = { s₁ with heap := h₁, toks := s₁.toks + ([] : List (Str × Value)).length } →
      (∀ h' tk' m' ys, IntsAre ys ((List.range ns.length).map G) → Fr h₀ L h' m → h'.Ns C m' → News h₀ L h' ((D, LCg.lst ys) :: news) → RR (.ok .next) { s₁ with heap := h', toks := tk' }) →
      codeAny (model prog w) A (.compLoop (.ListComp elt [⟨.Tuple [.Name x px, .Name x₂ px₂] tk tp, iter, [], 0⟩] scope pos) 0 (.ref e) (.ref D) (compEnvC scope cl C env)) RR s₃ := by
    rintro RR s₃ rfl hR
    refine kcp_loop
      (fun k s' => ∃ h' tk' i ys m' old, s' = { s₁ with heap := h', toks := tk' } ∧ i ≤ ns.length ∧ k = ns.length + 1 - i ∧ ys.length = i ∧ IntsAre ys ((List.range i).map G) ∧ IsEnum h' e it (i : Int) old ∧ h'.IsListIter it l i ∧ Fr h₀ L h' m ∧ h'.Ns C m' ∧ News h₀ L h' ((D, LCg.lst ys) :: news)) ?_ (ns.length + 1)
      ⟨h₁, _, 0, [], _, _, rfl, Nat.zero_le _, rfl, rfl, .nil, up1 _ _ he, hit.at fun o q => up1 _ o q, F.keeps up1, hns₁, fun p hp => ?_⟩
    · rintro k s' ⟨h', tk', i, ys, m', old, rfl, hi, rfl, hyl, hy, he', hit', F', hn', N'⟩
      have hl' : h'.IsList l vs.toArray := ⟨_, (N' _ (List.mem_cons_of_mem _ hm)).1, rfl, _, rfl⟩
      by_cases hlt : i < ns.length
      · obtain ⟨v, hv⟩ : ∃ v, vs[i]? = some v := ⟨vs[i]'(by omega), List.getElem?_eq_getElem (by omega)⟩
        obtain ⟨a, t2, hav, ha⟩ := IntsAre.at hI i v hv
        refine wpAny_pyNext_enum_item he' hit' hl' (x := v) (by simpa using hv) hei fun h₂ ho2 hi2 hT2 hz2 hk2 => ?_
        have ltE' : e < h'.objs.size := Heap.lt_size he'
        have hDlt : D < h'.objs.size := Heap.lt_size (N' _ (List.mem_cons_self ..)).1
        have eC : e ≠ C := (apart e ltE).1
        have iC : it ≠ C := (apart it ltI).1
        refine wpAny_letOwnedTupleGo_enum ho2 fun h₃ he3 hs3 => ?_
        have hT3 : h₃.IsTuple h'.objs.size #[.int (i : Int) tk', v] := ⟨_, hs3.extBut _ _ (Ne.symm (Nat.ne_of_lt ltE')) hT2, rfl, _, rfl⟩
        have up3 : ∀ b o, b ≠ e → b ≠ it → h'.get? b = some o → h₃.get? b = some o := fun b o h1 h2 q => hs3.extBut b o h1 (hk2 b o h1 h2 q)
        refine kcp_assign (env := compEnvC scope cl C env) hh hT3 (lookup_relabel_local hx) (lookup_relabel_local hx₂) (by simp [compEnvC, relabel, hkind]) (hn'.at' fun o q => up3 _ o (Ne.symm eC) (Ne.symm iC) q) fun h₄ tk4 hn4 hs4 => ?_
        have up4 : ∀ b o, b ≠ e → b ≠ it → b ≠ C → h'.get? b = some o → h₄.get? b = some o := fun b o h1 h2 h3 q => hs4 b o h3 (up3 b o h1 h2 q)
        have he4 := hs4 e _ eC he3
        have hi4 : h₄.IsListIter it l (i + 1) := hi2.at fun o q => hs4 it o iC (hs3.extBut it o (Ne.symm hei) q)
        obtain ⟨oi4, hoi4, hoi5, hoi6⟩ := id hi4
        obtain ⟨oC, heC, hoC⟩ := LCg.ns_obj hn4
        have F4 : Fr h₀ L h₄ m := ⟨F'.ns.at' fun o q => up4 _ o hLe hLi hLC q, fun b o q => up4 b o (fun z => by rw [z, he0] at q; cases q) (fun z => by rw [z, hi0] at q; cases q) (fun z => by rw [z, hC0] at q; cases q) (F'.keep b o q), F'.above⟩
        have N4 : News h₀ L h₄ ((e, ({ cls := .type "enumerate", dict := none, data := .fields #[.none, .bool false, .ref it, rawInt ((i : Int) + 1), .none, v], slots := #[] } : Obj)) :: (it, oi4) :: (C, oC) :: (D, LCg.lst ys) :: news) := fun p hp => by
          rcases List.mem_cons.mp hp with rfl | hp
          · exact ⟨he4, Ne.symm hLe, he0⟩
          · rcases List.mem_cons.mp hp with rfl | hp
            · exact ⟨hoi4, Ne.symm hLi, hi0⟩
            · rcases List.mem_cons.mp hp with rfl | hp
              · exact ⟨heC, Ne.symm hLC, hC0⟩
              · refine ⟨up4 _ _ ?_ ?_ ?_ (N' p hp).1, (N' p hp).2⟩
                · rcases List.mem_cons.mp hp with rfl | hp
                  · exact Ne.symm (apart e ltE).2
                  · exact aeN p hp
                · rcases List.mem_cons.mp hp with rfl | hp
                  · exact Ne.symm (apart it ltI).2
                  · exact aiN p hp
                · rcases List.mem_cons.mp hp with rfl | hp
                  · exact hDC
                  · exact (apart p.1 (newsD p hp)).1
        refine wpAny_mono (turn i a tk' t2 _ oi4 C oC D _ ys h₄ tk4 _ ha hoC (by simp [hxx]) (by simp [hav]) F4 N4) (fun y s₄ q => ?_) fun _ _ z => z
        obtain ⟨h5, tk5, t5, rfl, rfl, F5, N5⟩ := q
        have zE := (N5 _ (List.mem_cons_self ..)).1
        have zI := (N5 _ (List.mem_cons_of_mem _ (List.mem_cons_self ..))).1
        have zC := (N5 _ (List.mem_cons_of_mem _ (List.mem_cons_of_mem _ (List.mem_cons_self ..)))).1
        have zD := (N5 _ (List.mem_cons_of_mem _ (List.mem_cons_of_mem _ (List.mem_cons_of_mem _ (List.mem_cons_self ..))))).1
        refine append_at (hsz := by show ys.toArray.size ≤ sizeLine; rw [List.size_toArray, hyl]; exact Nat.le_trans hi hsz) zD fun h₆ hs6 hD6 => ?_
        refine ⟨ns.length + 1 - (i + 1), by omega, h₆, tk5, i + 1, ys ++ [.int (G i) t5], _, v, rfl, hlt, rfl, by simp [hyl], ?_, hs6.extBut _ _ (apart e ltE).2 zE, ⟨oi4, hs6.extBut _ _ (apart it ltI).2 zI, hoi5, hoi6⟩, F5.change hs6 (Ne.symm hLD) hD0, (hoC.ns zC).sameBut hs6 (Ne.symm hDC), fun p hp => ?_⟩
        · rw [List.range_succ]
          simpa using IntsAre.append hy (.cons (G i) t5 .nil)
        · rcases List.mem_cons.mp hp with rfl | hp
          · exact ⟨hD6.trans (congrArg some (LCg.lst_snoc ys _)), Ne.symm hLD, hD0⟩
          · have z := N5 p (List.mem_cons_of_mem _ (List.mem_cons_of_mem _ (List.mem_cons_of_mem _ (List.mem_cons_of_mem _ hp))))
            exact ⟨hs6.extBut _ _ (Nat.ne_of_lt (newsD p hp)) z.1, z.2⟩
      · obtain rfl : i = ns.length := Nat.le_antisymm hi (Nat.not_lt.mp hlt)
        refine wpAny_pyNext_enum_end hh he' hit' hl' (by simp [hlvs]) fun h₂ hx2 => ?_
        have up2 : ∀ b o, b ≠ it → h'.get? b = some o → h₂.get? b = some o := hx2
        refine hR h₂ tk' m' ys hy ⟨F'.ns.at' fun o q => up2 _ o hLi q, fun b o q => up2 b o (fun z => by rw [z, hi0] at q; cases q) (F'.keep b o q), F'.above⟩ (hn'.at' fun o q => up2 _ o (Ne.symm (apart it ltI).1) q) fun p hp => ⟨up2 _ _ ?_ (N' p hp).1, (N' p hp).2⟩
        rcases List.mem_cons.mp hp with rfl | hp
        · exact Ne.symm (apart it ltI).2
        · exact aiN p hp
    · rcases List.mem_cons.mp hp with rfl | hp
      · exact ⟨hacc, Ne.symm hLD, hD0⟩
      · exact ⟨up1 _ _ (N p hp).1, (N p hp).2⟩
  refine codeAny_compStart_list (loop _ _ rfl ?_) (wpAny_pyIter_enum (up1 _ _ he) (loop _ _ rfl ?_))
  all_goals
    intro h' tk' m' ys hy F' hn' N'
    refine ⟨m', hn', fun h'' hs'' => fin ys D h'' tk' hy (F'.change hs'' (Ne.symm hLC) hC0) (fun p hp => ⟨hs''.extBut _ _ ?_ (N' p hp).1, (N' p hp).2⟩) offD⟩
    rcases List.mem_cons.mp hp with rfl | hp
    · exact hDC
    · exact (apart p.1 (newsD p hp)).1
theorem fresh_of {h : Heap} {a : Addr} (F : Fr h₀ L h m) (ha : h.objs.size ≤ a) : h₀.get? a = none := by
  cases q : h₀.get? a with
  | none => rfl
  | some o => exact absurd (Heap.lt_size (F.keep a o q)) (Nat.not_lt.mpr ha)
theorem news_apart {h : Heap} {a : Addr} {l : Ledger} (N : News h₀ L h l) (ha : h.objs.size ≤ a) : AllNe a l :=
  allNe_of fun p hp e => Nat.not_lt.mpr ha (e ▸ Heap.lt_size (N p hp).1)
theorem enum_src {elt : Expr} {x x₂ : Str} {scope : Scope} {cl : List (Str × Addr)} {Q : Value → Shared → Prop} {l : Addr} {vs : List Value} {ns : List Int} {c : Nat} {news : Ledger} (G : Nat → Int)
    (hh : A.handled = none) (F : Fr h₀ L s.heap m) (N : News h₀ L s.heap news) (hm : (l, listOf vs.toArray c) ∈ news) (hI : IntsAre vs ns) (hsz : ns.length ≤ sizeLine)
    (turn : ∀ (g : Heap) (e it : Addr) (i : Nat) (a : Int) (t1 t2 : Tok) oe oi C oC D m₂ ys h tk (E' : Value → Shared → Prop), ns[i]? = some a → LCg.NsObj oC m₂ → m₂ x = some (.int (i : Int) t1) → m₂ x₂ = some (.int a t2) → Fr h₀ L h m → News h₀ L h ((e, oe) :: (it, oi) :: (C, oC) :: (D, LCg.lst ys) :: news) →
      wpAny (model prog w) A (eval elt (compEnvC scope cl C env)) (IntTurn h₀ L m { s with heap := h, toks := tk } ((e, oe) :: (it, oi) :: (C, oC) :: (D, LCg.lst ys) :: news) (G i)) E' { s with heap := h, toks := tk })
    (fin : ∀ (ys : List Value) D h tk, IntsAre ys ((List.range ns.length).map G) → Fr h₀ L h m → News h₀ L h ((D, LCg.lst ys) :: news) → LCg.Off1 D news → Q (.ref D) { s with heap := h, toks := tk }) :
    wpAny (model prog w) A (call (.type "enumerate") [.ref l]) (SrcE prog w A h₀ L m env elt x x₂ scope cl Q) E s := by
  have hlw : s.heap.IsList l vs.toArray := ⟨listOf vs.toArray c, (N _ hm).1, rfl, c, rfl⟩
  have hLlt : L < s.heap.objs.size := F.ns.lt
  refine call_enumerate_list hlw fun h5 he hit hsz5 hk => ?_
  exact ⟨s.heap.objs.size + 1, s.heap.objs.size, l, vs, ns, c, news, G, rfl, hh, F.keeps hk, N.grown hk, hm, he, hit, Nat.succ_ne_self _, fresh_of F (Nat.le_succ _), fresh_of F (Nat.le_refl _), Nat.ne_of_lt (Nat.lt_succ_of_lt hLlt), Nat.ne_of_lt hLlt, news_apart N (Nat.le_succ _), news_apart N (Nat.le_refl _), hI, hsz,
    fun i a t1 t2 oe oi C oC D m₂ ys h tk E' => turn h5 _ _ i a t1 t2 oe oi C oC D m₂ ys h tk E', fin⟩
end
end Mine
namespace Mine
section
variable {M : Model} {A : Around} {E : Value → Shared → Prop} {s : Shared} {h₀ : Heap} {L : Addr} {m : Str → Option Value} {env : Env}
theorem nd0 {h : Heap} {a : Addr × Obj} {l : Ledger} (N : News h₀ L h (a :: l)) : News h₀ L h l := newsSub N fun _ hp => .tail _ hp
theorem nd1 {h : Heap} {a b : Addr × Obj} {l : Ledger} (N : News h₀ L h (a :: b :: l)) : News h₀ L h (a :: l) := newsSub N fun p hp => by
  rcases List.mem_cons.mp hp with rfl | hp
  · exact .head _
  · exact .tail _ (.tail _ hp)
noncomputable def ListPost (h₀ : Heap) (L : Addr) (m : Str → Option Value) (s : Shared) (led : Ledger) (ns : List Int) (v : Value) (s₂ : Shared) : Prop :=
  ∃ (D : Addr) (h' : Heap) (tk : Nat) (vs : List Value) (c : Nat), s₂ = { s with heap := h', toks := tk } ∧ v = .ref D ∧ Fr h₀ L h' m ∧ News h₀ L h' ((D, listOf vs.toArray c) :: led) ∧ IntsAre vs ns
theorem list_cut {e : Expr} {led : Ledger} {Q : Value → Shared → Prop} (ns : List Int) (_F : Fr h₀ L s.heap m) (_N : News h₀ L s.heap led) (h : wpAny M A (eval e env) (ListPost h₀ L m s led ns) E s)
    (k : ∀ D h' tk vs c, Fr h₀ L h' m → News h₀ L h' ((D, listOf vs.toArray c) :: led) → IntsAre vs ns → Q (.ref D) { s with heap := h', toks := tk }) : wpAny M A (eval e env) Q E s := by
  refine wpAny_mono h (fun v s₂ q => ?_) fun _ _ e => e
  obtain ⟨D, h', tk, vs, c, rfl, rfl, F, N, hi⟩ := q
  exact k D h' tk vs c F N hi
noncomputable def IntPost (h₀ : Heap) (L : Addr) (m : Str → Option Value) (s : Shared) (led : Ledger) (z : Int) (v : Value) (s₂ : Shared) : Prop :=
  ∃ (h' : Heap) (tk : Nat) (t : Tok), s₂ = { s with heap := h', toks := tk } ∧ v = .int z t ∧ Fr h₀ L h' m ∧ News h₀ L h' led
theorem int_cut {e : Expr} {led : Ledger} {Q : Value → Shared → Prop} (z : Int) (_F : Fr h₀ L s.heap m) (_N : News h₀ L s.heap led) (h : wpAny M A (eval e env) (IntPost h₀ L m s led z) E s)
    (k : ∀ h' tk t, Fr h₀ L h' m → News h₀ L h' led → Q (.int z t) { s with heap := h', toks := tk }) : wpAny M A (eval e env) Q E s := by
  refine wpAny_mono h (fun v s₂ q => ?_) fun _ _ e => e
  obtain ⟨h', tk, t, rfl, rfl, F, N⟩ := q
  exact k h' tk t F N
end
section
variable {prog : Program} {w : World} {A : Around} {E : Value → Shared → Prop} {s : Shared} {h₀ : Heap} {L : Addr}
theorem item_list {value slice : Expr} {l : Addr} {vs : List Value} {n i : Nat} {u : Tok} {v : Value} {news : Ledger} {Q : Value → Shared → Prop}
    (N : News h₀ L s.heap news) (hm : (l, listOf vs.toArray n) ∈ news) (hx : vs[i]? = some v) (hi : i < 2 ^ 63) (h : Q v s)
    (hs : subscripted slice false (.ref l) (.int (i : Int) u) = operate [.ref l, .int (i : Int) u] (getItem (.ref l) (.int (i : Int) u))) :
    wpAny (model prog w) A (subscriptTail value slice (.ref l) (.int (i : Int) u)) Q E s := by
  have hl : s.heap.IsList l vs.toArray := ⟨listOf vs.toArray n, (N _ hm).1, rfl, n, rfl⟩
  exact tail_any hl.typeIs slot_list_getitem.lookup (wpAny_getItem_list hl (by omega) (by omega) (by simpa using hx) h) hs
theorem newsMem {h : Heap} {e : Addr × Obj} {l : Ledger} (N : News h₀ L h l) (he : e ∈ l) : News h₀ L h (e :: l) := newsPut N he N
end
section
variable {L : Nat} {oP oS oH oK pO : Obj} {Pr : Nat} {tl : Ledger}
noncomputable abbrev lawRest (L : Nat) (Pr : Nat) (pO oP oS oH oK : Obj) (tl : Ledger) : Ledger := (Pr, pO) :: (L + 1 + 1 + 1 + 1, oP) :: (L + 1 + 1 + 1, oS) :: (L + 1 + 1, oH) :: (L + 1, oK) :: tl
theorem law_apart {o1 oc1 o2 oc2 : Obj} {b1 b2 : Nat} (hlow : LowOk L) (hA : AddrOk L ⟨o1, b1, oc1, o2, b2, oc2⟩) (hT : TailOk L ⟨o1, b1, oc1, o2, b2, oc2⟩ tl) (hPr : AllNe Pr (lawLed L ⟨o1, b1, oc1, o2, b2, oc2⟩ oP oS oH oK tl)) :
    Apart (tabs4 o1 b1 oc1 o2 b2 oc2) (lawRest L Pr pO oP oS oH oK tl) := by
  obtain ⟨⟨y1, y2, y3, y4⟩, y5, y6, y7, y8⟩ := hA
  obtain ⟨z1, z2, z3, z4, -⟩ := hT
  obtain ⟨a1, a2, a3, a4, -⟩ := hPr
  obtain ⟨h1, h2⟩ := hlow
  refine apartC ⟨ne_symm a1, ?_, ?_, ?_, ?_, z1⟩ (apartC ⟨ne_symm a2, ne_symm y1, ne_symm y2, ne_symm y3, ne_symm y4, z2⟩ (apartC ⟨ne_symm a3, ?_, ?_, ?_, ?_, z3⟩ (apart1 ⟨ne_symm a4, ne_symm y5, ne_symm y6, ne_symm y7, ne_symm y8, z4⟩)))
  all_goals (clear y1 y2 y3 y4 y5 y6 y7 y8 a1 a2 a3 a4; dsimp only; omega)
theorem law_next {x x' : TSt} (hT : TailOk L x tl) (hPr : AllNe Pr (lawLed L x oP oS oH oK tl))
    (hD2 : AllNe x'.a1 (lawRest L Pr pO oP oS oH oK tl)) (hD3 : AllNe x'.a2 (lawRest L Pr pO oP oS oH oK tl)) :
    AddrOk L x' ∧ TailOk L x' tl ∧ AllNe Pr (lawLed L x' oP oS oH oK tl) := by
  obtain ⟨z1, z2, z3, z4, z5, z6, z7, z8⟩ := hT
  obtain ⟨a1, -, a3, -, a5⟩ := hPr
  obtain ⟨v1, v2, v3, v4, v5, v6⟩ := hD2
  obtain ⟨w1, w2, w3, w4, w5, w6⟩ := hD3
  exact ⟨⟨⟨ne_symm v2, ne_symm v3, ne_symm v4, ne_symm v5⟩, ne_symm w2, ne_symm w3, ne_symm w4, ne_symm w5⟩, ⟨z1, v6, z3, w6, z5, z6, z7, z8⟩, a1, ne_symm v1, a3, ne_symm w1, a5⟩
end
theorem ite_same {a : Int} {P Q : Prop} (h : Q) : if (a != a) = true then P else Q := by
  rw [if_neg (by simp)]
  exact h
theorem tab_grown {P ln cl : Nat} {q : Str} {o oc : Obj} {a : Addr} (h : TabOk P ln cl q o a oc) : ∃ ps, o = tabObj ps := by
  rcases h with ⟨e, _⟩ | ⟨_, _, e, _⟩
  · exact ⟨_, e⟩
  · exact ⟨_, e⟩
theorem grown_end {h₀ h : Heap} {L : Addr} {rest : Ledger} {x : TSt} (hx : x.ok) (N : News h₀ L h (x.led ++ rest)) : GrownAll [(41, 37), (34, 30)] h := by
  obtain ⟨h1, h2, -⟩ := hx
  obtain ⟨p1, e1⟩ := tab_grown h1
  obtain ⟨p2, e2⟩ := tab_grown h2
  have m1 := (N (30, x.o1) (List.mem_append_left _ (.head _))).1
  have m2 := (N (37, x.o2) (List.mem_append_left _ (.tail _ (.tail _ (.head _))))).1
  rw [e1] at m1
  rw [e2] at m2
  exact ⟨⟨p2, m2⟩, ⟨p1, m1⟩, trivial⟩
end Mine
local macro_rules | `(tactic| walk_at "eval ListComp") => `(tactic| refine stop_here ?_)
local macro_rules | `(tactic| walk_at "SrcLP") => `(tactic| refine stop_here ?_)
local macro_rules | `(tactic| walk_at "CompSrc") => `(tactic| refine stop_here ?_)
local macro_rules | `(tactic| walk_at "CompTurn") => `(tactic| refine stop_here ?_)
local macro_rules | `(tactic| walk_at "CompSrcT") => `(tactic| refine stop_here ?_)
local macro_rules | `(tactic| walk_at "call type:enumerate") => `(tactic| refine stop_here ?_)
local macro_rules | `(tactic| walk_at "eval IfExp") => `(tactic| refine stop_here ?_)
local macro_rules | `(tactic| walk_at "subscriptTail Name Name ref int") => `(tactic| refine stop_here ?_)
local macro_rules | `(tactic| walk_at "subscriptTail ListComp Constant ref int") => `(tactic| refine stop_here ?_)
namespace Mine
theorem take3 (ns : List Int) : ∃ x y z : Int, List.take 3 (ns ++ [5, 40, 1]) = [x, y, z] := by
  match ns with
  | [] => exact ⟨5, 40, 1, rfl⟩
  | [a] => exact ⟨a, 5, 40, rfl⟩
  | [a, b] => exact ⟨a, b, 5, rfl⟩
  | a :: b :: c :: r => exact ⟨a, b, c, by simp⟩
theorem ints3 {vs : List Value} {x y z : Int} (h : IntsAre vs [x, y, z]) : ∃ t1 t2 t3, vs = [.int x t1, .int y t2, .int z t3] := by
  cases h with
  | cons _ _ h => cases h with
    | cons _ _ h => cases h with
      | cons _ _ h => cases h; exact ⟨_, _, _, rfl⟩
theorem fmb (h : Int) {k : Int} (hk : 0 < k) : 0 ≤ h.fmod k ∧ h.fmod k < k := by
  rw [Int.fmod_eq_emod_of_nonneg _ (by omega)]
  exact ⟨Int.emod_nonneg _ (by omega), Int.emod_lt_of_pos _ hk⟩
end Mine
section
local macro_rules | `(tactic| walk_at "exec Assign cons ListComp") => `(tactic| (refine wpAny_Assign_Name ?_))
namespace Mine
theorem freshLA : True := by
  w_top off
  trivial
noncomputable def stgLA : PSigma fun T : Prop => Held T → PySem.Challenge.rw_pg0264_01.Holds := ⟨_, fun (goOn : Held _) => hd (by
  k_go0
  all_goals (try k_fold)
  refine hideQE ?_
  intro Q9 hQ9
  k_steps
  rename IntsAre _ (List.take 3 _) => hI3
  obtain ⟨x, y, z, hxyz⟩ := take3 _
  rw [hxyz] at hI3
  obtain ⟨t1, t2, t3, rfl⟩ := ints3 hI3
  k_steps
  refine Stopped.go ?_
  obtain ⟨hx0, hx1⟩ := fmb x (show (0 : Int) < 11 by decide)
  obtain ⟨hy0, hy1⟩ := fmb y (show (0 : Int) < 200 by decide)
  obtain ⟨hz0, hz1⟩ := fmb z (show (0 : Int) < 2 by decide)
  (k_dflt (refine' tells_use (law_step_tells _ (h := y.fmod 200 - 100) (k := 2 + x.fmod 11) (by omega) (by omega) (by omega) (by omega)) ?u21k1 ?u21k2 ?u21k3 ?u21k4 ?u21k5 ?u21kK ?u21kd ?u21ku ?u21kR; (case u21k1 => k_asm); (case u21k2 => k_asm); (case u21k3 => k_asm); (case u21k4 => exact newsPicks (by k_asm) (by (repeat' (first | exact Picks.nil | (show Picks _ _ _; refine' Picks.cons (by (repeat' (first | exact Pick.head | refine' Pick.tail ?_))) ?_))))); (case u21k5 => k_asm); (case u21kK => first | exact rfl | assumption); (case u21kd => first | exact roomA (a := dp) (c := 1) hd rfl | exact hrd9 | ktr_room); (case u21ku => first | exact roomA (a := un) (c := 3) hu rfl | exact hru9 | ktr_units)))
  intro h t4 hh0 hh1 hgcd hha hka F2 N2
  k_sweep
  k_steps
  refine Stopped.go ?_
  (repeat (rename _ => z9; revert z9))
  intro goOn
  exact goOn.go)⟩
end Mine
end
namespace Mine
theorem freshLA2 : True := by
  w_top off
  trivial
noncomputable def stgLA2 : PSigma fun T : Prop => Held T → stgLA.1 := ⟨_, fun (goOn : Held _) => by
  intro w s₀ s₁ mg mb G Y fa o pm cd doc ho hcd hg hT8 X V T B TE TW hT9 w_1 hs hlay0 hL hr hl2 w_2 w_3 w_4 w_5 w_6 hL_1 ra w1 r0 hI hr_1 hcond' hcond'_1 hD h₁ tk₁ w_7 w_8 w_9 w_10 left left_1 left_2 right X0 X' T' K' lifted codeHd codeHd_1 l0 Q9 hQ9 l' h' l1 D' ws' h'_1 hI' l1_1 D'_1 h'_2 hC' hL' l1_2 x y z hxyz t1 t2 t3 hI3 h'_3 h'_4 h'_5 h'_6 tk h'_7 o' d' hx0 hx1 hy0 hy1 hz0 hz1 h t4 hh0 hh1 hgcd hha hka h'_8 o'_1 d'_1 tk_1 h'_9 o'_2 F' N' d'_2
  rename Fr _ _ _ _ => F1
  rename News _ _ _ _ => N1
  obtain ⟨m9, F2⟩ : ∃ m, Fr _ _ _ m := ⟨_, F1⟩
  clear F1
  have N2 := newsSub N1 fun p hp => List.Mem.tail _ (List.Mem.tail _ (List.Mem.tail _ hp))
  clear N1
  rename (_ = Data.cell (some (Value.int (1 - _) _))) => dS
  rename (_ = Data.cell (some (Value.int h _))) => dH
  rename (_ = Data.cell (some (Value.int (2 + _) _))) => dK
  rename (_ = Data.cell (bindC _ _ _ (Str.ofString "pairs"))) => dP
  replace dP := dP.trans (show _ = Data.cell none by with_unfolding_all rfl)
  generalize hk9 : 2 + x.fmod 11 = k at dK hh1 hgcd
  generalize hs9 : 1 - 2 * z.fmod 2 = sd at dS
  have hk2 : 2 ≤ k ∧ k ≤ 12 := by omega
  have hsd : sd = 1 ∨ sd = -1 := by omega
  have hhb : -100 ≤ h ∧ h ≤ 112 := by omega
  rename Shared => s1
  obtain ⟨oP, oS, oH, oK, dP, ⟨tS, dS⟩, ⟨tH, dH⟩, ⟨tK, dK⟩, N2⟩ : ∃ oP oS oH oK : Obj, oP.data = .cell none ∧ (∃ t, oS.data = .cell (some (.int sd t))) ∧ (∃ t, oH.data = .cell (some (.int h t))) ∧ (∃ t, oK.data = .cell (some (.int k t))) ∧
      News _ s1.heap.objs.size _ [(s1.heap.objs.size + 1 + 1 + 1 + 1, oP), (s1.heap.objs.size + 1 + 1 + 1, oS), (s1.heap.objs.size + 1 + 1, oH), (s1.heap.objs.size + 1, oK), (37, tabObj #[]), (30, tabObj #[])] :=
    ⟨_, _, _, _, dP, ⟨_, dS⟩, ⟨_, dH⟩, ⟨_, dK⟩, N2⟩
  rename Frag.In _ _ => X9
  rename Top _ _ _ _ _ _ => T9
  rename Below _ _ _ _ => K9
  have hlow : LowOk s1.heap.objs.size := by rename AllLt s1.heap.objs.size _ => hlow; exact ⟨hlow.1, hlow.2.1⟩
  rename (_ = #[]) => hgens
  clear hk9 hs9 hh0 hh1 hx0 hx1 hy0 hy1 hz0 hz1 hI3 hxyz
  repeat (rename (_ < _ ∧ _) => z9; clear z9)
  repeat (rename (AllLt _ _) => z9; clear z9)
  rename CellsAre _ _ _ => z9
  clear z9
  rename Dflts _ _ _ _ _ _ => z9
  clear z9
  rename Heap.CodeRec _ _ _ => z9
  clear z9
  (repeat (rename _ => z9; revert z9))
  intro goOn
  exact goOn.go⟩
end Mine
section
local macro_rules | `(tactic| walk_at "binaryOp Mult int int") => `(tactic| with_reducible refine mul_int ?_)
namespace Mine
noncomputable def stgLB : PSigma fun T : Prop => Held T → stgLA2.1 := ⟨_, fun (goOn : Held _) => by
  intro w s₀ s1 mg mb G Y fa o pm cd doc ho hgens hT8 X V T B TE TW hT9 w_1 hs hlay0 hL hr hl2 w_2 w_3 w_4 w_5 w_6 hL_1 ra w1 r0 hI hr_1 hcond' hcond'_1 h₁ tk₁ w_7 w_8 w_9 w_10 left_1 left_2 right X9 T9 K9 lifted codeHd codeHd_1 Q9 hQ9 l' h' D' ws' h'_1 hI' D'_1 h'_2 hC' hL' x y z t1 t2 t3 h'_3 h'_4 h'_5 h'_6 tk h'_7 o' h t4 hha hka h'_8 o'_1 dH tk_1 h'_9 o'_2 m9 F2 N2 dP k dK hgcd sd dS hk2 hsd hhb oP oS oH oK dP_1 tS dS_1 tH dH_1 N2_1 tK dK_1 hlow
  clear G Y o pm doc ho hT8 X V T B TE TW hT9 hs hlay0 hr hl2 w_2 w_3 w_4 w_6 hL_1 ra w1 r0 hr_1 hcond' hcond'_1 h₁ tk₁ w_7 w_8 w_9 w_10 left_1 left_2 right lifted codeHd codeHd_1 l' h' D' h'_1 D'_1 h'_2 hC' hL' x y z t1 t2 t3 h'_3 h'_4 h'_5 h'_6 tk h'_7 o' t4 hha hka o'_1 dH N2 dP dK
  refine LCg.ListComp_U (F₀ := F2) (by with_unfolding_all rfl) (by decide) (by rfl) (by decide) (by rfl) ?_
  k_steps
  refine Stopped.go ?_
  rename IsRange _ _ _ _ _ _ _ _ => hrg
  rename Fr _ _ _ _ => F3
  rename News _ _ _ _ => N3
  have N4 : News _ _ _ (lawLed s1.heap.objs.size ⟨tabObj #[], 30, tabObj #[], tabObj #[], 37, tabObj #[]⟩ oP oS oH oK []) := newsSub N3 (by dsimp only [lawLed]; ((try dsimp only); (repeat' (first | (with_reducible exact sub_id) | (refine sub_cons (by (first | ((repeat' (first | (with_reducible exact mem_h) | (with_reducible refine mem_t ?_))); done) | k_mem)) ?_) | (refine sub_skip ?_)))))
  refine LCg.CompSrc.range (n := k.toNat) (by rfl) F3 N4 hrg (small_one (by omega) (by omega) (by omega) (by omega)) (by rw [rangeSize_nat, Int.sub_zero]) (by rw [PySem.sizeLine_eq]; omega) ?_
  (try clear N2)
  (try clear F2)
  (try clear N3)
  clear N4 F3 hrg
  intro g9
  refine comp_state (σ := PSt) (fun c => lawLed s1.heap.objs.size c.x oP oS oH oK c.tl)
    (fun i ys c => c.x.ok ∧ Tups ys c.ns c.tl ∧ c.ns = pairsOf h (sd * k) i ∧ AddrOk s1.heap.objs.size c.x ∧ TailOk s1.heap.objs.size c.x c.tl) ⟨⟨tabObj #[], 30, tabObj #[], tabObj #[], 37, tabObj #[]⟩, [], []⟩ (fun _ => trivial) ?h0 ?turn ?done
  case h0 => exact ⟨tabs0, .nil, rfl, addrOk0 hlow, tailOk0⟩
  case turn =>
    rintro i v ys ⟨⟨o1, b1, oc1, o2, b2, oc2⟩, ns, tl⟩ I oI C oC D m2 h9 tk9 E9 hi ⟨hT, hV, hns, hA, hTl⟩ ⟨ti, hv⟩ hC hx F4 N4 off hne
    dsimp only [TSt.ok] at hT hV hns hA hTl off F4 N4 ⊢
    rw [hv] at hx
    have hjh := jh_box (a := 0 + (i : Int)) (h := h) (by omega) (by omega) (by omega) hhb.2
    have hsk := sk_box hsd hk2.1 hk2.2
    have hm1 : IntMulOk (0 + (i : Int)) h := mulOk_of (by omega) (by omega)
    have hm2 : IntMulOk sd k := mulOk_of (by omega) (by omega)
    k_steps
    refine Stopped.go ?_
    (k_dflt (refine' tells_use (div_use (div_tells (a := (0 + (i : Int)) * h) (b := sd * k) (by omega) (by omega) hsk.1 (by omega) (by omega)) _ hT ?ap) ?u22k1 ?u22k2 ?u22k3 ?u22k4 ?u22k5 ?u22kK ?u22kd ?u22ku ?u22kR; (case u22k1 => k_asm); (case u22k2 => k_asm); (case u22k3 => k_asm); (case u22k4 => exact newsPicks (by k_asm) (by (repeat' (first | exact Picks.nil | (show Picks _ _ _; refine' Picks.cons (by (repeat' (first | exact Pick.head | refine' Pick.tail ?_))) ?_))))); (case u22k5 => k_asm); (case u22kK => first | exact rfl | assumption); (case u22kd => first | exact roomA (a := dp) (c := 1) hd rfl | exact hrd9 | ktr_room); (case u22ku => first | exact roomA (a := un) (c := 3) hu rfl | exact hru9 | ktr_units)))
    case ap => exact turn_apart hlow hA hTl off
    dsimp only [DivRet]
    intro T a1' a2' o1' oc1' o2' oc2' t1 t2 c hT' hD1 hD2 hD3 hn4 hn5 hn6 hn7 h1 tk1 F5 N5
    obtain ⟨hA', hTl', off'⟩ := turn_next (t := intTup2 (((0 + (i : Int)) * h).fdiv (sd * k)) t1 (((0 + (i : Int)) * h).fmod (sd * k)) t2 c) hlow hTl off hD1 hD2 hD3 hn4 hn5 hn6 hn7
    k_sweep
    k_steps
    refine Stopped.go ?_
    refine ⟨⟨⟨_, a1', _, _, a2', _⟩, ns ++ [((((0 + (i : Int)) * h).fdiv (sd * k)), (((0 + (i : Int)) * h).fmod (sd * k)))], tl ++ [(T, intTup2 (((0 + (i : Int)) * h).fdiv (sd * k)) t1 (((0 + (i : Int)) * h).fmod (sd * k)) t2 c)]⟩, _, _, _, rfl, F5, N5, ?_, off', hT', hV.snoc, ?_, hA', hTl'⟩
    · dsimp only [lawLed]
      (iterate 11 (refine sub_cons (by (first | ((repeat' (first | (with_reducible exact mem_h) | (with_reducible refine mem_t ?_))); done) | k_mem)) ?_))
      refine sub_snoc ?_ (by (first | ((repeat' (first | (with_reducible exact mem_h) | (with_reducible refine mem_t ?_))); done) | k_mem))
      (repeat' (first | (with_reducible exact sub_id) | refine sub_skip ?_))
    · rw [hns, pairsOf_succ]
  case done =>
    rintro ⟨⟨o1, b1, oc1, o2, b2, oc2⟩, ns, tl⟩ ys ⟨hT, hV, hns, hA, hTl⟩
    dsimp only [TSt.ok] at hT hV hns hA hTl ⊢
    unfold LCg.FinE
    intro Pr h9 tk9 F4 N4 off
    (repeat (rename _ => z9; revert z9))
    intro goOn
    exact goOn.go⟩
end Mine
end
namespace Mine
noncomputable def stgLC : PSigma fun T : Prop => Held T → stgLB.1 := ⟨_, fun (goOn : Held _) => by
  intro w s₀ s1 mg mb fa cd hgens w_1 hL w_5 hI X9 T9 K9 Q9 hQ9 ws' hI' h h'_8 tk_1 h'_9 o'_2 m9 F' k hgcd sd dS hk2 hsd hhb oP oS oH oK dP_1 tS dS_1 tH dH_1 N' tK dK_1 hlow h' tk t₁ u₁ v₁ a_3 g9 ns tl o1 b1 oc1 o2 b2 oc2 ys hT hV hns hA hTl Pr h9 tk9 F4 N4 off
  clear ws' hI' h'_9 F' N' h' t₁ u₁ v₁ a_3
  have hTl2 := hTl
  obtain ⟨z1, z2, z3, z4, z5, z6, z7, z8⟩ := hTl2
  have hL1 := hlow.a
  obtain ⟨y1, y5⟩ : ¬ (@Eq Nat b1 (s1.heap.objs.size + 1 + 1 + 1 + 1)) ∧ ¬ (@Eq Nat b2 (s1.heap.objs.size + 1 + 1 + 1 + 1)) := ⟨hA.1.1, hA.2.1⟩
  have f5 : ¬ (@Eq Nat Pr (s1.heap.objs.size + 1 + 1 + 1 + 1)) := ne_symm off.2.2.2.2.1
  dsimp only [lawLed] at N4
  dsimp only at z1 z2 z3 z4 z5 z6 z7 z8
  k_steps
  refine Stopped.go ?_
  rename Fr _ _ _ _ => F5
  rename News _ _ _ _ => N5
  rename (_ = Data.cell (some (Value.ref Pr))) => dP5
  have hPr9 := off1_ne off
  obtain ⟨oQ, dQ, hPr, N6⟩ : ∃ o : Obj, o.data = Data.cell (some (Value.ref Pr)) ∧ AllNe Pr (lawLed s1.heap.objs.size ⟨o1, b1, oc1, o2, b2, oc2⟩ o oS oH oK tl) ∧ News _ s1.heap.objs.size _ ((Pr, LCg.lst ys) :: lawLed s1.heap.objs.size ⟨o1, b1, oc1, o2, b2, oc2⟩ o oS oH oK tl) :=
    ⟨_, dP5, hPr9, newsSub N5 (by dsimp only [lawLed]; ((try dsimp only); (repeat' (first | (with_reducible exact sub_id) | (refine sub_cons (by (first | ((repeat' (first | (with_reducible exact mem_h) | (with_reducible refine mem_t ?_))); done) | k_mem)) ?_) | (refine sub_skip ?_)))))⟩
  clear hPr9 off z1 z2 z3 z4 z5 z6 z7 z8 hL1 y1 y5 f5 dP5 N5
  repeat (rename (_ = Data.cell (bindC _ _ _ _)) => z9; clear z9)
  (try (rename IntsAre _ (_ ++ [5, 40, 1]) => z9; clear z9))
  repeat (rename (List.length _ ≤ _) => z9; clear z9)
  repeat (rename (List.length _ = _) => z9; clear z9)
  (repeat (rename _ => z9; revert z9))
  intro goOn
  exact goOn.go⟩
end Mine
namespace Mine
noncomputable def stgLD : PSigma fun T : Prop => Held T → stgLC.1 := ⟨_, fun (goOn : Held _) => by
  intro w s₀ s1 mg mb fa cd hgens w_1 hL w_5 hI X9 T9 K9 Q9 hQ9 h h'_8 tk_1 o'_2 m9 k hgcd sd dS hk2 hsd hhb oP oS oH oK dP_1 tS dS_1 tH dH_1 tK dK_1 hlow tk g9 ns tl o1 b1 oc1 o2 b2 oc2 ys hT hV hns hA hTl Pr h9 tk9 h' o' F5 tk_2 oQ dQ hPr N6
  clear oP dP_1 tk g9 h9 tk9 o'
  refine LCp.ListComp_P (F₀ := F5) (by with_unfolding_all rfl) (by decide) (by rfl) (by decide) (by rfl) (by rfl) (by decide) ?_
  k_steps
  refine Stopped.go ?_
  have hyl : ys.length ≤ 12 := by rw [hV.len, hns]; simp [pairsOf, rangeKs]; omega
  refine LCp.SrcLP.ledger (its := ys.toArray) (by rfl) F5 N6 (List.Mem.head _) (by rw [PySem.sizeLine_eq, List.size_toArray]; omega) ?_
  intro g1
  refine pairInts (fun p => p.1 * sd * k + p.2) hV (by dsimp only [lawLed]; ((try dsimp only); (repeat' (first | (with_reducible exact sub_id) | (refine sub_cons (by (first | ((repeat' (first | (with_reducible exact mem_h) | (with_reducible refine mem_t ?_))); done) | k_mem)) ?_) | (refine sub_skip ?_))))) (.inr ⟨_, List.Mem.head _, rfl, _, rfl⟩) ?turn1 ?fin1
  case turn1 =>
    clear F5 N6
    intro a b ta tb I oI C oC D m2 ys1 h1 tk1 E1 hab hC hx1 hx2 F6 N6 off
    have hbox := pairs_box hsd hk2 hhb (hns ▸ hab)
    have hm1 : IntMulOk a sd := mulOk_of (by omega) (by omega)
    have hm2 : IntMulOk (a * sd) k := mulOk_of (by omega) (by omega)
    dsimp only [lawLed] at N6
    k_steps
    rename Fr _ _ _ _ => F9
    rename News _ _ _ _ => N9
    exact int_turn F9 N9 rfl (by dsimp only [lawLed]; ((try dsimp only); (repeat' (first | (with_reducible exact sub_id) | (refine sub_cons (by (first | ((repeat' (first | (with_reducible exact mem_h) | (with_reducible refine mem_t ?_))); done) | k_mem)) ?_) | (refine sub_skip ?_)))))
  case fin1 =>
    intro ys1 hi1
    have hi1' := hi1
    rw [hns, back_same] at hi1'
    clear hi1
    unfold LCg.FinE
    intro P1 h1 tk1 F6 N7 of1
    (repeat (rename _ => z9; revert z9))
    intro goOn
    exact goOn.go⟩
end Mine
namespace Mine
noncomputable def stgLE : PSigma fun T : Prop => Held T → stgLD.1 := ⟨_, fun (goOn : Held _) => by
  intro w s₀ s1 mg mb fa cd hgens w_1 hL w_5 hI X9 T9 K9 Q9 hQ9 h h'_8 tk_1 o'_2 m9 k hgcd sd dS hk2 hsd hhb oS oH oK tS dS_1 tH dH_1 tK dK_1 hlow ns tl o1 b1 oc1 o2 b2 oc2 ys hT hV hns hA hTl Pr h' F5 tk_2 oQ dQ hPr N6 hyl g1 ys1 hi1' P1 h1 tk1 F6 N7 of1
  clear w_5 hI F5 N6 of1
  (try clear F5)
  (try clear N6)
  dsimp only [lawLed] at N7
  k_steps
  refine Stopped.go ?_
  rename Fr _ _ _ _ => F7
  rename News _ _ _ _ => N8
  refine LCg.ListComp_U (F₀ := F7) (by with_unfolding_all rfl) (by decide) (by rfl) (by decide) (by rfl) ?_
  k_steps
  refine Stopped.go ?_
  rename IsRange _ _ _ _ _ _ _ _ => hrg
  rename Fr _ _ _ _ => F8
  rename News _ _ _ _ => N9
  refine LCg.CompSrc.range (n := k.toNat) (by rfl) F8 N9 hrg (small_one (by omega) (by omega) (by omega) (by omega)) (by rw [rangeSize_nat, Int.sub_zero]) (by rw [PySem.sizeLine_eq]; omega) ?_
  clear F8 N9 hrg
  (try clear F7)
  (try clear N8)
  intro g2
  refine rangeInts (fun j => j * h) trivial ?turn2 ?fin2
  case turn2 =>
    intro i ti I oI C oC D m2 ys2 h2 tk2 E2 hi hC hx F6 N6 off
    have hm1 : IntMulOk (i : Int) h := mulOk_of (by omega) (by omega)
    k_steps
    rename Fr _ _ _ _ => F9
    rename News _ _ _ _ => N9
    exact int_turn F9 N9 rfl (by ((try dsimp only); (repeat' (first | (with_reducible exact sub_id) | (refine sub_cons (by (first | ((repeat' (first | (with_reducible exact mem_h) | (with_reducible refine mem_t ?_))); done) | k_mem)) ?_) | (refine sub_skip ?_)))))
  case fin2 =>
    intro ys2 hi2
    unfold LCg.FinE
    intro P2 h2 tk2 F7 N8 of2
    have hsh : -112 ≤ sd * h ∧ sd * h ≤ 112 := by (try clear hgcd); rcases hsd with rfl | rfl <;> omega
    have hm3 : IntMulOk sd h := mulOk_of (by omega) (by omega)
    k_steps
    refine Stopped.go ?_
    rename News _ _ _ _ => N8
    have N9 := newsSub N8 (fun p hp => List.Mem.tail _ (List.Mem.tail _ hp))
    clear N8
    have hgb := fm_bound (sd * h) (show 0 < k by omega)
    (repeat (rename _ => z9; revert z9))
    intro goOn
    exact goOn.go⟩
end Mine
namespace Mine
noncomputable def stgLF : PSigma fun T : Prop => Held T → stgLE.1 := ⟨_, fun (goOn : Held _) => by
  intro w s₀ s1 mg mb fa cd hgens w_1 hL X9 T9 K9 Q9 hQ9 h h'_8 tk_1 o'_2 m9 k hgcd sd dS hk2 hsd hhb oS oH oK tS dS_1 tH dH_1 tK dK_1 hlow ns tl o1 b1 oc1 o2 b2 oc2 ys hT hV hns hA hTl Pr h' tk_2 oQ dQ hPr hyl g1 ys1 hi1' P1 h1 tk1 F' N' h'_1 tk t₁ u₁ v₁ a_3 g2 ys2 hi2 P2 h2 tk2 F7 of2 hsh hm3 N9 hgb
  clear h' tk_2 g1 ys1 hi1' P1 h1 tk1 F' N' h'_1 tk t₁ u₁ v₁ a_3 g2 P2 of2
  (k_dflt (refine' tells_use (woven_tells _ (g := (sd * h).fmod k) (k := k) (by omega) (by omega) (by omega) (by omega)) ?u23k1 ?u23k2 ?u23k3 ?u23k4 ?u23k5 ?u23kK ?u23kd ?u23ku ?u23kR; (case u23k1 => k_asm); (case u23k2 => k_asm); (case u23k3 => k_asm); (case u23k4 => exact newsPicks (by k_asm) (by (repeat' (first | exact Picks.nil | (show Picks _ _ _; refine' Picks.cons (by (repeat' (first | exact Pick.head | refine' Pick.tail ?_))) ?_))))); (case u23k5 => k_asm); (case u23kK => first | exact rfl | assumption); (case u23kd => first | exact roomA (a := dp) (c := 1) hd rfl | exact hrd9 | ktr_room); (case u23ku => first | exact roomA (a := un) (c := 3) hu rfl | exact hru9 | ktr_units)))
  dsimp only
  intro Wv wvs wc hiW hW h3 tk3 F8 N10
  k_sweep
  k_steps
  refine Stopped.go ?_
  rename Fr _ _ _ _ => F9
  rename News _ _ _ _ => N11
  refine LCp.ListComp_P (F₀ := F9) (by with_unfolding_all rfl) (by decide) (by rfl) (by decide) (by rfl) (by rfl) (by decide) ?_
  k_steps
  refine Stopped.go ?_
  rename Fr _ _ _ _ => F9
  rename News _ _ _ _ => N11
  refine LCp.SrcLP.ledger (its := ys.toArray) (by rfl) F9 N11 (by k_mem) (by rw [PySem.sizeLine_eq, List.size_toArray]; omega) ?_
  intro g3
  refine pairInts (fun p => p.1) hV (by ((try dsimp only); (repeat' (first | (with_reducible exact sub_id) | (refine sub_cons (by (first | ((repeat' (first | (with_reducible exact mem_h) | (with_reducible refine mem_t ?_))); done) | k_mem)) ?_) | (refine sub_skip ?_))))) (.inr ⟨_, by k_mem, rfl, _, rfl⟩) ?turn3 ?fin3
  case turn3 =>
    clear F9 N11
    intro a b ta tb I oI C oC D m2 ys1 h1 tk1 E1 hab hC hx1 hx2 F6 N6 off
    k_steps
    rename Fr _ _ _ _ => F9
    rename News _ _ _ _ => N9
    exact int_turn F9 N9 rfl (by ((try dsimp only); (repeat' (first | (with_reducible exact sub_id) | (refine sub_cons (by (first | ((repeat' (first | (with_reducible exact mem_h) | (with_reducible refine mem_t ?_))); done) | k_mem)) ?_) | (refine sub_skip ?_)))))
  case fin3 =>
    intro ys3 hi3
    unfold LCg.FinE
    intro P3 h4 tk4 F10 N12 o3
    clear F9 N11
    k_steps
    refine Stopped.go ?_
    (repeat (rename _ => z9; revert z9))
    intro goOn
    exact goOn.go⟩
end Mine
namespace Mine
noncomputable def stgLG : PSigma fun T : Prop => Held T → stgLF.1 := ⟨_, fun (goOn : Held _) => by
  intro w s₀ s1 mg mb fa cd hgens w_1 hL X9 T9 K9 Q9 hQ9 h h'_8 tk_1 o'_2 m9 k hgcd sd dS hk2 hsd hhb oS oH oK tS dS_1 tH dH_1 tK dK_1 hlow ns tl o1 b1 oc1 o2 b2 oc2 ys hT hV hns hA hTl Pr oQ dQ hPr hyl ys2 hi2 h2 tk2 hsh hm3 hgb Wv wvs wc hiW hW h3 tk3 h' tk g3 ys3 hi3 P3 h4 tk4 F10 N12 o3
  clear ys2 hi2 h2 tk2 hW h3 tk3 o3
  have pl := pure_law hk2 hsd hgcd
  rename Fr _ _ _ _ => F9
  rename News _ _ _ _ => N9
  rw [hns, pl.ahead] at hi3
  have hiW : IntsAre wvs (toldOf h k sd) := hiW
  refine ListComp_E F9 (by with_unfolding_all rfl) (by decide) (by rfl) (by decide) (by rfl) (by rfl) (by decide) ?_ (by intro _; rfl)
  k_steps
  refine Stopped.go ?_
  rename Fr _ _ _ _ => F9
  rename News _ _ _ _ => N9
  refine enum_src (fun (i : Nat) => (i : Int) * (sd * h).fdiv k + (toldOf h k sd).getD i 0) (by rfl) F9 N9 (by k_mem) hiW (by rw [PySem.sizeLine_eq]; have := pl.small.1; omega) ?turn4 ?fin4
  case turn4 =>
    clear F9 N9
    intro g4 e it i a t1 t2 oe oi C oC D m2 ys4 h4 tk4 E4 hia hC hx1 hx2 F6 N6
    have hqb := fd_box (x := sd * h) (m := k) (by omega) (by omega) (by omega) (by omega) (by omega)
    have hm1 : IntMulOk (i : Int) ((sd * h).fdiv k) := mulOk_of (by omega) (by omega)
    k_steps
    rename Fr _ _ _ _ => F9
    rename News _ _ _ _ => N9
    exact int_turn F9 N9 (by show _ = (i : Int) * (sd * h).fdiv k + (toldOf h k sd).getD i 0; rw [List.getD_eq_getElem?_getD, hia]; rfl) (by ((try dsimp only); (repeat' (first | (with_reducible exact sub_id) | (refine sub_cons (by (first | ((repeat' (first | (with_reducible exact mem_h) | (with_reducible refine mem_t ?_))); done) | k_mem)) ?_) | (refine sub_skip ?_)))))
  case fin4 =>
    intro ys4 P4 h4 tk4 hi4 F10 N10 o4
    dsimp only
    k_steps
    refine Stopped.go ?_
    (repeat (rename _ => z9; revert z9))
    intro goOn
    exact goOn.go⟩
end Mine
namespace Mine
noncomputable def stgLH : PSigma fun T : Prop => Held T → stgLG.1 := ⟨_, fun (goOn : Held _) => by
  intro w s₀ s1 mg mb fa cd hgens w_1 hL X9 T9 K9 Q9 hQ9 h h'_8 tk_1 o'_2 m9 k hgcd sd dS hk2 hsd hhb oS oH oK tS dS_1 tH dH_1 tK dK_1 hlow ns tl o1 b1 oc1 o2 b2 oc2 ys hT hV hns hA hTl Pr oQ dQ hPr hyl hsh hm3 hgb Wv wvs wc hiW h' tk g3 ys3 hi3 P3 h4 tk4 F9 N9 pl hiW_1 ys4 P4 h4_1 tk4_1 hi4 F10 N10 o4
  clear hgcd h' tk g3 hi3 h4 tk4 F9 N9 hi4 o4
  (try clear hi3)
  (try clear hi4)
  (try clear o3)
  (try clear o4)
  (try clear F9)
  (try clear N9)
  have N11 := newsSub N10 (fun p hp => List.Mem.tail _ (List.Mem.tail _ (List.Mem.tail _ hp)))
  clear N10
  refine LCp.ListComp_P (F₀ := F10) (by with_unfolding_all rfl) (by decide) (by rfl) (by decide) (by rfl) (by rfl) (by decide) ?_
  k_steps
  refine Stopped.go ?_
  rename Fr _ _ _ _ => F9
  rename News _ _ _ _ => N11
  refine LCp.SrcLP.ledger (its := ys.toArray) (by rfl) F9 N11 (by k_mem) (by rw [PySem.sizeLine_eq, List.size_toArray]; omega) ?_
  intro g5
  refine pairInts (fun p => p.2) hV (by ((try dsimp only); (repeat' (first | (with_reducible exact sub_id) | (refine sub_cons (by (first | ((repeat' (first | (with_reducible exact mem_h) | (with_reducible refine mem_t ?_))); done) | k_mem)) ?_) | (refine sub_skip ?_))))) (.inr ⟨_, by k_mem, rfl, _, rfl⟩) ?turn5 ?fin5
  case turn5 =>
    clear F9 N11
    intro a b ta tb I oI C oC D m2 ys1 h1 tk1 E1 hab hC hx1 hx2 F6 N6 off
    k_steps
    rename Fr _ _ _ _ => F9
    rename News _ _ _ _ => N9
    exact int_turn F9 N9 rfl (by ((try dsimp only); (repeat' (first | (with_reducible exact sub_id) | (refine sub_cons (by (first | ((repeat' (first | (with_reducible exact mem_h) | (with_reducible refine mem_t ?_))); done) | k_mem)) ?_) | (refine sub_skip ?_)))))
  case fin5 =>
    intro ys5 hi5
    have hi5' : IntsAre ys5 (restsOf h k sd) := by rw [hns] at hi5; exact hi5
    clear hi5
    have hl5 : (restsOf h k sd).length ≤ 100 := by simp [restsOf, pairsOf, rangeKs]; omega
    unfold LCg.FinE
    intro P5 h5 tk5 F11 N12 o5
    clear F9 N11
    dsimp only
    k_steps
    refine Stopped.go ?_
    (k_dflt (refine' tells_use (out_of_order_tells _ hi5' hl5 ?ap5) ?u24k1 ?u24k2 ?u24k3 ?u24k4 ?u24k5 ?u24kK ?u24kd ?u24ku ?u24kR; (case u24k1 => k_asm); (case u24k2 => k_asm); (case u24k3 => k_asm); (case u24k4 => exact newsPicks (by k_asm) (by (repeat' (first | exact Picks.nil | (show Picks _ _ _; refine' Picks.cons (by (repeat' (first | exact Pick.head | refine' Pick.tail ?_))) ?_))))); (case u24k5 => k_asm); (case u24kK => first | exact rfl | assumption); (case u24kd => first | exact roomA (a := dp) (c := 1) hd rfl | exact hrd9 | ktr_room); (case u24ku => first | exact roomA (a := un) (c := 3) hu rfl | exact hru9 | ktr_units)))
    case ap5 => exact apart1 (off1_ne o5)
    dsimp only
    intro Dt Rw rvs rc c2 tc hiR hDt hRw hn1 hn2 hn3 h6 tk6 F12 N13
    rw [pl.row] at hiR
    rw [pl.count] at N13
    k_sweep
    (repeat (rename _ => z9; revert z9))
    intro goOn
    exact goOn.go⟩
end Mine
namespace Mine
noncomputable def stgLI : PSigma fun T : Prop => Held T → stgLH.1 := ⟨_, fun (goOn : Held _) => by
  intro w s₀ s1 mg mb fa cd hgens w_1 hL X9 T9 K9 Q9 hQ9 h h'_8 tk_1 o'_2 m9 k sd dS hk2 hsd hhb oS oH oK tS dS_1 tH dH_1 tK dK_1 hlow ns tl o1 b1 oc1 o2 b2 oc2 ys hT hV hns hA hTl Pr oQ dQ hPr hyl hsh hm3 hgb Wv wvs wc hiW ys3 P3 pl hiW_1 ys4 P4 h4_1 tk4_1 g5 ys5 hi5' hl5 P5 h5 tk5 o5 Dt Rw rvs rc c2 tc hiR hDt hRw hn1 hn2 hn3 h6 tk6 F12 N13
  clear hyl wc ys3 P3 ys4 P4 h4_1 tk4_1 g5 h5 tk5 o5 hDt hRw
  k_steps
  refine Stopped.go ?_
  rename Fr _ _ _ _ => F13
  rename News _ _ _ _ => N14
  have N15 := nd1 (nd0 N14)
  clear N14
  refine list_cut (if sd = 1 then rangeKs 0 k.toNat else rangeKs (1 - k) k.toNat) F13 N15 ?ife ?rest
  case ife =>
    rcases hsd with rfl | rfl
    · refine IfExp_ ?_
      k_steps
      rename Fr _ _ _ _ => F16
      rename News _ _ _ _ => N16
      rename IntsAre _ (rangeKs _ (k - 0).toNat) => hi9
      exact ⟨_, _, _, _, _, rfl, rfl, F16, N16, by rw [Int.sub_zero] at hi9; simpa using hi9⟩
    · refine IfExp_ ?_
      k_steps
      rename Fr _ _ _ _ => F16
      rename News _ _ _ _ => N16
      rename IntsAre _ (rangeKs _ (1 - (1 - k)).toNat) => hi9
      have e9 : (1 - (1 - k)).toNat = k.toNat := by (try clear hgcd); omega
      exact ⟨_, _, _, _, _, rfl, rfl, F16, N16, by rw [e9] at hi9; simpa using hi9⟩
  case rest =>
    intro D9 h9 tk9 vs9 c9 F16 N16 hi9
    clear F13 N15
    k_steps
    refine Stopped.go ?_
    rename News _ _ _ _ => N16
    have N17 := nd0 (nd0 N16)
    clear N16 hi9 hiR
    rename Fr _ _ _ _ => F17
    (repeat (rename _ => z9; revert z9))
    intro goOn
    exact goOn.go⟩
end Mine
namespace Mine
noncomputable def stgLJ : PSigma fun T : Prop => Held T → stgLI.1 := ⟨_, fun (goOn : Held _) => by
  intro w s₀ s1 mg mb fa cd hgens w_1 hL X9 T9 K9 Q9 hQ9 h h'_8 tk_1 o'_2 m9 k sd dS hk2 hsd hhb oS oH oK tS dS_1 tH dH_1 tK dK_1 hlow ns tl o1 b1 oc1 o2 b2 oc2 ys hT hV hns hA hTl Pr oQ dQ hPr hsh hm3 hgb Wv wvs hiW pl hiW_1 ys5 hi5' hl5 P5 Dt Rw rvs rc c2 tc hn1 hn2 hn3 h6 tk6 h' h'_1 h'_2 tk D9 h9 tk9 vs9 c9 F17 N17
  clear rvs rc c2 h6 tk6 h' h'_1 h'_2 tk D9 vs9 c9
  refine LCg.ListComp_U (F₀ := F17) (by with_unfolding_all rfl) (by decide) (by rfl) (by decide) (by rfl) ?_
  k_steps
  refine Stopped.go ?_
  rename IsRange _ _ _ _ _ _ _ _ => hrg
  rename Fr _ _ _ _ => F8
  rename News _ _ _ _ => N9
  refine LCg.CompSrc.range (n := k.toNat) (by rfl) F8 N9 hrg (small_one (by omega) (by omega) (by omega) (by omega)) (by rw [rangeSize_nat, Int.sub_zero]) (by rw [PySem.sizeLine_eq]; omega) ?_
  clear F8 N9 hrg
  (try clear F17)
  (try clear N17)
  intro g6
  refine rangeInts (fun j => (pairAt h k sd j).1 * (3 * j - 2 * k + 1)) trivial ?turn6 ?fin6
  case turn6 =>
    intro i ti I oI C oC D m2 ys2 h2 tk2 E2 hi hC hx F6 N6 off
    obtain ⟨v, hv⟩ : ∃ v, ys[i]? = some v := ⟨ys[i]'(by rw [hV.len, hns]; simp [pairsOf, rangeKs]; omega), List.getElem?_eq_getElem _⟩
    obtain ⟨T1, a, b, ta, tb, ct, rfl, hab, hmem⟩ := hV.at i v hv
    have hpa : pairAt h k sd (i : Int) = (a, b) := by unfold pairAt; rw [← hns, List.getD_eq_getElem?_getD, Int.toNat_natCast, hab]; rfl
    have hbox := pairs_box hsd hk2 hhb (hns ▸ List.mem_of_getElem? hab)
    have hm1 : IntMulOk 3 (i : Int) := mulOk_of (by omega) (by omega)
    have hm2 : IntMulOk 2 k := mulOk_of (by omega) (by omega)
    have hm3 : IntMulOk a (3 * (i : Int) - 2 * k + 1) := mulOk_of (by omega) (by omega)
    have N7 := newsMem N6 (e := (T1, intTup2 a ta b tb ct)) (by (repeat' (first | exact hmem | refine List.Mem.tail _ ?_)))
    clear N6
    k_steps
    refine Stopped.go ?_
    refine item_list (vs := ys) (n := ys.length) (news := _) N7 (by show (Pr, LCg.lst ys) ∈ _; k_mem) hv (by omega) ?_ (by with_unfolding_all rfl)
    k_steps
    rename Fr _ _ _ _ => F9
    rename News _ _ _ _ => N9
    refine int_turn F9 N9 ?_ (by ((try dsimp only); (repeat' (first | (with_reducible exact sub_id) | (refine sub_cons (by (first | ((repeat' (first | (with_reducible exact mem_h) | (with_reducible refine mem_t ?_))); done) | k_mem)) ?_) | (refine sub_skip ?_)))))
    rw [hpa]
  case fin6 =>
    intro ys6 hi6
    unfold LCg.FinE
    intro P6 h6 tk6 F18 N18 o6
    k_steps
    refine Stopped.go ?_
    (repeat (rename _ => z9; revert z9))
    intro goOn
    exact goOn.go⟩
end Mine
local macro_rules | `(tactic| walk_at "ite") => `(tactic| with_reducible refine ite_same ?_)
namespace Mine
noncomputable def stgLK : PSigma fun T : Prop => Held T → stgLJ.1 := ⟨_, fun (goOn : Held _) => by
  intro w s₀ s1 mg mb fa cd hgens w_1 hL X9 T9 K9 Q9 hQ9 h h'_8 tk_1 o'_2 m9 k sd dS hk2 hsd hhb oS oH oK tS dS_1 tH dH_1 tK dK_1 hlow ns tl o1 b1 oc1 o2 b2 oc2 ys hT hV hns hA hTl Pr oQ dQ hPr hsh hm3 hgb Wv wvs hiW pl hiW_1 ys5 hi5' hl5 P5 Dt Rw tc hn1 hn2 hn3 h9 tk9 h' tk t₁ u₁ v₁ a_3 g6 ys6 hi6 P6 h6 tk6 o6 h'_1 tk' t' h'_2 F' N' tk_2
  clear P5 Dt hn1 hn2 hn3 h9 tk9 h' tk t₁ u₁ v₁ a_3 g6 h6 tk6 o6 h'_1 tk'
  rename Fr _ _ _ _ => F19
  rw [pl.weighed]
  rw [pl.weighed] at F19
  rename News _ _ _ _ => N19
  have N20 := nd0 N19
  clear N19
  have hb1 : (-1000000 < sd * h ∧ sd * h < 1000000) ∧ 1 < k ∧ k < 100 := by omega
  have hb2 : -1000000 < h ∧ h < 1000000 := by omega
  (k_dflt (refine' tells_use (by_euclid_tells _ (h := sd * h) (k := k) (x := ⟨o1, b1, oc1, o2, b2, oc2⟩) hb1.1.1 hb1.1.2 hb1.2.1 hb1.2.2 pl.safe1 hT ?ap6) ?u25k1 ?u25k2 ?u25k3 ?u25k4 ?u25k5 ?u25kK ?u25kd ?u25ku ?u25kR; (case u25k1 => k_asm); (case u25k2 => k_asm); (case u25k3 => k_asm); (case u25k4 => exact newsPicks (by k_asm) (by (repeat' (first | exact Picks.nil | (show Picks _ _ _; refine' Picks.cons (by (repeat' (first | exact Pick.head | refine' Pick.tail ?_))) ?_))))); (case u25k5 => k_asm); (case u25kK => first | exact rfl | assumption); (case u25kd => first | exact roomA (a := dp) (c := 1) hd rfl | exact hrd9 | ktr_room); (case u25ku => first | exact roomA (a := un) (c := 3) hu rfl | exact hru9 | ktr_units)))
  case ap6 => exact law_apart hlow hA hTl hPr
  dsimp only [TSt.led]
  intro x6 t6 hT6 hD6 hE6 h6 tk6 F20 N21
  have hnx := law_next (pO := LCg.lst ys) hTl hPr hD6 hE6
  obtain ⟨hA6, hTl6, hPr6⟩ := hnx
  clear hA hTl hPr hT hD6 hE6
  obtain ⟨p1, c1, q1, p2, c2, q2⟩ := x6
  dsimp only [TSt.ok] at hT6 N21
  k_sweep
  generalize byE (sd * h) k = B1 at F20 ⊢
  k_steps
  refine Stopped.go ?_
  (k_dflt (refine' tells_use (by_euclid_tells _ (h := h) (k := k) (x := ⟨p1, c1, q1, p2, c2, q2⟩) hb2.1 hb2.2 hb1.2.1 hb1.2.2 pl.safe2 hT6 ?ap7) ?u26k1 ?u26k2 ?u26k3 ?u26k4 ?u26k5 ?u26kK ?u26kd ?u26ku ?u26kR; (case u26k1 => k_asm); (case u26k2 => k_asm); (case u26k3 => k_asm); (case u26k4 => exact newsPicks (by k_asm) (by (repeat' (first | exact Picks.nil | (show Picks _ _ _; refine' Picks.cons (by (repeat' (first | exact Pick.head | refine' Pick.tail ?_))) ?_))))); (case u26k5 => k_asm); (case u26kK => first | exact rfl | assumption); (case u26kd => first | exact roomA (a := dp) (c := 1) hd rfl | exact hrd9 | ktr_room); (case u26ku => first | exact roomA (a := un) (c := 3) hu rfl | exact hru9 | ktr_units)))
  case ap7 => exact law_apart hlow hA6 hTl6 hPr6
  dsimp only [TSt.led]
  intro x7 t7 hT7 hD7 hE7 h7 tk7 F21 N22
  have hnx := law_next (pO := LCg.lst ys) hTl6 hPr6 hD7 hE7
  obtain ⟨hA7, hTl7, hPr7⟩ := hnx
  clear hA6 hTl6 hPr6 hT6 hD7 hE7
  obtain ⟨p3, c3, q3, p4, c4, q4⟩ := x7
  dsimp only [TSt.ok] at hT7 N22
  k_sweep
  (repeat (rename _ => z9; revert z9))
  intro goOn
  exact goOn.go⟩
end Mine
namespace Mine
noncomputable def stgLL : PSigma fun T : Prop => Held T → stgLK.1 := ⟨_, fun (goOn : Held _) => by
  intro w s₀ s1 mg mb fa cd hgens w_1 hL X9 T9 K9 Q9 hQ9 h h'_8 tk_1 o'_2 m9 k sd dS hk2 hsd hhb oS oH oK tS dS_1 tH dH_1 tK dK_1 hlow ns tl o1 b1 oc1 o2 b2 oc2 ys hV hns Pr oQ dQ hsh hm3 hgb Wv wvs hiW pl hiW_1 ys5 hi5' hl5 Rw tc ys6 hi6 P6 t' h'_2 tk_2 hb1 hb2 t6 h6 tk6 p1 c1 q1 p2 c2 q2 B1 t7 h7 tk7 F21 p3 c3 q3 p4 c4 q4 hT7 N22 hA7 hTl7 hPr7
  clear o1 b1 oc1 o2 b2 oc2 P6 h'_2 tk_2 hb2 t6 h6 tk6 p1 c1 q1 p2 c2 q2
  have hsm := pl.small.2
  have hbk := pl.back
  generalize byE h k = B2 at F21 hsm hbk ⊢
  k_steps
  refine Stopped.go ?_
  rename Fr _ _ _ _ => F22
  rename News _ _ _ _ => N23
  refine int_cut (if sd = 1 then 0 else k - 1) F22 N23 ?ife2 ?rest2
  case ife2 =>
    rcases hsd with rfl | rfl
    · refine IfExp_ ?_
      k_steps
      rename Fr _ _ _ _ => F23
      rename News _ _ _ _ => N24
      exact ⟨_, _, _, rfl, rfl, F23, N24⟩
    · refine IfExp_ ?_
      k_steps
      rename Fr _ _ _ _ => F23
      rename News _ _ _ _ => N24
      exact ⟨_, _, _, rfl, rfl, F23, N24⟩
  case rest2 =>
    intro h8 tk8 t8 F23 N24
    clear F22 N23
    k_steps
    refine Stopped.go ?_
    (repeat (rename _ => z9; revert z9))
    intro goOn
    exact goOn.go⟩
end Mine
namespace Mine
theorem last_holds : stgLL.1 := by
  intro w s₀ s1 mg mb fa cd hgens w_1 hL X9 T9 K9 Q9 hQ9 h h'_8 tk_1 o'_2 m9 k sd dS hk2 hsd hhb oS oH oK tS dS_1 tH dH_1 tK dK_1 hlow ns tl ys hV hns Pr oQ dQ hsh hm3 hgb Wv wvs hiW pl hiW_1 ys5 hi5' hl5 Rw tc ys6 hi6 t' hb1 B1 t7 h7 tk7 p3 c3 q3 p4 c4 q4 hT7 hA7 hTl7 hPr7 B2 hsm hbk h' tk h8 tk8 t8 F23 N24 tk_2
  clear h'_8 tk_1 o'_2 dS tS dS_1 hsh hm3 hgb wvs hiW pl hiW_1 ys5 hi5' hl5 ys6 hi6 hb1 h7 tk7 hsm h' tk tk8 t8
  rename Fr _ _ _ _ => F24
  rename News _ _ _ _ => N25
  replace N25 : News _ s1.heap.objs.size _ ((30, p3) :: (c3, q3) :: (37, p4) :: (c4, q4) :: lawRest s1.heap.objs.size Pr (LCg.lst ys) oQ oS oH oK tl) := N25
  dsimp only [lawRest] at N25
  refine LCt.ListComp_T (F₀ := F24) (by with_unfolding_all rfl) (by decide) (by rfl) (by decide) (by rfl) ?_
  k_steps
  refine Stopped.go ?_
  rename IsRange _ _ _ _ _ _ _ _ => hrg
  rename Fr _ _ _ _ => F8
  rename News _ _ _ _ => N9
  refine LCt.CompSrcT.range (n := k.toNat) (by rfl) F8 N9 hrg (small_one (by omega) (by omega) (by omega) (by omega)) (by rw [rangeSize_nat, Int.sub_zero]) (by rw [PySem.sizeLine_eq]; omega) ?_
  clear F8 N9 hrg
  (try clear F24)
  (try clear N25)
  intro g6
  refine rangeTest (fun j => decide (((pairAt h k sd j).2 - 1).fmod k = 0)) trivial ?turn7 ?fin7
  case turn7 =>
    intro i ti I oI C oC D m2 ys2 h2 tk2 E2 hi hC hx F6 N6 off
    obtain ⟨v, hv⟩ : ∃ v, ys[i]? = some v := ⟨ys[i]'(by rw [hV.len, hns]; simp [pairsOf, rangeKs]; omega), List.getElem?_eq_getElem _⟩
    obtain ⟨T1, a, b, ta, tb, ct, rfl, hab, hmem⟩ := hV.at i v hv
    have hpa : pairAt h k sd (i : Int) = (a, b) := by unfold pairAt; rw [← hns, List.getD_eq_getElem?_getD, Int.toNat_natCast, hab]; rfl
    have hbox := pairs_box hsd hk2 hhb (hns ▸ List.mem_of_getElem? hab)
    have N7 := newsMem N6 (e := (T1, intTup2 a ta b tb ct)) (by (repeat' (first | exact hmem | refine List.Mem.tail _ ?_)))
    clear N6
    k_steps
    refine Stopped.go ?_
    refine item_list (vs := ys) (n := ys.length) (news := _) N7 (by show (Pr, LCg.lst ys) ∈ _; k_mem) hv (by omega) ?_ (by with_unfolding_all rfl)
    k_steps
    · rw [hpa]
      by_cases h9 : (b - 1).fmod k = 0 <;> simp [h9]
    · rename Fr _ _ _ _ => F9
      rename News _ _ _ _ => N9
      exact int_turn F9 N9 rfl (by ((try dsimp only); (repeat' (first | (with_reducible exact sub_id) | (refine sub_cons (by (first | ((repeat' (first | (with_reducible exact mem_h) | (with_reducible refine mem_t ?_))); done) | k_mem)) ?_) | (refine sub_skip ?_)))))
    · rename Fr _ _ _ _ => F9
      rename News _ _ _ _ => N9
      exact int_turn F9 N9 rfl (by ((try dsimp only); (repeat' (first | (with_reducible exact sub_id) | (refine sub_cons (by (first | ((repeat' (first | (with_reducible exact mem_h) | (with_reducible refine mem_t ?_))); done) | k_mem)) ?_) | (refine sub_skip ?_)))))
  case fin7 =>
    intro ys7 hi7
    unfold LCg.FinE
    intro P7 h8 tk8 F25 N26 o7
    obtain ⟨b9, r9, hb1, hb2, hb3, hb4⟩ := hbk
    rw [hb1] at hi7
    cases hi7 with
    | cons _ _ hi7 =>
      rename_i tb9 vs9
      have hgb2 := fm_bound h (show 0 < k by omega)
      have hk9 : k < 100 := by omega
      k_steps
      refine Stopped.go ?_
      rename News _ _ _ _ => N26
      replace N26 := nd0 N26
      (k_dflt (refine' tells_use (by_quotients_tells _ (g := h.fmod k) (k := k) (back := b9) (x := ⟨p3, c3, q3, p4, c4, q4⟩) hgb2.1 hgb2.2 hk9 hb2 hb3 hT7 ?ap8) ?u27k1 ?u27k2 ?u27k3 ?u27k4 ?u27k5 ?u27kK ?u27kd ?u27ku ?u27kR; (case u27k1 => k_asm); (case u27k2 => k_asm); (case u27k3 => k_asm); (case u27k4 => exact newsPicks (by k_asm) (by (repeat' (first | exact Picks.nil | (show Picks _ _ _; refine' Picks.cons (by (repeat' (first | exact Pick.head | refine' Pick.tail ?_))) ?_))))); (case u27k5 => k_asm); (case u27kK => first | exact rfl | assumption); (case u27kd => first | exact roomA (a := dp) (c := 1) hd rfl | exact hrd9 | ktr_room); (case u27ku => first | exact roomA (a := un) (c := 3) hu rfl | exact hru9 | ktr_units)))
      case ap8 => exact law_apart hlow hA7 hTl7 hPr7
      dsimp only [TSt.led]
      intro x8 t8 hT8 hD8 hE8 h9 tk9 F26 N27
      rw [← hb4]
      k_sweep
      (iterate 1 (first | (k_unfold; (try dsimp only)) | walk1 | (dsimp only; walk1)))
      simp only [beq_self_eq_true]
      refine hQ9 _ _ ?_
      (try dsimp only)
      refine ⟨?_, ?_⟩
      · kc_bool
        refine goodW_bool F26 hgens (raisesW_false ?_) ?_
        · wrow_none_raised
        · skip
          kc_post
      · exact grown_end hT8 N27
end Mine
namespace Mine
theorem law_holds : PySem.Challenge.rw_pg0264_01.Holds :=
  stgLA.2 ⟨stgLA2.2 ⟨stgLB.2 ⟨stgLC.2 ⟨stgLD.2 ⟨stgLE.2 ⟨stgLF.2 ⟨stgLG.2 ⟨stgLH.2 ⟨stgLI.2 ⟨stgLJ.2 ⟨stgLK.2 ⟨stgLL.2 ⟨last_holds⟩⟩⟩⟩⟩⟩⟩⟩⟩⟩⟩⟩⟩
end Mine
theorem PySem.Challenge.cw_pg0264_01_holds : PySem.Challenge.rw_pg0264_01.Holds :=
  Mine.law_holds
